/-
  Rows in memory: what is read of a slice, what the call owns. Of no program.
-/
import Derived.WalkKit
import Derived.WalkSpells
import Derived.WalkLawsBesides
import Derived.OpenShut
import Derived.Deep.OwnRows
namespace Go.Proofs.Qxb6605845aDoor.Mem
open Go.RowKit

theorem cell_lt {w : World} {a : Addr} {v : Value} (h : w.cell? a = some v) : a.block < w.heap.size := by
  rcases Nat.lt_or_ge a.block w.heap.size with h1 | h1
  · exact h1
  · simp [World.cell?, Array.getElem?_eq_none h1] at h

theorem add_plain (b o i : Nat) : (⟨b, o, none⟩ : Addr).add i = ⟨b, o + i, none⟩ := Go.WideShapes.add_plain b o i

/-- The value v, read in w, is a slice of one-cell elements: xs, each laid as 'enc' says. -/
def Rd {α : Type} (enc : α → Value) (w : World) (v : Value) (xs : List α) : Prop :=
  (v = .slice none 0 0 ∧ xs = []) ∨
  ∃ x cap, v = .slice (some x) xs.length cap ∧ xs.length ≤ cap ∧ ∀ i a, xs[i]? = some a → w.cell? (x.add i) = some (enc a)

section
variable {α : Type} {enc : α → Value} {w w' : World} {v : Value} {xs : List α}
theorem Rd.below (h : Rd enc w v xs) (hb : Below w.heap.size w w') : Rd enc w' v xs := by
  rcases h with h | ⟨x, cap, hv, hle, hc⟩
  · exact .inl h
  · refine .inr ⟨x, cap, hv, hle, fun i a hi => ?_⟩
    rw [← hc i a hi]
    exact hb.cell (p := x.add i) (cell_lt (hc i a hi))
theorem Rd.drewN (h : Rd enc w v xs) (n : Nat) : Rd enc (w.drewN n) v xs := h
theorem Rd.form (h : Rd enc w v xs) : ∃ a c, v = .slice a xs.length c := by
  rcases h with ⟨rfl, rfl⟩ | ⟨x, cx, rfl, _⟩
  · exact ⟨none, 0, rfl⟩
  · exact ⟨some x, cx, rfl⟩
theorem Rd.at (h : Rd enc w v xs) (hp : 0 < xs.length) : ∃ b off c, v = .slice (some ⟨b, off, none⟩) xs.length c ∧ xs.length ≤ c ∧ Hid (∀ i a, xs[i]? = some a → w.cell? ⟨b, off + i, none⟩ = some (enc a)) := by
  rcases h with ⟨rfl, rfl⟩ | ⟨⟨b, off, spot⟩, cx, rfl, hle, hc⟩
  · simp at hp
  · have h0 := hc 0 xs[0] (List.getElem?_eq_getElem hp)
    have hspot : spot = none := by simpa [Addr.add] using World.cell?_spot h0
    subst hspot
    exact ⟨b, off, cx, rfl, hle, fun i a hi => by rw [← add_plain]; exact hc i a hi⟩
/-- The value's parts; where an element stands the row has an address. -/
theorem Rd.parts (h : Rd enc w v xs) : ∃ a c, v = .slice a xs.length c ∧ Hid (∀ i x, xs[i]? = some x → ∃ b off, a = some ⟨b, off, none⟩ ∧ w.cell? ⟨b, off + i, none⟩ = some (enc x)) := by
  by_cases hp : 0 < xs.length
  · obtain ⟨b, off, c, rfl, _, hc⟩ := h.at hp
    exact ⟨_, c, rfl, fun i x hi => ⟨b, off, rfl, hc.out i x hi⟩⟩
  · obtain ⟨a, c, rfl⟩ := h.form
    exact ⟨a, c, rfl, fun i x hi => by
      rw [List.getElem?_eq_none (by omega)] at hi; cases hi⟩
end

/-- The call owns block g: it holds these cells. -/
def Own (w : World) (g : Nat) (e : TypeId) (cs : List Value) : Prop := w.heap[g]? = some (.cells cs.toArray e (0, 0))

section
variable {w w' : World} {g : Nat} {e : TypeId} {cs : List Value}
theorem Own.lt (h : Own w g e cs) : g < w.heap.size := by
  rcases Nat.lt_or_ge g w.heap.size with h1 | h1
  · exact h1
  · rw [Own, Array.getElem?_eq_none h1] at h; cases h
theorem Own.cell (h : Own w g e cs) {i : Nat} {u : Value} (hi : cs[i]? = some u) : w.cell? ⟨g, i, none⟩ = some u := by
  unfold Own at h
  simp [World.cell?, h, hi]
theorem Own.frozen (h : Own w g e cs) (i : Nat) : w.frozen? ⟨g, i, none⟩ = false := by
  unfold Own at h
  simp [World.frozen?, h]
theorem Own.below (h : Own w g e cs) {B : Nat} (hb : Below B w w') (hg : g < B) : Own w' g e cs := by
  unfold Own; rw [hb.block g hg]; exact h
theorem Own.drewN (h : Own w g e cs) (n : Nat) : Own (w.drewN n) g e cs := h
theorem Own.alloc (h : Own w g e cs) (o : Obj) : Own (w.alloc o) g e cs := by
  unfold Own; rw [Below.heap_alloc _ _ _ h.lt]; exact h
theorem own_new (w : World) (cs : Array Value) (e : TypeId) : Own (w.alloc (.cells cs e)) w.heap.size e cs.toList := by
  show (w.heap.push _)[w.heap.size]? = _
  simp
theorem Own.set (h : Own w g e cs) (i : Nat) (u : Value) : Own (w.setCell ⟨g, i, none⟩ u) g e (cs.set i u) := by
  unfold Own at h ⊢
  simp [World.setCell, Array.getElem?_modify, h]
theorem Own.other (h : Own w g e cs) {a : Addr} (ha : a.block ≠ g) (u : Value) : Own (w.setCell a u) g e cs := by
  unfold Own; rw [Below.heap_setCell _ _ _ _ (fun e => ha e.symm)]; exact h
end

theorem rd_of_own {α : Type} {enc : α → Value} {w : World} {g : Nat} {e : TypeId} {xs : List α} (h : Own w g e (xs.map enc)) : Rd enc w (.slice (some ⟨g, 0, none⟩) xs.length xs.length) xs :=
  .inr ⟨_, _, rfl, Nat.le_refl _, fun i a hi => by rw [add_plain, Nat.zero_add]; exact h.cell (by simp [hi])⟩

/-- A row that is being filled from the left: 'ys' laid, then 'n' cells in all. -/
def Fills {α : Type} (enc : α → Value) (w : World) (g : Nat) (e : TypeId) (xs : List α) (k : Nat) : Prop := ∃ cs, Own w g e cs ∧ cs.length = xs.length ∧ ∀ j a, j < k → xs[j]? = some a → cs[j]? = some (enc a)

section
variable {α : Type} {enc : α → Value} {w w' : World} {g : Nat} {e : TypeId} {xs : List α} {k : Nat}
theorem Fills.start (cs : Array Value) (hs : cs.size = xs.length) : Fills enc (w.alloc (.cells cs e)) w.heap.size e xs 0 :=
  ⟨cs.toList, own_new w cs e, by simpa using hs, fun j a hj => by omega⟩
theorem Fills.cell (h : Fills enc w g e xs k) {i : Nat} (hi : i < xs.length) : ∃ u, w.cell? ⟨g, i, none⟩ = some u := by
  obtain ⟨cs, ho, hl, _⟩ := h
  exact ⟨cs[i]'(by omega), ho.cell (List.getElem?_eq_getElem _)⟩
theorem Fills.frozen (h : Fills enc w g e xs k) (i : Nat) : w.frozen? ⟨g, i, none⟩ = false := by
  obtain ⟨cs, ho, _⟩ := h; exact ho.frozen i
theorem Fills.step (h : Fills enc w g e xs k) {a : α} (ha : xs[k]? = some a) : Fills enc (w.setCell ⟨g, k, none⟩ (enc a)) g e xs (k + 1) := by
  obtain ⟨cs, ho, hl, hall⟩ := h
  have hk : k < xs.length := by
    rcases Nat.lt_or_ge k xs.length with h1 | h1
    · exact h1
    · rw [List.getElem?_eq_none h1] at ha; cases ha
  refine ⟨cs.set k (enc a), ho.set _ _, by simpa using hl, fun j b hj hb => ?_⟩
  by_cases e : j = k
  · subst e
    rw [ha] at hb; cases hb
    rw [List.getElem?_set_self (by omega)]
  · rw [List.getElem?_set_ne (by omega)]
    exact hall j b (by omega) hb
theorem Fills.done (h : Fills enc w g e xs k) (hk : xs.length ≤ k) : Own w g e (xs.map enc) := by
  obtain ⟨cs, ho, hl, hall⟩ := h
  have : cs = xs.map enc := by
    apply List.ext_getElem?
    intro i
    by_cases hi : i < xs.length
    · rw [List.getElem?_map, List.getElem?_eq_getElem hi]
      exact hall i _ (by omega) (List.getElem?_eq_getElem hi)
    · rw [List.getElem?_eq_none (by omega), List.getElem?_eq_none (by simp; omega)]
  rwa [this] at ho
theorem Fills.below (h : Fills enc w g e xs k) {B : Nat} (hb : Below B w w') (hg : g < B) : Fills enc w' g e xs k := by
  obtain ⟨cs, ho, r⟩ := h; exact ⟨cs, ho.below hb hg, r⟩
end
/-- A store over a cell that is none of the row's turns no reading of it. -/
theorem Rd.setOther {α : Type} {enc : α → Value} {w : World} {v : Value} {xs : List α} (h : Rd enc w v xs) {a : Addr} {u : Value} (ha : w.cell? a = some u) (hne : ∀ x, enc x ≠ u) (u' : Value) : Rd enc (w.setCell a u') v xs := by
  rcases h with h | ⟨x, cap, hv, hle, hc⟩
  · exact .inl h
  · refine .inr ⟨x, cap, hv, hle, fun i b hi => ?_⟩
    rw [World.cell?_setCell_other]
    · exact hc i b hi
    · intro e
      have h1 := hc i b hi
      rw [← e, ha] at h1
      exact hne b (Option.some.inj h1).symm

/-- A byte slice: its value's three parts, and its bytes. -/
abbrev BS := (Option Addr × Nat × Nat) × List Int
def encB (p : BS) : Value := .slice p.1.1 p.1.2.1 p.1.2.2
/-- A slice of byte slices. -/
def RdV (w : World) (v : Value) (vs : List BS) : Prop := Rd encB w v vs ∧ ∀ p ∈ vs, Rd (Value.int .u8) w (encB p) p.2
theorem RdV.below {w w' : World} {v : Value} {vs : List BS} (h : RdV w v vs) (hb : Below w.heap.size w w') : RdV w' v vs := ⟨h.1.below hb, fun p hp => (h.2 p hp).below hb⟩
theorem RdV.drewN {w : World} {v : Value} {vs : List BS} (h : RdV w v vs) (n : Nat) : RdV (w.drewN n) v vs := h

theorem set_fill {α : Type} (ys : List α) (z u : α) (m k : Nat) (hk : ys.length = k) (hm : k < m) : (ys ++ List.replicate (m - k) z).set k u = (ys ++ [u]) ++ List.replicate (m - (k + 1)) z := by
  rw [List.set_append_right _ _ (by omega), hk, Nat.sub_self, show m - k = (m - (k + 1)) + 1 by omega, List.replicate_succ, List.set_cons_zero, List.append_assoc]
  rfl
end Go.Proofs.Qxb6605845aDoor.Mem
