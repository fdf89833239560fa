/-
  The state of the index list of FnWriteListSortsByTableThenKey, and its steps. Of no walk.
-/
import Derived.Test.Qxb6605845aList
namespace Go.Proofs.Qxb6605845a.Idx
open Go.RowKit Go.Shelf Go.Lib Go.Sort Mem Small Srt

def encIx (x : Nat) : Value := .int .i64 (x : Int)

/-- idx lies in block g: it holds I, a permutation of 0 .. n-1; below g nothing has turned since W. -/
structure St (W wr : World) (g n : Nat) (I : Array Nat) : Prop where
  own : Own wr g 3 (I.toList.map encIx)
  below : RowKit.Below g W wr
  perm : PermIn 0 n (Array.range n) I

theorem St.size {W wr : World} {g n : Nat} {I : Array Nat} (h : St W wr g n I) : I.size = n := by rw [h.perm.1]; simp
theorem St.lt {W wr : World} {g n : Nat} {I : Array Nat} (h : St W wr g n I) {k : Nat} (hk : k < n) : I[k]! < n :=
  permIn_all (Array.range n) I 0 n (fun x => x < n) (by simp) h.perm (fun i _ hi => by rw [getElem!_pos _ i (by simpa using hi)]; simpa using hi) k (Nat.zero_le _) hk
theorem St.cell {W wr : World} {g n : Nat} {I : Array Nat} (h : St W wr g n I) {k : Nat} (hk : k < n) : wr.cell? ⟨g, k, none⟩ = some (.int .i64 ((I[k]! : Nat) : Int)) := by
  have hk' : k < I.size := by rw [h.size]; exact hk
  refine h.own.cell ?_
  rw [List.getElem?_map, Array.getElem?_toList, getElem!_pos I k hk', Array.getElem?_eq_getElem hk']; rfl
theorem St.frozen {W wr : World} {g n : Nat} {I : Array Nat} (h : St W wr g n I) (k : Nat) : wr.frozen? ⟨g, k, none⟩ = false := h.own.frozen k
theorem St.drewN {W wr : World} {g n : Nat} {I : Array Nat} (h : St W wr g n I) (m : Nat) : St W (wr.drewN m) g n I := ⟨h.own, ⟨h.below.os, h.below.tape, h.below.output, h.below.size, h.below.block⟩, h.perm⟩
theorem St.below' {W wr w2 : World} {g n : Nat} {I : Array Nat} (h : St W wr g n I) {B : Nat} (hb : RowKit.Below B wr w2) (hB : g < B) : St W w2 g n I := ⟨h.own.below hb hB, h.below.trans (hb.mono (by omega)), h.perm⟩
theorem St.start {W wr : World} {g n : Nat} (h : Own wr g 3 ((List.range n).map encIx)) (hb : RowKit.Below g W wr) : St W wr g n (Array.range n) :=
  ⟨by rw [Array.toList_range]; exact h, hb, permIn_refl _ _ _⟩
theorem St.swap {W wr : World} {g n : Nat} {I : Array Nat} (h : St W wr g n I) {j : Nat} (hj : j + 1 < n) :
    St W ((wr.setCell ⟨g, j + 1, none⟩ (.int .i64 ((I[j]! : Nat) : Int))).setCell ⟨g, j, none⟩ (.int .i64 ((I[j + 1]! : Nat) : Int))) g n (swp I (j + 1) j) := by
  refine ⟨?_, (h.below.setCell (Nat.le_refl _) _).setCell (Nat.le_refl _) _, permIn_trans _ _ _ _ _ h.perm (swp_permIn I 0 n (j + 1) j (by omega) (by omega) (by omega) (by omega) (by rw [h.size]; exact Nat.le_refl _))⟩
  have := (h.own.set (j + 1) (.int .i64 ((I[j]! : Nat) : Int))).set j (.int .i64 ((I[j + 1]! : Nat) : Int))
  have e : (swp I (j + 1) j).toList.map encIx = ((I.toList.map encIx).set (j + 1) (.int .i64 ((I[j]! : Nat) : Int))).set j (.int .i64 ((I[j + 1]! : Nat) : Int)) := by
    unfold swp
    rw [Array.toList_setIfInBounds, Array.toList_setIfInBounds, List.map_set, List.map_set]
    rfl
  rwa [e]

/-- Adjacent names that differ, in a sorted list: no two names are the same. -/
theorem distinct (ts ks : List ByteArray) (n : Nat) (I : Array Nat) (hp : PermIn 0 n (Array.range n) I) (hs : SortedIn (Plain.ltBy (nm ts ks)) 0 n I)
    (hadj : ∀ a, 1 ≤ a → a < n → nm ts ks I[a]! ≠ nm ts ks I[a - 1]!) : ∀ x, x < n → ∀ y, y < n → nm ts ks x = nm ts ks y → x = y := by
  have hz : I.size = n := by rw [hp.1]; simp
  have hstep : ∀ a, 1 ≤ a → a < n → Plain.nl (nm ts ks I[a - 1]!) (nm ts ks I[a]!) = true := by
    intro a h1 h2
    have h := hs (a - 1) a (Nat.zero_le _) (by omega) h2
    cases hc : Plain.nl (nm ts ks I[a - 1]!) (nm ts ks I[a]!) with
    | true => rfl
    | false => exact absurd (Plain.nl_eq h hc) (hadj a h1 h2)
  have hlt : ∀ d a, a + d + 1 < n → Plain.nl (nm ts ks I[a]!) (nm ts ks I[a + d + 1]!) = true := by
    intro d
    induction d with
    | zero => intro a h; exact hstep (a + 1) (by omega) (by omega)
    | succ d ih => intro a h; exact Plain.nl_trans (ih a (by omega)) (hstep (a + d + 2) (by omega) (by omega))
  have hfind : ∀ x, x < n → ∃ a, a < n ∧ I[a]! = x := by
    intro x hx
    have hm : x ∈ (I.extract 0 n).toList := hp.2.2.symm.subset (by
      have : (Array.range n).extract 0 n = Array.range n := by
        have h0 : (Array.range n).size = n := by simp
        conv => lhs; rw [← h0]
        simp
      rw [this, Array.toList_range]; simpa using hx)
    have e : I.extract 0 n = I := by rw [← hz]; exact Array.extract_size
    rw [e] at hm
    obtain ⟨a, ha, hax⟩ := List.getElem_of_mem hm
    have ha' : a < I.size := by simpa using ha
    exact ⟨a, by omega, by rw [getElem!_pos I a ha']; simpa using hax⟩
  intro x hx y hy hxy
  obtain ⟨a, ha, rfl⟩ := hfind x hx
  obtain ⟨b, hb, rfl⟩ := hfind y hy
  rcases Nat.lt_trichotomy a b with h | h | h
  · have := hlt (b - a - 1) a (by omega)
    rw [show a + (b - a - 1) + 1 = b by omega, hxy, Plain.nl_irrefl] at this; cases this
  · rw [h]
  · have := hlt (a - b - 1) b (by omega)
    rw [show b + (a - b - 1) + 1 = a by omega, ← hxy, Plain.nl_irrefl] at this; cases this

theorem nless_eq (ts ks : List ByteArray) (i j : Nat) : nless (tOf ts i) (tOf ks i) (tOf ts j) (tOf ks j) = Plain.ltBy (nm ts ks) i j := by
  unfold nless Plain.ltBy Plain.nl nm
  rw [Plain.bytesLess_eq, Plain.bytesLess_eq, Lib.toList_data, Lib.toList_data, Lib.toList_data, Lib.toList_data]

/-- The list of writes while it is filled: the first k writes lie there, three cells each. -/
def FillW (w : World) (g n : Nat) (enc : Nat → List Value) (k : Nat) : Prop := ∃ cs, Own w g 35 cs ∧ cs.length = n * 3 ∧ ∀ j c, j < k → c < 3 → cs[j * 3 + c]? = (enc j)[c]?
theorem FillW.start (w : World) (n : Nat) (enc : Nat → List Value) (cs : Array Value) (hs : cs.size = n * 3) : FillW (w.alloc (.cells cs 35)) w.heap.size n enc 0 :=
  ⟨cs.toList, own_new w cs 35, by simpa using hs, fun j c hj => by omega⟩
theorem FillW.drewN {w : World} {g n : Nat} {enc : Nat → List Value} {k : Nat} (h : FillW w g n enc k) (m : Nat) : FillW (w.drewN m) g n enc k := h
theorem FillW.cell {w : World} {g n : Nat} {enc : Nat → List Value} {k : Nat} (h : FillW w g n enc k) {t : Nat} (ht : t < n * 3) : ∃ u, w.cell? ⟨g, t, none⟩ = some u := by
  obtain ⟨cs, ho, hl, _⟩ := h
  exact ⟨cs[t]'(by omega), ho.cell (List.getElem?_eq_getElem _)⟩
theorem FillW.frozen {w : World} {g n : Nat} {enc : Nat → List Value} {k : Nat} (h : FillW w g n enc k) (t : Nat) : w.frozen? ⟨g, t, none⟩ = false := by
  obtain ⟨cs, ho, _⟩ := h; exact ho.frozen t
theorem FillW.step {w : World} {g n : Nat} {enc : Nat → List Value} {k : Nat} (h : FillW w g n enc k) (hk : k < n) {x0 x1 x2 : Value} (he : enc k = [x0, x1, x2]) :
    FillW (((w.setCell ⟨g, k * 3, none⟩ x0).setCell ⟨g, k * 3 + 1, none⟩ x1).setCell ⟨g, k * 3 + 2, none⟩ x2) g n enc (k + 1) := by
  obtain ⟨cs, ho, hl, hall⟩ := h
  refine ⟨((cs.set (k * 3) x0).set (k * 3 + 1) x1).set (k * 3 + 2) x2, ((ho.set _ _).set _ _).set _ _, by simpa using hl, fun j c hj hc => ?_⟩
  by_cases e : j = k
  · subst e
    rw [he]
    match c, hc with
    | 0, _ => rw [List.getElem?_set_ne (by omega), List.getElem?_set_ne (by omega), Nat.add_zero, List.getElem?_set_self (by omega)]; rfl
    | 1, _ => rw [List.getElem?_set_ne (by omega), List.getElem?_set_self (by simp; omega)]; rfl
    | 2, _ => rw [List.getElem?_set_self (by simp; omega)]; rfl
  · rw [List.getElem?_set_ne (by omega), List.getElem?_set_ne (by omega), List.getElem?_set_ne (by omega)]
    exact hall j c (by omega) hc
theorem FillW.below {w w' : World} {g n : Nat} {enc : Nat → List Value} {k : Nat} (h : FillW w g n enc k) {B : Nat} (hb : RowKit.Below B w w') (hg : g < B) : FillW w' g n enc k := by
  obtain ⟨cs, ho, r⟩ := h; exact ⟨cs, ho.below hb hg, r⟩
theorem FillW.lt {w : World} {g n : Nat} {enc : Nat → List Value} {k : Nat} (h : FillW w g n enc k) : g < w.heap.size := by
  obtain ⟨cs, ho, _⟩ := h; exact ho.lt
theorem FillW.holds {w : World} {g n : Nat} {enc : Nat → List Value} {k : Nat} (h : FillW w g n enc k) (hk : n ≤ k) (hl3 : ∀ x, (enc x).length = 3) : HoldsK enc 3 w g 0 (Array.range n) := by
  obtain ⟨cs, ho, hl, hall⟩ := h
  intro t ht
  have ht' : t < n * 3 := by simpa using ht
  refine ⟨?_, ho.frozen _⟩
  rw [Nat.zero_add]
  refine ho.cell ?_
  have hj : t / 3 < n := by omega
  have hc : t % 3 < 3 := by omega
  have := hall (t / 3) (t % 3) (by omega) hc
  rw [show t / 3 * 3 + t % 3 = t by omega] at this
  rw [this, get_flatK enc 3 (Array.range n) t (by simpa using ht'), getElem!_pos (Array.range n) (t / 3) (by simpa using hj)]
  simp only [Array.getElem_range, id]
  rw [getElem!_pos _ (t % 3) (by rw [hl3]; exact hc), List.getElem?_eq_getElem]

/-- A write's three cells, out of a sorted row. -/
theorem holds_cells {ts ks : List ByteArray} {vs : List BS} {w : World} {g : Nat} {d : Array Nat} (h : HoldsK (encW ts ks vs) 3 w g 0 d) {i : Nat} (hi : i < d.size) :
    w.cell? ⟨g, i * 3, none⟩ = some (.string (tOf ts d[i]!)) ∧ w.cell? ⟨g, i * 3 + 1, none⟩ = some (.string (tOf ks d[i]!)) ∧ w.cell? ⟨g, i * 3 + 2, none⟩ = some (encB (vOf vs d[i]!)) := by
  have key : ∀ c, c < 3 → w.cell? ⟨g, i * 3 + c, none⟩ = some ((encW ts ks vs d[i]!)[c]!) := by
    intro c hc
    have := (h (i * 3 + c) (by simp; omega)).1
    rw [Nat.zero_add, get_flatK _ _ _ _ (by omega), show (i * 3 + c) / 3 = i by omega, show (i * 3 + c) % 3 = c by omega] at this
    exact this
  exact ⟨key 0 (by omega), key 1 (by omega), key 2 (by omega)⟩
end Go.Proofs.Qxb6605845a.Idx
