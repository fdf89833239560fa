/-
  The list of writes that the two laws on noteKeys build, and what the first half of each reads. Of no walk.
-/
import Derived.Test.Qxb6605845aDoorNote
import Derived.Test.Qxb6605845aDoorTotal
namespace Go.Proofs.Qxb6605845aDoor.Fill
open Go.RowKit Mem Small Heap HeapWalk Stamp RecWalk Note

theorem rd_parts' {α : Type} {enc : α → Value} {w : World} {a : Option Addr} {c : Nat} {xs : List α} (h : Rd enc w (.slice a xs.length c) xs) :
    Hid (∀ i x, xs[i]? = some x → ∃ b off, a = some ⟨b, off, none⟩ ∧ w.cell? ⟨b, off + i, none⟩ = some (enc x)) := by
  obtain ⟨a', c', e, H⟩ := h.parts
  obtain ⟨rfl, -, rfl⟩ := Value.slice.inj e
  exact H
theorem infoW : (Tryd.prog.info? 34).map (fun i => (i.zero, i.size, i.bytes)) = some (some (.agg #[.string ByteArray.empty, .string ByteArray.empty, .slice none 0 0]), 3, 56) := by kernel_rfl
theorem run_make_rows3 (n : Nat) (hn : n ≤ 65536) (w : World) : (Instr.makeSlice 30 (.int .i64 (n : Int)) (.int .i64 (n : Int))).run Tryd.prog w = .ok (.slice (some ⟨w.heap.size, 0, none⟩) n n) (w.alloc (.cells (madeCells #[.string ByteArray.empty, .string ByteArray.empty, .slice none 0 0] (n * 3)) 34)) := by
  obtain ⟨i, hi, hzz⟩ := Option.map_eq_some_iff.1 infoW
  simp only [Prod.mk.injEq] at hzz
  obtain ⟨hz, hs, hb⟩ := hzz
  have := run_make (P := Tryd.prog) w 30 34 i _ Tryd.underlying30 hi hz .i64 .i64 n n (by omega) (Int.le_refl _) (by rw [hb]; omega) (by omega)
  simpa [hs, Value.cells] using this

/-- The writes that three lists give. -/
def wsOf (ts ks : List ByteArray) (vs : List BS) : List WR := ts.zip (ks.zip vs)
theorem wsOf_length (ts ks : List ByteArray) (vs : List BS) : (wsOf ts ks vs).length = min (min ts.length ks.length) vs.length := by
  simp [wsOf, Nat.min_assoc]
theorem wsOf_get {ts ks : List ByteArray} {vs : List BS} {k : Nat} {t y : ByteArray} {v : BS} (h1 : ts[k]? = some t) (h2 : ks[k]? = some y) (h3 : vs[k]? = some v) : (wsOf ts ks vs)[k]? = some (t, y, v) := by
  rw [wsOf, List.getElem?_zip_eq_some, List.getElem?_zip_eq_some]; exact ⟨h1, h2, h3⟩
theorem wsOf_mem {ts ks : List ByteArray} {vs : List BS} {x : WR} (h : x ∈ wsOf ts ks vs) : x.2.2 ∈ vs := (List.of_mem_zip (List.of_mem_zip h).2).2

/-- The list of writes while it is filled: the first k writes lie there, three cells each. -/
def Filling (w : World) (g : Nat) (ws : List WR) (k : Nat) : Prop := ∃ cs, Own w g 34 cs ∧ cs.length = ws.length * 3 ∧
  ∀ j x, j < k → ws[j]? = some x → cs[j * 3]? = some (.string x.1) ∧ cs[j * 3 + 1]? = some (.string x.2.1) ∧ cs[j * 3 + 2]? = some (encB x.2.2)
theorem Filling.start (w : World) (ws : List WR) (cs : Array Value) (hs : cs.size = ws.length * 3) : Filling (w.alloc (.cells cs 34)) w.heap.size ws 0 :=
  ⟨cs.toList, own_new w cs 34, by simpa using hs, fun j x hj => by omega⟩
theorem Filling.cell {w : World} {g : Nat} {ws : List WR} {k : Nat} (h : Filling w g ws k) {t : Nat} (ht : t < ws.length * 3) : ∃ u, w.cell? ⟨g, t, none⟩ = some u := by
  obtain ⟨cs, ho, hl, _⟩ := h
  exact ⟨cs[t]'(by omega), ho.cell (List.getElem?_eq_getElem _)⟩
theorem Filling.frozen {w : World} {g : Nat} {ws : List WR} {k : Nat} (h : Filling w g ws k) (t : Nat) : w.frozen? ⟨g, t, none⟩ = false := by
  obtain ⟨cs, ho, _⟩ := h; exact ho.frozen t
theorem Filling.step {w : World} {g : Nat} {ws : List WR} {k : Nat} (h : Filling w g ws k) {x : WR} (hx : ws[k]? = some x) :
    Filling (((w.setCell ⟨g, k * 3, none⟩ (.string x.1)).setCell ⟨g, k * 3 + 1, none⟩ (.string x.2.1)).setCell ⟨g, k * 3 + 2, none⟩ (encB x.2.2)) g ws (k + 1) := by
  obtain ⟨cs, ho, hl, hall⟩ := h
  have hk : k < ws.length := (List.getElem?_eq_some_iff.1 hx).1
  refine ⟨((cs.set (k * 3) _).set (k * 3 + 1) _).set (k * 3 + 2) _, ((ho.set _ _).set _ _).set _ _, by simpa using hl, fun j y hj hy => ?_⟩
  by_cases e : j = k
  · subst e
    rw [hx] at hy; cases hy
    refine ⟨?_, ?_, ?_⟩
    · rw [List.getElem?_set_ne (by omega), List.getElem?_set_ne (by omega), List.getElem?_set_self (by omega)]
    · rw [List.getElem?_set_ne (by omega), List.getElem?_set_self (by simp; omega)]
    · rw [List.getElem?_set_self (by simp; omega)]
  · obtain ⟨h1, h2, h3⟩ := hall j y (by omega) hy
    refine ⟨?_, ?_, ?_⟩
    · rw [List.getElem?_set_ne (by omega), List.getElem?_set_ne (by omega), List.getElem?_set_ne (by omega)]; exact h1
    · rw [List.getElem?_set_ne (by omega), List.getElem?_set_ne (by omega), List.getElem?_set_ne (by omega)]; exact h2
    · rw [List.getElem?_set_ne (by omega), List.getElem?_set_ne (by omega), List.getElem?_set_ne (by omega)]; exact h3
theorem Filling.lt {w : World} {g : Nat} {ws : List WR} {k : Nat} (h : Filling w g ws k) : g < w.heap.size := by
  obtain ⟨cs, ho, _⟩ := h; exact ho.lt
theorem Filling.below {w w' : World} {g : Nat} {ws : List WR} {k : Nat} (h : Filling w g ws k) {B : Nat} (hb : Below B w w') (hg : g < B) : Filling w' g ws k := by
  obtain ⟨cs, ho, r⟩ := h; exact ⟨cs, ho.below hb hg, r⟩
theorem Filling.done {w : World} {g : Nat} {ws : List WR} {k : Nat} (h : Filling w g ws k) (hk : ws.length ≤ k) (rd : ∀ x ∈ ws, Rd (Value.int .u8) w (encB x.2.2) x.2.2.2) (len : ∀ x ∈ ws, x.2.2.2.length ≤ 1048576) (byte : ∀ x ∈ ws, ∀ z ∈ x.2.2.2, 0 ≤ z ∧ z ≤ 255) : WRow w g ws := by
  obtain ⟨cs, ho, hl, hall⟩ := h
  refine ⟨fun i x hx => ?_, rd, len, byte⟩
  have hi : i < ws.length := (List.getElem?_eq_some_iff.1 hx).1
  obtain ⟨h1, h2, h3⟩ := hall i x (by omega) hx
  exact ⟨ho.cell h1, ho.cell h2, ho.cell h3⟩

/-- The earliest stamp so far. -/
def Least (l : List KS) (L : Int) : Prop := l ≠ [] → (∃ x ∈ l, x.1 = L) ∧ ∀ x ∈ l, L ≤ x.1
theorem Least.nil (L : Int) : Least [] L := fun h => absurd rfl h
theorem Least.first {l : List KS} (h0 : l.length = 0) (x : KS) : Least (l ++ [x]) x.1 := fun _ => by
  obtain rfl : l = [] := List.eq_nil_of_length_eq_zero h0
  exact ⟨⟨x, by simp, rfl⟩, fun y hy => by simp at hy; subst hy; exact Int.le_refl _⟩
theorem Least.less {l : List KS} {L : Int} (h : Least l L) (h0 : l.length ≠ 0) (x : KS) (hx : x.1 < L) : Least (l ++ [x]) x.1 := fun _ => by
  obtain ⟨-, h2⟩ := h (fun e => h0 (by rw [e]; rfl))
  refine ⟨⟨x, by simp, rfl⟩, fun y hy => ?_⟩
  rcases List.mem_append.1 hy with h3 | h3
  · have := h2 y h3; omega
  · simp at h3; subst h3; exact Int.le_refl _
theorem Least.more {l : List KS} {L : Int} (h : Least l L) (h0 : l.length ≠ 0) (x : KS) (hx : ¬ x.1 < L) : Least (l ++ [x]) L := fun _ => by
  obtain ⟨⟨z, hz, e⟩, h2⟩ := h (fun e => h0 (by rw [e]; rfl))
  refine ⟨⟨z, by simp [hz], e⟩, fun y hy => ?_⟩
  rcases List.mem_append.1 hy with h3 | h3
  · exact h2 y h3
  · simp at h3; subst h3; omega
/-- The heap's top is the earliest. -/
theorem top_least {h l : List KS} {L : Int} {x : KS} (hp : h.Perm l) (hh : IsHeap h) (hL : Least l L) (hx : h[0]? = some x) : x.1 = L := by
  have hne : l ≠ [] := fun e => by
    have h0 := hp.length_eq
    rw [e, List.length_nil] at h0
    have := (List.getElem?_eq_some_iff.1 hx).1
    omega
  obtain ⟨⟨z, hz, e⟩, h2⟩ := hL hne
  have c1 : L ≤ x.1 := h2 x (hp.subset (List.mem_of_getElem? hx))
  obtain ⟨j, hj⟩ := List.mem_iff_getElem?.1 (hp.symm.subset hz)
  have c2 := heap_least hh j (List.getElem?_eq_some_iff.1 hj).1
  rw [ms_of hx, ms_of hj] at c2
  omega
end Go.Proofs.Qxb6605845aDoor.Fill
