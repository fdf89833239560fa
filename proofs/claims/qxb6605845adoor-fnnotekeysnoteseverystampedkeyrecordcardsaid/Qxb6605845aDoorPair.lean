/-
  Two parallel lists of the call's own: how they start, grow and stand while other blocks are written. Of no walk.
-/
import Derived.Test.Qxb6605845aDoorSortWalk
import Derived.Test.Qxb6605845aDoorFill
namespace Go.Proofs.Qxb6605845aDoor.Pair
open Go.RowKit Go.Sort Mem Small KOrd SortWalk Fill Note
open Heap (KS)

theorem infoI64 : (Tryd.prog.info? 2).map (fun i => (i.zero, i.size, i.bytes)) = some (some (.int .i64 0), 1, 8) := by kernel_rfl
theorem makeM (l n : Nat) (hl : l ≤ n) (hn : n ≤ 65536) (w : World) : (Instr.makeSlice 31 (.int .i64 (l : Int)) (.int .i64 (n : Int))).run Tryd.prog w = .ok (.slice (some ⟨w.heap.size, 0, none⟩) l n) (w.alloc (.cells (madeCells #[.int .i64 0] n) 2)) := by
  obtain ⟨i, hi, hz, hs, hb⟩ := info_parts infoI64
  have := run_make (P := Tryd.prog) w 31 2 i _ Tryd.underlying31 hi hz .i64 .i64 l n (by omega) (by omega) (by rw [hb]; omega) (by omega)
  simpa [hs, Value.cells] using this
theorem makeK (l n : Nat) (hl : l ≤ n) (hn : n ≤ 65536) (w : World) : (Instr.makeSlice 22 (.int .i64 (l : Int)) (.int .i64 (n : Int))).run Tryd.prog w = .ok (.slice (some ⟨w.heap.size, 0, none⟩) l n) (w.alloc (.cells (madeCells #[.string ByteArray.empty] n) 9)) := by
  obtain ⟨i, hi, hz, hs, hb⟩ := info_parts infoStr
  have := run_make (P := Tryd.prog) w 22 9 i _ Tryd.underlying22 hi hz .i64 .i64 l n (by omega) (by omega) (by rw [hb]; omega) (by omega)
  simpa [hs, Value.cells] using this

theorem alloc_size (w : World) (o : Obj) : (w.alloc o).heap.size = w.heap.size + 1 := Array.size_push ..
theorem row_new (w : World) (e : TypeId) (cs : Array Value) (n : Nat) (hn : n ≤ 65536) (hs : cs.size = n) : (w.alloc (.cells cs e)).ownsRow 0 e 1 (.slice (some ⟨w.heap.size, 0, none⟩) 0 n) 0 [] :=
  ⟨rfl, .inr ⟨w.heap.size, n, cs, rfl, Nat.zero_le _, own_new w cs e, Nat.zero_le _, by unfold maxLen; omega, by omega, by simp⟩⟩
theorem row_of_own {w : World} {g : Nat} {e : TypeId} {cs : List Value} {n : Nat} (h : Own w g e cs) (hn : n ≤ 65536) (hl : cs.length = n) : w.ownsRow 0 e 1 (.slice (some ⟨g, 0, none⟩) n n) n cs :=
  ⟨by omega, .inr ⟨g, n, cs.toArray, rfl, Nat.zero_le _, h, Nat.le_refl _, by unfold maxLen; omega, by simp [hl], List.take_of_length_le (by simp [hl])⟩⟩
theorem row_block {w w' : World} {g n c : Nat} {e : TypeId} {xs : List Value} (h : w.ownsRow 0 e 1 (.slice (some ⟨g, 0, none⟩) n c) n xs) (hb : w'.heap[g]? = w.heap[g]?) : w'.ownsRow 0 e 1 (.slice (some ⟨g, 0, none⟩) n c) n xs := by
  refine ⟨h.1, ?_⟩
  rcases h.2 with hn | ⟨r, cap, cur, hv, hbase, hg, rest⟩
  · exact .inl hn
  · obtain ⟨h1, -, -⟩ := Value.slice.inj hv
    cases h1
    exact .inr ⟨_, cap, cur, hv, hbase, by rw [hb]; exact hg, rest⟩
theorem row_lt {w : World} {g n c : Nat} {e : TypeId} {xs : List Value} (h : w.ownsRow 0 e 1 (.slice (some ⟨g, 0, none⟩) n c) n xs) : g < w.heap.size := (h.lt g rfl).2

section
variable {w w' : World} {gm gk cm ck n : Nat} {I : Array KS}
theorem Par.blocks (h : Par w gm gk cm ck n I) (h1 : w'.heap[gm]? = w.heap[gm]?) (h2 : w'.heap[gk]? = w.heap[gk]?) : Par w' gm gk cm ck n I := ⟨row_block h.m h1, row_block h.k h2, h.ne⟩
theorem Par.ltM (h : Par w gm gk cm ck n I) : gm < w.heap.size := row_lt h.m
theorem Par.ltK (h : Par w gm gk cm ck n I) : gk < w.heap.size := row_lt h.k
theorem Par.below (h : Par w gm gk cm ck n I) {B : Nat} (hb : Below B w w') (h1 : gm < B) (h2 : gk < B) : Par w' gm gk cm ck n I := Par.blocks h (hb.block _ h1) (hb.block _ h2)
theorem Par.other (h : Par w gm gk cm ck n I) {a b : Nat} (hf : Fr a b w w') (h1 : gm ≠ a) (h2 : gm ≠ b) (h3 : gk ≠ a) (h4 : gk ≠ b) : Par w' gm gk cm ck n I := Par.blocks h (hf.block _ (Par.ltM h) h1 h2) (hf.block _ (Par.ltK h) h3 h4)
theorem Par.grown (h : Par w gm gk cm ck n I) {row : Option Nat} (hg : w.grownBy w' row) (h1 : some gm ≠ row) (h2 : some gk ≠ row) : Par w' gm gk cm ck n I := Par.blocks h (hg.block _ (Par.ltM h) h1) (hg.block _ (Par.ltK h) h2)
theorem Par.set (h : Par w gm gk cm ck n I) {g i : Nat} (h1 : gm ≠ g) (h2 : gk ≠ g) (u : Value) : Par (w.setCell ⟨g, i, none⟩ u) gm gk cm ck n I := Par.blocks h (Below.heap_setCell _ _ _ _ h1) (Below.heap_setCell _ _ _ _ h2)
end
theorem Below.fr {B : Nat} {w w1 w2 : World} {a b : Nat} (h : Below B w w1) (hf : Fr a b w1 w2) (h0 : B ≤ w1.heap.size) (h1 : B ≤ a) (h2 : B ≤ b) : Below B w w2 :=
  h.trans ⟨hf.os, hf.tape, hf.output, hf.size, fun k hk => hf.block k (by omega) (by omega) (by omega)⟩
theorem Filling.grown {w w' : World} {g : Nat} {ws : List WR} {k : Nat} (h : Filling w g ws k) {row : Option Nat} (hg : w.grownBy w' row) (h1 : some g ≠ row) : Filling w' g ws k := by
  obtain ⟨cs, ho, r⟩ := h
  exact ⟨cs, by unfold Own; rw [hg.block _ ho.lt h1]; exact ho, r⟩
theorem Filling.alloc {w : World} {g : Nat} {ws : List WR} {k : Nat} (h : Filling w g ws k) (o : Obj) : Filling (w.alloc o) g ws k := by
  obtain ⟨cs, ho, r⟩ := h
  exact ⟨cs, ho.alloc o, r⟩

theorem Fills.other {enc : KS → Value} {w : World} {g : Nat} {e : TypeId} {xs : List KS} {k : Nat} (h : Fills enc w g e xs k) {a : Addr} (ha : a.block ≠ g) (u : Value) : Fills enc (w.setCell a u) g e xs k := by
  obtain ⟨cs, ho, r⟩ := h
  exact ⟨cs, ho.other ha u, r⟩

theorem start (w : World) (n : Nat) (hn : n ≤ 65536) : Par ((w.alloc (.cells (madeCells #[.int .i64 0] n) 2)).alloc (.cells (madeCells #[.string ByteArray.empty] n) 9)) w.heap.size (w.alloc (.cells (madeCells #[.int .i64 0] n) 2)).heap.size n n 0 #[] := by
  refine ⟨?_, ?_, ?_⟩
  · exact (row_new w 2 _ n hn (size_madeCells _ _)).alloc _
  · exact row_new _ 9 _ n hn (size_madeCells _ _)
  · show _ ≠ (w.heap.push _).size; simp
theorem ofOwn {w : World} {gm gk n : Nat} {l : List KS} (h1 : Own w gm 2 (l.map vm)) (h2 : Own w gk 9 (l.map vk)) (hl : l.length = n) (hn : n ≤ 65536) (hne : gm ≠ gk) : Par w gm gk n n n l.toArray :=
  ⟨row_of_own h1 hn (by simp [hl]), row_of_own h2 hn (by simp [hl]), hne⟩
end Go.Proofs.Qxb6605845aDoor.Pair
