/-
  The walks of the heap's methods (Len, Less, Swap, Push of keyStamps), through the interface.
-/
import Derived.Test.Qxb6605845aDoorSmall
import Derived.Test.Qxb6605845aDoorHeap
import Derived.OwnWalk
import Derived.BigRegion
import Derived.RegionTactic
import Derived.Laws.OwnMore
import Derived.Deep.RegionLawGrows
namespace Go.Proofs.Qxb6605845aDoor.HeapWalk
open Go.RowKit Mem Small Heap

/-! The methods of the heap's interface, as the program's tables hold them. -/
theorem mPush (a : Addr) (w : World) : (method 355 83 (.pointer (some a)) "Push").run Tryd.prog w = .ok (78, .pointer (some a)) w := by kernel_rfl
theorem wrap_ok (ts : Array TypeId) (ty : TypeId) (a : Addr) (x y : ByteArray) : Builtin.ssaWrapNilChk_ ts ty #[.pointer (some a), .string x, .string y] = pure (.pointer (some a)) := rfl
theorem method_value {P : Program} (n : Nat) (t e : TypeId) (f : FuncId) (name : String) (h : (P.info? t).map (fun i => (i.methods.find? (·.name == name)).map fun m => (m.path, m.func)) = some (some (#[], some (f, false)))) (hu : P.underlying t = some (.pointer e)) (a : Addr) (w : World) (v : Value) (hl : (loadVar e a).run P w = .ok v w) :
    (method (n + 1) t (.pointer (some a)) name).run P w = .ok (f, v) w := by
  obtain ⟨i, hi, h⟩ := Option.map_eq_some_iff.1 h
  obtain ⟨m, hm, h⟩ := Option.map_eq_some_iff.1 h
  obtain ⟨hp, hf⟩ := Prod.mk.inj h
  simp [method, typeInfo, hi, hm, hp, follow, hf, receiverAt, run_underlying hu, Place.get, strVal, wrap_ok, asAddr, hl]
theorem load68 (a : Addr) (w : World) (v : Value) (h : w.cell? a = some v) : (loadVar 68 a).run Tryd.prog w = .ok v w := by
  have : (isAgg 68).run Tryd.prog w = .ok false w := by kernel_rfl
  simp [loadVar, this, h]
theorem mLen (a : Addr) (w : World) (v : Value) (h : w.cell? a = some v) : (method 355 83 (.pointer (some a)) "Len").run Tryd.prog w = .ok (74, v) w :=
  method_value 354 83 68 74 "Len" (by kernel_rfl) (by kernel_rfl) a w v (load68 a w v h)
theorem mLess (a : Addr) (w : World) (v : Value) (h : w.cell? a = some v) : (method 355 83 (.pointer (some a)) "Less").run Tryd.prog w = .ok (75, v) w :=
  method_value 354 83 68 75 "Less" (by kernel_rfl) (by kernel_rfl) a w v (load68 a w v h)
theorem mSwap (a : Addr) (w : World) (v : Value) (h : w.cell? a = some v) : (method 355 83 (.pointer (some a)) "Swap").run Tryd.prog w = .ok (76, v) w :=
  method_value 354 83 68 76 "Swap" (by kernel_rfl) (by kernel_rfl) a w v (load68 a w v h)

/-! Entries as cells. -/
def flat (h : List KS) : List Value := h.flatMap fun k => [.int .i64 k.1, .string k.2]
theorem flat_cons (x : KS) (h : List KS) : flat (x :: h) = .int .i64 x.1 :: .string x.2 :: flat h := by simp [flat]
theorem flat_append (h : List KS) (x : KS) : flat (h ++ [x]) = flat h ++ [.int .i64 x.1, .string x.2] := by simp [flat]
theorem length_flat (h : List KS) : (flat h).length = h.length * 2 := by
  induction h with
  | nil => rfl
  | cons a r ih => rw [flat_cons]; simp [ih]; omega
theorem flat_ms {h : List KS} {i : Nat} {x : KS} (hx : h[i]? = some x) : (flat h)[i * 2]? = some (.int .i64 x.1) := by
  induction h generalizing i with
  | nil => simp at hx
  | cons a r ih =>
    rw [flat_cons]
    cases i with
    | zero => simp at hx; simp [hx]
    | succ i => rw [show (i + 1) * 2 = i * 2 + 2 by omega]; simpa using ih (by simpa using hx)
theorem flat_key {h : List KS} {i : Nat} {x : KS} (hx : h[i]? = some x) : (flat h)[i * 2 + 1]? = some (.string x.2) := by
  induction h generalizing i with
  | nil => simp at hx
  | cons a r ih =>
    rw [flat_cons]
    cases i with
    | zero => simp at hx; simp [hx]
    | succ i => rw [show (i + 1) * 2 + 1 = i * 2 + 1 + 2 by omega]; simpa using ih (by simpa using hx)
theorem flat_set (h : List KS) (i : Nat) (y : KS) : flat (h.set i y) = ((flat h).set (i * 2) (.int .i64 y.1)).set (i * 2 + 1) (.string y.2) := by
  induction h generalizing i with
  | nil => simp [flat]
  | cons a r ih =>
    cases i with
    | zero => simp [flat_cons]
    | succ i =>
      rw [List.set_cons_succ, flat_cons, flat_cons, ih, show (i + 1) * 2 = i * 2 + 1 + 1 by omega, show i * 2 + 1 + 1 + 1 = i * 2 + 1 + 1 + 1 by rfl]
      simp

/-- The engine stands in block g; its heap of keys holds h. -/
def HAt (w : World) (g : Nat) (h : List KS) : Prop := ∃ es v, Own w g 75 es ∧ es[20]? = some v ∧ w.ownsRow (g + 1) 78 2 v h.length (flat h)
theorem HAt.below {w w' : World} {g : Nat} {h : List KS} (k : HAt w g h) (hb : Below w.heap.size w w') : HAt w' g h := by
  obtain ⟨es, v, ho, he, hr⟩ := k
  refine ⟨es, v, ho.below hb ho.lt, he, hr.1, ?_⟩
  rcases hr.2 with hn | ⟨r, cap, cur, hv, hbase, hg, rest⟩
  · exact .inl hn
  · refine .inr ⟨r, cap, cur, hv, hbase, ?_, rest⟩
    rw [hb.block r ?_]
    · exact hg
    · rcases Nat.lt_or_ge r w.heap.size with h1 | h1
      · exact h1
      · rw [Array.getElem?_eq_none h1] at hg; cases hg
theorem HAt.lt {w : World} {g : Nat} {h : List KS} (k : HAt w g h) : g < w.heap.size := by
  obtain ⟨es, v, ho, -⟩ := k; exact ho.lt

theorem step_append_own {P : Program} {ops : Array Oper} {o : Oper} {a : Act} {w : World} {K : Act → World → Prop} {Q : Exit → Act → World → Prop} {E : Prop}
    (hg : o.guard = none) (s x : Operand) (t : TypeId) (hop : o.op = Op.call { callee := Callee.builtin Builtin.append, args := #[s, x], argTypes := #[t, t] })
    (base : Nat) (e : TypeId) (i : TypeInfo) (z : Value) (size bytes : Nat) (h1 : P.underlying t = some (.slice e)) (h2 : P.info? e = some i) (h3 : i.zero = some z) (h4 : i.size = size) (h5 : i.bytes = bytes) (h6 : z.cells.size = size) (h7 : 0 < size)
    (v : Value) (n : Nat) (xs : List Value) (hs : a.eval s = v) (hown : w.ownsRow base e size v n xs)
    (ad : Addr) (m c : Nat) (news : List Value) (hx : a.eval x = .slice (some ad) m c) (hn : news.length = m * size) (hc : ∀ j u, news[j]? = some u → w.cell? (ad.add j) = some u) (h1c : ∀ u ∈ news, u.oneCell' = true)
    (b1 : n + m ≤ maxLen) (b2 : (n + m) * bytes ≤ 140737488355328) (hb : base ≤ w.heap.size)
    (hK : ∀ v' w', w'.ownsRow base e size v' (n + m) (xs ++ news) → w.grownBy w' v.ownBlock → K (a.put o.dst v') w') :
    if Region.wanted o (yielded ops a.tmps) = true then Oper.wp P o a w K Q else E := by
  have hw : Region.wanted o (yielded ops a.tmps) = true := by simp [Region.wanted, hg]
  rw [if_pos hw]
  obtain ⟨v', w', hrun, r1, r2, _⟩ := run_append_own (P := P) w base t o.type e i z size bytes h1 h2 h3 h4 h5 h6 h7 v n xs hown ad m c news hn hc h1c b1 b2 hb
  unfold Oper.wp
  simp [execOp, hop, resolve, invoke, builtin, hs, hx, hrun, Result.andThen]
  exact hK v' w' r1 r2

theorem info78 : ∃ i, Tryd.prog.info? 78 = some i ∧ i.zero = some (.agg #[.int .i64 0, .string ByteArray.empty]) ∧ i.size = 2 ∧ i.bytes = 24 := by
  have h : (Tryd.prog.info? 78).map (fun i => (i.zero, i.size, i.bytes)) = some (some (.agg #[.int .i64 0, .string ByteArray.empty]), 2, 24) := by kernel_rfl
  obtain ⟨i, hi, h⟩ := Option.map_eq_some_iff.1 h
  simp only [Prod.mk.injEq] at h
  exact ⟨i, hi, h.1, h.2.1, h.2.2⟩

theorem row_form {w : World} {base n : Nat} {e : TypeId} {size : Nat} {v : Value} {xs : List Value} (h : w.ownsRow base e size v n xs) : ∃ a c, v = .slice a n c := by
  rcases h.2 with ⟨rfl, rfl⟩ | ⟨g, cap, cur, rfl, -⟩
  · exact ⟨none, 0, rfl⟩
  · exact ⟨_, _, rfl⟩
theorem after {w w' : World} {g n : Nat} {es xs : List Value} {v : Value} {o : Obj} (ho : Own w g 75 es) (hr : w.ownsRow (g + 1) 78 2 v n xs) (he : es[20]? = some v) (hg : (w.alloc o).drew.grownBy w' v.ownBlock) : w'.cell? ⟨g, 20, none⟩ = some v ∧ w'.frozen? ⟨g, 20, none⟩ = false ∧ Hid (Own w' g 75 es) := by
  have hne : some g ≠ v.ownBlock := fun e => by have := (hr.lt g e.symm).1; omega
  have h1 : Own w' g 75 es := by
    unfold Own
    rw [hg.block g (Nat.lt_of_lt_of_le ho.lt (by show _ ≤ (w.heap.push _).size; simp)) hne]
    exact ho.alloc o
  exact ⟨h1.cell he, h1.frozen 20, h1⟩
theorem done_push {w' : World} {g : Nat} {es : List Value} {v v' : Value} {h : List KS} {x : Int} {s : ByteArray} (ho : Own w' g 75 es) (he : es[20]? = some v) (hn : w'.ownsRow (g + 1) 78 2 v' (h.length + 1) (flat h ++ [.int .i64 x, .string s])) : HAt (w'.setCell ⟨g, 20, none⟩ v') g (h ++ [(x, s)]) := by
  have l : 20 < es.length := (List.getElem?_eq_some_iff.1 he).1
  refine ⟨es.set 20 v', v', ho.set 20 v', List.getElem?_set_self l, ?_⟩
  have := ownsRow_setCell_below hn (a := ⟨g, 20, none⟩) (Nat.lt_succ_self g) v'
  rw [flat_append, List.length_append]
  exact this
theorem below_push {w w' : World} {g n : Nat} {es xs : List Value} {v v' : Value} {o : Obj} (hr : w.ownsRow (g + 1) 78 2 v n xs) (ho : Own w g 75 es) (hg : (w.alloc o).drew.grownBy w' v.ownBlock) : Below g w (w'.setCell ⟨g, 20, none⟩ v') := by
  have hb1 : Below g w (w.alloc o) := (Below.refl _ _).alloc (Nat.le_of_lt ho.lt) o
  have hb2 : Below g (w.alloc o) w' := ⟨hg.os, hg.tape, hg.output, hg.size, fun k hk => hg.block k (Nat.lt_of_lt_of_le hk (Nat.le_trans (Nat.le_of_lt ho.lt) hb1.size)) (fun e => by have := (hr.lt k e.symm).1; omega)⟩
  exact (hb1.trans hb2).setCell (Nat.le_refl g) v'
def PostP (w : World) (g : Nat) (h : List KS) (e : Ending) (w' : World) : Prop := e = .returned (.tuple #[]) ∧ HAt w' g h ∧ Below g w w'

set_option maxRecDepth 100000 in
set_option maxHeartbeats 1000000 in
theorem push (g : Nat) (x : Int) (s : ByteArray) (h : List KS) (w : World) (hh : HAt w g h) (hn : h.length ≤ 1048576) :
    Calls Tryd.prog 78 #[.pointer (some ⟨g, 20, none⟩), .iface 78 (.agg #[.int .i64 x, .string s])] w (PostP w g (h ++ [(x, s)])) := by
  obtain ⟨es, v, ho, he, hr⟩ := hh
  obtain ⟨i, i1, i2, i3, i4⟩ := info78
  have c20 := ho.cell he
  have c20' : (w.alloc (.cells #[.int .i64 x, .string s] 78)).cell? ⟨g, 20, none⟩ = some v := (ho.alloc _).cell he
  have hta : ∀ w, (Instr.typeAssert (.iface 78 (.agg #[.int .i64 x, .string s])) 20 78 false).run Tryd.prog w = .ok (.agg #[.int .i64 x, .string s]) w := fun w => by kernel_rfl
  have S1 : Hid ((w.alloc (.cells #[.int .i64 x, .string s] 78)).ownsRow (g + 1) 78 2 v h.length (flat h)) := hr.alloc _
  have S2 : Hid (∀ j u, ([.int .i64 x, .string s] : List Value)[j]? = some u → (w.alloc (.cells #[.int .i64 x, .string s] 78)).cell? ((⟨w.heap.size, 0, none⟩ : Addr).add j) = some u) := Lib.hid fun j u hj => by
    rw [add_plain, Nat.zero_add]
    exact (own_new w #[.int .i64 x, .string s] 78).cell hj
  have S3 : Hid (∀ u ∈ ([.int .i64 x, .string s] : List Value), u.oneCell' = true) := Lib.hid (by simp [Value.oneCell'])
  have S4 : Hid (h.length + 1 ≤ maxLen) := Lib.hid (by unfold maxLen; omega)
  have S5 : Hid ((h.length + 1) * 24 ≤ 140737488355328) := Lib.hid (by omega)
  have S6 : Hid (g + 1 ≤ (w.alloc (.cells #[.int .i64 x, .string s] 78)).heap.size) := Lib.hid (by have := ho.lt; show g + 1 ≤ (w.heap.push _).size; rw [Array.size_push]; omega)
  have HO := Lib.hid ho
  have HE := Lib.hid he
  have HR := Lib.hid hr
  clear hr ho he
  go_enter Tryd.func78, Tryd.ntmps78
  go_wp2
  go_region_law (refine step_append_own rfl (.tmp 7) (.tmp 10) 68 rfl (g + 1) 78 i (.agg #[.int .i64 0, .string ByteArray.empty]) 2 24 Tryd.underlying68 i1 i2 i3 i4 rfl (by decide) v h.length (flat h) (by simp [Act.eval]) S1.out ⟨w.heap.size, 0, none⟩ 1 1 [.int .i64 x, .string s] (by simp [Act.eval]) rfl S2.out S3.out S4.out S5.out S6.out ?_; intro v' w' hown hgrow; obtain ⟨ra, rc, rfl⟩ := row_form hown; obtain ⟨q1, q2, q3⟩ := after HO.out HR.out HE.out hgrow; have HG := Lib.hid hgrow; have HN := Lib.hid hown)
  all_goals (go_end0; exact ⟨rfl, done_push q3.out HE.out HN.out, below_push HR.out HO.out HG.out⟩)

set_option maxRecDepth 100000 in
set_option maxHeartbeats 1000000 in
theorem less (r n c i j : Nat) (x y : Int) (b : Bool) (hb : decide (x < y) = b) (w : World) (hi : (i : Int) < n) (hj : (j : Int) < n) (ci : w.cell? ⟨r, i * 2, none⟩ = some (.int .i64 x)) (cj : w.cell? ⟨r, j * 2, none⟩ = some (.int .i64 y)) :
    Calls Tryd.prog 75 #[.slice (some ⟨r, 0, none⟩) n c, .int .i64 i, .int .i64 j] w fun e w' => e = .returned (.bool b) ∧ ∃ q, w' = w.drewN q := by
  subst hb
  go_enter Tryd.func75, Tryd.ntmps75
  go_wp2
  go_quiet (fail)
  go_wp2
  go_ret
  exact ⟨rfl, _, rfl⟩
set_option maxRecDepth 100000 in
set_option maxHeartbeats 1000000 in
theorem swap (r n c i j : Nat) (x y : Int) (s t : ByteArray) (w : World) (hij : i ≠ j) (hi : (i : Int) < n) (hj : (j : Int) < n) (ci : w.cell? ⟨r, i * 2, none⟩ = some (.int .i64 x)) (cj : w.cell? ⟨r, j * 2, none⟩ = some (.int .i64 y))
    (ci' : w.cell? ⟨r, i * 2 + 1, none⟩ = some (.string s)) (cj' : w.cell? ⟨r, j * 2 + 1, none⟩ = some (.string t)) (fi : w.frozen? ⟨r, i * 2, none⟩ = false) (fj : w.frozen? ⟨r, j * 2, none⟩ = false) (fi' : w.frozen? ⟨r, i * 2 + 1, none⟩ = false) (fj' : w.frozen? ⟨r, j * 2 + 1, none⟩ = false) :
    Calls Tryd.prog 76 #[.slice (some ⟨r, 0, none⟩) n c, .int .i64 i, .int .i64 j] w fun e w' => e = .returned (.tuple #[]) ∧
      w' = ((((w.setCell ⟨r, i * 2, none⟩ (.int .i64 y)).setCell ⟨r, i * 2 + 1, none⟩ (.string t)).setCell ⟨r, j * 2, none⟩ (.int .i64 x)).setCell ⟨r, j * 2 + 1, none⟩ (.string s)).drew := by
  go_enter Tryd.func76, Tryd.ntmps76
  go_wp2
  go_region
  all_goals (go_end0; exact ⟨rfl, rfl⟩)
theorem len74 (a : Option Addr) (n c : Nat) (w : World) : Calls Tryd.prog 74 #[.slice a n c] w fun e w' => e = .returned (.int .i64 n) ∧ w = w' := by
  go_enter Tryd.func74, Tryd.ntmps74
  go_wp2
  go_ret
  exact ⟨rfl, rfl⟩

theorem HAt.at {w : World} {g : Nat} {h : List KS} (k : HAt w g h) (hp : 0 < h.length) : ∃ r cap, w.cell? ⟨g, 20, none⟩ = some (.slice (some ⟨r, 0, none⟩) h.length cap) ∧
    Hid (∀ i x, h[i]? = some x → w.cell? ⟨r, i * 2, none⟩ = some (.int .i64 x.1) ∧ w.cell? ⟨r, i * 2 + 1, none⟩ = some (.string x.2)) ∧ Hid (∀ j, w.frozen? ⟨r, j, none⟩ = false) := by
  obtain ⟨es, v, ho, he, hr⟩ := k
  have c20 := ho.cell he
  rcases hr.2 with ⟨-, h0⟩ | ⟨r, cap, cur, rfl, -⟩
  · omega
  · refine ⟨r, cap, c20, fun i x hx => ?_, fun j => hr.frozenAt j⟩
    have hi : i < h.length := (List.getElem?_eq_some_iff.1 hx).1
    exact ⟨(hr.cellAt _ (by omega)).trans (flat_ms hx), (hr.cellAt _ (by omega)).trans (flat_key hx)⟩
theorem HAt.swapped {w : World} {g : Nat} {h : List KS} (k : HAt w g h) {r cap i j : Nat} (hc : w.cell? ⟨g, 20, none⟩ = some (.slice (some ⟨r, 0, none⟩) h.length cap)) (x y : KS) :
    HAt ((((w.setCell ⟨r, i * 2, none⟩ (.int .i64 y.1)).setCell ⟨r, i * 2 + 1, none⟩ (.string y.2)).setCell ⟨r, j * 2, none⟩ (.int .i64 x.1)).setCell ⟨r, j * 2 + 1, none⟩ (.string x.2)).drew g (swp h i j x y) ∧
    Below g w ((((w.setCell ⟨r, i * 2, none⟩ (.int .i64 y.1)).setCell ⟨r, i * 2 + 1, none⟩ (.string y.2)).setCell ⟨r, j * 2, none⟩ (.int .i64 x.1)).setCell ⟨r, j * 2 + 1, none⟩ (.string x.2)).drew := by
  obtain ⟨es, v, ho, he, hr⟩ := k
  obtain rfl : v = .slice (some ⟨r, 0, none⟩) h.length cap := by
    have := ho.cell he; rw [hc] at this; exact (Option.some.inj this).symm
  have hgr : g + 1 ≤ r := (hr.lt r rfl).1
  have h4 := (((((hr.stored (i * 2) (.int .i64 y.1)).1.stored (i * 2 + 1) (.string y.2)).1).stored (j * 2) (.int .i64 x.1)).1.stored (j * 2 + 1) (.string x.2)).1
  refine ⟨⟨es, _, (((ho.other (a := ⟨r, i * 2, none⟩) ?_ _).other (a := ⟨r, i * 2 + 1, none⟩) ?_ _).other (a := ⟨r, j * 2, none⟩) ?_ _).other (a := ⟨r, j * 2 + 1, none⟩) ?_ _, he, ?_⟩, ?_⟩
  · show r ≠ g; omega
  · show r ≠ g; omega
  · show r ≠ g; omega
  · show r ≠ g; omega
  · rw [length_swp, swp, flat_set, flat_set]; exact h4
  · have q : g ≤ r := by omega
    exact (((((Below.refl g w).setCell q _).setCell q _).setCell q _).setCell q _).drew

end Go.Proofs.Qxb6605845aDoor.HeapWalk
