/-
  zzSortStamps: an insertion sort of two parallel lists by (stamp, key).
-/
import Derived.Test.Qxb6605845aDoorSmall
import Derived.Test.Qxb6605845aDoorOrd
import Derived.OwnWalk
import Derived.Laws.OwnMore
namespace Go.Proofs.Qxb6605845aDoor.SortWalk
open Go.RowKit Go.Sort Mem Small KOrd
open Heap (KS)

def vm (x : KS) : Value := .int .i64 x.1
def vk (x : KS) : Value := .string x.2
/-- Two parallel lists of the call's own: stamps in block gm, keys in block gk. -/
structure Par (w : World) (gm gk cm ck n : Nat) (I : Array KS) : Prop where
  m : w.ownsRow 0 2 1 (.slice (some ⟨gm, 0, none⟩) n cm) n (I.toList.map vm)
  k : w.ownsRow 0 9 1 (.slice (some ⟨gk, 0, none⟩) n ck) n (I.toList.map vk)
  ne : gm ≠ gk
/-- Nothing has turned but the two blocks. -/
structure Fr (gm gk : Nat) (w w' : World) : Prop where
  os : w'.os = w.os
  tape : w'.tape = w.tape
  output : w'.output = w.output
  size : w.heap.size ≤ w'.heap.size
  block : ∀ i, i < w.heap.size → i ≠ gm → i ≠ gk → w'.heap[i]? = w.heap[i]?
theorem Fr.refl (gm gk : Nat) (w : World) : Fr gm gk w w := ⟨rfl, rfl, rfl, Nat.le_refl _, fun _ _ _ _ => rfl⟩
theorem Fr.drewN {gm gk : Nat} {w w' : World} (h : Fr gm gk w w') (q : Nat) : Fr gm gk w (w'.drewN q) := ⟨h.os, h.tape, h.output, h.size, h.block⟩
theorem Fr.set {gm gk : Nat} {w w' : World} (h : Fr gm gk w w') {g i : Nat} (hg : g = gm ∨ g = gk) (u : Value) : Fr gm gk w (w'.setCell ⟨g, i, none⟩ u) :=
  ⟨h.os, h.tape, h.output, by have := h.size; simpa [World.setCell] using this, fun j hj h1 h2 => by rw [Below.heap_setCell _ _ _ _ (by rcases hg with rfl | rfl <;> omega)]; exact h.block j hj h1 h2⟩

section
variable {w : World} {gm gk cm ck n : Nat} {I : Array KS}
theorem Par.size (h : Par w gm gk cm ck n I) : I.size = n := by have := h.m.1; simpa using this
theorem Par.drewN (h : Par w gm gk cm ck n I) (q : Nat) : Par (w.drewN q) gm gk cm ck n I := ⟨h.m, h.k, h.ne⟩
theorem Par.cellM (h : Par w gm gk cm ck n I) {i : Nat} (hi : i < n) : w.cell? ⟨gm, i, none⟩ = some (.int .i64 I[i]!.1) := by
  have hi' : i < I.size := by rw [h.size]; exact hi
  rw [h.m.cellAt i (by omega), List.getElem?_map, Array.getElem?_toList, getElem!_pos I i hi', Array.getElem?_eq_getElem hi']; rfl
theorem Par.cellK (h : Par w gm gk cm ck n I) {i : Nat} (hi : i < n) : w.cell? ⟨gk, i, none⟩ = some (.string I[i]!.2) := by
  have hi' : i < I.size := by rw [h.size]; exact hi
  rw [h.k.cellAt i (by omega), List.getElem?_map, Array.getElem?_toList, getElem!_pos I i hi', Array.getElem?_eq_getElem hi']; rfl
theorem Par.frozenM (h : Par w gm gk cm ck n I) (i : Nat) : w.frozen? ⟨gm, i, none⟩ = false := h.m.frozenAt i
theorem Par.frozenK (h : Par w gm gk cm ck n I) (i : Nat) : w.frozen? ⟨gk, i, none⟩ = false := h.k.frozenAt i
theorem Par.swap (h : Par w gm gk cm ck n I) (j : Nat) :
    Par ((((w.setCell ⟨gm, j + 1, none⟩ (.int .i64 I[j]!.1)).setCell ⟨gm, j, none⟩ (.int .i64 I[j + 1]!.1)).setCell ⟨gk, j + 1, none⟩ (.string I[j]!.2)).setCell ⟨gk, j, none⟩ (.string I[j + 1]!.2)) gm gk cm ck n (swp I (j + 1) j) := by
  have e1 : (swp I (j + 1) j).toList.map vm = ((I.toList.map vm).set (j + 1) (.int .i64 I[j]!.1)).set j (.int .i64 I[j + 1]!.1) := by
    unfold swp
    rw [Array.toList_setIfInBounds, Array.toList_setIfInBounds, List.map_set, List.map_set]; rfl
  have e2 : (swp I (j + 1) j).toList.map vk = ((I.toList.map vk).set (j + 1) (.string I[j]!.2)).set j (.string I[j + 1]!.2) := by
    unfold swp
    rw [Array.toList_setIfInBounds, Array.toList_setIfInBounds, List.map_set, List.map_set]; rfl
  have a1 := h.m.stored (j + 1) (.int .i64 I[j]!.1)
  have a2 := a1.1.stored j (.int .i64 I[j + 1]!.1)
  have nk : (Value.slice (some ⟨gk, 0, none⟩) n ck).ownBlock ≠ some gm := fun e => h.ne (Option.some.inj e).symm
  have nm : (Value.slice (some ⟨gm, 0, none⟩) n cm).ownBlock ≠ some gk := fun e => h.ne (Option.some.inj e)
  have k2 := (h.k.kept a1.2 (.inr nk)).kept a2.2 (.inr nk)
  have b1 := k2.stored (j + 1) (.string I[j]!.2)
  have b2 := b1.1.stored j (.string I[j + 1]!.2)
  refine ⟨?_, ?_, h.ne⟩
  · rw [e1]; exact (a2.1.kept b1.2 (.inr nm)).kept b2.2 (.inr nm)
  · rw [e2]; exact b2.1
end

theorem stampLess (a b : Int) (s t : ByteArray) (bb : Bool) (hb : kl (a, s) (b, t) = bb) (w : World) : Calls Tryd.prog 21 #[.int .i64 a, .string s, .int .i64 b, .string t] w fun e w' => e = .returned (.bool bb) ∧ w = w' := by
  subst hb
  unfold kl
  by_cases h : a = b
  · rw [if_pos h]
    go_enter Tryd.func21, Tryd.ntmps21
    go_wp2
    go_ret
    exact ⟨rfl, rfl⟩
  · rw [if_neg h]
    have hb : (a == b) = false := beq_false_of_ne h
    go_enter Tryd.func21, Tryd.ntmps21
    go_wp2
    go_ret
    exact ⟨rfl, rfl⟩

/-- What the sort leaves. -/
def PostS (w : World) (gm gk cm ck n : Nat) (I : Array KS) (e : Ending) (w' : World) : Prop := e = .returned (.tuple #[]) ∧ ∃ J, Par w' gm gk cm ck n J ∧ J.toList.Perm I.toList ∧ SortedIn kl 0 n J ∧ Fr gm gk w w'

set_option maxRecDepth 100000 in
set_option maxHeartbeats 2000000 in
theorem sort (gm gk cm ck n : Nat) (I : Array KS) (w : World) (h : Par w gm gk cm ck n I) (hn : n ≤ 65536) : Calls Tryd.prog 16 #[.slice (some ⟨gm, 0, none⟩) n cm, .slice (some ⟨gk, 0, none⟩) n ck] w (PostS w gm gk cm ck n I) := by
  have H0 := Lib.hid h
  have hsz := h.size
  have hne := h.ne
  clear h
  go_enter Tryd.func16, Tryd.ntmps16
  go_wp2
  go_loopw [4] (fun i wr => ∃ (m : Nat) (J : Array KS), 1 ≤ m ∧ m ≤ n + 1 ∧ i = .int .i64 m ∧ Hid (Par wr gm gk cm ck n J) ∧ Hid (PermIn 0 n I J) ∧ Hid (SortedIn kl 0 m J) ∧ Hid (Fr gm gk w wr)) (fun i _ => n - (intOf i).toNat)
  case atStart => exact ⟨1, I, by omega, by omega, rfl, H0, Lib.hid (permIn_refl _ _ _), Lib.hid (fun i j _ h1 h2 => by omega), Lib.hid (Fr.refl _ _ _)⟩
  case round =>
    obtain ⟨m, J, hm1, hm2, rfl, HP, HPm, HSo, HFr⟩ := hrel
    clear H0
    by_cases hlt : m < n
    · go_wp2
      go_loopw [5, 6, 7] (fun j _ _ wq => ∃ (q : Nat) (K : Array KS), q ≤ m ∧ j = .int .i64 q ∧ Hid (Par wq gm gk cm ck n K) ∧ Hid (PermIn 0 n I K) ∧ Hid (Ins kl 0 q m K) ∧ Hid (Fr gm gk w wq)) (fun j _ _ _ => (intOf j).toNat)
      case atStart => exact ⟨m, J, Nat.le_refl _, rfl, HP, HPm, Lib.hid ⟨fun p q hap hpq hqi _ hq => HSo.out p q hap hpq (by omega), fun q h1 h2 => by omega⟩, HFr⟩
      case round =>
        clear HP HPm HSo HFr
        rename World => wq
        obtain ⟨q, K, hq, rfl, HP, HPm, HI, HFr⟩ := hrel
        by_cases hq0 : q = 0
        · subst hq0
          go_wp2
          go_quiet (fail)
          go_wp2
          go_roundw
          case rel => exact ⟨m + 1, K, by omega, by omega, by go_num, HP.out.drewN _, HPm, Lib.hid (HI.out.stop kl_swo (.inl (Nat.le_refl _))), HFr.out.drewN _⟩
          case measure => simp [intOf]; omega
        · obtain ⟨q', rfl⟩ : ∃ q', q = q' + 1 := ⟨q - 1, by omega⟩
          have cm1 := HP.out.cellM (i := q' + 1) (by omega)
          have cm0 := HP.out.cellM (i := q') (by omega)
          have ck1 := HP.out.cellK (i := q' + 1) (by omega)
          have ck0 := HP.out.cellK (i := q') (by omega)
          have hfm := HP.out.frozenM
          have hfk := HP.out.frozenK
          have HSW := Lib.hid (HP.out.swap q')
          have HSTEP : Hid (kl K[q' + 1]! K[q']! = true → Ins kl 0 q' m (swp K (q' + 1) q')) := Lib.hid fun h => HI.out.step h (Nat.zero_le _) (by rw [HP.out.size]; omega)
          have HSTOP : Hid (kl K[q' + 1]! K[q']! = false → SortedIn kl 0 (m + 1) K) := Lib.hid fun h => HI.out.stop kl_swo (.inr h)
          have HPS : Hid (PermIn 0 n I (swp K (q' + 1) q')) := permIn_trans _ _ _ _ _ HPm.out (swp_permIn K 0 n (q' + 1) q' (by omega) (by omega) (by omega) (by omega) (by rw [HP.out.size]; exact Nat.le_refl _))
          obtain ⟨x, hx⟩ : ∃ x, K[q' + 1]! = x := ⟨_, rfl⟩
          obtain ⟨y, hy⟩ : ∃ y, K[q']! = y := ⟨_, rfl⟩
          rw [hx] at cm1 ck1 HSW HSTEP HSTOP
          rw [hy] at cm0 ck0 HSW HSTEP HSTOP
          clear hx hy HI
          obtain ⟨x1, x2⟩ := x
          obtain ⟨y1, y2⟩ := y
          have ql : ((q' : Int) + 1) < (n : Int) := by omega
          have ql0 : ((q' : Int)) < (n : Int) := by omega
          cases hb : kl (x1, x2) (y1, y2)
          · have hst := fun m => stampLess x1 y1 x2 y2 false hb (wq.drewN m)
            go_wp2
            go_quiet ((go_at_call 21; exact Calls.quiet_of_same ((stampLess _ _ _ _ _ hb _).mono fun _ _ h => ⟨h.1, h.2.symm⟩)))
            go_wp2
            go_roundw
            case rel => exact ⟨m + 1, K, by omega, by omega, by go_num, HP.out.drewN _, HPm, Lib.hid (HSTOP.out hb), HFr.out.drewN _⟩
            case measure => simp [intOf]; omega
          · go_wp2
            go_quiet ((go_at_call 21; exact Calls.quiet_of_same ((stampLess _ _ _ _ _ hb _).mono fun _ _ h => ⟨h.1, h.2.symm⟩)))
            go_wp2
            go_roundw
            case rel => exact ⟨q', _, by omega, by go_num, HSW.out.drewN _, HPS, Lib.hid (HSTEP.out hb), Lib.hid (((((HFr.out.set (.inl rfl) _).set (.inl rfl) _).set (.inr rfl) _).set (.inr rfl) _).drewN _)⟩
            case measure => simp [intOf]
    · go_wp2
      go_end0
      have hs := HSo.out
      refine ⟨rfl, J, HP.out, (perm_all hsz HPm.out).2, ?_, HFr.out⟩
      exact fun i j h1 h2 h3 => hs i j h1 h2 (by omega)
end Go.Proofs.Qxb6605845aDoor.SortWalk
