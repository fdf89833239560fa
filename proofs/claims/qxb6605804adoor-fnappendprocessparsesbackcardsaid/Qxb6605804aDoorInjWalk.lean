/-
  The walk of FnAppendProcessInjective.
-/
import Derived.Test.Qxb6605804aDoorWalks
import Derived.Test.Qxb6605804aDoorPlain
namespace Go.Proofs.Qxb6605804aDoor.InjWalk
open Go.RowKit Go.Shelf BytesWalks

theorem name_eq (p : Int) : name p = 34 :: 112 :: (Plain.num p ++ [34]) := rfl
theorem same_name (zs : List Int) (p q : Int) : same (zs ++ name p) (zs ++ name q) = (p == q) := by
  rw [Bool.eq_iff_iff]
  unfold same
  rw [decide_eq_true_iff, beq_iff_eq]
  constructor
  · intro h
    have h1 := List.append_cancel_left h
    rw [name_eq, name_eq] at h1
    have h2 := (List.cons.inj (List.cons.inj h1).2).2
    exact Plain.num_inj (List.append_cancel_right h2)
  · rintro rfl; rfl
theorem pre_name (zs : List Int) (p : Int) : pre (zs ++ name p) zs = true := by
  unfold pre; rw [List.isPrefixOf_iff_prefix]; exact ⟨_, rfl⟩
theorem len_name (zs : List Int) (p : Int) (h0 : -9223372036854775808 ≤ p) (h1 : p ≤ 9223372036854775807) : zs.length + 4 ≤ (zs ++ name p).length ∧ (zs ++ name p).length ≤ zs.length + 24 := by
  have a := Lib.itoa_length_le p h0 h1
  have b := Plain.num_pos p
  rw [Plain.num_length] at b
  rw [List.length_append, name_length]
  omega

set_option maxHeartbeats 1000000 in
theorem walk_small (v : Value) (zs : List Int) (p q : Int) (hp0 : -9223372036854775808 ≤ p) (hp1 : p ≤ 9223372036854775807) (hq0 : -9223372036854775808 ≤ q) (hq1 : q ≤ 9223372036854775807)
    (w : World) (hr : Rd w v zs) (hn : zs.length ≤ 1048576) (htab : Lib.TabIs Tryd.prog w tabName .u64 Lib.pow10Tab) :
    Calls Tryd.prog 4 #[v, .int .i64 p, .int .i64 q] w fun e w' => e = .returned (.bool true) ∧ Below w.heap.size w w' := by
  obtain ⟨a0, c0, rfl⟩ := hr.form
  have lx := len_name zs p hp0 hp1
  have ly := len_name zs q hq0 hq1
  have hT0 := Lib.tabBelow_of_tabIs htab
  have hb9 : Calls Tryd.prog 9 #[.slice a0 zs.length c0, .int .i64 p, .int .i64 q] w fun e w' => e = .returned (.bool true) ∧ w = w' := by
    have := bytes4 a0 zs.length c0 p q w (by omega)
    simpa [hn] using this
  go_enter Tryd.func4, Tryd.ntmps4
  go_wp2_with (first | (go_at_call 9; refine hb9.mono ?_; rintro e w' ⟨rfl, rfl⟩) | (go_at_call 6; refine (clone_form _ zs _ hr hn).mono ?_; rintro e w1 ⟨a1, c1, rfl, ho1, hb1⟩; refine Hid.out ?_))
  refine Lib.hid ?_
  have r1 := rd_of_owns ho1
  have hT1 := Lib.tabBelow_of_tabIs (hT0 w1 hb1)
  go_wp2_with (go_at_call 6; refine (clone_form _ zs _ r1 hn).mono ?_; rintro e w2 ⟨a2, c2, rfl, ho2, hb2⟩; refine Hid.out ?_)
  refine Lib.hid ?_
  go_wp2_with (go_at_call 7; refine (zzappend_form w1.heap.size p hp0 hp1 _ zs w2 ho2 hb2.size hn (hT1.on hb2)).mono ?_; rintro e w3 ⟨a3, c3, xs, rfl, HX, ho3, hb3⟩; refine Hid.out ?_)
  refine Lib.hid ?_
  have b13 := hb2.trans hb3
  have r13 := r1.below b13
  have hT3 := Lib.tabBelow_of_tabIs (hT0 w3 (hb1.trans (b13.mono hb1.size)))
  go_wp2_with (go_at_call 6; refine (clone_form _ zs _ r13 hn).mono ?_; rintro e w4 ⟨a4, c4, rfl, ho4, hb4⟩; refine Hid.out ?_)
  refine Lib.hid ?_
  go_wp2_with (go_at_call 7; refine (zzappend_form w3.heap.size q hq0 hq1 _ zs w4 ho4 hb4.size hn (hT3.on hb4)).mono ?_; rintro e w5 ⟨a5, c5, ys, rfl, HY, ho5, hb5⟩; refine Hid.out ?_)
  refine Lib.hid ?_
  have b35 := hb4.trans hb5
  have r15 := r13.below b35
  have r35 := (rd_of_owns ho3).below b35
  have r55 := rd_of_owns ho5
  have b05 : Below w.heap.size w w5 := (hb1.trans (b13.mono hb1.size)).trans (b35.mono (Nat.le_trans hb1.size b13.size))
  clear hb1 hb2 hb3 hb4 hb5 b13 b35 ho1 ho2 ho3 ho4 ho5 r1 r13 hT0 hT1 hT3 htab hr hb9
  have hX : xs = zs ++ name p := HX.out
  have hY : ys = zs ++ name q := HY.out
  rw [← hX] at lx
  rw [← hY] at ly
  have e1 : same xs ys = (p == q) := by rw [hX, hY]; exact same_name zs p q
  have e2 : pre xs zs = true := by rw [hX]; exact pre_name zs p
  have e3 : pre ys zs = true := by rw [hY]; exact pre_name zs q
  clear hX hY
  have k10 : Calls Tryd.prog 10 #[.slice a3 xs.length c3, .slice a5 ys.length c5] w5 fun e w' => e = .returned (.bool (p == q)) ∧ ∃ n, w' = w5.drewN n := by
    have := bytesEqual_any _ _ _ _ w5 r35 r55 (by omega) (by omega)
    rwa [e1] at this
  have k8 : ∀ (a : Option Addr) (c : Nat) (ts : List Int) (n : Nat), Rd w5 (.slice a ts.length c) ts → ts.length ≤ 2000000 → pre ts zs = true → Calls Tryd.prog 8 #[.slice a ts.length c, .slice a1 zs.length c1] (w5.drewN n) fun e w' => e = .returned (.bool true) ∧ ∃ n, w' = w5.drewN n := by
    intro a c ts n hrd hl hpre
    have := hasPrefix_any _ _ _ _ (w5.drewN n) (hrd.drewN n) (r15.drewN n) hl (by omega)
    rw [hpre] at this
    refine this.mono ?_
    rintro e w' ⟨rfl, m, rfl⟩
    exact ⟨rfl, n + m, by simp⟩
  have k8x := fun n => k8 a3 c3 xs n r35 (by omega) e2
  have k8y := fun n => k8 a5 c5 ys n r55 (by omega) e3
  clear k8 e1 e2 e3 r15 r35 r55
  go_wp2_with (go_at_call 10; refine k10.mono ?_; rintro e w' ⟨rfl, n, rfl⟩; refine Hid.out ?_)
  refine Lib.hid ?_
  clear k10
  go_wp2_with (go_at_call 8; refine (k8x n).mono ?_; rintro e w' ⟨rfl, m, rfl⟩; refine Hid.out ?_)
  refine Lib.hid ?_
  go_wp2_with (go_at_call 8; refine (k8y m).mono ?_; rintro e w' ⟨rfl, m', rfl⟩)
  go_ret
  exact ⟨rfl, ⟨b05.os, b05.tape, b05.output, b05.size, b05.block⟩⟩

theorem walk_big (a0 : Option Addr) (n c : Nat) (p q : Int) (w : World) (hm : n ≤ 9223372036854775807) (hn : ¬ n ≤ 1048576) :
    Calls Tryd.prog 4 #[.slice a0 n c, .int .i64 p, .int .i64 q] w fun e w' => e = .returned (.bool true) ∧ Below w.heap.size w w' := by
  have hb9 : Calls Tryd.prog 9 #[.slice a0 n c, .int .i64 p, .int .i64 q] w fun e w' => e = .returned (.bool false) ∧ w = w' := by
    have := bytes4 a0 n c p q w hm
    simpa [hn] using this
  go_enter Tryd.func4, Tryd.ntmps4
  go_wp2_with (go_at_call 9; refine hb9.mono ?_; rintro e w' ⟨rfl, rfl⟩)
  go_ret
  exact ⟨rfl, Below.refl _ _⟩
end Go.Proofs.Qxb6605804aDoor.InjWalk
