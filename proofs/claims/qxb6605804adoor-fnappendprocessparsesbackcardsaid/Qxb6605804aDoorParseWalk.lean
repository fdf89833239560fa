/-
  The walk of FnAppendProcessParsesBack.
-/
import Derived.Test.Qxb6605804aDoorInjWalk
namespace Go.Proofs.Qxb6605804aDoor.ParseWalk
open Go.RowKit Go.Shelf BytesWalks InjWalk

theorem getD_app (zs ns : List Int) (j : Nat) : (zs ++ ns).getD (zs.length + j) 0 = ns.getD j 0 := by
  rw [List.getD, List.getD, List.getElem?_append_right (by omega), Nat.add_sub_cancel_left]
theorem name_0 (zs : List Int) (p : Int) : (zs ++ name p).getD zs.length 0 = 34 := getD_app zs (name p) 0
theorem name_1 (zs : List Int) (p : Int) : (zs ++ name p).getD (zs.length + 1) 0 = 112 := by rw [getD_app]; rfl
theorem name_mid (zs : List Int) (p : Int) (j : Nat) (h : j < (Plain.num p).length) : (zs ++ name p).getD (zs.length + 2 + j) 0 = (Plain.num p).getD j 0 := by
  rw [Nat.add_assoc, getD_app, name_eq, Nat.add_comm 2 j]
  show (Plain.num p ++ [34]).getD j 0 = _
  simp [List.getD, List.getElem?_append_left h]
theorem name_last (zs : List Int) (p : Int) : (zs ++ name p).getD (zs.length + 2 + (Plain.num p).length) 0 = 34 := by
  rw [Nat.add_assoc, getD_app, name_eq, Nat.add_comm 2]
  show (Plain.num p ++ [34]).getD _ 0 = _
  simp [List.getD]
theorem name_len (zs : List Int) (p : Int) : (zs ++ name p).length = zs.length + (Plain.num p).length + 3 := by
  rw [List.length_append, name_length, Plain.num_length]; omega

/-- ZZappendProcess as the law reads its answer: D is the numeral. -/
theorem zz (B : Nat) (p : Int) (D : List Int) (hD : Plain.num p = D) (m : Nat) (hm : D.length = m) (h0 : -9223372036854775808 ≤ p) (h1 : p ≤ 9223372036854775807) (v : Value) (zs : List Int) (w : World) (hown : w.ownsRow B 5 1 v zs.length (ib zs)) (hB : B ≤ w.heap.size) (hn : zs.length ≤ 1048576)
    (htab : Lib.TabBelow Tryd.prog B w tabName .u64 Lib.pow10Tab) :
    Calls Tryd.prog 7 #[v, .int .i64 p] w fun e w' => ∃ g c, e = .returned (.slice (some ⟨g, 0, none⟩) (zs.length + m + 3) c) ∧ zs.length + m + 3 ≤ c ∧ c ≤ 9223372036854775807 ∧
      w'.cell? ⟨g, zs.length, none⟩ = some (.int .u8 34) ∧ w'.cell? ⟨g, zs.length + 1, none⟩ = some (.int .u8 112) ∧ w'.cell? ⟨g, zs.length + m + 2, none⟩ = some (.int .u8 34) ∧
      (∀ j, j < m → w'.cell? ⟨g, zs.length + 2 + j, none⟩ = some (.int .u8 (D.getD j 0))) ∧ Rd w' (.slice (some ⟨g, 0, none⟩) (zs.length + m + 3) c) (zs ++ name p) ∧ Below B w w' := by
  subst hD
  subst hm
  refine (zzappend_at B p h0 h1 v zs w hown hB hn htab).mono ?_
  rintro e w' ⟨g, c, xs, rfl, HX, hc3, hm3, hcell, r33, hb3⟩
  obtain rfl : xs = zs ++ name p := HX.out
  have lX := name_len zs p
  rw [lX] at r33 hc3 ⊢
  refine ⟨g, c, rfl, hc3, hm3, ?_, ?_, ?_, fun j hj => ?_, r33, hb3⟩
  · rw [hcell _ (by omega), name_0]
  · rw [hcell _ (by omega), name_1]
  · rw [hcell _ (by omega), show zs.length + (Plain.num p).length + 2 = zs.length + 2 + (Plain.num p).length by omega, name_last]
  · rw [hcell _ (by omega), name_mid zs p j hj]

/-- What the law's loop is told of the digits: m of them, D; u their value. -/
structure Digits (D : List Int) (m u : Nat) : Prop where
  len : D.length = m
  lo : 1 ≤ m
  hi : m ≤ 19
  range : ∀ j, j < m → 48 ≤ D.getD j 0 ∧ D.getD j 0 ≤ 57
  head : 2 ≤ m → D.getD 0 0 ≠ 48
  headpos : 1 ≤ u → D.getD 0 0 ≠ 48
  val : Plain.valOf D = u
  part : ∀ k, 0 ≤ Plain.valOf (D.take k) ∧ Plain.valOf (D.take k) ≤ u
  step : ∀ k, k < m → Plain.valOf (D.take (k + 1)) = Plain.valOf (D.take k) * 10 + (D.getD k 0 - 48)

theorem digits (u : Nat) (hu : u ≤ 9223372036854775808) : Digits (Plain.digs u) (Plain.digs u).length u where
  len := rfl
  lo := Plain.digs_pos u
  hi := Plain.digs_le19 u hu
  range := fun j hj => Plain.digs_range u _ (by rw [List.getD, List.getElem?_eq_getElem hj]; exact List.getElem_mem _)
  head := fun h => Plain.digs_head u (Plain.digs_head_zero u h)
  headpos := fun h => Plain.digs_head u h
  val := Plain.digs_val u
  part := fun k => ⟨Plain.valOf_nonneg _ (fun c hc => Plain.digs_range u c (List.mem_of_mem_take hc)), by have := Plain.valOf_take_le _ (Plain.digs_range u) k; rwa [Plain.digs_val] at this⟩
  step := fun k hk => by
    rw [List.take_succ_eq_append_getElem hk, Plain.valOf_snoc, List.getD, List.getElem?_eq_getElem hk]; rfl

set_option maxHeartbeats 1000000 in
theorem walk_nonneg (v : Value) (zs : List Int) (u : Nat) (hu : (u : Int) ≤ 9223372036854775807)
    (w : World) (hr : Rd w v zs) (hn : zs.length ≤ 1048576) (htab : Lib.TabIs Tryd.prog w tabName .u64 Lib.pow10Tab) :
    Calls Tryd.prog 3 #[v, .int .i64 u] w fun e w' => e = .returned (.bool true) ∧ Below w.heap.size w w' := by
  obtain ⟨a0, c0, rfl⟩ := hr.form
  have hT0 := Lib.tabBelow_of_tabIs htab
  have hb5 : Calls Tryd.prog 5 #[.slice a0 zs.length c0, .int .i64 u] w fun e w' => e = .returned (.bool true) ∧ w = w' := by
    have := bytes3 a0 zs.length c0 u w (by omega)
    simpa [hn] using this
  obtain ⟨D, m, HD, hdg⟩ : ∃ D m, Hid (Plain.num (u : Int) = D) ∧ Digits D m u := ⟨_, _, Plain.num_nonneg u, digits u (by omega)⟩
  have l1 := hdg.lo
  have l2 := hdg.hi
  go_enter Tryd.func3, Tryd.ntmps3
  go_wp2_with (first | (go_at_call 5; refine hb5.mono ?_; rintro e w' ⟨rfl, rfl⟩) | (go_at_call 6; refine (clone_form _ zs _ hr hn).mono ?_; rintro e w1 ⟨a1, c1, rfl, ho1, hb1⟩; refine Hid.out ?_))
  refine Lib.hid ?_
  have r1 := rd_of_owns ho1
  have hT1 := Lib.tabBelow_of_tabIs (hT0 w1 hb1)
  go_wp2_with (go_at_call 6; refine (clone_form _ zs _ r1 hn).mono ?_; rintro e w2 ⟨a2, c2, rfl, ho2, hb2⟩; refine Hid.out ?_)
  refine Lib.hid ?_
  go_wp2_with (go_at_call 7; refine (zz w1.heap.size u D HD.out m hdg.len (by omega) hu _ zs w2 ho2 hb2.size hn (hT1.on hb2)).mono ?_; rintro e w3 ⟨g, c3, rfl, hc3, hm3, g0, g1, gl, gd, r33, hb3⟩; refine Hid.out ?_)
  refine Lib.hid ?_
  have b13 := hb2.trans hb3
  have r13 := r1.below b13
  have b03 : Below w.heap.size w w3 := hb1.trans (b13.mono hb1.size)
  have k8 : Calls Tryd.prog 8 #[.slice (some ⟨g, 0, none⟩) (zs.length + m + 3) c3, .slice a1 zs.length c1] w3 fun e w' => e = .returned (.bool true) ∧ ∃ n, w' = w3.drewN n := by
    have hl := name_len zs (u : Int)
    rw [HD.out, hdg.len] at hl
    have := hasPrefix_any _ _ _ _ w3 r33 r13 (by omega) (by omega)
    rwa [pre_name zs u] at this
  have gd0 : w3.cell? ⟨g, zs.length + 2, none⟩ = some (.int .u8 (D.getD 0 0)) := gd 0 (by omega)
  clear hb1 hb2 hb3 b13 ho1 ho2 r1 hT0 hT1 htab hr hb5 r33 r13
  obtain ⟨d0, hd⟩ : ∃ d0, D.getD 0 0 = d0 := ⟨_, rfl⟩
  obtain ⟨hd1, hd2⟩ : 48 ≤ d0 ∧ d0 ≤ 57 := by rw [← hd]; exact hdg.range 0 (by omega)
  have hz0 : 2 ≤ m → d0 ≠ 48 := by rw [← hd]; exact hdg.head
  rw [hd] at gd0
  clear hd
  go_wp2_with (go_at_call 8; refine k8.mono ?_; rintro e w' ⟨rfl, n, rfl⟩; refine Hid.out ?_)
  refine Lib.hid ?_
  clear k8
  have hm0 : ((m : Int) == 0) = false := by simp; omega
  have hz1 : 2 ≤ m → (d0 == 48) = false := fun h => by simpa using hz0 h
  clear hz0
  have GD := Lib.hid gd
  clear gd
  have HZ : Hid (2 ≤ m ∨ ¬ 2 ≤ m) := Classical.em _
  rcases HZ.out with hl | hl
  · have hz2 := hz1 hl
    clear hz1 HZ
    go_wp2
    go_loop [8, 9, 10] (fun mg i _ => ∃ (k : Nat) (V : Int), k ≤ m ∧ i = .int .i64 k ∧ mg = .int .u64 V ∧ Hid (Plain.valOf (D.take k) = V)) (fun _ i _ => m - (intOf i).toNat)
    case atStart => exact ⟨0, 0, by omega, rfl, rfl, rfl⟩
    case round =>
      obtain ⟨k, V, hk, rfl, rfl, HV⟩ := hrel
      by_cases hlt : k < m
      · have gk := GD.out k hlt
        have hrk := hdg.range k hlt
        have hp := hdg.part k
        have hp1 := hdg.part (k + 1)
        have HS := Lib.hid (hdg.step k hlt)
        obtain ⟨ck, hck⟩ : ∃ ck, D.getD k 0 = ck := ⟨_, rfl⟩
        rw [hck] at gk hrk HS
        rw [HV.out] at hp HS
        rw [HS.out] at hp1
        clear hck
        obtain ⟨hr1, hr2⟩ := hrk
        have hV0 : 0 ≤ V := hp.1
        have hV1 : V * 10 + (ck - 48) ≤ 9223372036854775807 := by omega
        clear hp hp1
        go_wp2
        go_round
        case rel => exact ⟨k + 1, _, by omega, by go_num, rfl, HS.out⟩
        case measure => simp [intOf]; omega
      · have hfin : V = u := by
          rw [← HV.out, List.take_of_length_le (by rw [hdg.len]; omega)]; exact hdg.val
        subst hfin
        go_wp2
        go_ret
        exact ⟨rfl, ⟨b03.os, b03.tape, b03.output, b03.size, b03.block⟩⟩
  · clear hz1 HZ
    go_wp2
    go_loop [8, 9, 10] (fun mg i _ => ∃ (k : Nat) (V : Int), k ≤ m ∧ i = .int .i64 k ∧ mg = .int .u64 V ∧ Hid (Plain.valOf (D.take k) = V)) (fun _ i _ => m - (intOf i).toNat)
    case atStart => exact ⟨0, 0, by omega, rfl, rfl, rfl⟩
    case round =>
      obtain ⟨k, V, hk, rfl, rfl, HV⟩ := hrel
      by_cases hlt : k < m
      · have gk := GD.out k hlt
        have hrk := hdg.range k hlt
        have hp := hdg.part k
        have hp1 := hdg.part (k + 1)
        have HS := Lib.hid (hdg.step k hlt)
        obtain ⟨ck, hck⟩ : ∃ ck, D.getD k 0 = ck := ⟨_, rfl⟩
        rw [hck] at gk hrk HS
        rw [HV.out] at hp HS
        rw [HS.out] at hp1
        clear hck
        obtain ⟨hr1, hr2⟩ := hrk
        have hV0 : 0 ≤ V := hp.1
        have hV1 : V * 10 + (ck - 48) ≤ 9223372036854775807 := by omega
        clear hp hp1
        go_wp2
        go_round
        case rel => exact ⟨k + 1, _, by omega, by go_num, rfl, HS.out⟩
        case measure => simp [intOf]; omega
      · have hfin : V = u := by
          rw [← HV.out, List.take_of_length_le (by rw [hdg.len]; omega)]; exact hdg.val
        subst hfin
        go_wp2
        go_ret
        exact ⟨rfl, ⟨b03.os, b03.tape, b03.output, b03.size, b03.block⟩⟩
set_option maxHeartbeats 1000000 in
theorem walk_neg (v : Value) (zs : List Int) (u : Nat) (p : Int) (hpu : Hid (p = -(u : Int))) (hu1 : 1 ≤ u) (hp0 : -9223372036854775808 ≤ p) (hpn : p < 0)
    (w : World) (hr : Rd w v zs) (hn : zs.length ≤ 1048576) (htab : Lib.TabIs Tryd.prog w tabName .u64 Lib.pow10Tab) :
    Calls Tryd.prog 3 #[v, .int .i64 p] w fun e w' => e = .returned (.bool true) ∧ Below w.heap.size w w' := by
  obtain ⟨a0, c0, rfl⟩ := hr.form
  have hT0 := Lib.tabBelow_of_tabIs htab
  have hb5 : Calls Tryd.prog 5 #[.slice a0 zs.length c0, .int .i64 p] w fun e w' => e = .returned (.bool true) ∧ w = w' := by
    have := bytes3 a0 zs.length c0 p w (by omega)
    simpa [hn] using this
  have hu : u ≤ 9223372036854775808 := by have := hpu.out; omega
  obtain ⟨D, m, HD, hdg⟩ : ∃ D m, Hid (Plain.num p = 45 :: D) ∧ Digits D m u := ⟨_, _, by have := hpu.out; subst this; exact Plain.num_neg u hu1, digits u hu⟩
  have hneg : IntKind.u64.wrap (wrap64 (-p)) = u := by have := hpu.out; rw [← IntWalk.i64_left, IntKind.wrap_i64, IntKind.wrap_u64]; omega
  have l1 := hdg.lo
  have l2 := hdg.hi
  go_enter Tryd.func3, Tryd.ntmps3
  go_wp2_with (first | (go_at_call 5; refine hb5.mono ?_; rintro e w' ⟨rfl, rfl⟩) | (go_at_call 6; refine (clone_form _ zs _ hr hn).mono ?_; rintro e w1 ⟨a1, c1, rfl, ho1, hb1⟩; refine Hid.out ?_))
  refine Lib.hid ?_
  have r1 := rd_of_owns ho1
  have hT1 := Lib.tabBelow_of_tabIs (hT0 w1 hb1)
  go_wp2_with (go_at_call 6; refine (clone_form _ zs _ r1 hn).mono ?_; rintro e w2 ⟨a2, c2, rfl, ho2, hb2⟩; refine Hid.out ?_)
  refine Lib.hid ?_
  go_wp2_with (go_at_call 7; refine (zz w1.heap.size p (45 :: D) HD.out (m + 1) (by rw [List.length_cons, hdg.len]) hp0 (by omega) _ zs w2 ho2 hb2.size hn (hT1.on hb2)).mono ?_; rintro e w3 ⟨g, c3, rfl, hc3, hm3, g0, g1, gl, gd, r33, hb3⟩; refine Hid.out ?_)
  refine Lib.hid ?_
  have b13 := hb2.trans hb3
  have r13 := r1.below b13
  have b03 : Below w.heap.size w w3 := hb1.trans (b13.mono hb1.size)
  have k8 : Calls Tryd.prog 8 #[.slice (some ⟨g, 0, none⟩) (zs.length + (m + 1) + 3) c3, .slice a1 zs.length c1] w3 fun e w' => e = .returned (.bool true) ∧ ∃ n, w' = w3.drewN n := by
    have hl := name_len zs p
    rw [HD.out, List.length_cons, hdg.len] at hl
    have := hasPrefix_any _ _ _ _ w3 r33 r13 (by omega) (by omega)
    rwa [pre_name zs p] at this
  have gm : w3.cell? ⟨g, zs.length + 2, none⟩ = some (.int .u8 45) := gd 0 (by omega)
  replace gd : ∀ j, j < m → w3.cell? ⟨g, zs.length + 3 + j, none⟩ = some (.int .u8 (D.getD j 0)) := fun j hj => by
    have := gd (j + 1) (by omega)
    rw [show zs.length + 2 + (j + 1) = zs.length + 3 + j by omega] at this
    exact this
  have gd0 : w3.cell? ⟨g, zs.length + 3, none⟩ = some (.int .u8 (D.getD 0 0)) := gd 0 (by omega)
  clear hb1 hb2 hb3 b13 ho1 ho2 r1 hT0 hT1 htab hr hb5 r33 r13
  obtain ⟨d0, hd⟩ : ∃ d0, D.getD 0 0 = d0 := ⟨_, rfl⟩
  obtain ⟨hd1, hd2⟩ : 48 ≤ d0 ∧ d0 ≤ 57 := by rw [← hd]; exact hdg.range 0 (by omega)
  have hz0 : d0 ≠ 48 := by rw [← hd]; exact hdg.headpos hu1
  rw [hd] at gd0
  clear hd
  go_wp2_with (go_at_call 8; refine k8.mono ?_; rintro e w' ⟨rfl, n, rfl⟩; refine Hid.out ?_)
  refine Lib.hid ?_
  clear k8
  have hm0 : ((m : Int) == 0) = false := by simp; omega
  have hz2 : (d0 == 48) = false := by simpa using hz0
  clear hz0
  have GD := Lib.hid gd
  clear gd
  have HZ : Hid (2 ≤ m ∨ ¬ 2 ≤ m) := Classical.em _
  rcases HZ.out with hl | hl
  · clear HZ
    go_wp2
    go_loop [8, 9, 10] (fun mg i _ => ∃ (k : Nat) (V : Int), k ≤ m ∧ i = .int .i64 k ∧ mg = .int .u64 V ∧ Hid (Plain.valOf (D.take k) = V)) (fun _ i _ => m - (intOf i).toNat)
    case atStart => exact ⟨0, 0, by omega, rfl, rfl, rfl⟩
    case round =>
      obtain ⟨k, V, hk, rfl, rfl, HV⟩ := hrel
      by_cases hlt : k < m
      · have gk := GD.out k hlt
        have hrk := hdg.range k hlt
        have hp := hdg.part k
        have hp1 := hdg.part (k + 1)
        have HS := Lib.hid (hdg.step k hlt)
        obtain ⟨ck, hck⟩ : ∃ ck, D.getD k 0 = ck := ⟨_, rfl⟩
        rw [hck] at gk hrk HS
        rw [HV.out] at hp HS
        rw [HS.out] at hp1
        clear hck
        obtain ⟨hr1, hr2⟩ := hrk
        have hV0 : 0 ≤ V := hp.1
        have hV1 : V * 10 + (ck - 48) ≤ 9300000000000000000 := by omega
        clear hp hp1
        go_wp2
        go_round
        case rel => exact ⟨k + 1, _, by omega, by go_num, rfl, HS.out⟩
        case measure => simp [intOf]; omega
      · have hfin : V = u := by
          rw [← HV.out, List.take_of_length_le (by rw [hdg.len]; omega)]; exact hdg.val
        subst hfin
        go_wp2
        go_ret
        exact ⟨rfl, ⟨b03.os, b03.tape, b03.output, b03.size, b03.block⟩⟩
  · clear HZ
    go_wp2
    go_loop [8, 9, 10] (fun mg i _ => ∃ (k : Nat) (V : Int), k ≤ m ∧ i = .int .i64 k ∧ mg = .int .u64 V ∧ Hid (Plain.valOf (D.take k) = V)) (fun _ i _ => m - (intOf i).toNat)
    case atStart => exact ⟨0, 0, by omega, rfl, rfl, rfl⟩
    case round =>
      obtain ⟨k, V, hk, rfl, rfl, HV⟩ := hrel
      by_cases hlt : k < m
      · have gk := GD.out k hlt
        have hrk := hdg.range k hlt
        have hp := hdg.part k
        have hp1 := hdg.part (k + 1)
        have HS := Lib.hid (hdg.step k hlt)
        obtain ⟨ck, hck⟩ : ∃ ck, D.getD k 0 = ck := ⟨_, rfl⟩
        rw [hck] at gk hrk HS
        rw [HV.out] at hp HS
        rw [HS.out] at hp1
        clear hck
        obtain ⟨hr1, hr2⟩ := hrk
        have hV0 : 0 ≤ V := hp.1
        have hV1 : V * 10 + (ck - 48) ≤ 9300000000000000000 := by omega
        clear hp hp1
        go_wp2
        go_round
        case rel => exact ⟨k + 1, _, by omega, by go_num, rfl, HS.out⟩
        case measure => simp [intOf]; omega
      · have hfin : V = u := by
          rw [← HV.out, List.take_of_length_le (by rw [hdg.len]; omega)]; exact hdg.val
        subst hfin
        go_wp2
        go_ret
        exact ⟨rfl, ⟨b03.os, b03.tape, b03.output, b03.size, b03.block⟩⟩
theorem walk_big (a0 : Option Addr) (n c : Nat) (p : Int) (w : World) (hm : n ≤ 9223372036854775807) (hn : ¬ n ≤ 1048576) :
    Calls Tryd.prog 3 #[.slice a0 n c, .int .i64 p] w fun e w' => e = .returned (.bool true) ∧ Below w.heap.size w w' := by
  have hb5 : Calls Tryd.prog 5 #[.slice a0 n c, .int .i64 p] w fun e w' => e = .returned (.bool false) ∧ w = w' := by
    have := bytes3 a0 n c p w hm
    simpa [hn] using this
  go_enter Tryd.func3, Tryd.ntmps3
  go_wp2_with (go_at_call 5; refine hb5.mono ?_; rintro e w' ⟨rfl, rfl⟩)
  go_ret
  exact ⟨rfl, Below.refl _ _⟩

theorem walk_small (v : Value) (zs : List Int) (p : Int) (h0 : -9223372036854775808 ≤ p) (h1 : p ≤ 9223372036854775807)
    (w : World) (hr : Rd w v zs) (hn : zs.length ≤ 1048576) (htab : Lib.TabIs Tryd.prog w tabName .u64 Lib.pow10Tab) :
    Calls Tryd.prog 3 #[v, .int .i64 p] w fun e w' => e = .returned (.bool true) ∧ Below w.heap.size w w' := by
  by_cases hp : p < 0
  · exact walk_neg v zs p.natAbs p (show p = _ by omega) (by omega) h0 hp w hr hn htab
  · obtain ⟨u, rfl⟩ : ∃ u : Nat, p = u := ⟨p.toNat, by omega⟩
    exact walk_nonneg v zs u h1 w hr hn htab
end Go.Proofs.Qxb6605804aDoor.ParseWalk
