/-
  The walk of the law's own reading of a stamp (zzStamp).
-/
import Derived.Test.Qxb6605845aDoorSmall
import Derived.Test.Qxb6605845aDoorStamp
namespace Go.Proofs.Qxb6605845aDoor.StampWalk
open Go.RowKit Mem Small Stamp

/-- The answer of the law's own reading. -/
def Ans (zs : List Int) (w : World) (e : Ending) (w' : World) : Prop := ∃ (x : Int) (b : Bool), e = .returned (.tuple #[.int .i64 x, .bool b]) ∧ ((b = true ∧ zz zs = some x) ∨ (b = false ∧ zz zs = none)) ∧ ∃ n, w' = w.drewN n

theorem take_succ {zs : List Int} {k : Nat} {z : Int} (h : zs.take k = hd.take k) (hz : zs[k]? = some z) (hh : hd[k]? = some z) : zs.take (k + 1) = hd.take (k + 1) := by
  rw [List.take_add_one, List.take_add_one, h, hz, hh]
theorem take_ne {zs : List Int} {k : Nat} {z : Int} (hz : zs[k]? = some z) (hk : k < 6) (hh : hd[k]? ≠ some z) : zs.take 6 ≠ hd := by
  intro e
  apply hh
  rw [← e, List.getElem?_take, if_pos hk, hz]
theorem zz_ne {zs : List Int} (h : zs.take 6 ≠ hd) : zz zs = none := by simp [zz, h]

theorem drop_cons {zs : List Int} {k : Nat} {z : Int} (h : zs[k]? = some z) : zs.drop k = z :: zs.drop (k + 1) := by
  obtain ⟨hk, rfl⟩ := List.getElem?_eq_some_iff.1 h
  exact List.drop_eq_getElem_cons hk
theorem isD_of {z : Int} (h1 : 48 ≤ z) (h2 : z ≤ 57) : isD z = true := by simp [isD, h1, h2]
theorem isD_hi {z : Int} (h : ¬ z ≤ 57) : isD z = false := by simp [isD, h]
theorem isD_lo {z : Int} (h : ¬ 48 ≤ z) : isD z = false := by simp [isD, h]
theorem fin_more {lim : Nat} {zs : List Int} {k mag dg mag' dg' : Nat} {ov ov' : Bool} {z : Int} {R : Option Nat} (hF : fin lim (zs.drop k) mag (decide (0 < dg)) ov = R) (hz : zs.drop k = z :: zs.drop (k + 1)) (hd : isD z = true)
    (hs : (mag', ov') = if ov || decide (lim < mag * 10 + (z - 48).toNat) then (mag, true) else (mag * 10 + (z - 48).toNat, false)) (hd' : 0 < dg') : fin lim (zs.drop (k + 1)) mag' (decide (0 < dg')) ov' = R := by
  rw [← hF, hz]
  simp only [fin, hd, if_true, hd', decide_true]
  cases ov with
  | true => simp at hs; simp [hs]
  | false =>
    by_cases ho : lim < mag * 10 + (z - 48).toNat
    · simp [ho] at hs; simp [hs, ho]
    · simp [ho] at hs; simp [hs, ho]
theorem fin_end {lim : Nat} {zs : List Int} {k mag dg : Nat} {ov : Bool} {z : Int} {R : Option Nat} (hF : fin lim (zs.drop k) mag (decide (0 < dg)) ov = R) (hz : zs.drop k = z :: zs.drop (k + 1)) (hd : isD z = false) (h45 : z ≠ 45) : (if decide (0 < dg) && !ov then some mag else none) = R := by
  rw [← hF, hz]
  simp only [fin, hd, h45, if_false, Bool.false_eq_true]
theorem fin_minus {lim : Nat} {zs : List Int} {k mag dg : Nat} {ov : Bool} {R : Option Nat} (hF : fin lim (zs.drop k) mag (decide (0 < dg)) ov = R) (hz : zs.drop k = 45 :: zs.drop (k + 1)) : none = R := by
  rw [← hF, hz]
  simp [fin, isD]
theorem fin_nil {lim : Nat} {zs : List Int} {k mag dg : Nat} {ov : Bool} {R : Option Nat} (hF : fin lim (zs.drop k) mag (decide (0 < dg)) ov = R) (hk : zs.length ≤ k) : (if decide (0 < dg) && !ov then some mag else none) = R := by
  rw [← hF, List.drop_eq_nil_of_le hk]
  simp only [fin]
theorem zz_neg {zs : List Int} (h6 : zs.take 6 = hd) (hz : zs.drop 6 = 45 :: zs.drop 7) : zz zs = (fin 9223372036854775808 (zs.drop 7) 0 false false).map fun (u : Nat) => -(u : Int) := by
  simp only [zz, h6, if_true, hz]
theorem zz_pos {zs : List Int} (h6 : zs.take 6 = hd) (hz : ∀ r, zs.drop 6 ≠ 45 :: r) : zz zs = (fin 9223372036854775807 (zs.drop 6) 0 false false).map fun (u : Nat) => (u : Int) := by
  simp only [zz, h6, if_true]
theorem head_at (k : Nat) (hk : k < 6) : ∃ h : Int, Hid (hd[k]? = some h) ∧ ∀ w, (Instr.index 9 (.string ⟨#[123, 34, 97, 116, 34, 58]⟩) (.int .i64 k)).run Tryd.prog w = .ok (.int .u8 h) w := by
  obtain rfl | rfl | rfl | rfl | rfl | rfl : k = 0 ∨ k = 1 ∨ k = 2 ∨ k = 3 ∨ k = 4 ∨ k = 5 := by omega
  all_goals exact ⟨_, rfl, fun w => by rw [run_index_string w 9 _ _ _ Tryd.underlying9]; rfl⟩
set_option maxRecDepth 100000 in
set_option maxHeartbeats 1000000 in
theorem stamp (v : Value) (zs : List Int) (w : World) (hr : Rd (Value.int .u8) w v zs) (hn : zs.length ≤ 1048576) : Calls Tryd.prog 11 #[v] w (Ans zs w) := by
  by_cases h6 : zs.length < 6
  · have hno : zz zs = none := zz_ne (fun e => by have := congrArg List.length e; rw [List.length_take] at this; simp [hd] at this; omega)
    obtain ⟨a, c, rfl⟩ := hr.form
    clear hr
    go_enter Tryd.func11, Tryd.ntmps11
    go_wp2
    go_ret2
    exact ⟨0, false, rfl, .inr ⟨rfl, hno⟩, 0, rfl⟩
  · obtain ⟨b, off, c, rfl, hle, hc⟩ := hr.at (by omega)
    clear hr
    go_enter Tryd.func11, Tryd.ntmps11
    go_wp2
    go_loopw [4] (fun i wr => ∃ k n : Nat, k ≤ 6 ∧ i = .int .i64 k ∧ Hid (zs.take k = hd.take k) ∧ wr = w.drewN n) (fun i _ => 6 - (intOf i).toNat)
    case atStart => exact ⟨0, 0, by omega, rfl, rfl, rfl⟩
    case round =>
      obtain ⟨k, n, hk, rfl, HT, rfl⟩ := hrel
      by_cases hlt : k < 6
      · obtain ⟨z, hz⟩ := get_some (xs := zs) (k := k) (by omega)
        have g := hc.out k z hz
        have HZ := Lib.hid hz
        clear hz
        obtain ⟨h, HH, hix⟩ := head_at k hlt
        by_cases q : z = h
        · subst q
          go_wp2
          go_quiet (fail)
          go_wp2
          go_roundw
          case rel => exact ⟨k + 1, n + nq, by omega, by go_num, take_succ HT.out HZ.out HH.out, by simp⟩
          case measure => simp [intOf]; omega
        · go_wp2
          go_quiet (fail)
          go_wp2
          go_ret2
          exact ⟨0, false, rfl, .inr ⟨rfl, zz_ne (take_ne HZ.out (by omega) (by rw [HH.out]; simp; omega))⟩, n + nq, by simp⟩
      · have HT6 : Hid (zs.take 6 = hd) := by
          have : k = 6 := by omega
          subst this; exact HT.out
        obtain rfl : k = 6 := by omega
        clear HT hlt
        by_cases h7 : 6 < zs.length
        · obtain ⟨z0, hz0⟩ := get_some h7
          have g0 := hc.out 6 z0 hz0
          have HZ0 := Lib.hid (drop_cons hz0)
          clear hz0
          by_cases h45 : z0 = 45
          · subst h45
            have HZZ := Lib.hid (zz_neg HT6.out HZ0.out)
            go_wp2
            go_loop [5, 8, 9, 10] (fun i m d o => ∃ (k mag dg : Nat) (ov : Bool), k ≤ zs.length ∧ 7 ≤ k ∧ dg ≤ k ∧ i = .int .i64 k ∧ m = .int .u64 mag ∧ d = .int .i64 dg ∧ o = .bool ov ∧ mag ≤ 9223372036854775808 ∧ Hid (fin 9223372036854775808 (zs.drop k) mag (decide (0 < dg)) ov = fin 9223372036854775808 (zs.drop 7) 0 false false)) (fun i _ _ _ => zs.length - (intOf i).toNat)
            case atStart => exact ⟨7, 0, 0, false, by omega, by omega, by omega, rfl, rfl, rfl, rfl, by omega, rfl⟩
            case round =>
              obtain ⟨k, mag, dg, ov, hk, hk6, hdk, rfl, rfl, rfl, rfl, hm, HF⟩ := hrel
              by_cases hlt : k < zs.length
              · obtain ⟨z, hz⟩ := get_some hlt
                have g := hc.out k z hz
                have HZ := Lib.hid (drop_cons hz)
                clear hz
                by_cases z1 : 48 ≤ z
                · by_cases z2 : z ≤ 57
                  · cases ov with
                    | false =>
                      by_cases ho : 9223372036854775808 < mag * 10 + (z - 48).toNat
                      · have HM := Lib.hid (fin_more (mag' := mag) (dg' := dg + 1) (ov' := true) HF.out HZ.out (isD_of z1 z2) (by simp [ho]) (by omega))
                        have ho' : (9223372036854775808 - (z - 48)) / 10 < (mag : Int) := by omega
                        go_wp2
                        go_round
                        case rel => exact ⟨k + 1, mag, dg + 1, true, by omega, by omega, by omega, by go_num, rfl, by go_num, rfl, hm, HM.out⟩
                        case measure => simp [intOf]; omega
                      · have HM := Lib.hid (fin_more (mag' := mag * 10 + (z - 48).toNat) (dg' := dg + 1) (ov' := false) HF.out HZ.out (isD_of z1 z2) (by simp [ho]) (by omega))
                        have ho' : ¬ (9223372036854775808 - (z - 48)) / 10 < (mag : Int) := by omega
                        go_wp2
                        go_round
                        case rel => exact ⟨k + 1, mag * 10 + (z - 48).toNat, dg + 1, false, by omega, by omega, by omega, by go_num, by go_num, by go_num, rfl, by omega, HM.out⟩
                        case measure => simp [intOf]; omega
                    | true =>
                      have HM := Lib.hid (fin_more (mag' := mag) (dg' := dg + 1) (ov' := true) HF.out HZ.out (isD_of z1 z2) (by simp) (by omega))
                      go_wp2
                      go_round
                      case rel => exact ⟨k + 1, mag, dg + 1, true, by omega, by omega, by omega, by go_num, rfl, by go_num, rfl, hm, HM.out⟩
                      case measure => simp [intOf]; omega
                  · have HE := Lib.hid (fin_end HF.out HZ.out (isD_hi z2) (by omega))
                    by_cases hdg : dg = 0
                    · subst hdg
                      go_wp2
                      go_ret2
                      exact ⟨0, false, rfl, .inr ⟨rfl, by rw [HZZ.out, ← HE.out]; simp⟩, n, rfl⟩
                    · cases ov with
                      | true =>
                        go_wp2
                        go_ret2
                        exact ⟨0, false, rfl, .inr ⟨rfl, by rw [HZZ.out, ← HE.out]; simp⟩, n, rfl⟩
                      | false =>
                        by_cases hb : mag = 9223372036854775808
                        · subst hb
                          go_wp2
                          go_ret2
                          exact ⟨-9223372036854775808, true, rfl, .inl ⟨rfl, by rw [HZZ.out, ← HE.out, if_pos (by simp; omega)]; rfl⟩, n, rfl⟩
                        · go_wp2
                          go_ret2
                          exact ⟨-(mag : Int), true, rfl, .inl ⟨rfl, by rw [HZZ.out, ← HE.out, if_pos (by simp; omega)]; rfl⟩, n, rfl⟩
                · by_cases z45 : z = 45
                  · subst z45
                    have HE := Lib.hid (fin_minus HF.out HZ.out)
                    by_cases hdg : dg = 0
                    · subst hdg
                      go_wp2
                      go_ret2
                      exact ⟨0, false, rfl, .inr ⟨rfl, by rw [HZZ.out, ← HE.out]; rfl⟩, n, rfl⟩
                    · cases ov with
                      | true =>
                        go_wp2
                        go_ret2
                        exact ⟨0, false, rfl, .inr ⟨rfl, by rw [HZZ.out, ← HE.out]; rfl⟩, n, rfl⟩
                      | false =>
                        go_wp2
                        go_ret2
                        exact ⟨0, false, rfl, .inr ⟨rfl, by rw [HZZ.out, ← HE.out]; rfl⟩, n, rfl⟩
                  · have HE := Lib.hid (fin_end HF.out HZ.out (isD_lo z1) z45)
                    by_cases hdg : dg = 0
                    · subst hdg
                      go_wp2
                      go_ret2
                      exact ⟨0, false, rfl, .inr ⟨rfl, by rw [HZZ.out, ← HE.out]; simp⟩, n, rfl⟩
                    · cases ov with
                      | true =>
                        go_wp2
                        go_ret2
                        exact ⟨0, false, rfl, .inr ⟨rfl, by rw [HZZ.out, ← HE.out]; simp⟩, n, rfl⟩
                      | false =>
                        by_cases hb : mag = 9223372036854775808
                        · subst hb
                          go_wp2
                          go_ret2
                          exact ⟨-9223372036854775808, true, rfl, .inl ⟨rfl, by rw [HZZ.out, ← HE.out, if_pos (by simp; omega)]; rfl⟩, n, rfl⟩
                        · go_wp2
                          go_ret2
                          exact ⟨-(mag : Int), true, rfl, .inl ⟨rfl, by rw [HZZ.out, ← HE.out, if_pos (by simp; omega)]; rfl⟩, n, rfl⟩
              · have HE := Lib.hid (fin_nil HF.out (by omega))
                by_cases hdg : dg = 0
                · subst hdg
                  go_wp2
                  go_ret2
                  exact ⟨0, false, rfl, .inr ⟨rfl, by rw [HZZ.out, ← HE.out]; simp⟩, n, rfl⟩
                · cases ov with
                  | true =>
                    go_wp2
                    go_ret2
                    exact ⟨0, false, rfl, .inr ⟨rfl, by rw [HZZ.out, ← HE.out]; simp⟩, n, rfl⟩
                  | false =>
                    by_cases hb : mag = 9223372036854775808
                    · subst hb
                      go_wp2
                      go_ret2
                      exact ⟨-9223372036854775808, true, rfl, .inl ⟨rfl, by rw [HZZ.out, ← HE.out, if_pos (by simp; omega)]; rfl⟩, n, rfl⟩
                    · go_wp2
                      go_ret2
                      exact ⟨-(mag : Int), true, rfl, .inl ⟨rfl, by rw [HZZ.out, ← HE.out, if_pos (by simp; omega)]; rfl⟩, n, rfl⟩
          · have HZZ := Lib.hid (zz_pos HT6.out (fun r e => h45 (by rw [HZ0.out] at e; exact (List.cons.inj e).1)))
            go_wp2
            go_loop [5, 8, 9, 10] (fun i m d o => ∃ (k mag dg : Nat) (ov : Bool), k ≤ zs.length ∧ 6 ≤ k ∧ dg ≤ k ∧ i = .int .i64 k ∧ m = .int .u64 mag ∧ d = .int .i64 dg ∧ o = .bool ov ∧ mag ≤ 9223372036854775807 ∧ Hid (fin 9223372036854775807 (zs.drop k) mag (decide (0 < dg)) ov = fin 9223372036854775807 (zs.drop 6) 0 false false)) (fun i _ _ _ => zs.length - (intOf i).toNat)
            case atStart => exact ⟨6, 0, 0, false, by omega, by omega, by omega, rfl, rfl, rfl, rfl, by omega, rfl⟩
            case round =>
              obtain ⟨k, mag, dg, ov, hk, hk6, hdk, rfl, rfl, rfl, rfl, hm, HF⟩ := hrel
              by_cases hlt : k < zs.length
              · obtain ⟨z, hz⟩ := get_some hlt
                have g := hc.out k z hz
                have HZ := Lib.hid (drop_cons hz)
                clear hz
                by_cases z1 : 48 ≤ z
                · by_cases z2 : z ≤ 57
                  · cases ov with
                    | false =>
                      by_cases ho : 9223372036854775807 < mag * 10 + (z - 48).toNat
                      · have HM := Lib.hid (fin_more (mag' := mag) (dg' := dg + 1) (ov' := true) HF.out HZ.out (isD_of z1 z2) (by simp [ho]) (by omega))
                        have ho' : (9223372036854775807 - (z - 48)) / 10 < (mag : Int) := by omega
                        go_wp2
                        go_round
                        case rel => exact ⟨k + 1, mag, dg + 1, true, by omega, by omega, by omega, by go_num, rfl, by go_num, rfl, hm, HM.out⟩
                        case measure => simp [intOf]; omega
                      · have HM := Lib.hid (fin_more (mag' := mag * 10 + (z - 48).toNat) (dg' := dg + 1) (ov' := false) HF.out HZ.out (isD_of z1 z2) (by simp [ho]) (by omega))
                        have ho' : ¬ (9223372036854775807 - (z - 48)) / 10 < (mag : Int) := by omega
                        go_wp2
                        go_round
                        case rel => exact ⟨k + 1, mag * 10 + (z - 48).toNat, dg + 1, false, by omega, by omega, by omega, by go_num, by go_num, by go_num, rfl, by omega, HM.out⟩
                        case measure => simp [intOf]; omega
                    | true =>
                      have HM := Lib.hid (fin_more (mag' := mag) (dg' := dg + 1) (ov' := true) HF.out HZ.out (isD_of z1 z2) (by simp) (by omega))
                      go_wp2
                      go_round
                      case rel => exact ⟨k + 1, mag, dg + 1, true, by omega, by omega, by omega, by go_num, rfl, by go_num, rfl, hm, HM.out⟩
                      case measure => simp [intOf]; omega
                  · have HE := Lib.hid (fin_end HF.out HZ.out (isD_hi z2) (by omega))
                    by_cases hdg : dg = 0
                    · subst hdg
                      go_wp2
                      go_ret2
                      exact ⟨0, false, rfl, .inr ⟨rfl, by rw [HZZ.out, ← HE.out]; simp⟩, n, rfl⟩
                    · cases ov with
                      | true =>
                        go_wp2
                        go_ret2
                        exact ⟨0, false, rfl, .inr ⟨rfl, by rw [HZZ.out, ← HE.out]; simp⟩, n, rfl⟩
                      | false =>
                        go_wp2
                        go_ret2
                        exact ⟨mag, true, rfl, .inl ⟨rfl, by rw [HZZ.out, ← HE.out, if_pos (by simp; omega)]; rfl⟩, n, rfl⟩
                · by_cases z45 : z = 45
                  · subst z45
                    have HE := Lib.hid (fin_minus HF.out HZ.out)
                    by_cases hdg : dg = 0
                    · subst hdg
                      go_wp2
                      go_ret2
                      exact ⟨0, false, rfl, .inr ⟨rfl, by rw [HZZ.out, ← HE.out]; rfl⟩, n, rfl⟩
                    · cases ov with
                      | true =>
                        go_wp2
                        go_ret2
                        exact ⟨0, false, rfl, .inr ⟨rfl, by rw [HZZ.out, ← HE.out]; rfl⟩, n, rfl⟩
                      | false =>
                        go_wp2
                        go_ret2
                        exact ⟨0, false, rfl, .inr ⟨rfl, by rw [HZZ.out, ← HE.out]; rfl⟩, n, rfl⟩
                  · have HE := Lib.hid (fin_end HF.out HZ.out (isD_lo z1) z45)
                    by_cases hdg : dg = 0
                    · subst hdg
                      go_wp2
                      go_ret2
                      exact ⟨0, false, rfl, .inr ⟨rfl, by rw [HZZ.out, ← HE.out]; simp⟩, n, rfl⟩
                    · cases ov with
                      | true =>
                        go_wp2
                        go_ret2
                        exact ⟨0, false, rfl, .inr ⟨rfl, by rw [HZZ.out, ← HE.out]; simp⟩, n, rfl⟩
                      | false =>
                        go_wp2
                        go_ret2
                        exact ⟨mag, true, rfl, .inl ⟨rfl, by rw [HZZ.out, ← HE.out, if_pos (by simp; omega)]; rfl⟩, n, rfl⟩
              · have HE := Lib.hid (fin_nil HF.out (by omega))
                by_cases hdg : dg = 0
                · subst hdg
                  go_wp2
                  go_ret2
                  exact ⟨0, false, rfl, .inr ⟨rfl, by rw [HZZ.out, ← HE.out]; simp⟩, n, rfl⟩
                · cases ov with
                  | true =>
                    go_wp2
                    go_ret2
                    exact ⟨0, false, rfl, .inr ⟨rfl, by rw [HZZ.out, ← HE.out]; simp⟩, n, rfl⟩
                  | false =>
                    go_wp2
                    go_ret2
                    exact ⟨mag, true, rfl, .inl ⟨rfl, by rw [HZZ.out, ← HE.out, if_pos (by simp; omega)]; rfl⟩, n, rfl⟩
        · have HZZ : Hid (zz zs = none) := by
            have := zz_pos HT6.out (fun r e => by rw [List.drop_eq_nil_of_le (by omega)] at e; cases e)
            rw [List.drop_eq_nil_of_le (by omega)] at this
            exact this
          go_wp2
          go_loop [5, 8, 9, 10] (fun i m d o => i = .int .i64 6 ∧ m = .int .u64 0 ∧ d = .int .i64 0 ∧ o = .bool false) (fun _ _ _ _ => 0)
          case atStart => exact ⟨rfl, rfl, rfl, rfl⟩
          case round =>
            obtain ⟨rfl, rfl, rfl, rfl⟩ := hrel
            go_wp2
            go_ret2
            exact ⟨0, false, rfl, .inr ⟨rfl, HZZ.out⟩, n, rfl⟩
end Go.Proofs.Qxb6605845aDoor.StampWalk
