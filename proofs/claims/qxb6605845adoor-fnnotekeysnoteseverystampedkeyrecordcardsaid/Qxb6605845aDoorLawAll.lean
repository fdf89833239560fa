/-
  The walk of FnNoteKeysNotesEveryStampedKeyRecord.
-/
import Derived.Test.Qxb6605845aDoorLawTop
import Derived.Test.Qxb6605845aDoorPair
import Derived.Maps.AppendAt
namespace Go.Proofs.Qxb6605845aDoor.LawAll
open Go.RowKit Go.Sort Mem Small Total Heap HeapWalk Stamp RecWalk Note Fill SortWalk Pair KOrd
open LawTop (Yes toW)

set_option maxHeartbeats 4000000 in
set_option maxRecDepth 100000 in
theorem walk (v1 v2 v3 : Value) (ts ks : List ByteArray) (vs : List BS) (w : World) (h1 : Rd Value.string w v1 ts) (h2 : Rd Value.string w v2 ks) (h3 : RdV w v3 vs)
    (n1 : ts.length ≤ 4096) (n2 : ks.length ≤ 4096) (n3 : vs.length ≤ 4096) (n : Nat) (hn : min (min ts.length ks.length) vs.length = n)
    (s1 : ∀ s ∈ ts, s.size ≤ 9223372036854775807) (s2 : ∀ s ∈ ks, s.size ≤ 9223372036854775807) (s3 : ∀ p ∈ vs, p.1.2.1 ≤ 9223372036854775807) (s3' : ∀ p ∈ vs, p.1.2.1 = p.2.length)
    (hz : ∀ p ∈ vs, ∀ z ∈ p.2, 0 ≤ z ∧ z ≤ 255) (hs : Sent w) :
    Calls Tryd.prog 3 #[v1, v2, v3] w (Yes w) := by
  have ht := total5 v1 v2 v3 ts ks vs w h1 h2 h3.1 (by omega) (by omega) (by omega) s1 s2 s3
  have e8 := stringsBytes v1 ts w h1 (by omega) s1
  have e8' := stringsBytes v2 ks w h2 (by omega) s2
  have e9 := bytesBytes v3 vs w h3.1 (by omega) s3
  obtain ⟨a1, c1, rfl⟩ := h1.form
  obtain ⟨a2, c2, rfl⟩ := h2.form
  obtain ⟨a3, c3, rfl⟩ := h3.1.form
  have hl1 : n ≤ ts.length := by omega
  have hl2 : n ≤ ks.length := by omega
  have hl3 : n ≤ vs.length := by omega
  have HN := Lib.hid hn
  have HZ := Lib.hid hz
  have HSt := Lib.hid hs
  clear hn hz hs
  go_enter Tryd.func3, Tryd.ntmps3
  go_wp2_with (go_at_call 5; refine ht.mono ?_; rintro e w' ⟨bb, rfl, rfl, hbb⟩; refine Hid.out ?_)
  refine Lib.hid ?_
  cases bb
  case false =>
    go_wp2
    go_ret
    exact ⟨rfl, Below.refl _ _⟩
  have hs3 : ∀ p ∈ vs, p.2.length ≤ 1048576 := fun p hp => by rw [← s3' p hp]; exact hbb rfl p hp
  have HS3 := Lib.hid hs3
  clear hbb hs3 s1 s2 s3 s3' ht
  go_wp2_with (go_at_call 6; refine e8.mono ?_; rintro e w' ⟨r1, rfl, hr1, hr1', rfl⟩; refine Hid.out ?_)
  refine Lib.hid ?_
  clear e8
  go_wp2_with (go_at_call 6; refine e8'.mono ?_; rintro e w' ⟨r2, rfl, hr2, hr2', rfl⟩; refine Hid.out ?_)
  refine Lib.hid ?_
  clear e8'
  go_wp2_with (go_at_call 7; refine e9.mono ?_; rintro e w' ⟨r3, rfl, hr3, hr3', rfl⟩; refine Hid.out ?_)
  refine Lib.hid ?_
  clear e9
  by_cases hsum : r1 + r2 + r3 ≤ 1048576
  case neg =>
    go_wp2
    go_ret
    exact ⟨rfl, Below.refl _ _⟩
  go_wp2_with (go_at_call 8; refine (cloneStrings _ ts w h1 (by omega)).mono ?_; rintro e W1 ⟨A1, C1, rfl, R1, B1, -⟩; refine Hid.out ?_)
  refine Lib.hid ?_
  have h2' := h2.below B1
  go_wp2_with (go_at_call 8; refine (cloneStrings _ ks W1 h2' (by omega)).mono ?_; rintro e W2 ⟨A2, C2, rfl, R2, B2, -⟩; refine Hid.out ?_)
  refine Lib.hid ?_
  have h3' := (h3.below B1).below B2
  go_wp2_with (go_at_call 9; refine (cloneList _ vs W2 h3' (by omega) HS3.out).mono ?_; rintro e W3 ⟨A3, C3, ys, rfl, hyl, hys, R3, B3⟩; refine Hid.out ?_)
  refine Lib.hid ?_
  have R1' := (R1.below B2).below B3
  have R2' := R2.below B3
  have BW : Below w.heap.size w W3 := (B1.trans (B2.mono B1.size)).trans (B3.mono (Nat.le_trans B1.size B2.size))
  have hm := min3 ts.length ks.length vs.length n HN.out W3
  have HY : Hid (∀ p ∈ ys, p.2.length ≤ 1048576 ∧ ∀ z ∈ p.2, 0 ≤ z ∧ z ≤ 255) := fun p hp => by
    have : p.2 ∈ vs.map Prod.snd := by rw [← hys]; exact List.mem_map_of_mem hp
    obtain ⟨r, hr, e⟩ := List.mem_map.1 this
    rw [← e]; exact ⟨HS3.out r hr, HZ.out r hr⟩
  have H1 := rd_parts' R1'
  have H2 := rd_parts' R2'
  have R3' : Rd encB W3 (.slice A3 ys.length C3) ys := by rw [hyl]; exact R3.1
  have H3 := rd_parts' R3'
  have HR3 := Lib.hid R3.2
  obtain ⟨ws, hws⟩ : ∃ ws, ws = wsOf ts ks ys := ⟨_, rfl⟩
  have hwl : ws.length = n := by rw [hws, wsOf_length, hyl]; exact HN.out
  have HWS := Lib.hid hws
  have HSt3 := Lib.hid (HSt.out.below BW)
  have HBW := Lib.hid BW
  clear h1 h2 h3 h2' h3' B1 B2 B3 R1 R2 HS3 hys R1' R2' R3' R3 hws HZ HSt BW
  have hmk := run_make_rows3 n (by omega) W3
  go_wp2_with (go_at_call 10; refine hm.mono ?_; rintro e w' ⟨rfl, rfl⟩; refine Hid.out ?_)
  refine Lib.hid ?_
  obtain ⟨WA, hWA⟩ : ∃ WA, W3.alloc (.cells (madeCells #[.string ByteArray.empty, .string ByteArray.empty, .slice none 0 0] (n * 3)) 34) = WA := ⟨_, rfl⟩
  rw [hWA] at hmk
  have hmA : (Instr.makeSlice 31 (.int .i64 0) (.int .i64 (n : Int))).run Tryd.prog WA = _ := makeM 0 n (Nat.zero_le _) (by omega) WA
  obtain ⟨WB, hWB⟩ : ∃ WB, WA.alloc (.cells (madeCells #[.int .i64 0] n) 2) = WB := ⟨_, rfl⟩
  rw [hWB] at hmA
  have hmB : (Instr.makeSlice 22 (.int .i64 0) (.int .i64 (n : Int))).run Tryd.prog WB = _ := makeK 0 n (Nat.zero_le _) (by omega) WB
  obtain ⟨WC, hWC⟩ : ∃ WC, WB.alloc (.cells (madeCells #[.string ByteArray.empty] n) 9) = WC := ⟨_, rfl⟩
  rw [hWC] at hmB
  have sA : WA.heap.size = W3.heap.size + 1 := by rw [← hWA]; exact alloc_size _ _
  have sB : WB.heap.size = W3.heap.size + 2 := by rw [← hWB, alloc_size, sA]
  have F0 : Hid (Filling WC W3.heap.size ws 0) := by
    rw [← hWC, ← hWB, ← hWA]
    exact Filling.alloc (Filling.alloc (Filling.start W3 ws (madeCells #[.string ByteArray.empty, .string ByteArray.empty, .slice none 0 0] (n * 3)) (by rw [size_madeCells, hwl])) _) _
  have FB : Hid (Below W3.heap.size W3 WC) := by
    rw [← hWC]
    refine Below.alloc ?_ (by omega) _
    rw [← hWB]
    refine Below.alloc ?_ (by omega) _
    rw [← hWA]
    exact (Below.refl _ _).alloc (Nat.le_refl _) _
  have P0 : Hid (Par WC WA.heap.size WB.heap.size n n 0 ([] : List KS).toArray) := by
    rw [← hWC, ← hWB]; exact Pair.start WA n (by omega)
  have heq := fun a n c n' c' w => Lib.run_eql_slice_nil (P := Tryd.prog) w 32 5 a n c n' c' Tryd.underlying32
  obtain ⟨gw, hgw⟩ : ∃ gw, W3.heap.size = gw := ⟨_, rfl⟩
  obtain ⟨gm, hgm⟩ : ∃ gm, WA.heap.size = gm := ⟨_, rfl⟩
  obtain ⟨gk, hgk⟩ : ∃ gk, WB.heap.size = gk := ⟨_, rfl⟩
  have l1 : gw < gm := by omega
  have l2 : gm < gk := by omega
  have e1 : ¬ (gw = gm) := by omega
  have e2 : ¬ (gw = gk) := by omega
  have e3 : ¬ (gm = gk) := by omega
  rw [hgw] at F0 FB hmk
  rw [hgm] at P0 hmA
  rw [hgk] at P0 hmB
  have HGW := Lib.hid hgw
  have HL1 := Lib.hid l1
  have HL2 := Lib.hid l2
  have HE1 := Lib.hid e1
  have HE2 := Lib.hid e2
  have HE3 := Lib.hid e3
  clear hgw hgm hgk sA sB hWA hWB hWC hm l1 l2 e1 e2 e3
  go_wp2
  go_loopw [9, 10, 11] (fun M K i wr => ∃ (k q : Nat) (l : List KS), k ≤ n ∧ q ≤ k ∧ i = .int .i64 k ∧ M = .slice (some ⟨gm, 0, none⟩) q n ∧ K = .slice (some ⟨gk, 0, none⟩) q n ∧ Hid (Filling wr gw ws k) ∧ Hid (Below gw W3 wr) ∧ Hid (l = noted (ws.take k)) ∧ Hid (Par wr gm gk n n q l.toArray)) (fun _ _ i _ => n - (intOf i).toNat)
  case atStart => exact ⟨0, 0, [], by omega, by omega, rfl, rfl, rfl, F0, FB, Lib.hid (by simp [noted]), P0⟩
  case round =>
    clear F0 FB P0 hmk hmA hmB
    obtain ⟨k, q, l, hk, hqk, rfl, rfl, rfl, HF, HB, HQ, HP⟩ := hrel
    by_cases hlt : k < n
    · obtain ⟨tb, ht⟩ := get_some (xs := ts) (k := k) (by omega)
      obtain ⟨ky, hky⟩ := get_some (xs := ks) (k := k) (by omega)
      obtain ⟨⟨⟨va, vl, vc⟩, zs⟩, hv⟩ := get_some (xs := ys) (k := k) (by omega)
      obtain ⟨b1, o1, rfl, c1⟩ := H1.out k _ ht
      obtain ⟨b2, o2, rfl, c2⟩ := H2.out k _ hky
      obtain ⟨b3, o3, rfl, c3⟩ := H3.out k _ hv
      have HX : Hid (ws[k]? = some (tb, ky, (va, vl, vc), zs)) := by rw [HWS.out]; exact wsOf_get ht hky hv
      have HV := Lib.hid hv
      clear ht hky hv
      have kt1 : (k : Int) < (ts.length : Int) := by omega
      have kt2 : (k : Int) < (ks.length : Int) := by omega
      have kt3 : (k : Int) < (vs.length : Int) := by omega
      have kn : (k : Int) < (n : Int) := by omega
      have g1 := toW HGW.out HB.out c1
      have g2 := toW HGW.out HB.out c2
      have g3 : wr.cell? ⟨b3, o3 + k, none⟩ = some (.slice va vl vc) := toW HGW.out HB.out c3
      obtain ⟨u0, g4⟩ := HF.out.cell (t := k * 3) (by omega)
      obtain ⟨u1, g5⟩ := HF.out.cell (t := k * 3 + 1) (by omega)
      obtain ⟨u2, g6⟩ := HF.out.cell (t := k * 3 + 2) (by omega)
      have f4 := HF.out.frozen (k * 3)
      have f5 := HF.out.frozen (k * 3 + 1)
      have f6 := HF.out.frozen (k * 3 + 2)
      have HF2 := Lib.hid (HF.out.step HX.out)
      have HB2 : Hid (Below gw W3 (((wr.setCell ⟨gw, k * 3, none⟩ (.string tb)).setCell ⟨gw, k * 3 + 1, none⟩ (.string ky)).setCell ⟨gw, k * 3 + 2, none⟩ (.slice va vl vc)).drew) := (((HB.out.setCell (Nat.le_refl _) _).setCell (Nat.le_refl _) _).setCell (Nat.le_refl _) _).drew
      have HP2 : Hid (Par (((wr.setCell ⟨gw, k * 3, none⟩ (.string tb)).setCell ⟨gw, k * 3 + 1, none⟩ (.string ky)).setCell ⟨gw, k * 3 + 2, none⟩ (.slice va vl vc)).drew gm gk n n q l.toArray) :=
        (Par.set (Par.set (Par.set HP.out (Ne.symm HE1.out) (Ne.symm HE2.out) _) (Ne.symm HE1.out) (Ne.symm HE2.out) _) (Ne.symm HE1.out) (Ne.symm HE2.out) _).drewN 1
      go_wp2
      go_region
      obtain ⟨wn, hwn⟩ : ∃ wn, (((wr.setCell ⟨gw, k * 3, none⟩ (.string tb)).setCell ⟨gw, k * 3 + 1, none⟩ (.string ky)).setCell ⟨gw, k * 3 + 2, none⟩ (.slice va vl vc)).drew = wn := ⟨_, rfl⟩
      rw [hwn]
      rw [hwn] at HB2 HP2
      have HF3 : Hid (Filling wn gw ws (k + 1)) := by rw [← hwn]; exact HF2.out
      have d1 := toW HGW.out HB2.out c1
      have d3 : wn.cell? ⟨b3, o3 + k, none⟩ = some (.slice va vl vc) := toW HGW.out HB2.out c3
      have HC2 := Lib.hid c2
      clear hwn HF HB HP HF2 g1 g2 g3 g4 g5 g6 f4 f5 f6 c1 c2 c3
      by_cases ht : tb.toList = [0, 105, 100, 101, 109, 112, 111, 116, 101, 110, 99, 121, 95, 107, 101, 121]
      · cases va with
        | none =>
          go_wp2
          go_roundw
          case rel => exact ⟨k + 1, q, l, by omega, by omega, by go_num, rfl, rfl, HF3, HB2, Lib.hid (by rw [noted_skip HX.out note_nil]; exact HQ.out), HP2⟩
          case measure => simp [intOf]; omega
        | some va =>
          have HNt := Lib.hid (note_some (ky := ky) (a := va) (l := vl) (c := vc) (zs := zs) ht)
          have hst := StampWalk.stamp (.slice (some va) vl vc) zs wn (by have := HR3.out _ (List.mem_of_getElem? HV.out); exact this.below (by rw [HGW.out]; exact HB2.out)) (HY.out _ (List.mem_of_getElem? HV.out)).1
          go_wp2_with (go_at_call 11; refine hst.mono ?_; rintro e w2 ⟨x, bb, rfl, hor, m, rfl⟩; refine Hid.out ?_)
          refine Lib.hid ?_
          clear hst d1 d3
          have HB4 := Lib.hid (b_drewN HB2.out m)
          have HF4 : Hid (Filling (wn.drewN m) gw ws (k + 1)) := HF3.out
          have HP4 : Hid (Par (wn.drewN m) gm gk n n q l.toArray) := HP2.out.drewN m
          obtain ⟨wd, hwd⟩ : ∃ wd, wn.drewN m = wd := ⟨_, rfl⟩
          rw [hwd] at HB4 HF4 HP4 ⊢
          clear hwd HB2 HF3 HP2
          rw [zz_eq] at hor
          rcases hor with ⟨rfl, hst⟩ | ⟨rfl, hst⟩
          · have HNx : Hid (note (tb, ky, (some va, vl, vc), zs) = some (x, ky)) := HNt.out.trans (by rw [hst]; rfl)
            clear hst
            obtain ⟨i0, hi, hz0, hz1, hz2⟩ := info_parts infoI64
            have rM := (HP4.out.m).alloc (.cells #[.int .i64 x] 2)
            go_wp2_with (at_builtin; refine wpList_append_fits _ rfl _ _ 31 rfl 0 2 i0 1 Tryd.underlying31 hi hz1 gm q n _ rfl rM ⟨wd.heap.size, 0, none⟩ 1 1 [Value.int .i64 x] rfl rfl (cell_one_new _ _ _) (by intro u hu; simp at hu; subst hu; rfl) (by omega) ?_)
            intro w1 own1 grow1
            have HB5 : Hid (Below gw W3 w1) := (HB4.out.alloc (Nat.le_of_lt HF4.out.lt) _).grown grow1 (Nat.le_of_lt (Filling.alloc HF4.out _).lt) (fun r hr => by cases hr; exact Nat.le_of_lt HL1.out)
            have HF5 : Hid (Filling w1 gw ws (k + 1)) := Filling.grown (Filling.alloc HF4.out _) grow1 (by simpa using HE1.out)
            have HK5 := Lib.hid (World.ownsRow.kept ((HP4.out.k).alloc (.cells #[.int .i64 x] 2)) grow1 (.inr (by simpa [Value.ownBlock] using Ne.symm HE3.out)))
            have d2 : w1.cell? ⟨b2, o2 + k, none⟩ = some (.string ky) := toW HGW.out HB5.out HC2.out
            have HM5 := Lib.hid own1
            clear rM own1 grow1 HB4 HF4 HP4 hi hz0 hz1 hz2
            obtain ⟨i1, hi, hz0, hz1, hz2⟩ := info_parts infoStr
            have rK := World.ownsRow.alloc HK5.out (.cells #[.string ky] 9)
            go_wp2_with (at_builtin; refine wpList_append_fits _ rfl _ _ 22 rfl 0 9 i1 1 Tryd.underlying22 hi hz1 gk q n _ rfl rK ⟨w1.heap.size, 0, none⟩ 1 1 [Value.string ky] rfl rfl (cell_one_new _ _ _) (by intro u hu; simp at hu; subst hu; rfl) (by omega) ?_)
            intro w2 own2 grow2
            have HB6 : Hid (Below gw W3 w2) := (HB5.out.alloc (Nat.le_of_lt HF5.out.lt) _).grown grow2 (Nat.le_of_lt (Filling.alloc HF5.out _).lt) (fun r hr => by cases hr; exact Nat.le_of_lt (Nat.lt_trans HL1.out HL2.out))
            have HF6 : Hid (Filling w2 gw ws (k + 1)) := Filling.grown (Filling.alloc HF5.out _) grow2 (by simpa using HE2.out)
            have HM6 := Lib.hid (World.ownsRow.kept (World.ownsRow.alloc HM5.out (.cells #[.string ky] 9)) grow2 (.inr (by simpa [Value.ownBlock] using HE3.out)))
            have HP6 : Hid (Par w2 gm gk n n (q + 1) (l ++ [(x, ky)]).toArray) := ⟨by simpa [vm] using HM6.out, by simpa [vk] using own2, HE3.out⟩
            clear rK own2 grow2 HB5 HF5 HK5 HM5 HM6 d2 hi hz0 hz1 hz2
            go_wp2
            go_roundw
            case rel => exact ⟨k + 1, q + 1, l ++ [(x, ky)], by omega, by omega, by go_num, rfl, rfl, HF6, HB6, Lib.hid (by rw [noted_more HX.out HNx.out, HQ.out]), HP6⟩
            case measure => simp [intOf]; omega
          · have HNx : Hid (note (tb, ky, (some va, vl, vc), zs) = none) := HNt.out.trans (by rw [hst]; rfl)
            clear hst
            go_wp2
            go_roundw
            case rel => exact ⟨k + 1, q, l, by omega, by omega, by go_num, rfl, rfl, HF4, HB4, Lib.hid (by rw [noted_skip HX.out HNx.out]; exact HQ.out), HP4⟩
            case measure => simp [intOf]; omega
      · go_wp2
        go_roundw
        case rel => exact ⟨k + 1, q, l, by omega, by omega, by go_num, rfl, rfl, HF3, HB2, Lib.hid (by rw [noted_skip HX.out (note_other ht)]; exact HQ.out), HP2⟩
        case measure => simp [intOf]; omega
    · obtain rfl : k = n := by omega
      have htk : ws.take k = ws := List.take_of_length_le (by omega)
      rw [htk] at HQ
      have HWR : Hid (WRow wr gw ws) := Filling.done HF.out (by omega) (fun x hx => by
          have hm := wsOf_mem (by rw [← HWS.out]; exact hx)
          exact (HR3.out _ hm).below (by rw [HGW.out]; exact HB.out)) (fun x hx => (HY.out _ (wsOf_mem (by rw [← HWS.out]; exact hx))).1) (fun x hx => (HY.out _ (wsOf_mem (by rw [← HWS.out]; exact hx))).2)
      have HSw := Lib.hid (HSt3.out.below (by rw [HGW.out]; exact HB.out))
      have HBw : Hid (Below w.heap.size w wr) := HBW.out.trans (HB.out.mono (by rw [← HGW.out]; exact HBW.out.size))
      have HGm : Hid (w.heap.size ≤ gm) := by have := HBW.out.size; rw [HGW.out] at this; exact Nat.le_trans this (Nat.le_of_lt HL1.out)
      have HLm := Lib.hid (Par.ltM HP.out)
      have HLk := Lib.hid (Par.ltK HP.out)
      have k12 := newEngine wr
      clear htk HF HN HR3 HY H1 H2 H3 HWS HSt3 HBW HB HGW HE1 HE2 HE3 HL1
      go_wp2_with (go_at_call 12; refine k12.mono ?_; rintro e w4 ⟨rfl, hA, hB4⟩; refine Hid.out ?_)
      refine Lib.hid ?_
      clear k12
      have k13 := zzNoteKeys wr.heap.size gw k k ws wr w4 rfl hB4 hA HWR.out HSw.out hwl (by omega)
      have HB4 := Lib.hid hB4
      clear hA hB4
      obtain ⟨g, hg⟩ : ∃ g, wr.heap.size = g := ⟨_, rfl⟩
      rw [hg] at k13 HB4 HLm HLk ⊢
      have HBg : w.heap.size ≤ g := by rw [← hg]; exact HBw.out.size
      clear hg
      go_wp2_with (go_at_call 13; refine k13.mono ?_; rintro e w5 ⟨rfl, h', a1, a2, a3, a4⟩; refine Hid.out ?_)
      refine Lib.hid ?_
      clear k13
      have k14 := keysLen g h' w5 a1
      have hlen : h'.length = q := by
        have := HP.out.size
        rw [a2.length_eq, ← HQ.out]; simpa using this
      rw [hlen] at k14
      have HA := Lib.hid a1
      have HPm := Lib.hid a2
      have HP5 : Hid (Par w5 gm gk k k q l.toArray) := Par.below (Par.below HP.out HB4.out HLm.out HLk.out) a4 HLm.out HLk.out
      have HBf : Hid (Below w.heap.size w w5) := HBw.out.trans ((HB4.out.mono HBg).trans (a4.mono HBg))
      have HLn := Lib.hid hlen
      clear a1 a2 a3 a4 hlen HWR HSw HBw HB4 HBg HP HLm HLk
      go_wp2_with (go_at_call 14; refine k14.mono ?_; rintro e w6 ⟨rfl, rfl⟩; refine Hid.out ?_)
      refine Lib.hid ?_
      clear k14
      have hM2 := makeM q q (Nat.le_refl _) (by omega) w5
      obtain ⟨W6, hW6⟩ : ∃ W6, w5.alloc (.cells (madeCells #[.int .i64 0] q) 2) = W6 := ⟨_, rfl⟩
      rw [hW6] at hM2
      have hK2 := makeK q q (Nat.le_refl _) (by omega) W6
      obtain ⟨W7, hW7⟩ : ∃ W7, W6.alloc (.cells (madeCells #[.string ByteArray.empty] q) 9) = W7 := ⟨_, rfl⟩
      rw [hW7] at hK2
      have s6 : W6.heap.size = w5.heap.size + 1 := by rw [← hW6]; exact alloc_size _ _
      have X0 : Hid (Fills vm W7 w5.heap.size 2 h' 0) := by
        rw [← hW7]
        refine Fills.below (w := W6) (B := W6.heap.size) ?_ ((Below.refl _ _).alloc (Nat.le_refl _) _) (by omega)
        rw [← hW6]
        exact Fills.start _ (by rw [size_madeCells]; exact HLn.out.symm)
      have Y0 : Hid (Fills vk W7 W6.heap.size 9 h' 0) := by rw [← hW7]; exact Fills.start _ (by rw [size_madeCells]; exact HLn.out.symm)
      have Z0 : Hid (Below w5.heap.size w5 W7) := by
        rw [← hW7]
        refine Below.alloc ?_ (by omega) _
        rw [← hW6]
        exact (Below.refl _ _).alloc (Nat.le_refl _) _
      obtain ⟨ga, hga⟩ : ∃ ga, w5.heap.size = ga := ⟨_, rfl⟩
      obtain ⟨gb, hgb⟩ : ∃ gb, W6.heap.size = gb := ⟨_, rfl⟩
      have hab : ga < gb := by omega
      have HMa : Hid (gm < ga) := by rw [← hga]; exact Par.ltM HP5.out
      have HKa : Hid (gk < ga) := by rw [← hga]; exact Par.ltK HP5.out
      rw [hga] at X0 Z0 hM2
      rw [hgb] at Y0 hK2
      have HGa := Lib.hid hga
      have HAb := Lib.hid hab
      clear hga hgb hab s6 hW6 hW7
      go_wp2
      go_loopw [18] (fun i wq => ∃ j : Nat, j ≤ q ∧ i = .int .i64 j ∧ Hid (Fills vm wq ga 2 h' j) ∧ Hid (Fills vk wq gb 9 h' j) ∧ Hid (Below ga w5 wq)) (fun i _ => q - (intOf i).toNat)
      case atStart => exact ⟨0, by omega, rfl, X0, Y0, Z0⟩
      case round =>
        clear X0 Y0 Z0 hM2 hK2
        rename World => wq
        obtain ⟨j, hj, rfl, HX, HY, HZ⟩ := hrel
        by_cases hjq : j < q
        · obtain ⟨⟨x1, x2⟩, hx⟩ := get_some (xs := h') (k := j) (by rw [HLn.out]; omega)
          have kx : Calls Tryd.prog 15 #[.pointer (some ⟨g, 0, none⟩), .int .i64 j] wq fun e w' => e = .returned (.tuple #[.int .i64 x1, .string x2]) ∧ ∃ q, w' = wq.drewN q := keyAt g j h' (x1, x2) wq (HA.out.below (by rw [HGa.out]; exact HZ.out)) hx
          have HXx := Lib.hid hx
          clear hx
          have jq : (j : Int) < (q : Int) := by omega
          go_wp2_with (go_at_call 15; refine kx.mono ?_; rintro e w8 ⟨rfl, p2, rfl⟩; refine Hid.out ?_)
          refine Lib.hid ?_
          clear kx
          have HX1 : Hid (Fills vm (wq.drewN p2) ga 2 h' j) := HX.out
          have HY1 : Hid (Fills vk (wq.drewN p2) gb 9 h' j) := HY.out
          have HZ1 : Hid (Below ga w5 (wq.drewN p2)) := b_drewN HZ.out p2
          obtain ⟨wd, hwd⟩ : ∃ wd, wq.drewN p2 = wd := ⟨_, rfl⟩
          rw [hwd] at HX1 HY1 HZ1 ⊢
          clear hwd HX HY HZ
          obtain ⟨u1, c1⟩ := HX1.out.cell (i := j) (by rw [HLn.out]; omega)
          obtain ⟨u2, c2⟩ := HY1.out.cell (i := j) (by rw [HLn.out]; omega)
          have f1 := HX1.out.frozen j
          have f2 := HY1.out.frozen j
          have hne : ga ≠ gb := Nat.ne_of_lt HAb.out
          have HX2 : Hid (Fills vm ((wd.setCell ⟨ga, j, none⟩ (.int .i64 x1)).setCell ⟨gb, j, none⟩ (.string x2)) ga 2 h' (j + 1)) := Fills.other (Fills.step HX1.out HXx.out) hne.symm _
          have HY2 : Hid (Fills vk ((wd.setCell ⟨ga, j, none⟩ (.int .i64 x1)).setCell ⟨gb, j, none⟩ (.string x2)) gb 9 h' (j + 1)) := Fills.step (Fills.other HY1.out hne _) HXx.out
          have HZ2 : Hid (Below ga w5 ((wd.setCell ⟨ga, j, none⟩ (.int .i64 x1)).setCell ⟨gb, j, none⟩ (.string x2))) := (HZ1.out.setCell (Nat.le_refl _) _).setCell (Nat.le_of_lt HAb.out) _
          go_wp2
          go_roundw
          case rel => exact ⟨j + 1, by omega, by go_num, HX2, HY2, HZ2⟩
          case measure => simp [intOf]; omega
        · obtain rfl : q = j := by omega
          have HPg : Hid (Par wq ga gb q q q h'.toArray) := ofOwn (HX.out.done (by rw [HLn.out]; exact Nat.le_refl _)) (HY.out.done (by rw [HLn.out]; exact Nat.le_refl _)) HLn.out (by omega) (Nat.ne_of_lt HAb.out)
          have HPw : Hid (Par wq gm gk k k q l.toArray) := Par.below HP5.out HZ.out HMa.out HKa.out
          have HBq : Hid (Below w.heap.size w wq) := HBf.out.trans (HZ.out.mono (by rw [← HGa.out]; exact HBf.out.size))
          have HBa : Hid (w.heap.size ≤ ga) := by rw [← HGa.out]; exact HBf.out.size
          have k16 := SortWalk.sort gm gk k k q l.toArray wq HPw.out (by omega)
          have HPP : Hid (h'.Perm l) := by rw [HQ.out]; exact HPm.out
          clear HX HY HZ HPw HP5 HBf HGa HA HPm HQ HLn
          go_wp2_with (go_at_call 16; refine k16.mono ?_; rintro e w8 ⟨rfl, J, p1, p2, p3, p4⟩; refine Hid.out ?_)
          refine Lib.hid ?_
          clear k16
          have a1 := HMa.out
          have a2 := HKa.out
          have a3 := HAb.out
          have a4 := HL2.out
          have a5 := HGm.out
          have a6 := HBa.out
          have HPg8 : Par w8 ga gb q q q h'.toArray := Par.other HPg.out p4 (by omega) (by omega) (by omega) (by omega)
          have k16 := SortWalk.sort ga gb q q q h'.toArray w8 HPg8 (by omega)
          have HB8 : Hid (Below w.heap.size w w8) := Below.fr HBq.out p4 HBq.out.size (by omega) (by omega)
          have HP1 := Lib.hid p1
          have HP2 := Lib.hid p2
          have HP3 := Lib.hid p3
          clear p1 p2 p3 p4 a1 a2 a3 a4 a5 a6 HPg8 HPg HBq
          go_wp2_with (go_at_call 16; refine k16.mono ?_; rintro e w9 ⟨rfl, J', r1, r2, r3, r4⟩; refine Hid.out ?_)
          refine Lib.hid ?_
          clear k16
          have a1 := HMa.out
          have a2 := HKa.out
          have a3 := HAb.out
          have a5 := HGm.out
          have a6 := HBa.out
          have hJ : J' = J := sorted_one q J' J r1.size HP1.out.size r3 HP3.out (r2.trans (HPP.out.trans HP2.out.symm))
          subst hJ
          have HR1 := Lib.hid r1
          have HR2 : Hid (Par w9 gm gk k k q J') := Par.other HP1.out r4 (by omega) (by omega) (by omega) (by omega)
          have HB9 : Hid (Below w.heap.size w w9) := Below.fr HB8.out r4 HB8.out.size (by omega) (by omega)
          clear r1 r2 r3 r4 a1 a2 a3 a5 a6 HP1 HP2 HP3 HB8 HPP
          go_wp2
          go_loopw [21] (fun i wz => ∃ (j p : Nat), j ≤ q ∧ i = .int .i64 j ∧ wz = w9.drewN p) (fun i _ => q - (intOf i).toNat)
          case atStart => exact ⟨0, 0, by omega, rfl, rfl⟩
          case round =>
            obtain ⟨j, p, hj2, rfl, rfl⟩ := hrel
            by_cases hjq2 : j < q
            · have c1 := HR1.out.cellM hjq2
              have c2 := HR1.out.cellK hjq2
              have c3 := HR2.out.cellM hjq2
              have c4 := HR2.out.cellK hjq2
              obtain ⟨x, hx⟩ : ∃ x, J'[j]! = x := ⟨_, rfl⟩
              rw [hx] at c1 c2 c3 c4
              clear hx
              obtain ⟨x1, x2⟩ := x
              have jq : (j : Int) < (q : Int) := by omega
              go_wp2
              go_quiet (fail)
              go_wp2
              go_roundw
              case rel => exact ⟨j + 1, _, by omega, by go_num, rfl⟩
              case measure => simp [intOf]; omega
            · go_wp2
              go_ret
              exact ⟨rfl, b_drewN HB9.out p⟩

set_option maxHeartbeats 1000000 in
set_option maxRecDepth 100000 in
theorem walk_big (v1 v2 v3 : Value) (ts ks : List ByteArray) (vs : List BS) (w : World) (h1 : Rd Value.string w v1 ts) (h2 : Rd Value.string w v2 ks) (h3 : RdV w v3 vs)
    (n1 : ts.length ≤ 9223372036854775807) (n2 : ks.length ≤ 9223372036854775807) (n3 : vs.length ≤ 9223372036854775807) (hbig : 4096 < ts.length ∨ 4096 < ks.length ∨ 4096 < vs.length)
    (s1 : ∀ s ∈ ts, s.size ≤ 9223372036854775807) (s2 : ∀ s ∈ ks, s.size ≤ 9223372036854775807) (s3 : ∀ p ∈ vs, p.1.2.1 ≤ 9223372036854775807) :
    Calls Tryd.prog 3 #[v1, v2, v3] w (Yes w) := by
  have ht := total5 v1 v2 v3 ts ks vs w h1 h2 h3.1 n1 n2 n3 s1 s2 s3
  obtain ⟨a1, c1, rfl⟩ := h1.form
  obtain ⟨a2, c2, rfl⟩ := h2.form
  obtain ⟨a3, c3, rfl⟩ := h3.1.form
  clear h1 h2 h3 s1 s2 s3
  have HB := Lib.hid hbig
  clear hbig
  go_enter Tryd.func3, Tryd.ntmps3
  go_wp2_with (go_at_call 5; refine ht.mono ?_; rintro e w' ⟨bb, rfl, rfl, hbb⟩; refine Hid.out ?_)
  refine Lib.hid ?_
  clear hbb ht
  cases bb
  case false =>
    go_wp2
    go_ret
    exact ⟨rfl, Below.refl _ _⟩
  by_cases l1 : 4096 < ts.length
  · go_wp2
    go_ret
    exact ⟨rfl, Below.refl _ _⟩
  · by_cases l2 : 4096 < ks.length
    · go_wp2
      go_ret
      exact ⟨rfl, Below.refl _ _⟩
    · have l3 : 4096 < vs.length := by have := HB.out; omega
      go_wp2
      go_ret
      exact ⟨rfl, Below.refl _ _⟩
end Go.Proofs.Qxb6605845aDoor.LawAll
