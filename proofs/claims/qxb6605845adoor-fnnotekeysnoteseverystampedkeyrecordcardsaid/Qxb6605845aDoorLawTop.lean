/-
  The walk of FnNoteKeysEarliestStampOnTop.
-/
import Derived.Test.Qxb6605845aDoorFill
import Derived.Test.Qxb6605845aDoorStampWalk
namespace Go.Proofs.Qxb6605845aDoor.LawTop
open Go.RowKit Mem Small Total Heap HeapWalk Stamp RecWalk Note Fill

/-- Yes; what came in lies as it did. -/
def Yes (w : World) (e : Ending) (w' : World) : Prop := e = .returned (.bool true) ∧ Below w.heap.size w w'

theorem toW {W3 wx : World} {gw b o : Nat} {v : Value} (hg : W3.heap.size = gw) (hb : Below gw W3 wx) (h : W3.cell? ⟨b, o, none⟩ = some v) : wx.cell? ⟨b, o, none⟩ = some v := by
  rw [hb.cell (p := ⟨b, o, none⟩) (by rw [← hg]; exact cell_lt h)]; exact h

set_option maxHeartbeats 4000000 in
set_option maxRecDepth 100000 in
theorem walk (v1 v2 v3 : Value) (ts ks : List ByteArray) (vs : List BS) (w : World) (h1 : Rd Value.string w v1 ts) (h2 : Rd Value.string w v2 ks) (h3 : RdV w v3 vs)
    (n1 : ts.length ≤ 65536) (n2 : ks.length ≤ 65536) (n3 : vs.length ≤ 65536) (n : Nat) (hn : min (min ts.length ks.length) vs.length = n)
    (s1 : ∀ s ∈ ts, s.size ≤ 9223372036854775807) (s2 : ∀ s ∈ ks, s.size ≤ 9223372036854775807) (s3 : ∀ p ∈ vs, p.1.2.1 ≤ 9223372036854775807) (s3' : ∀ p ∈ vs, p.1.2.1 = p.2.length)
    (hz : ∀ p ∈ vs, ∀ z ∈ p.2, 0 ≤ z ∧ z ≤ 255) (hs : Sent w) :
    Calls Tryd.prog 4 #[v1, v2, v3] w (Yes w) := by
  have ht := total17 v1 v2 v3 ts ks vs w h1 h2 h3.1 (by omega) (by omega) (by omega) s1 s2 s3
  have e8 := stringsBytes v1 ts w h1 n1 s1
  have e8' := stringsBytes v2 ks w h2 n2 s2
  have e9 := bytesBytes v3 vs w h3.1 n3 s3
  obtain ⟨a1, c1, rfl⟩ := h1.form
  obtain ⟨a2, c2, rfl⟩ := h2.form
  obtain ⟨a3, c3, rfl⟩ := h3.1.form
  have hl1 : n ≤ ts.length := by omega
  have hl2 : n ≤ ks.length := by omega
  have hl3 : n ≤ vs.length := by omega
  have HN := Lib.hid hn
  have HZ := Lib.hid hz
  have HSt := Lib.hid hs
  clear hn hz hs
  go_enter Tryd.func4, Tryd.ntmps4
  go_wp2_with (go_at_call 17; refine ht.mono ?_; rintro e w' ⟨bb, rfl, rfl, hbb⟩; refine Hid.out ?_)
  refine Lib.hid ?_
  cases bb
  case false =>
    go_wp2
    go_ret
    exact ⟨rfl, Below.refl _ _⟩
  have hs3 : ∀ p ∈ vs, p.2.length ≤ 1048576 := fun p hp => by rw [← s3' p hp]; exact hbb rfl p hp
  have HS3 := Lib.hid hs3
  clear hbb hs3 s1 s2 s3 s3' ht
  go_wp2_with (go_at_call 6; refine e8.mono ?_; rintro e w' ⟨r1, rfl, hr1, hr1', rfl⟩; refine Hid.out ?_)
  refine Lib.hid ?_
  clear e8
  go_wp2_with (go_at_call 6; refine e8'.mono ?_; rintro e w' ⟨r2, rfl, hr2, hr2', rfl⟩; refine Hid.out ?_)
  refine Lib.hid ?_
  clear e8'
  go_wp2_with (go_at_call 7; refine e9.mono ?_; rintro e w' ⟨r3, rfl, hr3, hr3', rfl⟩; refine Hid.out ?_)
  refine Lib.hid ?_
  clear e9
  by_cases hsum : r1 + r2 + r3 ≤ 1048576
  case neg =>
    go_wp2
    go_ret
    exact ⟨rfl, Below.refl _ _⟩
  go_wp2_with (go_at_call 8; refine (cloneStrings _ ts w h1 (by omega)).mono ?_; rintro e W1 ⟨A1, C1, rfl, R1, B1, -⟩; refine Hid.out ?_)
  refine Lib.hid ?_
  have h2' := h2.below B1
  go_wp2_with (go_at_call 8; refine (cloneStrings _ ks W1 h2' (by omega)).mono ?_; rintro e W2 ⟨A2, C2, rfl, R2, B2, -⟩; refine Hid.out ?_)
  refine Lib.hid ?_
  have h3' := (h3.below B1).below B2
  go_wp2_with (go_at_call 9; refine (cloneList _ vs W2 h3' n3 HS3.out).mono ?_; rintro e W3 ⟨A3, C3, ys, rfl, hyl, hys, R3, B3⟩; refine Hid.out ?_)
  refine Lib.hid ?_
  have R1' := (R1.below B2).below B3
  have R2' := R2.below B3
  have BW : Below w.heap.size w W3 := (B1.trans (B2.mono B1.size)).trans (B3.mono (Nat.le_trans B1.size B2.size))
  have hm := min3 ts.length ks.length vs.length n HN.out W3
  have HY : Hid (∀ p ∈ ys, p.2.length ≤ 1048576 ∧ ∀ z ∈ p.2, 0 ≤ z ∧ z ≤ 255) := fun p hp => by
    have : p.2 ∈ vs.map Prod.snd := by rw [← hys]; exact List.mem_map_of_mem hp
    obtain ⟨r, hr, e⟩ := List.mem_map.1 this
    rw [← e]; exact ⟨HS3.out r hr, HZ.out r hr⟩
  have H1 := rd_parts' R1'
  have H2 := rd_parts' R2'
  have R3' : Rd encB W3 (.slice A3 ys.length C3) ys := by rw [hyl]; exact R3.1
  have H3 := rd_parts' R3'
  have HR3 := Lib.hid R3.2
  obtain ⟨ws, hws⟩ : ∃ ws, ws = wsOf ts ks ys := ⟨_, rfl⟩
  have hwl : ws.length = n := by rw [hws, wsOf_length, hyl]; exact HN.out
  have HWS := Lib.hid hws
  have HSt3 := Lib.hid (HSt.out.below BW)
  have HBW := Lib.hid BW
  clear h1 h2 h3 h2' h3' B1 B2 B3 R1 R2 HS3 hys R1' R2' R3' R3 hws HZ HSt BW
  have hmk := run_make_rows3 n (by omega) W3
  go_wp2_with (go_at_call 10; refine hm.mono ?_; rintro e w' ⟨rfl, rfl⟩; refine Hid.out ?_)
  refine Lib.hid ?_
  have F0 := Lib.hid (Filling.start W3 ws (madeCells #[.string ByteArray.empty, .string ByteArray.empty, .slice none 0 0] (n * 3)) (by rw [size_madeCells, hwl]))
  have FB : Hid (Below W3.heap.size W3 (W3.alloc (.cells (madeCells #[.string ByteArray.empty, .string ByteArray.empty, .slice none 0 0] (n * 3)) 34))) := (Below.refl _ _).alloc (Nat.le_refl _) _
  have heq := fun a n c n' c' w => Lib.run_eql_slice_nil (P := Tryd.prog) w 32 5 a n c n' c' Tryd.underlying32
  obtain ⟨gw, hgw⟩ : ∃ gw, W3.heap.size = gw := ⟨_, rfl⟩
  rw [hgw] at F0 FB hmk
  have HGW := Lib.hid hgw
  clear hgw hm
  go_wp2
  go_loopw [9, 10, 11] (fun cn L i wr => ∃ (k q : Nat) (l : Int), k ≤ n ∧ q ≤ k ∧ i = .int .i64 k ∧ cn = .int .i64 q ∧ L = .int .i64 l ∧ Hid (Filling wr gw ws k) ∧ Hid (Below gw W3 wr) ∧ Hid (q = (noted (ws.take k)).length) ∧ Hid (Least (noted (ws.take k)) l)) (fun _ _ i _ => n - (intOf i).toNat)
  case atStart => exact ⟨0, 0, 0, by omega, by omega, rfl, rfl, rfl, F0, FB, Lib.hid (by simp [noted]), Lib.hid (by simp only [List.take_zero]; exact Least.nil 0)⟩
  case round =>
    clear F0 FB hmk
    obtain ⟨k, q, l, hk, hqk, rfl, rfl, rfl, HF, HB, HQ, HL⟩ := hrel
    by_cases hlt : k < n
    · obtain ⟨tb, ht⟩ := get_some (xs := ts) (k := k) (by omega)
      obtain ⟨ky, hky⟩ := get_some (xs := ks) (k := k) (by omega)
      obtain ⟨⟨⟨va, vl, vc⟩, zs⟩, hv⟩ := get_some (xs := ys) (k := k) (by omega)
      obtain ⟨b1, o1, rfl, c1⟩ := H1.out k _ ht
      obtain ⟨b2, o2, rfl, c2⟩ := H2.out k _ hky
      obtain ⟨b3, o3, rfl, c3⟩ := H3.out k _ hv
      have HX : Hid (ws[k]? = some (tb, ky, (va, vl, vc), zs)) := by rw [HWS.out]; exact wsOf_get ht hky hv
      have HV := Lib.hid hv
      clear ht hky hv
      have kt1 : (k : Int) < (ts.length : Int) := by omega
      have kt2 : (k : Int) < (ks.length : Int) := by omega
      have kt3 : (k : Int) < (vs.length : Int) := by omega
      have kn : (k : Int) < (n : Int) := by omega
      have g1 := toW HGW.out HB.out c1
      have g2 := toW HGW.out HB.out c2
      have g3 : wr.cell? ⟨b3, o3 + k, none⟩ = some (.slice va vl vc) := toW HGW.out HB.out c3
      obtain ⟨u0, g4⟩ := HF.out.cell (t := k * 3) (by omega)
      obtain ⟨u1, g5⟩ := HF.out.cell (t := k * 3 + 1) (by omega)
      obtain ⟨u2, g6⟩ := HF.out.cell (t := k * 3 + 2) (by omega)
      have f4 := HF.out.frozen (k * 3)
      have f5 := HF.out.frozen (k * 3 + 1)
      have f6 := HF.out.frozen (k * 3 + 2)
      have HF2 := Lib.hid (HF.out.step HX.out)
      have HB2 : Hid (Below gw W3 (((wr.setCell ⟨gw, k * 3, none⟩ (.string tb)).setCell ⟨gw, k * 3 + 1, none⟩ (.string ky)).setCell ⟨gw, k * 3 + 2, none⟩ (.slice va vl vc)).drew) := (((HB.out.setCell (Nat.le_refl _) _).setCell (Nat.le_refl _) _).setCell (Nat.le_refl _) _).drew
      go_wp2
      go_region
      obtain ⟨wn, hwn⟩ : ∃ wn, (((wr.setCell ⟨gw, k * 3, none⟩ (.string tb)).setCell ⟨gw, k * 3 + 1, none⟩ (.string ky)).setCell ⟨gw, k * 3 + 2, none⟩ (.slice va vl vc)).drew = wn := ⟨_, rfl⟩
      rw [hwn]
      rw [hwn] at HB2
      have HF3 : Hid (Filling wn gw ws (k + 1)) := by rw [← hwn]; exact HF2.out
      have d1 := toW HGW.out HB2.out c1
      have d3 : wn.cell? ⟨b3, o3 + k, none⟩ = some (.slice va vl vc) := toW HGW.out HB2.out c3
      clear hwn HF HB HF2 g1 g2 g3 g4 g5 g6 f4 f5 f6 c1 c2 c3
      by_cases ht : tb.toList = [0, 105, 100, 101, 109, 112, 111, 116, 101, 110, 99, 121, 95, 107, 101, 121]
      · cases va with
        | none =>
          go_wp2
          go_roundw
          case rel => exact ⟨k + 1, q, l, by omega, by omega, by go_num, rfl, rfl, HF3, HB2, Lib.hid (by rw [noted_skip HX.out note_nil]; exact HQ.out), Lib.hid (by rw [noted_skip HX.out note_nil]; exact HL.out)⟩
          case measure => simp [intOf]; omega
        | some va =>
          have HNt := Lib.hid (note_some (ky := ky) (a := va) (l := vl) (c := vc) (zs := zs) ht)
          have hst := StampWalk.stamp (.slice (some va) vl vc) zs wn (by have := HR3.out _ (List.mem_of_getElem? HV.out); exact this.below (by rw [HGW.out]; exact HB2.out)) (HY.out _ (List.mem_of_getElem? HV.out)).1
          go_wp2_with (go_at_call 11; refine hst.mono ?_; rintro e w2 ⟨x, bb, rfl, hor, m, rfl⟩; refine Hid.out ?_)
          refine Lib.hid ?_
          clear hst
          have HB4 := Lib.hid (b_drewN HB2.out m)
          have HF4 : Hid (Filling (wn.drewN m) gw ws (k + 1)) := HF3.out
          rw [zz_eq] at hor
          rcases hor with ⟨rfl, hst⟩ | ⟨rfl, hst⟩
          · have HNx : Hid (note (tb, ky, (some va, vl, vc), zs) = some (x, ky)) := HNt.out.trans (by rw [hst]; rfl)
            clear hst
            by_cases hq0 : q = 0
            · subst hq0
              go_wp2
              go_roundw
              case rel => exact ⟨k + 1, 0 + 1, x, by omega, by omega, by go_num, by go_num, rfl, HF4, HB4, Lib.hid (by rw [noted_more HX.out HNx.out, List.length_append, ← HQ.out]; rfl), Lib.hid (by rw [noted_more HX.out HNx.out]; exact Least.first HQ.out.symm (x, ky))⟩
              case measure => simp [intOf]; omega
            · by_cases hxl : x < l
              · go_wp2
                go_roundw
                case rel => exact ⟨k + 1, q + 1, x, by omega, by omega, by go_num, by go_num, rfl, HF4, HB4, Lib.hid (by rw [noted_more HX.out HNx.out, List.length_append, ← HQ.out]; rfl), Lib.hid (by rw [noted_more HX.out HNx.out]; exact HL.out.less (by rw [← HQ.out]; exact hq0) (x, ky) hxl)⟩
                case measure => simp [intOf]; omega
              · go_wp2
                go_roundw
                case rel => exact ⟨k + 1, q + 1, l, by omega, by omega, by go_num, by go_num, rfl, HF4, HB4, Lib.hid (by rw [noted_more HX.out HNx.out, List.length_append, ← HQ.out]; rfl), Lib.hid (by rw [noted_more HX.out HNx.out]; exact HL.out.more (by rw [← HQ.out]; exact hq0) (x, ky) hxl)⟩
                case measure => simp [intOf]; omega
          · have HNx : Hid (note (tb, ky, (some va, vl, vc), zs) = none) := HNt.out.trans (by rw [hst]; rfl)
            clear hst
            go_wp2
            go_roundw
            case rel => exact ⟨k + 1, q, l, by omega, by omega, by go_num, rfl, rfl, HF4, HB4, Lib.hid (by rw [noted_skip HX.out HNx.out]; exact HQ.out), Lib.hid (by rw [noted_skip HX.out HNx.out]; exact HL.out)⟩
            case measure => simp [intOf]; omega
      · go_wp2
        go_roundw
        case rel => exact ⟨k + 1, q, l, by omega, by omega, by go_num, rfl, rfl, HF3, HB2, Lib.hid (by rw [noted_skip HX.out (note_other ht)]; exact HQ.out), Lib.hid (by rw [noted_skip HX.out (note_other ht)]; exact HL.out)⟩
        case measure => simp [intOf]; omega
    · obtain rfl : k = n := by omega
      have htk : ws.take k = ws := List.take_of_length_le (by omega)
      rw [htk] at HQ HL
      have HWR : Hid (WRow wr gw ws) := Filling.done HF.out (by omega) (fun x hx => by
          have hm := wsOf_mem (by rw [← HWS.out]; exact hx)
          exact (HR3.out _ hm).below (by rw [HGW.out]; exact HB.out)) (fun x hx => (HY.out _ (wsOf_mem (by rw [← HWS.out]; exact hx))).1) (fun x hx => (HY.out _ (wsOf_mem (by rw [← HWS.out]; exact hx))).2)
      have HSw := Lib.hid (HSt3.out.below (by rw [HGW.out]; exact HB.out))
      have HBw : Hid (Below w.heap.size w wr) := HBW.out.trans (HB.out.mono (by rw [← HGW.out]; exact HBW.out.size))
      have k12 := newEngine wr
      clear htk HF HN HR3 HY H1 H2 H3 HWS HSt3 HBW HB HGW
      go_wp2_with (go_at_call 12; refine k12.mono ?_; rintro e w4 ⟨rfl, hA, hB4⟩; refine Hid.out ?_)
      refine Lib.hid ?_
      clear k12
      have k13 := zzNoteKeys wr.heap.size gw k k ws wr w4 rfl hB4 hA HWR.out HSw.out hwl (by omega)
      have HB4 := Lib.hid hB4
      clear hA hB4
      obtain ⟨g, hg⟩ : ∃ g, wr.heap.size = g := ⟨_, rfl⟩
      rw [hg] at k13 HB4 ⊢
      have HBg : w.heap.size ≤ g := by rw [← hg]; exact HBw.out.size
      clear hg
      go_wp2_with (go_at_call 13; refine k13.mono ?_; rintro e w5 ⟨rfl, h', a1, a2, a3, a4⟩; refine Hid.out ?_)
      refine Lib.hid ?_
      clear k13
      have k14 := keysLen g h' w5 a1
      have hlen : h'.length = q := a2.length_eq.trans HQ.out.symm
      rw [hlen] at k14
      have HA := Lib.hid a1
      have HI := Lib.hid a3
      have HTop : Hid (∀ x, h'[0]? = some x → x.1 = l) := Lib.hid fun x hx => top_least a2 a3 HL.out hx
      have HBf : Hid (Below w.heap.size w w5) := HBw.out.trans ((HB4.out.mono HBg).trans (a4.mono HBg))
      have HLn := Lib.hid hlen
      clear a1 a2 a3 a4 hlen HWR HSw HBw HB4 HBg HQ HL
      go_wp2_with (go_at_call 14; refine k14.mono ?_; rintro e w6 ⟨rfl, rfl⟩; refine Hid.out ?_)
      refine Lib.hid ?_
      clear k14
      go_wp2
      go_loopw [16] (fun i w7 => ∃ (j p : Nat), 1 ≤ j ∧ j ≤ q + 1 ∧ i = .int .i64 j ∧ w7 = w5.drewN p) (fun i _ => q - (intOf i).toNat)
      case atStart => exact ⟨1, 0, by omega, by omega, rfl, rfl⟩
      case round =>
        obtain ⟨j, p, hj1, hjq, rfl, rfl⟩ := hrel
        by_cases hj : j < q
        · obtain ⟨i, hi⟩ : ∃ i, i = (j - 1) / 2 := ⟨_, rfl⟩
          have hdiv : ((j : Int) - 1).tdiv 2 = (i : Int) := by rw [Int.tdiv_eq_ediv_of_nonneg (by omega)]; omega
          have hij : i < j := by omega
          obtain ⟨x, hx⟩ := get_some (xs := h') (k := i) (by rw [HLn.out]; omega)
          obtain ⟨y, hy⟩ := get_some (xs := h') (k := j) (by rw [HLn.out]; omega)
          have kx := keyAt g i h' x (w5.drewN p) (HA.out.drewN p) hx
          have HYy := Lib.hid hy
          have hle : x.1 ≤ y.1 := by
            have := HI.out j hj1 (by rw [HLn.out]; exact hj)
            rw [← hi, ms_of hx, ms_of hy] at this; exact this
          clear hx hy hi
          go_wp2_with (go_at_call 15; refine kx.mono ?_; rintro e w8 ⟨rfl, p2, rfl⟩; refine Hid.out ?_)
          refine Lib.hid ?_
          have ky2 := keyAt g j h' y (w5.drewN (p + p2)) (HA.out.drewN _) HYy.out
          clear kx
          go_wp2_with (go_at_call 15; refine ky2.mono ?_; rintro e w9 ⟨rfl, p3, rfl⟩; refine Hid.out ?_)
          refine Lib.hid ?_
          clear ky2
          go_wp2
          go_roundw
          case rel => exact ⟨j + 1, p + p2 + p3, by omega, by omega, by go_num, by simp⟩
          case measure => simp [intOf]; omega
        · by_cases hq0 : q = 0
          · subst hq0
            go_wp2
            go_ret
            exact ⟨rfl, b_drewN HBf.out p⟩
          · obtain ⟨x, hx⟩ := get_some (xs := h') (k := 0) (by rw [HLn.out]; omega)
            have k0 : Calls Tryd.prog 15 #[.pointer (some ⟨g, 0, none⟩), .int .i64 0] (w5.drewN p) fun e w' => e = .returned (.tuple #[.int .i64 x.1, .string x.2]) ∧ ∃ q, w' = (w5.drewN p).drewN q := keyAt g 0 h' x (w5.drewN p) (HA.out.drewN p) hx
            rw [HTop.out x hx] at k0
            clear hx
            go_wp2_with (go_at_call 15; refine k0.mono ?_; rintro e w8 ⟨rfl, p2, rfl⟩; refine Hid.out ?_)
            refine Lib.hid ?_
            go_wp2
            go_ret
            exact ⟨rfl, b_drewN HBf.out (p + p2)⟩

set_option maxHeartbeats 1000000 in
set_option maxRecDepth 100000 in
theorem walk_big (v1 v2 v3 : Value) (ts ks : List ByteArray) (vs : List BS) (w : World) (h1 : Rd Value.string w v1 ts) (h2 : Rd Value.string w v2 ks) (h3 : RdV w v3 vs)
    (n1 : ts.length ≤ 9223372036854775807) (n2 : ks.length ≤ 9223372036854775807) (n3 : vs.length ≤ 9223372036854775807) (hbig : 65536 < ts.length ∨ 65536 < ks.length ∨ 65536 < vs.length)
    (s1 : ∀ s ∈ ts, s.size ≤ 9223372036854775807) (s2 : ∀ s ∈ ks, s.size ≤ 9223372036854775807) (s3 : ∀ p ∈ vs, p.1.2.1 ≤ 9223372036854775807) :
    Calls Tryd.prog 4 #[v1, v2, v3] w (Yes w) := by
  have ht := total17 v1 v2 v3 ts ks vs w h1 h2 h3.1 n1 n2 n3 s1 s2 s3
  obtain ⟨a1, c1, rfl⟩ := h1.form
  obtain ⟨a2, c2, rfl⟩ := h2.form
  obtain ⟨a3, c3, rfl⟩ := h3.1.form
  clear h1 h2 h3 s1 s2 s3
  have HB := Lib.hid hbig
  clear hbig
  go_enter Tryd.func4, Tryd.ntmps4
  go_wp2_with (go_at_call 17; refine ht.mono ?_; rintro e w' ⟨bb, rfl, rfl, hbb⟩; refine Hid.out ?_)
  refine Lib.hid ?_
  clear hbb ht
  cases bb
  case false =>
    go_wp2
    go_ret
    exact ⟨rfl, Below.refl _ _⟩
  by_cases l1 : 65536 < ts.length
  · go_wp2
    go_ret
    exact ⟨rfl, Below.refl _ _⟩
  · by_cases l2 : 65536 < ks.length
    · go_wp2
      go_ret
      exact ⟨rfl, Below.refl _ _⟩
    · have l3 : 65536 < vs.length := by have := HB.out; omega
      go_wp2
      go_ret
      exact ⟨rfl, Below.refl _ _⟩
end Go.Proofs.Qxb6605845aDoor.LawTop
