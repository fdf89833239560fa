/-
  The walk of FnWriteListSortsByTableThenKey.
-/
import Derived.Test.Qxb6605845aTotal
import Derived.Test.Qxb6605845aIdx
namespace Go.Proofs.Qxb6605845a.Law3
open Go.RowKit Go.Shelf Go.Lib Go.Sort Mem Small Srt Lst Total Idx

theorem rd_at' {α : Type} {enc : α → Value} {w : World} {a : Option Addr} {c : Nat} {xs : List α} (h : Rd enc w (.slice a xs.length c) xs) (hp : 0 < xs.length) :
    ∃ b off, a = some ⟨b, off, none⟩ ∧ Hid (∀ i x, xs[i]? = some x → w.cell? ⟨b, off + i, none⟩ = some (enc x)) := by
  obtain ⟨b, off, c', hv, _, hc⟩ := h.at hp
  simp only [Value.slice.injEq] at hv
  exact ⟨b, off, hv.1, hc⟩

theorem infoW : (Try.prog.info? 35).map (fun i => (i.zero, i.size, i.bytes)) = some (some (.agg #[.string ByteArray.empty, .string ByteArray.empty, .slice none 0 0]), 3, 56) := by kernel_rfl
theorem run_make_rows3 (n : Nat) (hn : n ≤ 4096) (w : World) : (Instr.makeSlice 32 (.int .i64 (n : Int)) (.int .i64 (n : Int))).run Try.prog w = .ok (.slice (some ⟨w.heap.size, 0, none⟩) n n) (w.alloc (.cells (madeCells #[.string ByteArray.empty, .string ByteArray.empty, .slice none 0 0] (n * 3)) 35)) := by
  obtain ⟨i, hi, hzz⟩ := Option.map_eq_some_iff.1 infoW
  simp only [Prod.mk.injEq] at hzz
  obtain ⟨hz, hs, hb⟩ := hzz
  have := run_make (P := Try.prog) w 32 35 i _ Try.underlying32 hi hz .i64 .i64 n n (by omega) (Int.le_refl _) (by rw [hb]; omega) (by omega)
  simpa [hs, Value.cells] using this
theorem get_t {ts : List ByteArray} {x : Nat} (h : x < ts.length) : ts[x]? = some (tOf ts x) := by
  unfold tOf; rw [List.getD, List.getElem?_eq_getElem h]; rfl

theorem nm_eq (ts ks : List ByteArray) (x y : Nat) (h : nm ts ks x = nm ts ks y) : ((tOf ts x).toList == (tOf ts y).toList) = true ∧ ((tOf ks x).toList == (tOf ks y).toList) = true := by
  unfold nm at h
  rw [Prod.mk.injEq] at h
  rw [Lib.toList_data, Lib.toList_data, Lib.toList_data, Lib.toList_data, h.1, h.2]
  simp

/-- What the tests on two places read: their indexes and their names. -/
structure Two (wr : World) (g b1 o1 b2 o2 : Nat) (ts ks : List ByteArray) (i j x y : Nat) : Prop where
  cx : wr.cell? ⟨g, i, none⟩ = some (.int .i64 (x : Int))
  cy : wr.cell? ⟨g, j, none⟩ = some (.int .i64 (y : Int))
  tx : wr.cell? ⟨b1, o1 + x, none⟩ = some (.string (tOf ts x))
  ty : wr.cell? ⟨b1, o1 + y, none⟩ = some (.string (tOf ts y))
  kx : wr.cell? ⟨b2, o2 + x, none⟩ = some (.string (tOf ks x))
  ky : wr.cell? ⟨b2, o2 + y, none⟩ = some (.string (tOf ks y))
theorem two {W3 wr : World} {n b1 o1 b2 o2 : Nat} {ts ks : List ByteArray} {J : Array Nat} (hst : St W3 wr W3.heap.size n J) (hl1 : n ≤ ts.length) (hl2 : n ≤ ks.length)
    (H1 : Hid (∀ i x, ts[i]? = some x → W3.cell? ⟨b1, o1 + i, none⟩ = some (Value.string x))) (H2 : Hid (∀ i x, ks[i]? = some x → W3.cell? ⟨b2, o2 + i, none⟩ = some (Value.string x)))
    {i j : Nat} (hi : i < n) (hj : j < n) : Two wr W3.heap.size b1 o1 b2 o2 ts ks i j J[i]! J[j]! := by
  have hx := hst.lt hi
  have hy := hst.lt hj
  have key : ∀ {b o x : Nat} {v : Value}, W3.cell? ⟨b, o + x, none⟩ = some v → wr.cell? ⟨b, o + x, none⟩ = some v := fun h => by
    rw [hst.below.cell (p := ⟨_, _, none⟩) (cell_lt h)]; exact h
  exact ⟨hst.cell hi, hst.cell hj, key (H1.out _ _ (get_t (by omega))), key (H1.out _ _ (get_t (by omega))), key (H2.out _ _ (get_t (by omega))), key (H2.out _ _ (get_t (by omega)))⟩

set_option maxHeartbeats 4000000 in
set_option maxRecDepth 100000 in
theorem walk_pos (v1 v2 v3 : Value) (ts ks : List ByteArray) (vs : List BS) (w : World) (h1 : Rd Value.string w v1 ts) (h2 : Rd Value.string w v2 ks) (h3 : RdV w v3 vs)
    (n1 : ts.length ≤ 4096) (n2 : ks.length ≤ 4096) (n3 : vs.length ≤ 4096) (n : Nat) (hn : min (min ts.length ks.length) vs.length = n) (hpos : 0 < n)
    (s1 : ∀ s ∈ ts, s.size ≤ 9223372036854775807) (s2 : ∀ s ∈ ks, s.size ≤ 9223372036854775807) (s3 : ∀ p ∈ vs, p.1.2.1 ≤ 9223372036854775807) (s3' : ∀ p ∈ vs, p.1.2.1 = p.2.length) :
    Calls Try.prog 3 #[v1, v2, v3] w fun e w' => e = .returned (.bool true) ∧ Below w.heap.size w w' := by
  have ht := total7 v1 v2 v3 ts ks vs w h1 h2 h3.1 (by omega) (by omega) (by omega) s1 s2 s3
  have e8 := stringsBytes v1 ts w h1 n1 s1
  have e8' := stringsBytes v2 ks w h2 n2 s2
  have e9 := bytesBytes v3 vs w h3.1 n3 s3
  obtain ⟨a1, c1, rfl⟩ := h1.form
  obtain ⟨a2, c2, rfl⟩ := h2.form
  obtain ⟨a3, c3, rfl⟩ := h3.1.form
  have hl1 : n ≤ ts.length := by omega
  have hl2 : n ≤ ks.length := by omega
  have hl3 : n ≤ vs.length := by omega
  have HN := Lib.hid hn
  clear hn
  go_enter Try.func3, Try.ntmps3
  go_wp2_with (go_at_call 7; refine ht.mono ?_; rintro e w' ⟨bb, rfl, rfl, hbb⟩; refine Hid.out ?_)
  refine Lib.hid ?_
  cases bb
  case false =>
    go_wp2
    go_ret
    exact ⟨rfl, Below.refl _ _⟩
  have hs3 : ∀ p ∈ vs, p.2.length ≤ 1048576 := fun p hp => by rw [← s3' p hp]; exact hbb rfl p hp
  have HS3 := Lib.hid hs3
  clear hbb hs3 s1 s2 s3 s3' ht
  go_wp2_with (go_at_call 8; refine e8.mono ?_; rintro e w' ⟨r1, rfl, hr1, hr1', rfl⟩; refine Hid.out ?_)
  refine Lib.hid ?_
  clear e8
  go_wp2_with (go_at_call 8; refine e8'.mono ?_; rintro e w' ⟨r2, rfl, hr2, hr2', rfl⟩; refine Hid.out ?_)
  refine Lib.hid ?_
  clear e8'
  go_wp2_with (go_at_call 9; refine e9.mono ?_; rintro e w' ⟨r3, rfl, hr3, hr3', rfl⟩; refine Hid.out ?_)
  refine Lib.hid ?_
  clear e9
  by_cases hsum : r1 + r2 + r3 ≤ 1048576
  case neg =>
    go_wp2
    go_ret
    exact ⟨rfl, Below.refl _ _⟩
  go_wp2_with (go_at_call 10; refine (cloneStrings _ ts w h1 (by omega)).mono ?_; rintro e W1 ⟨A1, C1, rfl, R1, B1, -⟩; refine Hid.out ?_)
  refine Lib.hid ?_
  have h2' := h2.below B1
  go_wp2_with (go_at_call 10; refine (cloneStrings _ ks W1 h2' (by omega)).mono ?_; rintro e W2 ⟨A2, C2, rfl, R2, B2, -⟩; refine Hid.out ?_)
  refine Lib.hid ?_
  have h3' := (h3.below B1).below B2
  go_wp2_with (go_at_call 11; refine (cloneList _ vs W2 h3' n3 HS3.out).mono ?_; rintro e W3 ⟨A3, C3, ys, rfl, hyl, hys, R3, B3⟩; refine Hid.out ?_)
  refine Lib.hid ?_
  have R1' := (R1.below B2).below B3
  have R2' := R2.below B3
  have BW : Below w.heap.size w W3 := (B1.trans (B2.mono B1.size)).trans (B3.mono (Nat.le_trans B1.size B2.size))
  have hm := min3 ts.length ks.length vs.length n HN.out W3
  have HY : Hid (∀ p ∈ ys, p.2.length ≤ 1048576) := fun p hp => by
    have : p.2 ∈ vs.map Prod.snd := by rw [← hys]; exact List.mem_map_of_mem hp
    obtain ⟨r, hr, e⟩ := List.mem_map.1 this
    rw [← e]; exact HS3.out r hr
  clear h1 h2 h3 h2' h3' B1 B2 B3 R1 R2 HS3 hys
  obtain ⟨b1, o1, rfl, H1⟩ := rd_at' R1' (by omega)
  obtain ⟨b2, o2, rfl, H2⟩ := rd_at' R2' (by omega)
  have R3' : Rd encB W3 (.slice A3 ys.length C3) ys := by rw [hyl]; exact R3.1
  obtain ⟨b3, o3, rfl, H3⟩ := rd_at' R3' (by omega)
  have HR3 := Lib.hid R3.2
  clear R1' R2' R3' R3
  have hmk := fun w => run_make_row' (P := Try.prog) 30 3 (.int .i64 0) 8 Try.underlying30 infoInt rfl .i64 .i64 n (by omega) (by omega) w
  go_wp2_with (go_at_call 12; refine hm.mono ?_; rintro e w' ⟨rfl, rfl⟩)
  have F0 := Fills.start (enc := encIx) (w := W3) (e := 3) (xs := List.range n) (madeCells #[(Value.int .i64 0)] n) (by simp [size_madeCells])
  have FB : Hid (RowKit.Below W3.heap.size W3 (W3.alloc (.cells (madeCells #[(Value.int .i64 0)] n) 3))) := (Below.refl _ _).alloc (Nat.le_refl _) _
  go_loopw [9] (fun i wr => ∃ k : Nat, k ≤ n ∧ i = .int .i64 k ∧ Fills encIx wr W3.heap.size 3 (List.range n) k ∧ Hid (RowKit.Below W3.heap.size W3 wr)) (fun i _ => n - (intOf i).toNat)
  case atStart => exact ⟨0, by omega, rfl, F0, FB⟩
  case round =>
    clear F0 FB
    obtain ⟨k, hk, rfl, hfl, hbel⟩ := hrel
    by_cases hlt : k < n
    · obtain ⟨u, g2⟩ := hfl.cell (i := k) (by simpa using hlt)
      have g3 := hfl.frozen k
      have HS := Lib.hid (hfl.step (k := k) (a := k) (by simp [hlt]))
      go_wp2
      go_roundw
      case rel => exact ⟨k + 1, by omega, by go_num, HS.out, hbel.out.setCell (Nat.le_refl _) _⟩
      case measure => simp [intOf]; omega
    · have hst := St.start (hfl.done (by simp; omega)) hbel.out
      clear hfl hbel hmk
      go_wp2
      clear hlt hk
      go_loopw [10, 11, 12] (fun i _ _ wr => ∃ (m : Nat) (I : Array Nat), 1 ≤ m ∧ m ≤ n ∧ i = .int .i64 m ∧ St W3 wr W3.heap.size n I ∧ Hid (SortedIn (Plain.ltBy (nm ts ks)) 0 m I)) (fun i _ _ _ => n - (intOf i).toNat)
      case atStart => exact ⟨1, _, by omega, by omega, rfl, hst, fun i j _ h1 h2 => by omega⟩
      case round =>
        clear hst
        obtain ⟨m, I, hm1, hm2, rfl, hst, HSo⟩ := hrel
        by_cases hlt : m < n
        · go_wp2
          go_loopw [11, 12] (fun j _ wr => ∃ (q : Nat) (J : Array Nat), q ≤ m ∧ j = .int .i64 q ∧ St W3 wr W3.heap.size n J ∧ Hid (Ins (Plain.ltBy (nm ts ks)) 0 q m J)) (fun j _ _ => (intOf j).toNat)
          case atStart => exact ⟨m, I, Nat.le_refl _, rfl, hst, ⟨fun p q hap hpq hqi _ hq => HSo.out p q hap hpq (by omega), fun q h1 h2 => by omega⟩⟩
          case round =>
            clear hst HSo
            obtain ⟨q, J, hq, rfl, hst, HI⟩ := hrel
            by_cases hq0 : q = 0
            · subst hq0
              go_wp2
              go_quiet (fail)
              go_wp2
              go_roundw
              case rel => exact ⟨m + 1, J, by omega, by omega, by go_num, hst.drewN _, HI.out.stop (Plain.swo_by _) (.inl (Nat.le_refl _))⟩
              case measure => simp [intOf]; omega
            · obtain ⟨q', rfl⟩ : ∃ q', q = q' + 1 := ⟨q - 1, by omega⟩
              have hx := hst.lt (k := q' + 1) (by omega)
              have hy := hst.lt (k := q') (by omega)
              have h2 := two hst hl1 hl2 H1 H2 (i := q' + 1) (j := q') (by omega) (by omega)
              have hfr := hst.frozen
              have HSW := Lib.hid (hst.swap (j := q') (by omega))
              have HSTEP : Hid (Plain.ltBy (nm ts ks) J[q' + 1]! J[q']! = true → Ins (Plain.ltBy (nm ts ks)) 0 q' m (swp J (q' + 1) q')) := fun h => HI.out.step h (Nat.zero_le _) (by rw [hst.size]; omega)
              have HSTOP : Hid (Plain.ltBy (nm ts ks) J[q' + 1]! J[q']! = false → SortedIn (Plain.ltBy (nm ts ks)) 0 (m + 1) J) := fun h => HI.out.stop (Plain.swo_by _) (.inr h)
              have hnl := nless_eq ts ks J[q' + 1]! J[q']!
              have HST := Lib.hid hst
              clear hst
              obtain ⟨x, hxe⟩ : ∃ x, J[q' + 1]! = x := ⟨_, rfl⟩
              obtain ⟨y, hye⟩ : ∃ y, J[q']! = y := ⟨_, rfl⟩
              rw [hxe] at hx h2 hnl HSTEP HSTOP HSW
              rw [hye] at hy h2 hnl HSTEP HSTOP HSW
              clear hxe hye
              rw [← hnl] at HSTEP HSTOP
              clear hnl
              obtain ⟨cx, cy, tx, ty, kx, ky⟩ := h2
              cases hb : nless (tOf ts x) (tOf ks x) (tOf ts y) (tOf ks y)
              · go_wp2
                go_quiet ((go_at_call 13; exact Calls.quiet_of_same ((nameLess _ _ _ _ _).mono fun _ _ h => ⟨h.1, h.2.symm⟩)))
                go_wp2
                go_roundw
                case rel => exact ⟨m + 1, J, by omega, by omega, by go_num, HST.out.drewN _, HSTOP.out hb⟩
                case measure => simp [intOf]; omega
              · go_wp2
                go_quiet ((go_at_call 13; exact Calls.quiet_of_same ((nameLess _ _ _ _ _).mono fun _ _ h => ⟨h.1, h.2.symm⟩)))
                go_wp2
                go_roundw
                case rel => exact ⟨q', _, by omega, by go_num, HSW.out.drewN _, HSTEP.out hb⟩
                case measure => simp [intOf]
        · have HSo' : SortedIn (Plain.ltBy (nm ts ks)) 0 n I := by rw [← show m = n by omega]; exact HSo.out
          have HSO := Lib.hid HSo'
          clear HSo HSo'
          go_wp2
          clear hlt hm1 hm2
          go_loopw [13] (fun i w4 => ∃ (a p : Nat), 1 ≤ a ∧ a ≤ n ∧ i = .int .i64 a ∧ w4 = wr.drewN p ∧ Hid (∀ c, 1 ≤ c → c < a → nm ts ks I[c]! ≠ nm ts ks I[c - 1]!)) (fun i _ => n - (intOf i).toNat)
          case atStart => exact ⟨1, 0, by omega, by omega, rfl, rfl, fun c h1 h2 => by omega⟩
          case round =>
            obtain ⟨a, p, ha1, ha2, rfl, rfl, HA⟩ := hrel
            by_cases hlt : a < n
            · obtain ⟨a', rfl⟩ : ∃ a', a = a' + 1 := ⟨a - 1, by omega⟩
              have hst' := hst.drewN p
              have hx := hst.lt (k := a' + 1) (by omega)
              have hy := hst.lt (k := a') (by omega)
              have h2 := two hst hl1 hl2 H1 H2 (i := a' + 1) (j := a') (by omega) (by omega)
              have HNE : Hid (nm ts ks I[a' + 1]! ≠ nm ts ks I[a']! → ∀ c, 1 ≤ c → c < a' + 1 + 1 → nm ts ks I[c]! ≠ nm ts ks I[c - 1]!) := fun hne c h1 h2 => by
                by_cases e : c = a' + 1
                · subst e; exact hne
                · exact HA.out c h1 (by omega)
              clear HA
              obtain ⟨x, hxe⟩ : ∃ x, I[a' + 1]! = x := ⟨_, rfl⟩
              obtain ⟨y, hye⟩ : ∃ y, I[a']! = y := ⟨_, rfl⟩
              rw [hxe] at hx h2 HNE
              rw [hye] at hy h2 HNE
              clear hxe hye
              have BW' := BW.trans (hst.below.mono BW.size)
              have HST := Lib.hid hst
              clear hst hst'
              obtain ⟨cx, cy, tx, ty, kx, ky⟩ := h2
              have hnm : nm ts ks x = nm ts ks y → ((tOf ts x).toList == (tOf ts y).toList) = true ∧ ((tOf ks x).toList == (tOf ks y).toList) = true := nm_eq ts ks x y
              cases hb1 : ((tOf ts x).toList == (tOf ts y).toList)
              · have hne := HNE.out (fun e => by rw [(hnm e).1] at hb1; cases hb1)
                have HN2 := Lib.hid hne
                clear hne hnm HNE
                go_wp2
                go_quiet (fail)
                go_wp2
                go_roundw
                case rel => exact ⟨a' + 1 + 1, p + nq, by omega, by omega, by go_num, by simp, HN2.out⟩
                case measure => simp [intOf]; omega
              · cases hb2 : ((tOf ks x).toList == (tOf ks y).toList)
                · have hne := HNE.out (fun e => by rw [(hnm e).2] at hb2; cases hb2)
                  have HN2 := Lib.hid hne
                  clear hne hnm HNE
                  go_wp2
                  go_quiet (fail)
                  go_wp2
                  go_roundw
                  case rel => exact ⟨a' + 1 + 1, p + nq, by omega, by omega, by go_num, by simp, HN2.out⟩
                  case measure => simp [intOf]; omega
                · clear hnm HNE
                  go_wp2
                  go_quiet (fail)
                  go_wp2
                  go_ret
                  exact ⟨rfl, ⟨BW'.os, BW'.tape, BW'.output, BW'.size, BW'.block⟩⟩
            · have hinj := Idx.distinct ts ks n I hst.perm HSO.out (fun c h1 h2 => HA.out c h1 (by omega))
              have HINJ := Lib.hid hinj
              clear hinj HA
              have hmk := fun w => run_make_rows3 n (by omega) w
              have F0 := (FillW.start wr n (encW ts ks ys) (madeCells #[.string ByteArray.empty, .string ByteArray.empty, .slice none 0 0] (n * 3)) (size_madeCells _ _)).drewN p
              have FB : Hid (RowKit.Below wr.heap.size wr ((wr.alloc (.cells (madeCells #[.string ByteArray.empty, .string ByteArray.empty, .slice none 0 0] (n * 3)) 35)).drewN p)) := ((Below.refl _ _).alloc (Nat.le_refl _) _).trans ⟨rfl, rfl, rfl, Nat.le_refl _, fun _ _ => rfl⟩
              go_wp2
              go_loopw [15] (fun i w5 => ∃ k : Nat, k ≤ n ∧ i = .int .i64 k ∧ FillW w5 wr.heap.size n (encW ts ks ys) k ∧ Hid (RowKit.Below wr.heap.size wr w5)) (fun i _ => n - (intOf i).toNat)
              case atStart => exact ⟨0, by omega, rfl, F0, FB⟩
              case round =>
                clear F0 FB
                rename World => w5
                obtain ⟨f, hf, rfl, hfw, hbw⟩ := hrel
                by_cases hlt : f < n
                · have key : ∀ {b o x : Nat} {v : Value}, W3.cell? ⟨b, o + x, none⟩ = some v → w5.cell? ⟨b, o + x, none⟩ = some v := fun h => by
                    have h4 : wr.cell? ⟨_, _, none⟩ = some _ := (hst.below.cell (p := ⟨_, _, none⟩) (cell_lt h)).trans h
                    rw [hbw.out.cell (p := ⟨_, _, none⟩) (cell_lt h4)]; exact h4
                  have g1 := key (H1.out f _ (get_t (by omega)))
                  have g2 := key (H2.out f _ (get_t (by omega)))
                  obtain ⟨⟨⟨pa, pl, pc⟩, pb⟩, hyk⟩ := get_some (xs := ys) (k := f) (by omega)
                  have g3 : w5.cell? ⟨b3, o3 + f, none⟩ = some (.slice pa pl pc) := key (H3.out f _ hyk)
                  have hve : encW ts ks ys f = [.string (tOf ts f), .string (tOf ks f), .slice pa pl pc] := by unfold encW vOf encB; rw [List.getD, hyk]; rfl
                  have HS := Lib.hid (hfw.step hlt hve)
                  have hfz := hfw.frozen
                  obtain ⟨u0, g4⟩ := hfw.cell (t := f * 3) (by omega)
                  obtain ⟨u1, g5⟩ := hfw.cell (t := f * 3 + 1) (by omega)
                  obtain ⟨u2, g6⟩ := hfw.cell (t := f * 3 + 2) (by omega)
                  clear hyk hve key
                  go_wp2
                  go_region
                  go_wp2
                  go_roundw
                  case rel => exact ⟨f + 1, by omega, by go_num, HS.out, (((hbw.out.setCell (Nat.le_refl _) _).setCell (Nat.le_refl _) _).setCell (Nat.le_refl _) _).drew⟩
                  case measure => simp [intOf]; omega
                · have hho := hfw.holds (by omega) (fun _ => rfl)
                  have hgW := hfw.lt
                  have BW5 : RowKit.Below w.heap.size w w5 := (BW.trans (hst.below.mono BW.size)).trans (hbw.out.mono (Nat.le_trans BW.size hst.below.size))
                  have hst5 := hst.below' hbw.out hst.own.lt
                  have hnt := newTxn (some ⟨wr.heap.size, 0, none⟩) n n w5
                  clear hfw hmk
                  go_wp2_with (go_at_call 15; refine hnt.mono ?_; rintro e w6 ⟨rfl, c6, B6, z6⟩; refine Hid.out ?_)
                  refine Lib.hid ?_
                  clear hnt
                  have hho6 : HoldsK (encW ts ks ys) 3 w6 wr.heap.size 0 (Array.range n) := fun t ht => by
                    have h := hho t ht
                    exact ⟨by rw [B6.cell (p := ⟨wr.heap.size, 0 + t, none⟩) hgW]; exact h.1, by rw [B6.frozen (p := ⟨wr.heap.size, 0 + t, none⟩) hgW]; exact h.2⟩
                  have hwl := writeList14 ts ks ys w5.heap.size wr.heap.size n (Array.range n) w6 (by rw [Array.size_range]; exact c6) (by omega) hho6 (by omega) (by rw [Array.size_range]; omega)
                  rw [Array.size_range] at hwl
                  clear hho hho6 c6
                  go_wp2_with (go_at_call 14; refine hwl.mono ?_; rintro e w7 ⟨rfl, d', hperm, hsor, hho7, hbut⟩; refine Hid.out ?_)
                  refine Lib.hid ?_
                  clear hwl
                  have hdI : d' = I := Plain.sorted_one (nm ts ks) (Array.range n) d' I (fun x hx y hy => by
                      rw [Array.toList_range, List.mem_range] at hx hy; exact HINJ.out x hx y hy)
                    (by rw [Array.size_range]; exact hperm) (by rw [Array.size_range]; exact hsor) (by rw [Array.size_range]; exact hst.perm) (by rw [Array.size_range]; exact HSO.out)
                  subst hdI
                  clear hperm hsor HINJ HSO
                  have B47 : RowKit.Below wr.heap.size wr w7 := ⟨hbut.os.trans (B6.os.trans hbw.out.os), hbut.tape.trans (B6.tape.trans hbw.out.tape), hbut.output.trans (B6.output.trans hbw.out.output), Nat.le_trans hbw.out.size (Nat.le_trans B6.size hbut.size), fun k hk => by
                    rw [hbut.block k (by have := B6.size; omega) (by omega), B6.block k (by omega), hbw.out.block k hk]⟩
                  have hst7 := hst.below' B47 hst.own.lt
                  have BW7 : RowKit.Below w.heap.size w w7 := (BW.trans (hst.below.mono BW.size)).trans (B47.mono (Nat.le_trans BW.size hst.below.size))
                  have hsz7 : d'.size = n := hst.size
                  clear hst hst5 hbut B6 z6 hbw B47 BW5
                  go_wp2
                  go_loopw [17, 18] (fun i _ w8 => ∃ (f p : Nat), f ≤ n ∧ i = .int .i64 f ∧ Hid (w8 = w7.drewN p)) (fun i _ _ => n - (intOf i).toNat)
                  case atStart => exact ⟨0, 0, by omega, rfl, rfl⟩
                  case round =>
                    rename World => w8
                    obtain ⟨f', p', hf', rfl, HW⟩ := hrel
                    by_cases hlt' : f' < n
                    · have hx := hst7.lt hlt'
                      have key : ∀ {a : Addr} {v : Value}, w7.cell? a = some v → w8.cell? a = some v := fun h => by rw [HW.out]; exact h
                      have key3 : ∀ {b o x : Nat} {v : Value}, W3.cell? ⟨b, o + x, none⟩ = some v → w8.cell? ⟨b, o + x, none⟩ = some v := fun h => key ((hst7.below.cell (p := ⟨_, _, none⟩) (cell_lt h)).trans h)
                      have cx := key (hst7.cell hlt')
                      obtain ⟨q0, q1, q2⟩ := holds_cells hho7 (i := f') (by rw [hsz7]; exact hlt')
                      replace q0 := key q0
                      replace q1 := key q1
                      replace q2 := key q2
                      obtain ⟨x, hxe⟩ : ∃ x, d'[f']! = x := ⟨_, rfl⟩
                      rw [hxe] at hx cx q0 q1 q2
                      clear hxe
                      have g1 := key3 (H1.out x _ (get_t (by omega)))
                      have g2 := key3 (H2.out x _ (get_t (by omega)))
                      obtain ⟨⟨⟨pa, pl, pc⟩, pb⟩, hyk⟩ := get_some (xs := ys) (k := x) (by omega)
                      have g3 : w8.cell? ⟨b3, o3 + x, none⟩ = some (.slice pa pl pc) := key3 (H3.out x _ hyk)
                      have hve : encB (vOf ys x) = .slice pa pl pc := by unfold vOf encB; rw [List.getD, hyk]; rfl
                      rw [hve] at q2
                      have hrd : Rd (Value.int .u8) w8 (.slice pa pl pc) pb := by
                        have h := (HR3.out _ (List.mem_of_getElem? hyk)).below hst7.below
                        rw [HW.out]; exact h
                      have hpb : pb.length ≤ 1048576 := HY.out _ (List.mem_of_getElem? hyk)
                      have k16 := fun m => sameBytes _ pb (w8.drewN m) (hrd.drewN m) (by omega)
                      clear hyk hve hrd hpb
                      have HK := Lib.hid hho7
                      clear hho7
                      go_wp2
                      go_quiet ((go_at_call 16; exact Calls.quiet_of (k16 _)))
                      go_wp2
                      go_roundw
                      case rel => exact ⟨f' + 1, p' + nq, by omega, by go_num, show _ = _ by rw [HW.out, World.drewN_drewN]⟩
                      case measure => simp [intOf]; omega
                    · go_wp2
                      go_ret
                      refine ⟨rfl, ?_⟩
                      rw [HW.out]
                      exact ⟨BW7.os, BW7.tape, BW7.output, BW7.size, BW7.block⟩
end Go.Proofs.Qxb6605845a.Law3
