/-
  The walk of FnWriteListIgnoresInputOrder.
-/
import Derived.Test.Qxb6605845aLaw3
import Derived.Test.Qxb6605845aIdx2
namespace Go.Proofs.Qxb6605845a.Law4
open Go.RowKit Go.Shelf Go.Lib Go.Sort Mem Small Srt Lst Total Idx Idx2 Law3

/-- What the test on two places reads. -/
structure Pair (wr : World) (b1 o1 b2 o2 : Nat) (ts ks : List ByteArray) (x y : Nat) : Prop where
  tx : wr.cell? ⟨b1, o1 + x, none⟩ = some (.string (tOf ts x))
  ty : wr.cell? ⟨b1, o1 + y, none⟩ = some (.string (tOf ts y))
  kx : wr.cell? ⟨b2, o2 + x, none⟩ = some (.string (tOf ks x))
  ky : wr.cell? ⟨b2, o2 + y, none⟩ = some (.string (tOf ks y))
theorem pair {W3 wr : World} {n b1 o1 b2 o2 : Nat} {ts ks : List ByteArray} (hl1 : n ≤ ts.length) (hl2 : n ≤ ks.length)
    (H1 : Hid (∀ i x, ts[i]? = some x → W3.cell? ⟨b1, o1 + i, none⟩ = some (Value.string x))) (H2 : Hid (∀ i x, ks[i]? = some x → W3.cell? ⟨b2, o2 + i, none⟩ = some (Value.string x)))
    (hw : ∀ a v, W3.cell? a = some v → wr.cell? a = some v) {x y : Nat} (hx : x < n) (hy : y < n) : Pair wr b1 o1 b2 o2 ts ks x y :=
  ⟨hw _ _ (H1.out _ _ (get_t (by omega))), hw _ _ (H1.out _ _ (get_t (by omega))), hw _ _ (H2.out _ _ (get_t (by omega))), hw _ _ (H2.out _ _ (get_t (by omega)))⟩

set_option maxHeartbeats 4000000 in
set_option maxRecDepth 100000 in
theorem walk_pos (v1 v2 v3 : Value) (ts ks : List ByteArray) (vs : List BS) (w : World) (h1 : Rd Value.string w v1 ts) (h2 : Rd Value.string w v2 ks) (h3 : RdV w v3 vs)
    (n1 : ts.length ≤ 4096) (n2 : ks.length ≤ 4096) (n3 : vs.length ≤ 4096) (n : Nat) (hn : min (min ts.length ks.length) vs.length = n) (hpos : 0 < n)
    (s1 : ∀ s ∈ ts, s.size ≤ 9223372036854775807) (s2 : ∀ s ∈ ks, s.size ≤ 9223372036854775807) (s3 : ∀ p ∈ vs, p.1.2.1 ≤ 9223372036854775807) (s3' : ∀ p ∈ vs, p.1.2.1 = p.2.length) :
    Calls Try.prog 4 #[v1, v2, v3] w fun e w' => e = .returned (.bool true) ∧ Below w.heap.size w w' := by
  have ht := total17 v1 v2 v3 ts ks vs w h1 h2 h3.1 (by omega) (by omega) (by omega) s1 s2 s3
  have e8 := stringsBytes v1 ts w h1 n1 s1
  have e8' := stringsBytes v2 ks w h2 n2 s2
  have e9 := bytesBytes v3 vs w h3.1 n3 s3
  obtain ⟨a1, c1, rfl⟩ := h1.form
  obtain ⟨a2, c2, rfl⟩ := h2.form
  obtain ⟨a3, c3, rfl⟩ := h3.1.form
  have hl1 : n ≤ ts.length := by omega
  have hl2 : n ≤ ks.length := by omega
  have hl3 : n ≤ vs.length := by omega
  have HN := Lib.hid hn
  clear hn
  go_enter Try.func4, Try.ntmps4
  go_wp2_with (go_at_call 17; refine ht.mono ?_; rintro e w' ⟨bb, rfl, rfl, hbb⟩; refine Hid.out ?_)
  refine Lib.hid ?_
  cases bb
  case false =>
    go_wp2
    go_ret
    exact ⟨rfl, Below.refl _ _⟩
  have hs3 : ∀ p ∈ vs, p.2.length ≤ 1048576 := fun p hp => by rw [← s3' p hp]; exact hbb rfl p hp
  have HS3 := Lib.hid hs3
  clear hbb hs3 s1 s2 s3 s3' ht
  go_wp2_with (go_at_call 8; refine e8.mono ?_; rintro e w' ⟨r1, rfl, hr1, hr1', rfl⟩; refine Hid.out ?_)
  refine Lib.hid ?_
  clear e8
  go_wp2_with (go_at_call 8; refine e8'.mono ?_; rintro e w' ⟨r2, rfl, hr2, hr2', rfl⟩; refine Hid.out ?_)
  refine Lib.hid ?_
  clear e8'
  go_wp2_with (go_at_call 9; refine e9.mono ?_; rintro e w' ⟨r3, rfl, hr3, hr3', rfl⟩; refine Hid.out ?_)
  refine Lib.hid ?_
  clear e9
  by_cases hsum : r1 + r2 + r3 ≤ 1048576
  case neg =>
    go_wp2
    go_ret
    exact ⟨rfl, Below.refl _ _⟩
  go_wp2_with (go_at_call 10; refine (cloneStrings _ ts w h1 (by omega)).mono ?_; rintro e W1 ⟨A1, C1, rfl, R1, B1, -⟩; refine Hid.out ?_)
  refine Lib.hid ?_
  have h2' := h2.below B1
  go_wp2_with (go_at_call 10; refine (cloneStrings _ ks W1 h2' (by omega)).mono ?_; rintro e W2 ⟨A2, C2, rfl, R2, B2, -⟩; refine Hid.out ?_)
  refine Lib.hid ?_
  have h3' := (h3.below B1).below B2
  go_wp2_with (go_at_call 11; refine (cloneList _ vs W2 h3' n3 HS3.out).mono ?_; rintro e W3 ⟨A3, C3, ys, rfl, hyl, hys, R3, B3⟩; refine Hid.out ?_)
  refine Lib.hid ?_
  have R1' := (R1.below B2).below B3
  have R2' := R2.below B3
  have BW : Below w.heap.size w W3 := (B1.trans (B2.mono B1.size)).trans (B3.mono (Nat.le_trans B1.size B2.size))
  have hm := min3 ts.length ks.length vs.length n HN.out W3
  have HY : Hid (∀ p ∈ ys, p.2.length ≤ 1048576) := fun p hp => by
    have : p.2 ∈ vs.map Prod.snd := by rw [← hys]; exact List.mem_map_of_mem hp
    obtain ⟨r, hr, e⟩ := List.mem_map.1 this
    rw [← e]; exact HS3.out r hr
  clear h1 h2 h3 h2' h3' B1 B2 B3 R1 R2 HS3 hys
  obtain ⟨b1, o1, rfl, H1⟩ := rd_at' R1' (by omega)
  obtain ⟨b2, o2, rfl, H2⟩ := rd_at' R2' (by omega)
  have R3' : Rd encB W3 (.slice A3 ys.length C3) ys := by rw [hyl]; exact R3.1
  obtain ⟨b3, o3, rfl, H3⟩ := rd_at' R3' (by omega)
  have HR3 := Lib.hid R3.2
  clear R1' R2' R3' R3
  have hmk := fun w => run_make_rows3 n (by omega) w
  go_wp2_with (go_at_call 12; refine hm.mono ?_; rintro e w' ⟨rfl, rfl⟩)
  go_loopw [8, 9] (fun i _ wr => ∃ (x p : Nat), x ≤ n ∧ i = .int .i64 x ∧ Hid (wr = W3.drewN p) ∧ Hid (∀ a b, a < x → a < b → b < n → nm ts ks a ≠ nm ts ks b)) (fun i _ _ => n - (intOf i).toNat)
  case atStart => exact ⟨0, 0, by omega, rfl, rfl, fun a b h => by omega⟩
  case round =>
    obtain ⟨x, p, hx, rfl, HW, HA⟩ := hrel
    by_cases hlt : x < n
    · go_wp2
      go_loopw [9] (fun j w2 => ∃ (y p : Nat), x < y ∧ y ≤ n ∧ j = .int .i64 y ∧ Hid (w2 = W3.drewN p) ∧ Hid (∀ b, x < b → b < y → nm ts ks x ≠ nm ts ks b)) (fun j _ => n - (intOf j).toNat)
      case atStart => exact ⟨x + 1, p, by omega, by omega, by go_num, HW.out, fun b h1 h2 => by omega⟩
      case round =>
        rename World => w2
        obtain ⟨y, p', hxy, hy, rfl, HW2, HB⟩ := hrel
        by_cases hlt2 : y < n
        · have h2 := pair hl1 hl2 H1 H2 (wr := w2) (fun a v h => by rw [HW2.out]; exact h) hlt hlt2
          obtain ⟨tx, ty, kx, ky⟩ := h2
          have HNE : Hid (nm ts ks x ≠ nm ts ks y → ∀ b, x < b → b < y + 1 → nm ts ks x ≠ nm ts ks b) := fun hne b h1 h2 => by
            by_cases e : b = y
            · subst e; exact hne
            · exact HB.out b h1 (by omega)
          have hnm : nm ts ks x = nm ts ks y → ((tOf ts x).toList == (tOf ts y).toList) = true ∧ ((tOf ks x).toList == (tOf ks y).toList) = true := nm_eq ts ks x y
          clear HB
          cases hb1 : ((tOf ts x).toList == (tOf ts y).toList)
          · have HN2 := Lib.hid (HNE.out (fun e => by rw [(hnm e).1] at hb1; cases hb1))
            clear hnm HNE
            go_wp2
            go_quiet (fail)
            go_wp2
            go_roundw
            case rel => exact ⟨y + 1, p' + nq, by omega, by omega, by go_num, show _ = _ by rw [HW2.out, World.drewN_drewN], HN2.out⟩
            case measure => simp [intOf]; omega
          · cases hb2 : ((tOf ks x).toList == (tOf ks y).toList)
            · have HN2 := Lib.hid (HNE.out (fun e => by rw [(hnm e).2] at hb2; cases hb2))
              clear hnm HNE
              go_wp2
              go_quiet (fail)
              go_wp2
              go_roundw
              case rel => exact ⟨y + 1, p' + nq, by omega, by omega, by go_num, show _ = _ by rw [HW2.out, World.drewN_drewN], HN2.out⟩
              case measure => simp [intOf]; omega
            · clear hnm HNE
              go_wp2
              go_quiet (fail)
              go_wp2
              go_ret
              refine ⟨rfl, ?_⟩
              rw [HW2.out]
              exact ⟨BW.os, BW.tape, BW.output, BW.size, BW.block⟩
        · have HA2 : Hid (∀ a b, a < x + 1 → a < b → b < n → nm ts ks a ≠ nm ts ks b) := fun a b h1 h2 h3 => by
            by_cases e : a = x
            · subst e; exact HB.out b h2 (by omega)
            · exact HA.out a b (by omega) h2 h3
          clear HA HB
          go_wp2
          go_roundw
          case rel => exact ⟨x + 1, p', by omega, by go_num, HW2.out, HA2.out⟩
          case measure => simp [intOf]; omega
    · have HINJ : Hid (∀ x, x < n → ∀ y, y < n → nm ts ks x = nm ts ks y → x = y) := fun a ha b hb e => by
        rcases Nat.lt_trichotomy a b with h | h | h
        · exact absurd e (HA.out a b (by omega) h hb)
        · exact h
        · exact absurd e.symm (HA.out b a (by omega) h ha)
      clear HA
      have F0 : FillW ((wr.alloc (.cells (madeCells #[.string ByteArray.empty, .string ByteArray.empty, .slice none 0 0] (n * 3)) 35)).alloc (.cells (madeCells #[.string ByteArray.empty, .string ByteArray.empty, .slice none 0 0] (n * 3)) 35)) wr.heap.size n (encW ts ks ys) 0 := by
        obtain ⟨cs, ho, r⟩ := FillW.start wr n (encW ts ks ys) (madeCells #[.string ByteArray.empty, .string ByteArray.empty, .slice none 0 0] (n * 3)) (size_madeCells _ _)
        exact ⟨cs, ho.alloc _, r⟩
      have F1 : FillR ((wr.alloc (.cells (madeCells #[.string ByteArray.empty, .string ByteArray.empty, .slice none 0 0] (n * 3)) 35)).alloc (.cells (madeCells #[.string ByteArray.empty, .string ByteArray.empty, .slice none 0 0] (n * 3)) 35)) (wr.heap.size + 1) n (encW ts ks ys) 0 := by
        have := own_new (wr.alloc (.cells (madeCells #[.string ByteArray.empty, .string ByteArray.empty, .slice none 0 0] (n * 3)) 35)) (madeCells #[.string ByteArray.empty, .string ByteArray.empty, .slice none 0 0] (n * 3)) 35
        rw [World.size_alloc] at this
        exact ⟨_, this, by simp [size_madeCells], fun j c hj => by omega⟩
      have FB : Hid (RowKit.Below wr.heap.size wr ((wr.alloc (.cells (madeCells #[.string ByteArray.empty, .string ByteArray.empty, .slice none 0 0] (n * 3)) 35)).alloc (.cells (madeCells #[.string ByteArray.empty, .string ByteArray.empty, .slice none 0 0] (n * 3)) 35))) := ((Below.refl _ _).alloc (Nat.le_refl _) _).alloc (by simp) _
      go_wp2
      go_loopw [12] (fun i w5 => ∃ k : Nat, k ≤ n ∧ i = .int .i64 k ∧ FillW w5 wr.heap.size n (encW ts ks ys) k ∧ FillR w5 (wr.heap.size + 1) n (encW ts ks ys) k ∧ Hid (RowKit.Below wr.heap.size wr w5)) (fun i _ => n - (intOf i).toNat)
      case atStart => exact ⟨0, by omega, rfl, F0, F1, FB⟩
      case round =>
        clear F0 F1 FB
        rename World => w5
        obtain ⟨f, hf, rfl, hfw, hfr, hbw⟩ := hrel
        by_cases hlt3 : f < n
        · have key : ∀ {w' : World}, RowKit.Below wr.heap.size wr w' → ∀ {b o x : Nat} {v : Value}, W3.cell? ⟨b, o + x, none⟩ = some v → w'.cell? ⟨b, o + x, none⟩ = some v := by
            intro w' hb' b o x v h
            have h4 : wr.cell? ⟨b, o + x, none⟩ = some v := by rw [HW.out]; exact h
            rw [hb'.cell (p := ⟨b, o + x, none⟩) (cell_lt h4)]; exact h4
          obtain ⟨⟨⟨pa, pl, pc⟩, pb⟩, hyk⟩ := get_some (xs := ys) (k := f) (by omega)
          have hve : encW ts ks ys f = [.string (tOf ts f), .string (tOf ks f), .slice pa pl pc] := by unfold encW vOf encB; rw [List.getD, hyk]; rfl
          obtain ⟨w6, hw6⟩ : ∃ w6, w6 = ((w5.setCell ⟨wr.heap.size, f * 3, none⟩ (.string (tOf ts f))).setCell ⟨wr.heap.size, f * 3 + 1, none⟩ (.string (tOf ks f))).setCell ⟨wr.heap.size, f * 3 + 2, none⟩ (.slice pa pl pc) := ⟨_, rfl⟩
          have hA6 : FillW w6 wr.heap.size n (encW ts ks ys) (f + 1) := by rw [hw6]; exact hfw.step hlt3 hve
          have hR6 : FillR w6 (wr.heap.size + 1) n (encW ts ks ys) f := by rw [hw6]; exact ((hfr.other (by simp) _).other (by simp) _).other (by simp) _
          have hB6 : RowKit.Below wr.heap.size wr w6 := by rw [hw6]; exact ((hbw.out.setCell (Nat.le_refl _) _).setCell (Nat.le_refl _) _).setCell (Nat.le_refl _) _
          obtain ⟨w7, hw7⟩ : ∃ w7, w7 = ((w6.setCell ⟨wr.heap.size + 1, (n - 1 - f) * 3, none⟩ (.string (tOf ts f))).setCell ⟨wr.heap.size + 1, (n - 1 - f) * 3 + 1, none⟩ (.string (tOf ks f))).setCell ⟨wr.heap.size + 1, (n - 1 - f) * 3 + 2, none⟩ (.slice pa pl pc) := ⟨_, rfl⟩
          have HA7 : Hid (FillW w7 wr.heap.size n (encW ts ks ys) (f + 1)) := by rw [hw7]; exact fillW_other (fillW_other (fillW_other hA6 (by simp) _) (by simp) _) (by simp) _
          have HR7 : Hid (FillR w7 (wr.heap.size + 1) n (encW ts ks ys) (f + 1)) := by rw [hw7]; exact hR6.step hlt3 hve
          have HB7 : Hid (RowKit.Below wr.heap.size wr w7) := by rw [hw7]; exact ((hB6.setCell (by simp) _).setCell (by simp) _).setCell (by simp) _
          have HW6 := Lib.hid hw6
          have HW7 := Lib.hid hw7
          clear hw6 hw7
          have g1 := key hbw.out (H1.out f _ (get_t (by omega)))
          have g2 := key hbw.out (H2.out f _ (get_t (by omega)))
          have g3 : w5.cell? ⟨b3, o3 + f, none⟩ = some (.slice pa pl pc) := key hbw.out (H3.out f _ hyk)
          have hfz := hfw.frozen
          obtain ⟨u0, g4⟩ := hfw.cell (t := f * 3) (by omega)
          obtain ⟨u1, g5⟩ := hfw.cell (t := f * 3 + 1) (by omega)
          obtain ⟨u2, g6⟩ := hfw.cell (t := f * 3 + 2) (by omega)
          have HK := Lib.hid hyk
          clear hfr hfw hyk hve
          go_wp2
          go_region
          go_wp2
          rw [← HW6.out]
          clear g1 g2 g3 g4 g5 g6 hfz
          have g1 := key hB6 (H1.out f _ (get_t (by omega)))
          have g2 := key hB6 (H2.out f _ (get_t (by omega)))
          have g3 : w6.cell? ⟨b3, o3 + f, none⟩ = some (.slice pa pl pc) := key hB6 (H3.out f _ HK.out)
          have hfz := hR6.frozen
          obtain ⟨u0, g4⟩ := hR6.cell (t := (n - 1 - f) * 3) (by omega)
          obtain ⟨u1, g5⟩ := hR6.cell (t := (n - 1 - f) * 3 + 1) (by omega)
          obtain ⟨u2, g6⟩ := hR6.cell (t := (n - 1 - f) * 3 + 2) (by omega)
          clear hA6 hR6 hB6 HW6
          go_region
          go_wp2
          rw [← HW7.out]
          go_roundw
          case rel => exact ⟨f + 1, by omega, by go_num, HA7.out, HR7.out, HB7.out.drew.drew⟩
          case measure => simp [intOf]; omega
        · have hhoA := hfw.holds (by omega) (fun _ => rfl)
          have hhoB := hfr.holds (by omega) (fun _ => rfl)
          have hgA := hfw.lt
          have hgB : wr.heap.size + 1 < w5.heap.size := by obtain ⟨cs, ho, _⟩ := hfr; exact ho.lt
          have hnt := newTxn (some ⟨wr.heap.size, 0, none⟩) n n w5
          clear hfw hfr hmk
          go_wp2_with (go_at_call 15; refine hnt.mono ?_; rintro e w6 ⟨rfl, c6, B6, z6⟩; refine Hid.out ?_)
          refine Lib.hid ?_
          clear hnt
          have hhoA6 := holdsK_of_blocks hhoA (B6.block _ hgA)
          have hwl := writeList14 ts ks ys w5.heap.size wr.heap.size n (Array.range n) w6 (by rw [Array.size_range]; exact c6) (by omega) hhoA6 (by omega) (by rw [Array.size_range]; omega)
          rw [Array.size_range] at hwl
          clear hhoA hhoA6 c6
          go_wp2_with (go_at_call 14; refine hwl.mono ?_; rintro e w7 ⟨rfl, d1, hperm1, hsor1, hho1, hbut1⟩; refine Hid.out ?_)
          refine Lib.hid ?_
          clear hwl
          have hnt := newTxn (some ⟨wr.heap.size + 1, 0, none⟩) n n w7
          go_wp2_with (go_at_call 15; refine hnt.mono ?_; rintro e w8 ⟨rfl, c8, B8, z8⟩; refine Hid.out ?_)
          refine Lib.hid ?_
          clear hnt
          have hs7 : wr.heap.size + 1 < w7.heap.size := by have := hbut1.size; omega
          have hhoB8 := holdsK_of_blocks hhoB (w' := w8) (by rw [B8.block _ hs7, hbut1.block _ (by omega) (by omega), B6.block _ hgB])
          have hwl := writeList14 ts ks ys w7.heap.size (wr.heap.size + 1) n (rev n) w8 (by rw [rev_size]; exact c8) (by omega) hhoB8 (by omega) (by rw [rev_size]; omega)
          rw [rev_size] at hwl
          clear hhoB hhoB8 c8
          go_wp2_with (go_at_call 14; refine hwl.mono ?_; rintro e w9 ⟨rfl, d2, hperm2, hsor2, hho2, hbut2⟩; refine Hid.out ?_)
          refine Lib.hid ?_
          clear hwl
          have hp2 := permIn_trans _ _ _ _ _ (rev_perm n) hperm2
          have hd : d1 = d2 := Plain.sorted_one (nm ts ks) (Array.range n) d1 d2 (fun x hx y hy => by
              rw [Array.toList_range, List.mem_range] at hx hy; exact HINJ.out x hx y hy)
            (by rw [Array.size_range]; exact hperm1) (by rw [Array.size_range]; exact hsor1) (by rw [Array.size_range]; exact hp2) (by rw [Array.size_range]; exact hsor2)
          subst hd
          have hhoA9 := holdsK_of_blocks hho1 (w' := w9) (by rw [hbut2.block _ (by have := B8.size; have := hbut1.size; omega) (by omega), B8.block _ (by omega)])
          have B39 : RowKit.Below wr.heap.size wr w9 := ⟨hbut2.os.trans (B8.os.trans (hbut1.os.trans (B6.os.trans hbw.out.os))), hbut2.tape.trans (B8.tape.trans (hbut1.tape.trans (B6.tape.trans hbw.out.tape))), hbut2.output.trans (B8.output.trans (hbut1.output.trans (B6.output.trans hbw.out.output))),
            Nat.le_trans hbw.out.size (Nat.le_trans B6.size (Nat.le_trans hbut1.size (Nat.le_trans B8.size hbut2.size))), fun k hk => by
              rw [hbut2.block k (by have := B8.size; omega) (by omega), B8.block k (by omega), hbut1.block k (by have := B6.size; omega) (by omega), B6.block k (by omega), hbw.out.block k hk]⟩
          have HST : Hid (∀ a b, a < b → b < n → Plain.ltBy (nm ts ks) d1[a]! d1[b]! = true) := fun a b h1 h2 => strict hperm1 hsor1 HINJ.out h1 h2
          have HLT : Hid (∀ a, a < n → d1[a]! < n) := fun a h => lt_n hperm1 h
          have HFD : Hid (∀ x, x < n → ∃ a, a < n ∧ d1[a]! = x) := fun x h => find hperm1 h
          have HA9 := Lib.hid hhoA9
          have HB9 := Lib.hid hho2
          have HSZ : Hid (d1.size = n) := by have h := hperm1.1; rw [Array.size_range] at h; exact h
          have BW9 : RowKit.Below w.heap.size w w9 := BW.trans ((show RowKit.Below wr.heap.size W3 w9 from ⟨B39.os.trans (by rw [HW.out]; rfl), B39.tape.trans (by rw [HW.out]; rfl), B39.output.trans (by rw [HW.out]; rfl), Nat.le_trans (by rw [HW.out]; exact Nat.le_refl _) B39.size, fun k hk => by rw [B39.block k hk, HW.out]; rfl⟩).mono (by rw [HW.out]; exact BW.size))
          have HB39 := Lib.hid B39
          have HBW9 := Lib.hid BW9
          clear hperm1 hperm2 hsor1 hsor2 hp2 hhoA9 hho1 hho2 hbut1 hbut2 B6 B8 hbw B39 BW9 hgA hgB hs7 z6 z8 HINJ
          have HVAL : Hid (∀ x, x < n → ∃ pa pl pc pb, encB (vOf ys x) = .slice pa pl pc ∧ w9.cell? ⟨b3, o3 + x, none⟩ = some (.slice pa pl pc) ∧ Rd (Value.int .u8) w9 (.slice pa pl pc) pb ∧ pb.length ≤ 1048576) := fun x hx => by
            obtain ⟨⟨⟨pa, pl, pc⟩, pb⟩, hyk⟩ := get_some (xs := ys) (k := x) (by omega)
            have hB : RowKit.Below W3.heap.size W3 w9 := by
              have hb := HB39.out
              rw [HW.out] at hb
              exact ⟨hb.os, hb.tape, hb.output, hb.size, hb.block⟩
            have hc : w9.cell? ⟨b3, o3 + x, none⟩ = some (.slice pa pl pc) := (hB.cell (p := ⟨b3, o3 + x, none⟩) (cell_lt (H3.out x _ hyk))).trans (H3.out x _ hyk)
            exact ⟨pa, pl, pc, pb, by unfold vOf encB; rw [List.getD, hyk]; rfl, hc, (HR3.out _ (List.mem_of_getElem? hyk)).below hB, HY.out _ (List.mem_of_getElem? hyk)⟩
          have HNAM : Hid (∀ x, x < n → w9.cell? ⟨b1, o1 + x, none⟩ = some (.string (tOf ts x)) ∧ w9.cell? ⟨b2, o2 + x, none⟩ = some (.string (tOf ks x))) := fun x hx => by
            have hB : RowKit.Below W3.heap.size W3 w9 := by
              have hb := HB39.out
              rw [HW.out] at hb
              exact ⟨hb.os, hb.tape, hb.output, hb.size, hb.block⟩
            have h1 := H1.out x _ (get_t (by omega))
            have h2 := H2.out x _ (get_t (by omega))
            exact ⟨(hB.cell (p := ⟨b1, o1 + x, none⟩) (cell_lt h1)).trans h1, (hB.cell (p := ⟨b2, o2 + x, none⟩) (cell_lt h2)).trans h2⟩
          clear H1 H2 H3 HR3 HY HB39
          go_wp2
          go_loopw [15] (fun i w10 => ∃ (f p : Nat), f ≤ n ∧ i = .int .i64 f ∧ Hid (w10 = w9.drewN p)) (fun i _ => n - (intOf i).toNat)
          case atStart => exact ⟨0, 0, by omega, rfl, rfl⟩
          case round =>
            rename World => w10
            obtain ⟨f', p', hf', rfl, HW10⟩ := hrel
            by_cases hlt4 : f' < n
            · have key : ∀ {a : Addr} {v : Value}, w9.cell? a = some v → w10.cell? a = some v := fun h => by rw [HW10.out]; exact h
              have hx := HLT.out f' hlt4
              obtain ⟨q0, q1, q2⟩ := holds_cells HA9.out (i := f') (by rw [HSZ.out]; exact hlt4)
              obtain ⟨s0, s1, s2⟩ := holds_cells HB9.out (i := f') (by rw [HSZ.out]; exact hlt4)
              replace q0 := key q0
              replace q1 := key q1
              replace q2 := key q2
              replace s0 := key s0
              replace s1 := key s1
              replace s2 := key s2
              obtain ⟨pa, pl, pc, pb, hve, -, hrd, hpb⟩ := HVAL.out _ hx
              rw [hve] at q2 s2
              have hrd' : Rd (Value.int .u8) w10 (.slice pa pl pc) pb := by rw [HW10.out]; exact hrd
              clear hve hrd
              by_cases hf0 : f' = 0
              · subst hf0
                obtain ⟨x, hxe⟩ : ∃ x, d1[0]! = x := ⟨_, rfl⟩
                rw [hxe] at q0 q1 s0 s1 hx
                clear hxe
                rw [Nat.zero_mul] at q0 q1 q2 s0 s1 s2
                rw [Nat.zero_add] at q1 q2 s1 s2
                go_wp2
                go_quiet (fail)
                go_wp2
                obtain ⟨w11, hw11⟩ : ∃ w11, w11 = w10.drewN nq := ⟨_, rfl⟩
                rw [← hw11]
                have mv : ∀ {a : Addr} {v : Value}, w10.cell? a = some v → w11.cell? a = some v := fun h => by rw [hw11]; exact h
                replace q0 := mv q0
                replace q1 := mv q1
                replace q2 := mv q2
                replace s0 := mv s0
                replace s1 := mv s1
                replace s2 := mv s2
                have k16 := fun m => sameBytes _ pb (w11.drewN m) (by rw [hw11]; exact hrd') (by omega)
                have HW11 : Hid (w11 = w9.drewN (p' + nq)) := by rw [hw11, HW10.out, World.drewN_drewN]; rfl
                clear hw11 mv
                go_quiet ((go_at_call 16; exact Calls.quiet_of (k16 _)))
                go_wp2
                go_roundw
                case rel => exact ⟨1, _, by omega, by go_num, show _ = _ by rw [HW11.out, World.drewN_drewN]⟩
                case measure => simp [intOf]; omega
              · obtain ⟨f2, rfl⟩ : ∃ f2, f' = f2 + 1 := ⟨f' - 1, by omega⟩
                obtain ⟨y0, y1, -⟩ := holds_cells HA9.out (i := f2) (by rw [HSZ.out]; omega)
                replace y0 := key y0
                replace y1 := key y1
                have hlt' := HST.out f2 (f2 + 1) (by omega) hlt4
                rw [← nless_eq] at hlt'
                obtain ⟨x, hxe⟩ : ∃ x, d1[f2 + 1]! = x := ⟨_, rfl⟩
                obtain ⟨y, hye⟩ : ∃ y, d1[f2]! = y := ⟨_, rfl⟩
                rw [hxe] at q0 q1 s0 s1 hx hlt'
                rw [hye] at y0 y1 hlt'
                clear hxe hye
                go_wp2
                go_quiet ((go_at_call 13; exact Calls.quiet_of_same ((nameLess _ _ _ _ _).mono fun _ _ h => ⟨h.1, h.2.symm⟩)))
                go_wp2
                obtain ⟨w11, hw11⟩ : ∃ w11, w11 = w10.drewN nq := ⟨_, rfl⟩
                rw [← hw11]
                have mv : ∀ {a : Addr} {v : Value}, w10.cell? a = some v → w11.cell? a = some v := fun h => by rw [hw11]; exact h
                replace q0 := mv q0
                replace q1 := mv q1
                replace q2 := mv q2
                replace s0 := mv s0
                replace s1 := mv s1
                replace s2 := mv s2
                have k16 := fun m => sameBytes _ pb (w11.drewN m) (by rw [hw11]; exact hrd') (by omega)
                have HW11 : Hid (w11 = w9.drewN (p' + nq)) := by rw [hw11, HW10.out, World.drewN_drewN]; rfl
                have hib : (f2 : Int) + 1 < (n : Int) := by omega
                have hib0 : (0 : Int) ≤ (f2 : Int) + 1 := by omega
                clear hw11 y0 y1 mv
                go_quiet ((go_at_call 16; exact Calls.quiet_of (k16 _)))
                go_wp2
                go_roundw
                case rel => exact ⟨f2 + 1 + 1, _, by omega, by go_num, show _ = _ by rw [HW11.out, World.drewN_drewN]⟩
                case measure => simp [intOf]; omega
            · go_wp2
              go_loopw [16, 17, 18, 19] (fun i _ _ _ w12 => ∃ (x p : Nat), x ≤ n ∧ i = .int .i64 x ∧ Hid (w12 = w9.drewN p)) (fun i _ _ _ _ => n - (intOf i).toNat)
              case atStart => exact ⟨0, p', by omega, rfl, HW10.out⟩
              case round =>
                rename World => w12
                obtain ⟨x, p2, hx, rfl, HW12⟩ := hrel
                by_cases hlt5 : x < n
                · obtain ⟨pos, hpos2, hpx⟩ := HFD.out x hlt5
                  have HPX := Lib.hid hpx
                  clear hpx
                  go_wp2
                  go_loopw [17, 18, 19] (fun l h _ w13 => ∃ (lo hi p : Nat), lo ≤ pos ∧ pos ≤ hi ∧ hi ≤ n ∧ l = .int .i64 lo ∧ h = .int .i64 hi ∧ Hid (w13 = w9.drewN p)) (fun l h _ _ => (intOf h).toNat - (intOf l).toNat)
                  case atStart => exact ⟨0, n, p2, by omega, by omega, by omega, rfl, rfl, HW12.out⟩
                  case round =>
                    rename World => w13
                    obtain ⟨lo, hi, p3, hlo, hhi, hhn, rfl, rfl, HW13⟩ := hrel
                    have key : ∀ {a : Addr} {v : Value}, w9.cell? a = some v → w13.cell? a = some v := fun h => by rw [HW13.out]; exact h
                    by_cases hlh : lo < hi
                    · obtain ⟨m, hm⟩ : ∃ m, m = lo + (hi - lo) / 2 := ⟨_, rfl⟩
                      have hm1 : lo ≤ m := by omega
                      have hm2 : m < hi := by omega
                      have hmid : (lo : Int) + ((hi : Int) - (lo : Int)) / 2 = (m : Int) := by omega
                      clear hm
                      obtain ⟨q0, q1, -⟩ := holds_cells HA9.out (i := m) (by rw [HSZ.out]; omega)
                      replace q0 := key q0
                      replace q1 := key q1
                      obtain ⟨t0, t1⟩ := HNAM.out x hlt5
                      replace t0 := key t0
                      replace t1 := key t1
                      have hmn : m < n := by omega
                      have HLS : Hid (m < pos → nless (tOf ts d1[m]!) (tOf ks d1[m]!) (tOf ts x) (tOf ks x) = true) := fun h => by
                        rw [nless_eq, ← HPX.out]; exact HST.out m pos h hpos2
                      have HGE : Hid (pos ≤ m → nless (tOf ts d1[m]!) (tOf ks d1[m]!) (tOf ts x) (tOf ks x) = false) := fun h => by
                        rw [nless_eq, ← HPX.out]
                        by_cases e : m = pos
                        · rw [e]; exact Plain.nl_irrefl _
                        · exact (Plain.swo_by (nm ts ks)).asymmA (HST.out pos m (by omega) hmn)
                      obtain ⟨y, hye⟩ : ∃ y, d1[m]! = y := ⟨_, rfl⟩
                      rw [hye] at q0 q1 HLS HGE
                      clear hye
                      by_cases hmp : m < pos
                      · have kl := fun W' => nameLess (tOf ts y) (tOf ks y) (tOf ts x) (tOf ks x) W'
                        simp only [HLS.out hmp] at kl
                        clear HLS HGE
                        go_wp2
                        go_quiet ((go_at_call 13; exact Calls.quiet_of_same ((kl _).mono fun _ _ h => ⟨h.1, h.2.symm⟩)))
                        go_wp2
                        go_roundw
                        case rel => exact ⟨m + 1, hi, _, by omega, by omega, by omega, by go_num, rfl, show _ = _ by rw [HW13.out, World.drewN_drewN]⟩
                        case measure => simp [intOf]; omega
                      · have kl := fun W' => nameLess (tOf ts y) (tOf ks y) (tOf ts x) (tOf ks x) W'
                        simp only [HGE.out (by omega)] at kl
                        clear HLS HGE
                        go_wp2
                        go_quiet ((go_at_call 13; exact Calls.quiet_of_same ((kl _).mono fun _ _ h => ⟨h.1, h.2.symm⟩)))
                        go_wp2
                        go_roundw
                        case rel => exact ⟨lo, m, _, by omega, by omega, by omega, rfl, rfl, show _ = _ by rw [HW13.out, World.drewN_drewN]⟩
                        case measure => simp [intOf]; omega
                    · have hlp : lo = pos := by omega
                      subst hlp
                      obtain ⟨q0, q1, q2⟩ := holds_cells HA9.out (i := lo) (by rw [HSZ.out]; omega)
                      rw [HPX.out] at q0 q1 q2
                      replace q0 := key q0
                      replace q1 := key q1
                      replace q2 := key q2
                      obtain ⟨t0, t1⟩ := HNAM.out x hlt5
                      replace t0 := key t0
                      replace t1 := key t1
                      obtain ⟨pa, pl, pc, pb, hve, t2, hrd, hpb⟩ := HVAL.out _ hlt5
                      rw [hve] at q2
                      replace t2 := key t2
                      have k16 := fun m => sameBytes _ pb (w13.drewN m) (by rw [HW13.out]; exact hrd) (by omega)
                      have hib : (lo : Int) < (n : Int) := by omega
                      have hix : (x : Int) < (n : Int) := by omega
                      have hix1 : (x : Int) < (ts.length : Int) := by omega
                      have hix2 : (x : Int) < (ks.length : Int) := by omega
                      have hix3 : (x : Int) < (vs.length : Int) := by omega
                      clear hve hrd hpb
                      go_wp2
                      go_quiet ((go_at_call 16; exact Calls.quiet_of (k16 _)))
                      go_wp2
                      go_roundw
                      case rel => exact ⟨x + 1, _, by omega, by go_num, show _ = _ by rw [HW13.out, World.drewN_drewN]⟩
                      case measure => simp [intOf]; omega
                · have hB := HBW9.out
                  go_wp2
                  go_ret
                  refine ⟨rfl, ?_⟩
                  rw [HW12.out]
                  exact ⟨hB.os, hB.tape, hB.output, hB.size, hB.block⟩
end Go.Proofs.Qxb6605845a.Law4
