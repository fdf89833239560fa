/-
  The walk of FnWriteListIgnoresInputOrder where there is no write, and where a list is too long.
-/
import Derived.Test.Qxb6605845aLaw4
namespace Go.Proofs.Qxb6605845a.Law4Zero
open Go.RowKit Go.Shelf Go.Lib Go.Sort Mem Small Srt Lst Total Idx Law3 Law4

set_option maxHeartbeats 4000000 in
set_option maxRecDepth 100000 in
theorem walk_zero (v1 v2 v3 : Value) (ts ks : List ByteArray) (vs : List BS) (w : World) (h1 : Rd Value.string w v1 ts) (h2 : Rd Value.string w v2 ks) (h3 : RdV w v3 vs)
    (n1 : ts.length ≤ 4096) (n2 : ks.length ≤ 4096) (n3 : vs.length ≤ 4096) (hn : min (min ts.length ks.length) vs.length = 0)
    (s1 : ∀ s ∈ ts, s.size ≤ 9223372036854775807) (s2 : ∀ s ∈ ks, s.size ≤ 9223372036854775807) (s3 : ∀ p ∈ vs, p.1.2.1 ≤ 9223372036854775807) (s3' : ∀ p ∈ vs, p.1.2.1 = p.2.length) :
    Calls Try.prog 4 #[v1, v2, v3] w fun e w' => e = .returned (.bool true) ∧ Below w.heap.size w w' := by
  have ht := total17 v1 v2 v3 ts ks vs w h1 h2 h3.1 (by omega) (by omega) (by omega) s1 s2 s3
  have e8 := stringsBytes v1 ts w h1 n1 s1
  have e8' := stringsBytes v2 ks w h2 n2 s2
  have e9 := bytesBytes v3 vs w h3.1 n3 s3
  obtain ⟨a1, c1, rfl⟩ := h1.form
  obtain ⟨a2, c2, rfl⟩ := h2.form
  obtain ⟨a3, c3, rfl⟩ := h3.1.form
  have HN := Lib.hid hn
  clear hn
  go_enter Try.func4, Try.ntmps4
  go_wp2_with (go_at_call 17; refine ht.mono ?_; rintro e w' ⟨bb, rfl, rfl, hbb⟩; refine Hid.out ?_)
  refine Lib.hid ?_
  cases bb
  case false =>
    go_wp2
    go_ret
    exact ⟨rfl, Below.refl _ _⟩
  have hs3 : ∀ p ∈ vs, p.2.length ≤ 1048576 := fun p hp => by rw [← s3' p hp]; exact hbb rfl p hp
  have HS3 := Lib.hid hs3
  clear hbb hs3 s1 s2 s3 s3' ht
  go_wp2_with (go_at_call 8; refine e8.mono ?_; rintro e w' ⟨r1, rfl, hr1, hr1', rfl⟩; refine Hid.out ?_)
  refine Lib.hid ?_
  clear e8
  go_wp2_with (go_at_call 8; refine e8'.mono ?_; rintro e w' ⟨r2, rfl, hr2, hr2', rfl⟩; refine Hid.out ?_)
  refine Lib.hid ?_
  clear e8'
  go_wp2_with (go_at_call 9; refine e9.mono ?_; rintro e w' ⟨r3, rfl, hr3, hr3', rfl⟩; refine Hid.out ?_)
  refine Lib.hid ?_
  clear e9
  by_cases hsum : r1 + r2 + r3 ≤ 1048576
  case neg =>
    go_wp2
    go_ret
    exact ⟨rfl, Below.refl _ _⟩
  go_wp2_with (go_at_call 10; refine (cloneStrings _ ts w h1 (by omega)).mono ?_; rintro e W1 ⟨A1, C1, rfl, R1, B1, -⟩; refine Hid.out ?_)
  refine Lib.hid ?_
  have h2' := h2.below B1
  go_wp2_with (go_at_call 10; refine (cloneStrings _ ks W1 h2' (by omega)).mono ?_; rintro e W2 ⟨A2, C2, rfl, R2, B2, -⟩; refine Hid.out ?_)
  refine Lib.hid ?_
  have h3' := (h3.below B1).below B2
  go_wp2_with (go_at_call 11; refine (cloneList _ vs W2 h3' n3 HS3.out).mono ?_; rintro e W3 ⟨A3, C3, ys, rfl, hyl, hys, R3, B3⟩; refine Hid.out ?_)
  refine Lib.hid ?_
  have R1' := (R1.below B2).below B3
  have R2' := R2.below B3
  have BW : Below w.heap.size w W3 := (B1.trans (B2.mono B1.size)).trans (B3.mono (Nat.le_trans B1.size B2.size))
  have hm := min3 ts.length ks.length vs.length 0 HN.out W3
  have hmk2 : ∀ w, (Instr.makeSlice 32 (.int .i64 0) (.int .i64 0)).run Try.prog w = .ok (.slice (some ⟨w.heap.size, 0, none⟩) 0 0) (w.alloc (.cells (madeCells #[.string ByteArray.empty, .string ByteArray.empty, .slice none 0 0] 0) 35)) := fun w => run_make_rows3 0 (by omega) w
  replace hm : Calls Try.prog 12 #[.int .i64 ts.length, .int .i64 ks.length, .int .i64 vs.length] W3 fun e w' => e = .returned (.int .i64 0) ∧ W3 = w' := hm
  have HY : Hid (∀ p ∈ ys, p.2.length ≤ 1048576) := fun p hp => by
    have : p.2 ∈ vs.map Prod.snd := by rw [← hys]; exact List.mem_map_of_mem hp
    obtain ⟨r, hr, e⟩ := List.mem_map.1 this
    rw [← e]; exact HS3.out r hr
  clear h1 h2 h3 h2' h3' B1 B2 B3 R1 R2 HS3 hys
  clear R1' R2' HY R3 hyl
  go_wp2_with (go_at_call 12; refine hm.mono ?_; rintro e w' ⟨rfl, rfl⟩)
  go_loop [8, 9] (fun i _ => i = .int .i64 0) (fun _ _ => 0)
  case atStart => rfl
  case round =>
    subst hrel
    go_wp2
    go_loop [12] (fun i => i = .int .i64 0) (fun _ => 0)
    case atStart => rfl
    case round =>
      subst hrel
      have hnt := fun p w => newTxn p 0 0 w
      go_wp2_with (go_at_call 15; refine (hnt _ _).mono ?_; rintro e w6 ⟨rfl, c6, B6, -⟩; refine Hid.out ?_)
      refine Lib.hid ?_
      simp only [World.size_alloc] at c6
      have hwl := writeList_none _ _ _ w6 c6
      have BB : RowKit.Below w.heap.size w w6 := (((BW.alloc BW.size _).alloc (by have := BW.size; simp; omega) _).trans (B6.mono (by have := BW.size; simp; omega)))
      go_wp2_with (go_at_call 14; go_must (refine hwl.mono ?_); rintro e w' ⟨rfl, rfl⟩; refine Hid.out ?_)
      refine Lib.hid ?_
      clear hwl c6
      go_wp2_with (go_at_call 15; refine (hnt _ _).mono ?_; rintro e w8 ⟨rfl, c8, B8, -⟩; refine Hid.out ?_)
      refine Lib.hid ?_
      have hwl := writeList_none _ _ _ w8 c8
      have BB8 : RowKit.Below w.heap.size w w8 := BB.trans (B8.mono BB.size)
      go_wp2_with (go_at_call 14; go_must (refine hwl.mono ?_); rintro e w' ⟨rfl, rfl⟩)
      go_loop [15] (fun i => i = .int .i64 0) (fun _ => 0)
      case atStart => rfl
      case round =>
        subst hrel
        go_wp2
        go_loop [16, 17, 18, 19] (fun i _ _ _ => i = .int .i64 0) (fun _ _ _ _ => 0)
        case atStart => rfl
        case round =>
          subst hrel
          go_wp2
          go_ret
          exact ⟨rfl, BB8⟩

set_option maxHeartbeats 1000000 in
set_option maxRecDepth 100000 in
theorem walk_big (v1 v2 v3 : Value) (ts ks : List ByteArray) (vs : List BS) (w : World) (h1 : Rd Value.string w v1 ts) (h2 : Rd Value.string w v2 ks) (h3 : RdV w v3 vs)
    (n1 : ts.length ≤ 9223372036854775807) (n2 : ks.length ≤ 9223372036854775807) (n3 : vs.length ≤ 9223372036854775807) (hbig : 4096 < ts.length ∨ 4096 < ks.length ∨ 4096 < vs.length)
    (s1 : ∀ s ∈ ts, s.size ≤ 9223372036854775807) (s2 : ∀ s ∈ ks, s.size ≤ 9223372036854775807) (s3 : ∀ p ∈ vs, p.1.2.1 ≤ 9223372036854775807) :
    Calls Try.prog 4 #[v1, v2, v3] w fun e w' => e = .returned (.bool true) ∧ RowKit.Below w.heap.size w w' := by
  have ht := total17 v1 v2 v3 ts ks vs w h1 h2 h3.1 n1 n2 n3 s1 s2 s3
  obtain ⟨a1, c1, rfl⟩ := h1.form
  obtain ⟨a2, c2, rfl⟩ := h2.form
  obtain ⟨a3, c3, rfl⟩ := h3.1.form
  clear h1 h2 h3 s1 s2 s3
  have HB := Lib.hid hbig
  clear hbig
  go_enter Try.func4, Try.ntmps4
  go_wp2_with (go_at_call 17; refine ht.mono ?_; rintro e w' ⟨bb, rfl, rfl, hbb⟩; refine Hid.out ?_)
  refine Lib.hid ?_
  clear hbb ht
  cases bb
  case false =>
    go_wp2
    go_ret
    exact ⟨rfl, Below.refl _ _⟩
  by_cases l1 : 4096 < ts.length
  · go_wp2
    go_ret
    exact ⟨rfl, Below.refl _ _⟩
  · by_cases l2 : 4096 < ks.length
    · go_wp2
      go_ret
      exact ⟨rfl, Below.refl _ _⟩
    · have l3 : 4096 < vs.length := by have := HB.out; omega
      go_wp2
      go_ret
      exact ⟨rfl, Below.refl _ _⟩
end Go.Proofs.Qxb6605845a.Law4Zero
