/-
  container/heap: up and Push, on the engine's heap of keys.
-/
import Derived.Test.Qxb6605845aDoorHeapWalk
namespace Go.Proofs.Qxb6605845aDoor.HeapWalk
open Go.RowKit Mem Small Heap

/-- What bringing an entry up leaves. -/
def PostU (w : World) (g : Nat) (h : List KS) (e : Ending) (w' : World) : Prop := e = .returned (.tuple #[]) ∧ ∃ h', HAt w' g h' ∧ h'.Perm h ∧ IsHeap h' ∧ Below g w w'
theorem HAt.drewN {w : World} {g : Nat} {h : List KS} (k : HAt w g h) (q : Nat) : HAt (w.drewN q) g h := k

theorem b_drewN {B : Nat} {a w : World} (h : Below B a w) (n : Nat) : Below B a (w.drewN n) := ⟨h.os, h.tape, h.output, h.size, h.block⟩

set_option maxRecDepth 100000 in
set_option maxHeartbeats 1000000 in
theorem up (g j0 : Nat) (h : List KS) (w : World) (hh : HAt w g h) (hb : HBut j0 h) (hj : j0 < h.length) (hn : h.length ≤ 1048576) :
    Calls Tryd.prog 26 #[.iface 83 (.pointer (some ⟨g, 20, none⟩)), .int .i64 j0] w (PostU w g h) := by
  have W0 := Lib.hid hh
  have B0 := Lib.hid hb
  clear hh hb
  go_enter Tryd.func26, Tryd.ntmps26
  go_wp2
  go_loopw [1] (fun s wr => ∃ (j : Nat) (h' : List KS), s = .int .i64 j ∧ j < h'.length ∧ Hid (h'.length = h.length) ∧ Hid (HAt wr g h') ∧ Hid (h'.Perm h) ∧ Hid (HBut j h') ∧ Hid (Below g w wr)) (fun s _ => (intOf s).toNat)
  case atStart => exact ⟨j0, h, rfl, hj, Lib.hid rfl, W0, Lib.hid (List.Perm.refl _), B0, Lib.hid (Below.refl _ _)⟩
  case round =>
    obtain ⟨j, h', rfl, hjl, hl, HW, HP, HB, HL⟩ := hrel
    clear hj W0 B0
    have hn' : h'.length ≤ 1048576 := by have := hl.out; omega
    by_cases hz : j = 0
    · subst hz
      go_wp2
      go_end0
      exact ⟨rfl, h', HW.out, HP.out, heap_of_but HB.out (fun h1 => absurd h1 (by omega)), HL.out⟩
    · obtain ⟨i, hi⟩ : ∃ i, i = (j - 1) / 2 := ⟨_, rfl⟩
      have hij : i < j := by omega
      have hdiv : ((j : Int) - 1).tdiv 2 = (i : Int) := by rw [Int.tdiv_eq_ediv_of_nonneg (by omega)]; omega
      obtain ⟨x, hx⟩ := get_some (xs := h') (k := i) (by omega)
      obtain ⟨y, hy⟩ := get_some (xs := h') (k := j) hjl
      obtain ⟨r, cap, c20, HC, HF⟩ := HW.out.at (by omega)
      obtain ⟨ci, ci'⟩ := HC.out i x hx
      obtain ⟨cj, cj'⟩ := HC.out j y hy
      have il : (i : Int) < (h'.length : Int) := by omega
      have jl : (j : Int) < (h'.length : Int) := by omega
      have hmL := mLess ⟨g, 20, none⟩ wr _ c20
      have hmS := fun q => mSwap ⟨g, 20, none⟩ (wr.drewN q) _ c20
      have hne : ¬ (i : Int) = (j : Int) := by omega
      have HI := Lib.hid hi
      have HX := Lib.hid hx
      have HY := Lib.hid hy
      clear hi hx hy
      by_cases hlt : y.1 < x.1
      · have hle := less r h'.length cap j i y.1 x.1 true (by simp [hlt]) wr jl il cj ci
        go_wp2_with (go_at_call 75; refine hle.mono ?_; rintro e w2 ⟨rfl, q, rfl⟩; refine Hid.out ?_)
        refine Lib.hid ?_
        have hsw := swap r h'.length cap i j x.1 y.1 x.2 y.2 (wr.drewN q) (by omega) il jl ci cj ci' cj' (HF.out _) (HF.out _) (HF.out _) (HF.out _)
        have hms := hmS q
        clear hmS hmL hle
        obtain ⟨S1, S2⟩ := (HW.out.drewN q).swapped (i := i) (j := j) c20 x y
        have S1' := Lib.hid S1
        have S2' := Lib.hid S2
        clear S1 S2
        go_wp2_with (go_at_call 76; refine hsw.mono ?_; rintro e w3 ⟨rfl, rfl⟩; refine Hid.out ?_)
        refine Lib.hid ?_
        go_wp2
        go_roundw
        case rel => exact ⟨i, swp h' i j x y, rfl, by rw [length_swp]; omega, Lib.hid (by rw [length_swp]; exact hl.out), S1', Lib.hid ((perm_swp hij HX.out HY.out).trans HP.out), Lib.hid (but_up HB.out HX.out HY.out HI.out (by omega) hlt), Lib.hid ((b_drewN HL.out q).trans S2'.out)⟩
        case measure => simp [intOf]; omega
      · have hle := less r h'.length cap j i y.1 x.1 false (by simp; omega) wr jl il cj ci
        go_wp2_with (go_at_call 75; refine hle.mono ?_; rintro e w2 ⟨rfl, q, rfl⟩; refine Hid.out ?_)
        refine Lib.hid ?_
        go_wp2
        go_end0
        exact ⟨rfl, h', HW.out.drewN q, HP.out, heap_of_but HB.out (fun _ _ => by rw [← HI.out, ms_of HX.out, ms_of HY.out]; omega), b_drewN HL.out q⟩

/-- container/heap.Push on the engine's heap. -/
theorem heapPush (g : Nat) (x : Int) (s : ByteArray) (h : List KS) (w : World) (hh : HAt w g h) (hp : IsHeap h) (hn : h.length < 1048576) :
    Calls Tryd.prog 23 #[.iface 83 (.pointer (some ⟨g, 20, none⟩)), .iface 78 (.agg #[.int .i64 x, .string s])] w (PostU w g (h ++ [(x, s)])) := by
  have k1 := push g x s h w hh (by omega)
  have hm := mPush ⟨g, 20, none⟩ w
  go_enter Tryd.func23, Tryd.ntmps23
  go_wp2_with (go_at_call 78; refine k1.mono ?_; rintro e w2 ⟨rfl, h2, b2⟩; refine Hid.out ?_)
  refine Lib.hid ?_
  obtain ⟨r, cap, c20, -, -⟩ := h2.at (by simp)
  have hml := mLen ⟨g, 20, none⟩ w2 _ c20
  have k2 := len74 (some ⟨r, 0, none⟩) (h ++ [(x, s)]).length cap w2
  have k3 := up g h.length (h ++ [(x, s)]) w2 h2 (but_last hp (x, s)) (by simp) (by simp; omega)
  have B2 := Lib.hid b2
  clear k1 hm hh hp h2 b2
  obtain ⟨N, hN⟩ : ∃ N, (h ++ [(x, s)]).length = N := ⟨_, rfl⟩
  have hN' : (N : Int) - 1 = (h.length : Int) := by rw [← hN]; simp
  rw [hN] at hml k2
  clear c20 hN
  go_wp2_with (go_at_call 74; refine k2.mono ?_; rintro e w3 ⟨rfl, rfl⟩; refine Hid.out ?_)
  refine Lib.hid ?_
  go_wp2_with (go_at_call 26; refine k3.mono ?_; rintro e w4 ⟨rfl, h', a1, a2, a3, a4⟩; refine Hid.out ?_)
  refine Lib.hid ?_
  go_wp2
  go_end0
  exact ⟨rfl, h', a1, a2, a3, B2.out.trans a4⟩
end Go.Proofs.Qxb6605845aDoor.HeapWalk
