/-
  ZZNewTxn, ZZWriteList and writeList: what comes back.
-/
import Derived.Test.Qxb6605845aSort
namespace Go.Proofs.Qxb6605845a.Lst
open Go.RowKit Go.Shelf Go.Lib Go.Sort Mem Small Srt

theorem newTxn (p : Option Addr) (l c : Nat) (w : World) :
    Calls Try.prog 15 #[.slice p l c] w fun e w' => e = .returned (.pointer (some ⟨w.heap.size, 0, none⟩)) ∧ w'.cell? ⟨w.heap.size, 1, none⟩ = some (.slice p l c) ∧ Below w.heap.size w w' ∧ w'.heap.size = w.heap.size + 1 := by
  go_enter Try.func15, Try.ntmps15
  go_wp2
  go_ret
  refine ⟨rfl, ?_, (Below.refl _ _).alloc (Nat.le_refl _) _, by simp⟩
  simp [go_sem]

theorem writeList31 (ts ks : List ByteArray) (vs : List BS) (b blk cap : Nat) (d : Array Nat) (w : World) (hc : w.cell? ⟨b, 1, none⟩ = some (.slice (some ⟨blk, 0, none⟩) d.size cap)) (hne : b ≠ blk) (hH : HoldsK (encW ts ks vs) 3 w blk 0 d) (hblk : blk < w.heap.size) (hsz : d.size < 4611686018427387904) :
    Calls Try.prog 31 #[.pointer (some ⟨b, 0, none⟩)] w fun e w' => e = .returned (.slice (some ⟨blk, 0, none⟩) d.size cap) ∧ ∃ d', PermIn 0 d.size d d' ∧ SortedIn (Plain.ltBy (nm ts ks)) 0 d.size d' ∧ HoldsK (encW ts ks vs) 3 w' blk 0 d' ∧ But blk w w' := by
  have hs := sort34 ts ks vs blk cap d w hH hblk hsz
  obtain ⟨n, hn⟩ : ∃ n, n = d.size := ⟨_, rfl⟩
  rw [← hn] at hs hc ⊢
  clear hH hn
  go_enter Try.func31, Try.ntmps31
  go_wp2_with (go_at_call 34; refine hs.mono ?_; rintro e w' ⟨rfl, d', hp, hso, hH', hbut⟩; refine Hid.out ?_)
  refine Lib.hid ?_
  have hc' : w'.cell? ⟨b, 1, none⟩ = some (.slice (some ⟨blk, 0, none⟩) n cap) := by rw [← hc]; exact World.cell?_of_block (w := w) (hbut.block b (cell_lt hc) hne)
  have HH := Lib.hid (And.intro hp (And.intro hso hH'))
  clear hp hso hH'
  go_wp2
  go_ret
  exact ⟨rfl, d', HH.out.1, HH.out.2.1, HH.out.2.2, hbut⟩

theorem writeList14 (ts ks : List ByteArray) (vs : List BS) (b blk cap : Nat) (d : Array Nat) (w : World) (hc : w.cell? ⟨b, 1, none⟩ = some (.slice (some ⟨blk, 0, none⟩) d.size cap)) (hne : b ≠ blk) (hH : HoldsK (encW ts ks vs) 3 w blk 0 d) (hblk : blk < w.heap.size) (hsz : d.size < 4611686018427387904) :
    Calls Try.prog 14 #[.pointer (some ⟨b, 0, none⟩)] w fun e w' => e = .returned (.slice (some ⟨blk, 0, none⟩) d.size cap) ∧ ∃ d', PermIn 0 d.size d d' ∧ SortedIn (Plain.ltBy (nm ts ks)) 0 d.size d' ∧ HoldsK (encW ts ks vs) 3 w' blk 0 d' ∧ But blk w w' := by
  have hs := writeList31 ts ks vs b blk cap d w hc hne hH hblk hsz
  obtain ⟨n, hn⟩ : ∃ n, n = d.size := ⟨_, rfl⟩
  rw [← hn] at hs ⊢
  clear hH hn hc
  go_enter Try.func14, Try.ntmps14
  go_wp2_with (go_at_call 31; refine hs.mono ?_; rintro e w' ⟨rfl, d', hp, hso, hH', hbut⟩; refine Hid.out ?_)
  refine Lib.hid ?_
  have HH := Lib.hid (And.intro hp (And.intro hso hH'))
  clear hp hso hH'
  go_wp2
  go_ret
  exact ⟨rfl, d', HH.out.1, HH.out.2.1, HH.out.2.2, hbut⟩

theorem writeList_none (b : Nat) (p : Option Addr) (cap : Nat) (w : World) (hc : w.cell? ⟨b, 1, none⟩ = some (.slice p 0 cap)) :
    Calls Try.prog 14 #[.pointer (some ⟨b, 0, none⟩)] w fun e w' => e = .returned (.slice p 0 cap) ∧ w = w' := by
  have h31 : Calls Try.prog 31 #[.pointer (some ⟨b, 0, none⟩)] w fun e w' => e = .returned (.slice p 0 cap) ∧ w = w' := by
    go_enter Try.func31, Try.ntmps31
    go_wp2_with (go_at_call 34; refine (sort34_none _ _ _ _).mono ?_; rintro e w' ⟨rfl, rfl⟩)
    go_ret
    exact ⟨rfl, rfl⟩
  go_enter Try.func14, Try.ntmps14
  go_wp2_with (go_at_call 31; refine h31.mono ?_; rintro e w' ⟨rfl, rfl⟩)
  go_ret
  exact ⟨rfl, rfl⟩
end Go.Proofs.Qxb6605845a.Lst
