/-
  The order of entries, (stamp, key bytewise): it is total; so two sorted lists of the same entries are one. No Go in sight.
-/
import Derived.Lib.Bytealg
import Derived.Sort.LotA
import Derived.Shelf.SlSortCmp.Insertion
import Derived.Test.Qxb6605845aDoorHeap
import Derived.Test.Qxb6605845aDoorMem
namespace Go.Proofs.Qxb6605845aDoor.KOrd
open Go.Sort Heap

theorem bytesLess_eq : ∀ (a b : List UInt8), Op.bytesLess a b = decide (a < b)
  | [], [] => by simp [Op.bytesLess]
  | _ :: _, [] => by simp [Op.bytesLess]
  | [], _ :: _ => by simp [Op.bytesLess]
  | a :: x, b :: y => by
    rw [Op.bytesLess, bytesLess_eq x y, Bool.eq_iff_iff]
    simp [List.cons_lt_cons_iff]

/-- Entries in order. -/
def kl (a b : KS) : Bool := if a.1 = b.1 then Op.bytesLess a.2.toList b.2.toList else decide (a.1 < b.1)
theorem kl_iff (a b : KS) : kl a b = true ↔ a.1 < b.1 ∨ a.1 = b.1 ∧ a.2.toList < b.2.toList := by
  unfold kl
  by_cases h : a.1 = b.1
  · simp [h, bytesLess_eq]
  · simp [h]
theorem kl_no (a b : KS) : kl a b = false ↔ b.1 < a.1 ∨ b.1 = a.1 ∧ b.2.toList ≤ a.2.toList := by
  rw [← Bool.not_eq_true, kl_iff]
  constructor
  · intro h
    by_cases h1 : b.1 < a.1
    · exact .inl h1
    · by_cases h2 : a.1 < b.1
      · exact absurd (.inl h2) h
      · have e : b.1 = a.1 := by omega
        refine .inr ⟨e, List.not_lt.1 fun h3 => h (.inr ⟨e.symm, h3⟩)⟩
  · rintro (h | ⟨e, h⟩) (k | ⟨f, k⟩)
    · omega
    · omega
    · omega
    · exact List.not_lt.2 h k
theorem kl_swo : SWO kl where
  irrefl a := by rw [kl_no]; exact .inr ⟨rfl, List.le_refl _⟩
  trans a b c h k := by
    rw [kl_iff] at *
    rcases h with h | ⟨e, h⟩ <;> rcases k with k | ⟨f, k⟩
    · exact .inl (by omega)
    · exact .inl (by omega)
    · exact .inl (by omega)
    · exact .inr ⟨e.trans f, List.lt_trans h k⟩
  ntrans a b c h k := by
    rw [kl_no] at *
    rcases h with h | ⟨e, h⟩ <;> rcases k with k | ⟨f, k⟩
    · exact .inl (by omega)
    · exact .inl (by omega)
    · exact .inl (by omega)
    · exact .inr ⟨f.trans e, List.le_trans k h⟩
theorem kl_eq {a b : KS} (h : kl a b = false) (k : kl b a = false) : a = b := by
  rw [kl_no] at *
  rcases h with h | ⟨e, h⟩
  · rcases k with k | ⟨f, _⟩
    · omega
    · omega
  · rcases k with k | ⟨f, k⟩
    · omega
    · have e2 := List.le_antisymm k h
      rw [Lib.toList_data, Lib.toList_data] at e2
      exact Prod.ext f (ByteArray.ext (Array.ext' e2))

/-- Two sorted lists of the same entries are one. -/
theorem sorted_one (n : Nat) (d d' : Array KS) (z : d.size = n) (z' : d'.size = n) (hs : SortedIn kl 0 n d) (hs' : SortedIn kl 0 n d') (hp : d.toList.Perm d'.toList) : d = d' := by
  have pw : ∀ (d : Array KS), d.size = n → SortedIn kl 0 n d → d.toList.Pairwise fun x y => (!kl y x) = true := by
    intro d hz hs
    rw [List.pairwise_iff_getElem]
    intro i j hi hj hij
    have hi' : i < d.size := by simpa using hi
    have hj' : j < d.size := by simpa using hj
    have := hs i j (Nat.zero_le _) hij (by omega)
    rw [getElem!_pos d j hj', getElem!_pos d i hi'] at this
    simpa using this
  have := List.Perm.eq_of_pairwise (le := fun x y => (!kl y x) = true) (fun a b ha hb h1 h2 => kl_eq (Bool.not_eq_true' _ |>.mp h2) (Bool.not_eq_true' _ |>.mp h1)) (pw d z hs) (pw d' z' hs') hp
  exact Array.ext' this
theorem perm_all {n : Nat} {d d' : Array KS} (z : d.size = n) (h : PermIn 0 n d d') : d'.size = n ∧ d'.toList.Perm d.toList := by
  obtain ⟨h1, -, p⟩ := h
  have z' : d'.size = n := h1.trans z
  have e : d.extract 0 n = d := by rw [← z]; exact Array.extract_size
  have e' : d'.extract 0 n = d' := by rw [← z']; exact Array.extract_size
  rw [e, e'] at p
  exact ⟨z', p⟩
end Go.Proofs.Qxb6605845aDoor.KOrd
