/-
  The order of names, (table, key) bytewise; that a sorted list of distinct names is one. No Go in sight.
-/
import Derived.Lib.Bytealg
import Derived.Sort.LotA
import Derived.Shelf.SlSortCmp.Insertion
import Derived.Test.Qxb6605845aMem
namespace Go.Proofs.Qxb6605845a.Plain
open Go.Sort

theorem bytesLess_eq : ∀ (a b : List UInt8), Op.bytesLess a b = decide (a < b)
  | [], [] => by simp [Op.bytesLess]
  | _ :: _, [] => by simp [Op.bytesLess]
  | [], _ :: _ => by simp [Op.bytesLess]
  | a :: x, b :: y => by
    rw [Op.bytesLess, bytesLess_eq x y, Bool.eq_iff_iff]
    simp [List.cons_lt_cons_iff]

theorem cmp_zero : ∀ (a b : List UInt8), Lib.compareBytes a b = 0 ↔ a = b
  | [], [] => by simp [Lib.compareBytes]
  | _ :: _, [] => by simp [Lib.compareBytes]
  | [], _ :: _ => by simp [Lib.compareBytes]
  | a :: x, b :: y => by
    rw [Lib.compareBytes]
    have ih := cmp_zero x y
    by_cases h1 : a < b
    · have : a ≠ b := fun e => by subst e; exact (UInt8.lt_irrefl _ h1)
      simp [h1, this]
    · by_cases h2 : b < a
      · have : a ≠ b := fun e => by subst e; exact (UInt8.lt_irrefl _ h2)
        simp [h1, h2, this]
      · have : a = b := UInt8.le_antisymm (UInt8.not_lt.1 h2) (UInt8.not_lt.1 h1)
        simp [ih, this]
theorem cmp_neg : ∀ (a b : List UInt8), Lib.compareBytes a b < 0 ↔ a < b
  | [], [] => by simp [Lib.compareBytes]
  | _ :: _, [] => by simp [Lib.compareBytes]
  | [], _ :: _ => by simp [Lib.compareBytes]
  | a :: x, b :: y => by
    rw [Lib.compareBytes, List.cons_lt_cons_iff]
    have ih := cmp_neg x y
    by_cases h1 : a < b
    · simp [h1]
    · by_cases h2 : b < a
      · have : a ≠ b := fun e => by subst e; exact (UInt8.lt_irrefl _ h2)
        simp [h1, h2, this]
      · have : a = b := UInt8.le_antisymm (UInt8.not_lt.1 h2) (UInt8.not_lt.1 h1)
        simp [ih, this]

/-- Names in order. -/
def nl (a b : List UInt8 × List UInt8) : Bool := if a.1 = b.1 then decide (a.2 < b.2) else decide (a.1 < b.1)
theorem nl_iff (a b : List UInt8 × List UInt8) : nl a b = true ↔ a.1 < b.1 ∨ a.1 = b.1 ∧ a.2 < b.2 := by
  unfold nl
  by_cases h : a.1 = b.1
  · simp [h, List.lt_irrefl]
  · simp [h]
theorem nl_no (a b : List UInt8 × List UInt8) : nl a b = false ↔ b.1 < a.1 ∨ b.1 = a.1 ∧ b.2 ≤ a.2 := by
  rw [← Bool.not_eq_true, nl_iff]
  constructor
  · intro h
    by_cases h1 : b.1 < a.1
    · exact .inl h1
    · by_cases h2 : a.1 < b.1
      · exact absurd (.inl h2) h
      · have e : b.1 = a.1 := List.le_antisymm (List.not_lt.1 h2) (List.not_lt.1 h1)
        refine .inr ⟨e, List.not_lt.1 fun h3 => h (.inr ⟨e.symm, h3⟩)⟩
  · rintro (h | ⟨e, h⟩) (k | ⟨f, k⟩)
    · exact List.lt_irrefl _ (List.lt_trans h k)
    · rw [f] at h; exact List.lt_irrefl _ h
    · rw [e] at k; exact List.lt_irrefl _ k
    · exact List.not_lt.2 h k
theorem nl_irrefl (a : List UInt8 × List UInt8) : nl a a = false := by simp [nl, List.lt_irrefl]
theorem nl_trans {a b c : List UInt8 × List UInt8} (h : nl a b = true) (k : nl b c = true) : nl a c = true := by
  rw [nl_iff] at *
  rcases h with h | ⟨e, h⟩ <;> rcases k with k | ⟨f, k⟩
  · exact .inl (List.lt_trans h k)
  · exact .inl (f ▸ h)
  · exact .inl (e ▸ k)
  · exact .inr ⟨e.trans f, List.lt_trans h k⟩
theorem nl_ntrans {a b c : List UInt8 × List UInt8} (h : nl a b = false) (k : nl b c = false) : nl a c = false := by
  rw [nl_no] at *
  rcases h with h | ⟨e, h⟩ <;> rcases k with k | ⟨f, k⟩
  · exact .inl (List.lt_trans k h)
  · exact .inl (f ▸ h)
  · exact .inl (e ▸ k)
  · exact .inr ⟨f.trans e, List.le_trans k h⟩
theorem nl_eq {a b : List UInt8 × List UInt8} (h : nl a b = false) (k : nl b a = false) : a = b := by
  rw [nl_no] at *
  rcases h with h | ⟨e, h⟩
  · rcases k with k | ⟨f, _⟩
    · exact absurd (List.lt_trans h k) (List.lt_irrefl _)
    · rw [f] at h; exact absurd h (List.lt_irrefl _)
  · rcases k with k | ⟨f, k⟩
    · rw [e] at k; exact absurd k (List.lt_irrefl _)
    · exact Prod.ext f (List.le_antisymm k h)

/-- An order of places by their names. -/
def ltBy (nm : Nat → List UInt8 × List UInt8) (i j : Nat) : Bool := nl (nm i) (nm j)
theorem swo_by (nm : Nat → List UInt8 × List UInt8) : SWO (ltBy nm) where
  irrefl _ := nl_irrefl _
  trans _ _ _ h k := nl_trans h k
  ntrans _ _ _ h k := nl_ntrans h k

/-- Two sorted permutations of one list of places with distinct names are one. -/
theorem sorted_one (nm : Nat → List UInt8 × List UInt8) (l d d' : Array Nat) (hinj : ∀ x ∈ l.toList, ∀ y ∈ l.toList, nm x = nm y → x = y)
    (hp : PermIn 0 l.size l d) (hs : SortedIn (ltBy nm) 0 l.size d) (hp' : PermIn 0 l.size l d') (hs' : SortedIn (ltBy nm) 0 l.size d') : d = d' := by
  obtain ⟨z, -, p⟩ := hp
  obtain ⟨z', -, p'⟩ := hp'
  have e : d.extract 0 l.size = d := by rw [← z]; exact Array.extract_size
  have e' : d'.extract 0 l.size = d' := by rw [← z']; exact Array.extract_size
  rw [e, Array.extract_size] at p
  rw [e', Array.extract_size] at p'
  have pw : ∀ (d : Array Nat), d.size = l.size → SortedIn (ltBy nm) 0 l.size d → d.toList.Pairwise fun x y => (!ltBy nm y x) = true := by
    intro d hz hs
    rw [List.pairwise_iff_getElem]
    intro i j hi hj hij
    have hi' : i < d.size := by simpa using hi
    have hj' : j < d.size := by simpa using hj
    have := hs i j (Nat.zero_le _) hij (by omega)
    rw [getElem!_pos d j hj', getElem!_pos d i hi'] at this
    simpa using this
  have := List.Perm.eq_of_pairwise (le := fun x y => (!ltBy nm y x) = true) (fun a b ha hb h1 h2 => hinj a (p.subset ha) b (p'.subset hb) (nl_eq (Bool.not_eq_true' _ |>.mp h2) (Bool.not_eq_true' _ |>.mp h1))) (pw d z hs) (pw d' z' hs') (p.trans p'.symm)
  exact Array.ext' this
end Go.Proofs.Qxb6605845a.Plain
