/-
  The plain law behind the two statements on appendProcess: the decimal numeral, its value, that it tells numbers apart. No Go in sight.
-/
import Derived.Lib.ItoaMem
import Derived.Lib.ItoaLen
namespace Go.Proofs.Qxb6605804aDoor.Plain
open Go.Lib

/-- The value of a list of digit bytes (as numbers), from the left. -/
def valOf (l : List Int) : Int := l.foldl (fun m c => m * 10 + (c - 48)) 0
theorem valOf_snoc (l : List Int) (c : Int) : valOf (l ++ [c]) = valOf l * 10 + (c - 48) := by simp [valOf]

/-- The digits of a number as numbers. -/
def digs (u : Nat) : List Int := (decDigits u).map fun b => (b.toNat : Int)

theorem digs_small {u : Nat} (h : u < 10) : digs u = [48 + (u : Int)] := by
  rw [digs, decDigits_one h]
  simp; omega
theorem digs_big {u : Nat} (h : ¬ u < 10) : digs u = digs (u / 10) ++ [48 + ((u % 10 : Nat) : Int)] := by
  rw [digs, decDigits, dif_neg h, List.map_append]
  congr 1
  simp; omega

theorem digs_val (u : Nat) : valOf (digs u) = u := by
  induction u using Nat.strongRecOn with
  | _ u ih =>
    by_cases h : u < 10
    · rw [digs_small h]; simp [valOf]; omega
    · rw [digs_big h, valOf_snoc, ih (u / 10) (by omega)]; omega

theorem digs_range (u : Nat) : ∀ c ∈ digs u, 48 ≤ c ∧ c ≤ 57 := by
  induction u using Nat.strongRecOn with
  | _ u ih =>
    by_cases h : u < 10
    · rw [digs_small h]; intro c hc; simp at hc; omega
    · rw [digs_big h]
      intro c hc
      rcases List.mem_append.1 hc with hc | hc
      · exact ih (u / 10) (by omega) c hc
      · simp at hc; omega

theorem digs_length (u : Nat) : (digs u).length = nDigits u := by rw [digs, List.length_map, decDigits_length]
theorem digs_pos (u : Nat) : 1 ≤ (digs u).length := by rw [digs_length]; exact nDigits_pos u

theorem pow_nDigits_le (u : Nat) (h : 1 ≤ u) : 10 ^ (nDigits u - 1) ≤ u := by
  induction u using Nat.strongRecOn with
  | _ u ih =>
    by_cases h10 : u < 10
    · rw [nDigits_small h10]; simpa using h
    · rw [nDigits_big h10]
      have := ih (u / 10) (by omega) (by omega)
      have hp := nDigits_pos (u / 10)
      rw [show nDigits (u / 10) + 1 - 1 = (nDigits (u / 10) - 1) + 1 by omega, Nat.pow_succ]
      omega

theorem digs_le19 (u : Nat) (h : u ≤ 9223372036854775808) : (digs u).length ≤ 19 := by
  rw [digs_length]
  rcases Nat.eq_zero_or_pos u with rfl | h1
  · rw [nDigits_small (by omega)]; omega
  · have := pow_nDigits_le u h1
    rcases Nat.lt_or_ge (nDigits u) 20 with hlt | hge
    · omega
    · exfalso
      have h2 : 10 ^ 19 ≤ 10 ^ (nDigits u - 1) := Nat.pow_le_pow_right (by omega) (by omega)
      have h3 : (10 : Nat) ^ 19 = 10000000000000000000 := by decide
      omega

/-- The first digit is 0 only of the number 0. -/
theorem digs_head (u : Nat) (h : 1 ≤ u) : (digs u).getD 0 0 ≠ 48 := by
  induction u using Nat.strongRecOn with
  | _ u ih =>
    by_cases h10 : u < 10
    · rw [digs_small h10]; simp; omega
    · rw [digs_big h10]
      have := ih (u / 10) (by omega) (by omega)
      have hl := digs_pos (u / 10)
      rw [List.getD, List.getElem?_append_left (by omega)]
      exact this
theorem digs_head_zero (u : Nat) (h : 2 ≤ (digs u).length) : 1 ≤ u := by
  rcases Nat.eq_zero_or_pos u with rfl | h1
  · rw [digs_small (by omega)] at h; simp at h
  · exact h1

theorem digs_inj {u v : Nat} (h : digs u = digs v) : u = v := by
  have h1 := digs_val u
  have h2 := digs_val v
  rw [h] at h1
  omega

/-- Each part of the numeral is worth no more than the whole. -/
theorem valOf_nonneg (l : List Int) (h : ∀ c ∈ l, 48 ≤ c ∧ c ≤ 57) : 0 ≤ valOf l := by
  have key : ∀ (l : List Int) (m : Int), 0 ≤ m → (∀ c ∈ l, 48 ≤ c ∧ c ≤ 57) → m ≤ l.foldl (fun m c => m * 10 + (c - 48)) m := by
    intro l
    induction l with
    | nil => intro m hm _; simp
    | cons c l ih =>
      intro m hm hc
      have h1 := hc c (by simp)
      have := ih (m * 10 + (c - 48)) (by omega) (fun d hd => hc d (by simp [hd]))
      simp only [List.foldl_cons]
      omega
  exact key l 0 (by omega) h
theorem valOf_take_le (l : List Int) (h : ∀ c ∈ l, 48 ≤ c ∧ c ≤ 57) (k : Nat) : valOf (l.take k) ≤ valOf l := by
  have key : ∀ (l : List Int) (m : Int), 0 ≤ m → (∀ c ∈ l, 48 ≤ c ∧ c ≤ 57) → m ≤ l.foldl (fun m c => m * 10 + (c - 48)) m := by
    intro l
    induction l with
    | nil => intro m hm _; simp
    | cons c l ih =>
      intro m hm hc
      have h1 := hc c (by simp)
      have := ih (m * 10 + (c - 48)) (by omega) (fun d hd => hc d (by simp [hd]))
      simp only [List.foldl_cons]
      omega
  have h0 := valOf_nonneg (l.take k) (fun c hc => h c (List.mem_of_mem_take hc))
  have := key (l.drop k) (valOf (l.take k)) h0 (fun c hc => h c (List.mem_of_mem_drop hc))
  have e : valOf l = (l.drop k).foldl (fun m c => m * 10 + (c - 48)) (valOf (l.take k)) := by
    rw [valOf, valOf, ← List.foldl_append, List.take_append_drop]
  omega

/-- itoa as numbers. -/
def num (p : Int) : List Int := (itoa p).map fun b => (b.toNat : Int)
theorem num_nonneg (u : Nat) : num (u : Int) = digs u := by rw [num, itoa_nonneg]; rfl
theorem num_neg (u : Nat) (h : 1 ≤ u) : num (-(u : Int)) = 45 :: digs u := by rw [num, itoa_neg u h]; rfl
theorem num_length (p : Int) : (num p).length = (itoa p).length := by simp [num]
theorem num_pos (p : Int) : 1 ≤ (num p).length := by
  by_cases h : p < 0
  · obtain ⟨u, rfl⟩ : ∃ u : Nat, p = -(u : Int) := ⟨p.natAbs, by omega⟩
    rw [num_neg u (by omega)]; simp
  · obtain ⟨u, rfl⟩ : ∃ u : Nat, p = u := ⟨p.toNat, by omega⟩
    rw [num_nonneg]; exact digs_pos u
theorem num_inj {p q : Int} (h : num p = num q) : p = q := by
  by_cases hp : p < 0
  · obtain ⟨u, rfl⟩ : ∃ u : Nat, p = -(u : Int) := ⟨p.natAbs, by omega⟩
    rw [num_neg u (by omega)] at h
    by_cases hq : q < 0
    · obtain ⟨v, rfl⟩ : ∃ v : Nat, q = -(v : Int) := ⟨q.natAbs, by omega⟩
      rw [num_neg v (by omega)] at h
      have := digs_inj (List.cons.inj h).2
      omega
    · obtain ⟨v, rfl⟩ : ∃ v : Nat, q = v := ⟨q.toNat, by omega⟩
      rw [num_nonneg] at h
      have := digs_range v 45 (by rw [← h]; simp)
      omega
  · obtain ⟨u, rfl⟩ : ∃ u : Nat, p = u := ⟨p.toNat, by omega⟩
    rw [num_nonneg] at h
    by_cases hq : q < 0
    · obtain ⟨v, rfl⟩ : ∃ v : Nat, q = -(v : Int) := ⟨q.natAbs, by omega⟩
      rw [num_neg v (by omega)] at h
      have := digs_range u 45 (by rw [h]; simp)
      omega
    · obtain ⟨v, rfl⟩ : ∃ v : Nat, q = v := ⟨q.toNat, by omega⟩
      rw [num_nonneg] at h
      have := digs_inj h
      omega
end Go.Proofs.Qxb6605804aDoor.Plain
