/-
  The stamp that a record of the keys table states, in plain words: as strconv.ParseInt reads it, and as the law's own digit loop reads it. No Go in sight.
-/
import Derived.Lib.ParseIntB
namespace Go.Proofs.Qxb6605845aDoor.Stamp
open Go

/-- The head of a record. -/
def hd : List Int := [123, 34, 97, 116, 34, 58]
def toU (z : Int) : UInt8 := UInt8.ofNat z.toNat
def isD (z : Int) : Bool := decide (48 ≤ z) && decide (z ≤ 57)
def isR (z : Int) : Bool := decide (z = 45) || isD z
/-- The digits and minus signs that open a list. -/
def run (l : List Int) : List Int := l.takeWhile isR
def okOf : Lib.NumEnd Int → Option Int
  | .ok v => some v
  | _ => none
/-- The stamp, as the program reads it. -/
def stampOf (l : List Int) : Option Int := if l.take 6 = hd then okOf (Lib.parseIntB 64 ((run (l.drop 6)).map toU)) else none

/-- The digit loop, and the test behind it. -/
def fin (lim : Nat) : List Int → Nat → Bool → Bool → Option Nat
  | [], mag, dg, ov => if dg && !ov then some mag else none
  | z :: r, mag, dg, ov =>
    if isD z then
      if ov then fin lim r mag true true
      else if lim < mag * 10 + (z - 48).toNat then fin lim r mag true true
      else fin lim r (mag * 10 + (z - 48).toNat) true false
    else if z = 45 then none
    else if dg && !ov then some mag else none
/-- The stamp, as the law reads it. -/
def zz (l : List Int) : Option Int :=
  if l.take 6 = hd then
    match l.drop 6 with
    | 45 :: r => (fin 9223372036854775808 r 0 false false).map fun (u : Nat) => -(u : Int)
    | r => (fin 9223372036854775807 r 0 false false).map fun (u : Nat) => (u : Int)
  else none

theorem fin_over (lim : Nat) (l : List Int) (mag : Nat) (dg : Bool) : fin lim l mag dg true = none := by
  induction l generalizing mag dg with
  | nil => simp [fin]
  | cons z r ih =>
    simp only [fin]
    split
    · exact ih _ _
    · simp
theorem um_ge (M : Nat) (l : List UInt8) (acc u : Nat) (h : Lib.parseUintM M acc l = .ok u) : acc ≤ u := by
  induction l generalizing acc with
  | nil => simp only [Lib.parseUintM, Lib.NumEnd.ok.injEq] at h; omega
  | cons c r ih =>
    simp only [Lib.parseUintM] at h
    split at h
    · split at h
      · cases h
      · split at h
        · cases h
        · have := ih _ h; omega
    · cases h

def okU (lim : Nat) : Lib.NumEnd Nat → Option Nat
  | .ok u => if u ≤ lim then some u else none
  | _ => none

theorem toU_digit {z : Int} (h : isD z = true) : 48 ≤ (toU z).toNat ∧ (toU z).toNat ≤ 57 ∧ (toU z).toNat - 48 = (z - 48).toNat := by
  simp only [isD, Bool.and_eq_true, decide_eq_true_eq] at h
  have : (toU z).toNat = z.toNat := by simp [toU]; omega
  omega

theorem fin_eq (lim : Nat) (h9 : 9 ≤ lim) (hl : lim ≤ 9223372036854775808) (l : List Int) (acc : Nat) (ha : acc ≤ lim) :
    fin lim l acc true false = okU lim (Lib.parseUintM 18446744073709551615 acc ((run l).map toU)) := by
  induction l generalizing acc with
  | nil => simp [fin, run, Lib.parseUintM, okU, ha]
  | cons z r ih =>
    by_cases hz : isD z = true
    · obtain ⟨q1, q2, q3⟩ := toU_digit hz
      have hr : run (z :: r) = z :: run r := by simp [run, isR, hz]
      rw [hr, List.map_cons]
      simp only [fin, Lib.parseUintM, hz, if_true, q1, q2, and_self, q3]
      by_cases ho : lim < acc * 10 + (z - 48).toNat
      · simp only [ho, if_true, Bool.false_eq_true, if_false]
        rw [fin_over]
        split
        · rfl
        · split
          · rfl
          · cases hp : Lib.parseUintM 18446744073709551615 (acc * 10 + (z - 48).toNat) ((run r).map toU) with
            | ok u =>
              have := um_ge _ _ _ _ hp
              simp only [okU]
              rw [if_neg (by omega)]
            | _ => rfl
      · have h1 : ¬ 1844674407370955162 ≤ acc := by omega
        have h2 : ¬ 18446744073709551615 < acc * 10 + (z - 48).toNat := by omega
        simp only [ho, h1, h2, Bool.false_eq_true, if_false]
        exact ih _ (by omega)
    · by_cases h45 : z = 45
      · subst h45
        have hr : run (45 :: r) = 45 :: run r := by simp [run, isR]
        rw [hr, List.map_cons]
        have : ¬ (48 ≤ (toU 45).toNat ∧ (toU 45).toNat ≤ 57) := by decide
        simp only [fin, Lib.parseUintM, this, if_false]
        simp [okU, isD]
      · have hr : run (z :: r) = [] := by simp [run, isR, hz, h45]
        rw [hr]
        simp [fin, hz, h45, Lib.parseUintM, okU, ha]
theorem fin_start (lim : Nat) (h9 : 9 ≤ lim) (hl : lim ≤ 9223372036854775808) (l : List Int) :
    fin lim l 0 false false = okU lim (Lib.parseUintB 64 ((run l).map toU)) := by
  unfold Lib.parseUintB
  cases l with
  | nil => simp [fin, run, okU]
  | cons z r =>
    by_cases hz : isR z = true
    · have hr : run (z :: r) = z :: run r := by simp [run, hz]
      have := fin_eq lim h9 hl (z :: r) 0 (by omega)
      rw [if_neg (by rw [hr]; simp)]
      refine Eq.trans ?_ this
      simp only [fin]
      by_cases hd : isD z = true
      · simp [hd]
      · have h45 : z = 45 := by simpa [isR, hd] using hz
        simp [h45]
    · have hr : run (z :: r) = [] := by simp [run, hz]
      have hd : isD z = false := by
        cases h : isD z with
        | false => rfl
        | true => simp [isR, h] at hz
      rw [if_pos (by rw [hr]; rfl)]
      have h45 : z ≠ 45 := by rintro rfl; simp [isR] at hz
      simp [fin, hd, h45, okU]

theorem okOf_pos (c : UInt8) (r : List UInt8) (h43 : c.toNat ≠ 43) (h45 : c.toNat ≠ 45) : okOf (Lib.parseIntB 64 (c :: r)) = (okU 9223372036854775807 (Lib.parseUintB 64 (c :: r))).map fun (u : Nat) => (u : Int) := by
  simp only [Lib.parseIntB, h43, h45, or_self, if_false]
  cases Lib.parseUintB 64 (c :: r) with
  | ok u =>
    simp only [okU, false_and, if_false, not_false_eq_true, true_and]
    by_cases hu : 2 ^ (64 - 1) ≤ u
    · rw [if_pos hu, if_neg (by omega)]; rfl
    · rw [if_neg hu, if_pos (by omega)]; rfl
  | _ => rfl
theorem okOf_neg (c : UInt8) (r : List UInt8) (h45 : c.toNat = 45) : okOf (Lib.parseIntB 64 (c :: r)) = (okU 9223372036854775808 (Lib.parseUintB 64 r)).map fun (u : Nat) => -(u : Int) := by
  simp only [Lib.parseIntB, h45, or_true, if_true]
  cases Lib.parseUintB 64 r with
  | ok u =>
    simp only [okU, true_and, not_true_eq_false, false_and, if_false]
    by_cases hu : 2 ^ (64 - 1) < u
    · rw [if_pos hu, if_neg (by omega)]; rfl
    · rw [if_neg hu, if_pos (by omega)]; rfl
  | _ => rfl

theorem zz_eq (l : List Int) : zz l = stampOf l := by
  unfold zz stampOf
  split
  · cases hd : l.drop 6 with
    | nil => simp [fin, run, okOf, Lib.parseIntB]
    | cons z r =>
      by_cases h45 : z = 45
      · subst h45
        have hr : run (45 :: r) = 45 :: run r := by simp [run, isR]
        rw [hr, List.map_cons, okOf_neg _ _ (by decide)]
        show (fin 9223372036854775808 r 0 false false).map _ = _
        rw [fin_start _ (by omega) (by omega)]
      · have e : (match z :: r with
          | 45 :: r => (fin 9223372036854775808 r 0 false false).map fun (u : Nat) => -(u : Int)
          | r => (fin 9223372036854775807 r 0 false false).map fun (u : Nat) => (u : Int)) = (fin 9223372036854775807 (z :: r) 0 false false).map fun (u : Nat) => (u : Int) := by
          split
          · rename_i h; exact absurd (List.cons.inj h).1 h45
          · rfl
        rw [e, fin_start _ (by omega) (by omega)]
        by_cases hz : isD z = true
        · have hr : run (z :: r) = z :: run r := by simp [run, isR, hz]
          obtain ⟨q1, q2, -⟩ := toU_digit hz
          rw [hr, List.map_cons, okOf_pos _ _ (by omega) (by omega)]
        · have hr : run (z :: r) = [] := by simp [run, isR, hz, h45]
          rw [hr]; rfl
  · rfl
end Go.Proofs.Qxb6605845aDoor.Stamp
