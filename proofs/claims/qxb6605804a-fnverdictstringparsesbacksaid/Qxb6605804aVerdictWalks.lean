/-
  The walks of the callees on the roads of the two laws on Verdict.String.
-/
import Derived.Test.Qxb6605804aRows
import Derived.WalkKit
import Derived.WalkSpells
import Derived.WalkLawsBesides
import Derived.Lib.Strings
import Derived.Lib.IndexBytes
namespace Go.Proofs.Qxb6605804a.VerdictWalks
open Go.RowKit

/-- The word behind the property. -/
def word (h u : Bool) : ByteArray :=
  if h then ⟨#[32, 104, 101, 108, 100]⟩ else if u then ⟨#[32, 117, 110, 107, 110, 111, 119, 110]⟩ else ⟨#[32, 118, 105, 111, 108, 97, 116, 101, 100]⟩

/-- The word without the space ahead of it. -/
def tl (h u : Bool) : List UInt8 :=
  if h then [104, 101, 108, 100] else if u then [117, 110, 107, 110, 111, 119, 110] else [118, 105, 111, 108, 97, 116, 101, 100]
theorem word_data (h u : Bool) : (word h u).data.toList = 32 :: tl h u := by cases h <;> cases u <;> rfl
theorem tl_len (h u : Bool) : 1 ≤ (tl h u).length ∧ (tl h u).length ≤ 8 := by cases h <;> cases u <;> decide
theorem tl_nosp (h u : Bool) : ∀ c ∈ tl h u, c ≠ 32 := by cases h <;> cases u <;> decide

/-- A line: a property, a space, and a word without a space. -/
structure IsLine (L s : ByteArray) (t : List UInt8) : Prop where
  data : L.data.toList = s.data.toList ++ 32 :: t
  nosp : ∀ c ∈ t, c ≠ 32

theorem isLine (s : ByteArray) (h u : Bool) : IsLine (s ++ word h u) s (tl h u) :=
  ⟨by rw [ByteArray.data_append, Array.toList_append, word_data], tl_nosp h u⟩

theorem IsLine.size {L s : ByteArray} {t : List UInt8} (h : IsLine L s t) : L.size = s.size + 1 + t.length := by
  have := congrArg List.length h.data
  rw [← Lib.size_eq, List.length_append, ← Lib.size_eq, List.length_cons] at this
  omega
theorem IsLine.lt {L s : ByteArray} {t : List UInt8} (h : IsLine L s t) : s.size < L.size := by
  have := h.size; omega
theorem IsLine.space {L s : ByteArray} {t : List UInt8} (h : IsLine L s t) : ((L[s.size]'h.lt).toNat : Int) = 32 := by
  have e := Lib.data_getElem? L s.size h.lt
  have hz := Lib.size_eq s
  rw [h.data, List.getElem?_append_right (by omega)] at e
  have h0 : s.size - s.data.toList.length = 0 := by omega
  rw [h0, List.getElem?_cons_zero] at e
  rw [← Option.some.inj e]; rfl
theorem IsLine.after {L s : ByteArray} {t : List UInt8} (h : IsLine L s t) (j : Nat) (hj : j < L.size) (hs : s.size < j) : (L[j].toNat : Int) ≠ 32 := by
  have e := Lib.data_getElem? L j hj
  have hz := Lib.size_eq s
  rw [h.data, List.getElem?_append_right (by omega)] at e
  obtain ⟨i, hi⟩ : ∃ i, j - s.data.toList.length = i + 1 := ⟨j - s.data.toList.length - 1, by omega⟩
  rw [hi, List.getElem?_cons_succ] at e
  have hm := h.nosp _ (List.mem_of_getElem? e)
  intro hc
  apply hm
  apply UInt8.toNat_inj.mp
  have : (32 : UInt8).toNat = 32 := rfl
  omega
theorem IsLine.head {L s : ByteArray} {t : List UInt8} (h : IsLine L s t) : (L.extract 0 s.size).toList = s.toList := by
  rw [Lib.extract_toList, h.data, Lib.toList_data, Lib.size_eq s]; simp
theorem IsLine.tail {L s : ByteArray} {t : List UInt8} (h : IsLine L s t) : (L.extract (s.size + 1) L.size).toList = t := by
  rw [Lib.toList_data, Lib.extract_to_end, h.data, Lib.size_eq s, List.drop_append]; simp

theorem bytes5 (s : ByteArray) (a b : Bool) (w : World) (hs : s.size ≤ maxLen) :
    Calls Try.prog 19 #[.string s, .bool a, .bool b] w fun e w' => e = .returned (.bool (decide (s.size ≤ 1048576))) ∧ w = w' := by
  unfold maxLen at hs
  by_cases h : s.size ≤ 1048576
  · go_enter Try.func19, Try.ntmps19
    go_wp2
    go_ret
    exact ⟨by simp [h], rfl⟩
  · go_enter Try.func19, Try.ntmps19
    go_wp2
    go_ret
    exact ⟨by simp [h], rfl⟩

theorem bytes6 (s : ByteArray) (w : World) (hs : s.size ≤ maxLen) :
    Calls Try.prog 21 #[.string s] w fun e w' => e = .returned (.bool (decide (s.size ≤ 1048576))) ∧ w = w' := by
  unfold maxLen at hs
  by_cases h : s.size ≤ 1048576
  · go_enter Try.func21, Try.ntmps21
    go_wp2
    go_ret
    exact ⟨by simp [h], rfl⟩
  · go_enter Try.func21, Try.ntmps21
    go_wp2
    go_ret
    exact ⟨by simp [h], rfl⟩

theorem string_any (s : ByteArray) (h u : Bool) (w : World) (hs : s.size ≤ 1048576) :
    Calls Try.prog 20 #[.agg #[.string s, .bool h, .bool u]] w fun e w' => e = .returned (.string (s ++ word h u)) ∧ Grown w w' := by
  cases h
  · cases u
    · go_enter Try.func20, Try.ntmps20
      go_wp2
      go_ret
      exact ⟨rfl, by repeat (first | exact Grown.refl _ | apply Grown.drew | apply Grown.alloc)⟩
    · go_enter Try.func20, Try.ntmps20
      go_wp2
      go_ret
      exact ⟨rfl, by repeat (first | exact Grown.refl _ | apply Grown.drew | apply Grown.alloc)⟩
  · go_enter Try.func20, Try.ntmps20
    go_wp2
    go_ret
    exact ⟨rfl, by repeat (first | exact Grown.refl _ | apply Grown.drew | apply Grown.alloc)⟩

set_option maxHeartbeats 400000 in
theorem lineOf_true (L s : ByteArray) (t : List UInt8) (w : World) (hL : IsLine L s t) (ht : 1 ≤ t.length) (ht8 : t.length ≤ 8) (hs : s.size ≤ 1048576) :
    Calls Try.prog 22 #[.string L, .string s] w fun e w' => e = .returned (.bool true) ∧ w = w' := by
  have hsz := hL.size
  have h1 : s.size + 1 < L.size := by omega
  have h2 : L.size ≤ 1048600 := by omega
  have hlt := hL.lt
  have hsp := hL.space
  have hhd := hL.head
  have hne := hL.after
  clear hsz
  go_enter Try.func22, Try.ntmps22
  go_wp2
  go_loop [5] (fun i => ∃ k : Nat, s.size + 1 ≤ k ∧ k ≤ L.size ∧ i = .int .i64 k) (fun i => L.size - (intOf i).toNat)
  case atStart => exact ⟨s.size + 1, by omega, by omega, by go_num⟩
  case round =>
    obtain ⟨k, hk1, hk2, rfl⟩ := hrel
    by_cases hk : k < L.size
    · have := hne k hk (by omega)
      go_wp2
      go_round
      case rel => exact ⟨k + 1, by omega, by omega, by go_num⟩
      case measure => simp [intOf]; omega
    · go_wp2
      go_ret
      exact ⟨rfl, rfl⟩
end Go.Proofs.Qxb6605804a.VerdictWalks
