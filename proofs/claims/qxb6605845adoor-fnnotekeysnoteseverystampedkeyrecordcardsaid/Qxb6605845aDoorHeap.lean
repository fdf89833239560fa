/-
  A heap in a list, in plain words: one entry put at the end and brought up. No Go in sight.
-/
namespace Go.Proofs.Qxb6605845aDoor.Heap

/-- An entry: the stamp, the key. -/
abbrev KS := Int × ByteArray
def ms (h : List KS) (k : Nat) : Int := (h[k]?.map Prod.fst).getD 0
/-- Every parent's stamp is at most its children's. -/
def IsHeap (h : List KS) : Prop := ∀ k, 1 ≤ k → k < h.length → ms h ((k - 1) / 2) ≤ ms h k
/-- The same but for the place j. -/
def HBut (j : Nat) (h : List KS) : Prop := (∀ k, 1 ≤ k → k < h.length → k ≠ j → ms h ((k - 1) / 2) ≤ ms h k) ∧ ∀ k, 1 ≤ k → k < h.length → (k - 1) / 2 = j → 1 ≤ j → ms h ((j - 1) / 2) ≤ ms h k
/-- Two entries change places. -/
def swp (h : List KS) (i j : Nat) (x y : KS) : List KS := (h.set i y).set j x

theorem ms_of {h : List KS} {k : Nat} {x : KS} (hx : h[k]? = some x) : ms h k = x.1 := by simp [ms, hx]
theorem length_swp (h : List KS) (i j : Nat) (x y : KS) : (swp h i j x y).length = h.length := by simp [swp]
theorem ms_swp {h : List KS} {i j : Nat} {x y : KS} (hi : h[i]? = some x) (hj : h[j]? = some y) (k : Nat) : ms (swp h i j x y) k = if k = j then ms h i else if k = i then ms h j else ms h k := by
  have li : i < h.length := (List.getElem?_eq_some_iff.1 hi).1
  have lj : j < h.length := (List.getElem?_eq_some_iff.1 hj).1
  by_cases e1 : k = j
  · subst e1
    rw [if_pos rfl, ms_of hi, ms, swp, List.getElem?_set_self (by simpa using lj)]; rfl
  · rw [if_neg e1]
    by_cases e2 : k = i
    · subst e2
      rw [if_pos rfl, ms_of hj, ms, swp, List.getElem?_set_ne (fun e => e1 e.symm), List.getElem?_set_self li]; rfl
    · rw [if_neg e2, ms, ms, swp, List.getElem?_set_ne (fun e => e1 e.symm), List.getElem?_set_ne (fun e => e2 e.symm)]
theorem perm_swp {h : List KS} {i j : Nat} {x y : KS} (hij : i < j) (hi : h[i]? = some x) (hj : h[j]? = some y) : (swp h i j x y).Perm h := by
  obtain ⟨li, rfl⟩ := List.getElem?_eq_some_iff.1 hi
  obtain ⟨lj, rfl⟩ := List.getElem?_eq_some_iff.1 hj
  unfold swp
  induction h generalizing i j with
  | nil => simp at li
  | cons a r ih =>
    cases j with
    | zero => omega
    | succ j =>
      cases i with
      | zero =>
        simp only [List.set_cons_zero, List.set_cons_succ, List.getElem_cons_zero, List.getElem_cons_succ]
        have lj' : j < r.length := by simpa using lj
        have e1 : r.set j a = r.take j ++ a :: r.drop (j + 1) := List.set_eq_take_append_cons_drop.trans (by rw [if_pos lj'])
        have e2 : r = r.take j ++ r[j] :: r.drop (j + 1) := by
          rw [← List.drop_eq_getElem_cons lj', List.take_append_drop]
        rw [e1]
        have p1 : (r[j] :: (r.take j ++ a :: r.drop (j + 1))).Perm (r[j] :: a :: (r.take j ++ r.drop (j + 1))) := List.Perm.cons _ List.perm_middle
        have p2 : (a :: (r.take j ++ r[j] :: r.drop (j + 1))).Perm (a :: r[j] :: (r.take j ++ r.drop (j + 1))) := List.Perm.cons _ List.perm_middle
        have p3 := p1.trans ((List.Perm.swap a r[j] _).trans p2.symm)
        rw [← e2] at p3
        exact p3
      | succ i =>
        simp only [List.set_cons_succ, List.getElem_cons_succ]
        exact List.Perm.cons _ (ih (by omega) (by simpa using li) (by simp) (by simpa using lj) (by simp))

theorem but_up {h : List KS} {i j : Nat} {x y : KS} (hb : HBut j h) (hi : h[i]? = some x) (hj : h[j]? = some y) (hij : i = (j - 1) / 2) (h1 : 1 ≤ j) (hlt : y.1 < x.1) : HBut i (swp h i j x y) := by
  have li : i < h.length := (List.getElem?_eq_some_iff.1 hi).1
  have lj : j < h.length := (List.getElem?_eq_some_iff.1 hj).1
  have ei := ms_of hi
  have ej := ms_of hj
  have M := ms_swp hi hj
  obtain ⟨b1, b2⟩ := hb
  refine ⟨fun k k1 kl ki => ?_, fun k k1 kl kp i1 => ?_⟩
  · rw [length_swp] at kl
    rw [M, M]
    by_cases kj : k = j
    · subst kj
      rw [if_neg (show (k - 1) / 2 ≠ k by omega), if_pos (show (k - 1) / 2 = i by omega), if_pos rfl]
      omega
    · have c1 := b1 k k1 kl kj
      rw [if_neg kj, if_neg ki]
      by_cases pj : (k - 1) / 2 = j
      · rw [if_pos pj]
        have := b2 k k1 kl pj h1
        rw [← hij] at this
        exact this
      · rw [if_neg pj]
        by_cases pi : (k - 1) / 2 = i
        · rw [if_pos pi]
          rw [pi] at c1
          omega
        · rw [if_neg pi]; exact c1
  · rw [length_swp] at kl
    rw [M, M, if_neg (show (i - 1) / 2 ≠ j by omega), if_neg (show (i - 1) / 2 ≠ i by omega)]
    have c1 := b1 i i1 li (by omega)
    by_cases kj : k = j
    · rw [if_pos kj]; exact c1
    · rw [if_neg kj, if_neg (show k ≠ i by omega)]
      have c2 := b1 k k1 kl kj
      rw [kp] at c2
      omega
theorem heap_of_but {h : List KS} {j : Nat} (hb : HBut j h) (he : 1 ≤ j → j < h.length → ms h ((j - 1) / 2) ≤ ms h j) : IsHeap h := by
  intro k k1 kl
  by_cases e : k = j
  · subst e; exact he k1 kl
  · exact hb.1 k k1 kl e
theorem but_last {h : List KS} (hh : IsHeap h) (x : KS) : HBut h.length (h ++ [x]) := by
  have M : ∀ k, k < h.length → ms (h ++ [x]) k = ms h k := fun k hk => by rw [ms, ms, List.getElem?_append_left hk]
  refine ⟨fun k k1 kl ke => ?_, fun k k1 kl kp _ => ?_⟩
  · rw [List.length_append, List.length_singleton] at kl
    rw [M _ (by omega), M _ (by omega)]
    exact hh k k1 (by omega)
  · rw [List.length_append, List.length_singleton] at kl
    omega
theorem heap_least {h : List KS} (hh : IsHeap h) : ∀ k, k < h.length → ms h 0 ≤ ms h k := by
  intro k
  induction k using Nat.strongRecOn with
  | ind k ih =>
    intro hk
    rcases Nat.eq_zero_or_pos k with rfl | hp
    · omega
    · have := hh k hp hk
      have := ih ((k - 1) / 2) (by omega) (by omega)
      omega
end Go.Proofs.Qxb6605845aDoor.Heap
