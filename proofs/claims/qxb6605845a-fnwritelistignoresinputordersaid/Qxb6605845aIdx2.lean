/-
  More on sorted lists of places; the reversed list of writes. Of no walk.
-/
import Derived.Test.Qxb6605845aIdx
namespace Go.Proofs.Qxb6605845a.Idx2
open Go.RowKit Go.Shelf Go.Lib Go.Sort Mem Small Srt Idx

theorem toList_of {n : Nat} {I : Array Nat} (hp : PermIn 0 n (Array.range n) I) : I.toList.Perm (List.range n) := by
  have hz : I.size = n := by rw [hp.1]; simp
  have e : I.extract 0 n = I := by rw [← hz]; exact Array.extract_size
  have e' : (Array.range n).extract 0 n = Array.range n := by
    have h0 : (Array.range n).size = n := by simp
    conv => lhs; rw [← h0]
    simp
  have := hp.2.2
  rwa [e, e', Array.toList_range] at this
theorem find {n : Nat} {I : Array Nat} (hp : PermIn 0 n (Array.range n) I) {x : Nat} (hx : x < n) : ∃ a, a < n ∧ I[a]! = x := by
  have hz : I.size = n := by rw [hp.1]; simp
  have hm : x ∈ I.toList := (toList_of hp).symm.subset (List.mem_range.2 hx)
  obtain ⟨a, ha, hax⟩ := List.getElem_of_mem hm
  have ha' : a < I.size := by simpa using ha
  exact ⟨a, by omega, by rw [getElem!_pos I a ha']; simpa using hax⟩
theorem one {n : Nat} {I : Array Nat} (hp : PermIn 0 n (Array.range n) I) {a b : Nat} (ha : a < n) (hb : b < n) (h : I[a]! = I[b]!) : a = b := by
  have hz : I.size = n := by rw [hp.1]; simp
  have hnd : I.toList.Nodup := (toList_of hp).nodup_iff.2 List.nodup_range
  rw [getElem!_pos I a (by omega), getElem!_pos I b (by omega)] at h
  have := (List.getElem_inj (h₀ := by simpa using (by omega : a < I.size)) (h₁ := by simpa using (by omega : b < I.size)) hnd).1 (by simpa using h)
  exact this
theorem lt_n {n : Nat} {I : Array Nat} (hp : PermIn 0 n (Array.range n) I) {a : Nat} (ha : a < n) : I[a]! < n := by
  have hz : I.size = n := by rw [hp.1]; simp
  have : I[a]! ∈ I.toList := by rw [getElem!_pos I a (by omega)]; simp
  exact List.mem_range.1 ((toList_of hp).subset this)
theorem strict {nm : Nat → List UInt8 × List UInt8} {n : Nat} {I : Array Nat} (hp : PermIn 0 n (Array.range n) I) (hs : SortedIn (Plain.ltBy nm) 0 n I)
    (hinj : ∀ x, x < n → ∀ y, y < n → nm x = nm y → x = y) {a b : Nat} (hab : a < b) (hb : b < n) : Plain.ltBy nm I[a]! I[b]! = true := by
  cases hc : Plain.ltBy nm I[a]! I[b]! with
  | true => rfl
  | false =>
    have h := hs a b (Nat.zero_le _) hab hb
    have e := one hp (by omega) hb (hinj _ (lt_n hp (by omega)) _ (lt_n hp hb) (Plain.nl_eq hc h))
    omega

/-- The places in reverse. -/
def rev (n : Nat) : Array Nat := (List.range n).reverse.toArray
theorem rev_size (n : Nat) : (rev n).size = n := by simp [rev]
theorem rev_get {n m : Nat} (h : m < n) : (rev n)[m]! = n - 1 - m := by
  rw [getElem!_pos _ _ (by rw [rev_size]; exact h)]
  simp [rev]
theorem rev_perm (n : Nat) : PermIn 0 n (Array.range n) (rev n) := by
  refine ⟨by rw [rev_size]; simp, fun i hi => ?_, ?_⟩
  · have h1 : ¬ i < (rev n).size := by rw [rev_size]; omega
    have h2 : ¬ i < (Array.range n).size := by simp; omega
    rw [getElem!_neg (rev n) i h1, getElem!_neg (Array.range n) i h2]
  · have e : ∀ d : Array Nat, d.size = n → d.extract 0 n = d := fun d hd => by rw [← hd]; exact Array.extract_size
    replace e := e (rev n) (rev_size n)
    have e' : (Array.range n).extract 0 n = Array.range n := by
      have h0 : (Array.range n).size = n := by simp
      conv => lhs; rw [← h0]
      simp
    rw [e, e', Array.toList_range]
    exact List.reverse_perm _

/-- The reversed list of writes while it is filled from the right. -/
def FillR (w : World) (g n : Nat) (enc : Nat → List Value) (k : Nat) : Prop := ∃ cs, Own w g 35 cs ∧ cs.length = n * 3 ∧ ∀ j c, j < k → c < 3 → cs[(n - 1 - j) * 3 + c]? = (enc j)[c]?
theorem FillR.cell {w : World} {g n : Nat} {enc : Nat → List Value} {k : Nat} (h : FillR w g n enc k) {t : Nat} (ht : t < n * 3) : ∃ u, w.cell? ⟨g, t, none⟩ = some u := by
  obtain ⟨cs, ho, hl, _⟩ := h
  exact ⟨cs[t]'(by omega), ho.cell (List.getElem?_eq_getElem _)⟩
theorem FillR.frozen {w : World} {g n : Nat} {enc : Nat → List Value} {k : Nat} (h : FillR w g n enc k) (t : Nat) : w.frozen? ⟨g, t, none⟩ = false := by
  obtain ⟨cs, ho, _⟩ := h; exact ho.frozen t
theorem FillR.other {w : World} {g n : Nat} {enc : Nat → List Value} {k : Nat} (h : FillR w g n enc k) {a : Addr} (ha : a.block ≠ g) (u : Value) : FillR (w.setCell a u) g n enc k := by
  obtain ⟨cs, ho, r⟩ := h; exact ⟨cs, ho.other ha u, r⟩
theorem fillW_other {w : World} {g n : Nat} {enc : Nat → List Value} {k : Nat} (h : FillW w g n enc k) {a : Addr} (ha : a.block ≠ g) (u : Value) : FillW (w.setCell a u) g n enc k := by
  obtain ⟨cs, ho, r⟩ := h; exact ⟨cs, ho.other ha u, r⟩
theorem FillR.step {w : World} {g n : Nat} {enc : Nat → List Value} {k : Nat} (h : FillR w g n enc k) (hk : k < n) {x0 x1 x2 : Value} (he : enc k = [x0, x1, x2]) :
    FillR (((w.setCell ⟨g, (n - 1 - k) * 3, none⟩ x0).setCell ⟨g, (n - 1 - k) * 3 + 1, none⟩ x1).setCell ⟨g, (n - 1 - k) * 3 + 2, none⟩ x2) g n enc (k + 1) := by
  obtain ⟨cs, ho, hl, hall⟩ := h
  refine ⟨((cs.set ((n - 1 - k) * 3) x0).set ((n - 1 - k) * 3 + 1) x1).set ((n - 1 - k) * 3 + 2) x2, ((ho.set _ _).set _ _).set _ _, by simpa using hl, fun j c hj hc => ?_⟩
  by_cases e : j = k
  · subst e
    rw [he]
    match c, hc with
    | 0, _ => rw [List.getElem?_set_ne (by omega), List.getElem?_set_ne (by omega), Nat.add_zero, List.getElem?_set_self (by omega)]; rfl
    | 1, _ => rw [List.getElem?_set_ne (by omega), List.getElem?_set_self (by simp; omega)]; rfl
    | 2, _ => rw [List.getElem?_set_self (by simp; omega)]; rfl
  · rw [List.getElem?_set_ne (by omega), List.getElem?_set_ne (by omega), List.getElem?_set_ne (by omega)]
    exact hall j c (by omega) hc
theorem FillR.holds {w : World} {g n : Nat} {enc : Nat → List Value} {k : Nat} (h : FillR w g n enc k) (hk : n ≤ k) (hl3 : ∀ x, (enc x).length = 3) : HoldsK enc 3 w g 0 (rev n) := by
  obtain ⟨cs, ho, hl, hall⟩ := h
  intro t ht
  have ht' : t < n * 3 := by simpa [rev_size] using ht
  refine ⟨?_, ho.frozen _⟩
  rw [Nat.zero_add]
  refine ho.cell ?_
  have hj : t / 3 < n := by omega
  have hc : t % 3 < 3 := by omega
  have := hall (n - 1 - t / 3) (t % 3) (by omega) hc
  rw [show (n - 1 - (n - 1 - t / 3)) * 3 + t % 3 = t by omega] at this
  rw [this, get_flatK enc 3 (rev n) t (by rw [rev_size]; exact ht'), rev_get hj]
  simp only [id]
  rw [getElem!_pos _ (t % 3) (by rw [hl3]; exact hc), List.getElem?_eq_getElem]
theorem holdsK_of_blocks {enc : Nat → List Value} {w w' : World} {g : Nat} {d : Array Nat} (h : HoldsK enc 3 w g 0 d) (hb : w'.heap[g]? = w.heap[g]?) : HoldsK enc 3 w' g 0 d := fun t ht =>
  ⟨(World.cell?_of_block (w := w) hb).trans (h t ht).1, (World.frozen?_of_block (w := w) hb).trans (h t ht).2⟩
end Go.Proofs.Qxb6605845a.Idx2
