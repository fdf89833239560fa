/-
  writeList: the closure's order, and what the sort leaves.
-/
import Derived.Test.Qxb6605845aSmall
import Derived.Test.Qxb6605845aShelf
import Derived.Test.Qxb6605845aPlain
import Derived.Deep.RegionWith
import Derived.Laws.ResultCell
namespace Go.Proofs.Qxb6605845a.Srt
open Go.RowKit Go.Shelf Go.Lib Go.Sort Mem Small

/-- Two names against one another. -/
def cmpN (t1 k1 t2 k2 : ByteArray) : Int :=
  if Lib.compareBytes t1.data.toList t2.data.toList = 0 then Lib.compareBytes k1.data.toList k2.data.toList else Lib.compareBytes t1.data.toList t2.data.toList

theorem compareNames (t1 k1 t2 k2 : ByteArray) (W : World) :
    Calls Try.prog 36 #[.agg #[.string t1, .string k1], .agg #[.string t2, .string k2]] W fun e w' => e = .returned (.int .i64 (cmpN t1 k1 t2 k2)) ∧ ∃ os', w' = grow W os' := by
  have hcon := Try.strings_Compare
  unfold cmpN
  by_cases h : Lib.compareBytes t1.data.toList t2.data.toList = 0
  · rw [if_pos h]
    have h1 := fun w => hcon t1 t2 w
    have h2 := fun w => hcon k1 k2 w
    rw [h] at h1
    clear hcon
    generalize Lib.compareBytes k1.data.toList k2.data.toList = r at h2 ⊢
    go_enter Try.func36, Try.ntmps36
    go_wp2_with (go_at_call 50; first | (refine (h1 _).mono ?_; rintro e w' ⟨rfl, rfl⟩) | (refine (h2 _).mono ?_; rintro e w' ⟨rfl, rfl⟩))
    go_ret
    exact ⟨rfl, _, by rw [alloc_eq_grow, alloc_eq_grow, grow_grow]⟩
  · rw [if_neg h]
    have h1 := fun w => hcon t1 t2 w
    have hb : (Lib.compareBytes t1.data.toList t2.data.toList == 0) = false := beq_false_of_ne h
    clear hcon h
    generalize Lib.compareBytes t1.data.toList t2.data.toList = r at h1 hb ⊢
    go_enter Try.func36, Try.ntmps36
    go_wp2_with (go_at_call 50; refine (h1 _).mono ?_; rintro e w' ⟨rfl, rfl⟩)
    go_ret
    exact ⟨rfl, _, by rw [alloc_eq_grow, alloc_eq_grow, grow_grow]⟩

theorem writeName (t k : ByteArray) (p : Option Addr) (l c : Nat) (W : World) :
    Calls Try.prog 37 #[.agg #[.string t, .string k, .slice p l c]] W fun e w' => e = .returned (.agg #[.string t, .string k]) ∧ ∃ os', w' = grow W os' := by
  go_enter Try.func37, Try.ntmps37
  go_wp2
  exact bodyPost_ret (v := .agg #[.string t, .string k]) (by simp [results, Try.results37, go_sem]) rfl ⟨rfl, _, by rw [alloc_eq_grow, alloc_eq_grow, grow_grow]⟩

/-- Draws and new blocks alone. -/
def G (w w' : World) : Prop := ∃ q os, w' = grow (w.drewN q) os
theorem G.refl (w : World) : G w w := ⟨0, #[], by rw [grow_empty]; rfl⟩
theorem grow_drewN (w : World) (os : Array Obj) (q : Nat) : (grow w os).drewN q = grow (w.drewN q) os := rfl
theorem G.trans {a b c : World} (h : G a b) (k : G b c) : G a c := by
  obtain ⟨q, os, rfl⟩ := h
  obtain ⟨q', os', rfl⟩ := k
  exact ⟨q + q', os ++ os', by rw [grow_drewN, grow_grow, World.drewN_drewN]⟩
theorem G.alloc {a b : World} (h : G a b) (o : Obj) : G a (b.alloc o) := h.trans ⟨0, #[o], by rw [alloc_eq_grow]; rfl⟩
theorem G.drewN {a b : World} (h : G a b) (n : Nat) : G a (b.drewN n) := h.trans ⟨n, #[], by rw [grow_empty]⟩
theorem G.drew {a b : World} (h : G a b) : G a b.drew := h.drewN 1
theorem G.below {a b : World} (h : G a b) : Below a.heap.size a b := by
  obtain ⟨q, os, rfl⟩ := h
  exact ⟨rfl, rfl, rfl, by simp [grow], fun k hk => by
    show (a.heap ++ os)[k]? = a.heap[k]?
    exact Array.getElem?_append_left hk⟩

theorem writeName' (t k : ByteArray) (p : Option Addr) (l c : Nat) (W : World) :
    Calls Try.prog 37 #[.agg #[.string t, .string k, .slice p l c]] W fun e w' => e = .returned (.agg #[.string t, .string k]) ∧ Hid (G W w') ∧ (∀ b o, b < W.heap.size → w'.cell? ⟨b, o, none⟩ = W.cell? ⟨b, o, none⟩) ∧ W.heap.size ≤ w'.heap.size := by
  refine (writeName t k p l c W).mono ?_
  rintro e w' ⟨rfl, os, rfl⟩
  have hG : G W (grow W os) := ⟨0, os, rfl⟩
  exact ⟨rfl, hG, fun b o hb => hG.below.cell (p := ⟨b, o, none⟩) hb, hG.below.size⟩
theorem compareNames' (t1 k1 t2 k2 : ByteArray) (W : World) :
    Calls Try.prog 36 #[.agg #[.string t1, .string k1], .agg #[.string t2, .string k2]] W fun e w' => e = .returned (.int .i64 (cmpN t1 k1 t2 k2)) ∧ Hid (G W w') := by
  refine (compareNames t1 k1 t2 k2 W).mono ?_
  rintro e w' ⟨rfl, os, rfl⟩
  exact ⟨rfl, 0, os, rfl⟩

set_option maxHeartbeats 2000000 in
theorem closure (t1 k1 t2 k2 : ByteArray) (p1 p2 : Option Addr) (l1 c1 l2 c2 : Nat) (W : World) :
    Calls Try.prog 35 #[.agg #[.string t1, .string k1, .slice p1 l1 c1], .agg #[.string t2, .string k2, .slice p2 l2 c2]] W fun e w' => e = .returned (.int .i64 (cmpN t1 k1 t2 k2)) ∧ G W w' := by
  go_enter Try.func35, Try.ntmps35
  go_wp2
  go_region_with (first | (go_at_call 37; refine (writeName' _ _ _ _ _ _).mono ?_; rintro e w' ⟨rfl, hG, hc, hz⟩) | (go_at_call 36; refine (compareNames' _ _ _ _ _).mono ?_; rintro e w' ⟨rfl, hG⟩))
  all_goals
    go_wp2
    go_ret
    refine ⟨rfl, ?_⟩
    refine G.trans ?_ (Hid.out (by assumption))
    refine G.trans ?_ (Hid.out (by assumption))
    refine G.trans ?_ (Hid.out (by assumption))
    exact (((G.refl _).alloc _).alloc _).drew

/-! ### The writes as the sort sees them: places, ordered by their names -/
def tOf (ts : List ByteArray) (i : Nat) : ByteArray := ts.getD i ByteArray.empty
def vOf (vs : List BS) (i : Nat) : BS := vs.getD i ((none, 0, 0), [])
def nm (ts ks : List ByteArray) (i : Nat) : List UInt8 × List UInt8 := ((tOf ts i).data.toList, (tOf ks i).data.toList)
def encW (ts ks : List ByteArray) (vs : List BS) (i : Nat) : List Value := [.string (tOf ts i), .string (tOf ks i), encB (vOf vs i)]
def cf (ts ks : List ByteArray) (i j : Nat) : Int := cmpN (tOf ts i) (tOf ks i) (tOf ts j) (tOf ks j)
theorem lt_cf (ts ks : List ByteArray) : ltOf (cf ts ks) = Plain.ltBy (nm ts ks) := by
  funext i j
  unfold ltOf cf cmpN Plain.ltBy Plain.nl nm
  rw [Bool.eq_iff_iff]
  by_cases h : Lib.compareBytes (tOf ts i).data.toList (tOf ts j).data.toList = 0
  · have e := (Plain.cmp_zero _ _).1 h
    rw [if_pos h, if_pos e, decide_eq_true_iff, decide_eq_true_iff, Plain.cmp_neg]
  · have e : ¬ (tOf ts i).data.toList = (tOf ts j).data.toList := fun e => h ((Plain.cmp_zero _ _).2 e)
    rw [if_neg h, if_neg e, decide_eq_true_iff, decide_eq_true_iff, Plain.cmp_neg]

/-- What a sort leaves: its row's block turned, all other old blocks as they were. -/
structure But (blk : Nat) (w w' : World) : Prop where
  os : w'.os = w.os
  tape : w'.tape = w.tape
  output : w'.output = w.output
  size : w.heap.size ≤ w'.heap.size
  block : ∀ k, k < w.heap.size → k ≠ blk → w'.heap[k]? = w.heap[k]?

theorem but_sort {α : Type} [Inhabited α] (enc : α → List Value) (k : Nat) (w : World) (blk off n : Nat) (d : Array α) (os : Array Obj) : But blk w (sortWorldK enc k w blk off n d os) := by
  refine ⟨rfl, rfl, rfl, ?_, fun j hj hne => ?_⟩
  · show w.heap.size ≤ (_ ++ os).size
    rw [Array.size_append]
    show w.heap.size ≤ (w.heap.modify blk _).size + os.size
    rw [Array.size_modify]; omega
  · show (w.heap.modify blk _ ++ os)[j]? = w.heap[j]?
    rw [Array.getElem?_append_left (by rw [Array.size_modify]; exact hj), Array.getElem?_modify, if_neg (fun e => hne e.symm)]

theorem cmpLays (ts ks : List ByteArray) (vs : List BS) (blk off size : Nat) (w : World) : CmpLays Try.prog 35 #[] (encW ts ks vs) 3 (cf ts ks) blk off size w :=
  fun _ _ _ _ _ _ => closure _ _ _ _ _ _ _ _ _ _ _

set_option maxHeartbeats 1000000 in
theorem sort34 (ts ks : List ByteArray) (vs : List BS) (blk cap : Nat) (d : Array Nat) (w : World) (hH : HoldsK (encW ts ks vs) 3 w blk 0 d) (hblk : blk < w.heap.size) (hsz : d.size < 4611686018427387904) :
    Calls Try.prog 34 #[.slice (some ⟨blk, 0, none⟩) d.size cap, .func (.func 35) #[] #[]] w fun e w' => e = .returned (.tuple #[]) ∧ ∃ d', PermIn 0 d.size d d' ∧ SortedIn (Plain.ltBy (nm ts ks)) 0 d.size d' ∧ HoldsK (encW ts ks vs) 3 w' blk 0 d' ∧ But blk w w' := by
  have eg : ∀ args w, (callFunc 35 args).run Try.prog w = .ok (.enter 35 args) w := enters_of Try.func35 (by kernel_rfl) rfl
  have hcon := AnyQ.slices_SortFunc Try.sortW 3 Try.isAgg35 Try.sizeOf35 (encW ts ks vs) (fun _ => rfl) (fun x v hv => by simp [encW] at hv; rcases hv with rfl | rfl | rfl <;> rfl) (cf ts ks) (by rw [lt_cf]; exact Plain.swo_by _) 35 #[] blk 0 cap d w eg (cmpLays ts ks vs blk 0 d.size w) hH hblk hsz
  change Calls Try.prog 34 _ _ _ at hcon
  refine hcon.mono ?_
  rintro e w' ⟨rfl, d', n, os, hp, hs, rfl⟩
  rw [lt_cf] at hs
  exact ⟨rfl, d', hp, hs, holdsK_sortWorldK_c _ _ _ _ _ d d' n os hH hblk hp.1, but_sort _ _ _ _ _ _ _ _⟩
theorem sort34_none (p : Option Addr) (cap : Nat) (fv : Value) (w : World) :
    Calls Try.prog 34 #[.slice p 0 cap, fv] w fun e w' => e = .returned (.tuple #[]) ∧ w' = w := by
  have h := AnyF.slices_SortFunc_none Try.sortW p cap fv w
  change Calls Try.prog 34 _ _ _ at h
  exact h
end Go.Proofs.Qxb6605845a.Srt
