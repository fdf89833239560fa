/-
  THE SHELL OF A PROOF OF 'Rows.FnVerdictStringThreeLinesDifferSaid' ('example.com/nameless-accord/nameless-accord/zzlaws_root_b1.FnVerdictStringThreeLinesDiffer'), WRITTEN BY PROGRAM (proof-skeleton.mjs) off the guide's own print for that function. Not trusted: the checker checks it.
  The walk is filled in by hand; all else is the template.
-/
import Derived.Test.Qxb6605804aRows
import Derived.Test.Qxb6605804aVerdictWalks
import Derived.WalkKit
import Derived.WalkSpells
import Derived.WalkLawsBesides
import Derived.ProofKit
import Derived.OpenShut
import Derived.ShutString
namespace Go.Proofs.Qxb6605804a.fnVerdictStringThreeLinesDiffer
open Go.ChangeShapes Go.WideShapes Go.ChangeAt Go.RowKit
open Go.ChangeMaps (open_string shut_string)
set_option linter.unusedVariables false      -- a walk need not use every 'w<i>' (that an integer argument fits its kind)

theorem own : ownKnob Try.prog.godebug = none := by kernel_rfl

open VerdictWalks
theorem line_ne {L M s : ByteArray} {t u : List UInt8} (h : IsLine L s t) (k : IsLine M s u) (hn : t ≠ u) : ¬ L.toList = M.toList := by
  rw [Lib.toList_data, Lib.toList_data, h.data, k.data]
  intro e
  have := List.append_cancel_left e
  simp only [List.cons.injEq, true_and] at this
  exact hn this

theorem grown_trans {a b c : World} (h : Grown a b) (k : Grown b c) : Grown a c :=
  ⟨World.keptBut_trans h.1 k.1, fun x => (k.2.1 x).trans (h.2.1 x), Nat.le_trans h.2.2 k.2.2⟩

set_option maxHeartbeats 800000 in
/-- STEP 1: THE WALK: the Go text returns true. 'Grown w w'': the world has at most new blocks (Derived/RowKit3.lean). Part the cases AHEAD of 'go_enter' where a test parts the walk; take each callee by a contract of your own. -/
theorem walk (a0 : ByteArray) (w0 : a0.size ≤ maxLen) (w : World) :
    Calls Try.prog 6 #[.string a0] w fun e w' => e = .returned (.bool true) ∧ Grown w w' := by
  by_cases hs : a0.size ≤ 1048576
  · obtain ⟨ln, hln⟩ : ∃ ln : Bool → Bool → ByteArray, ∀ h u, ln h u = a0 ++ word h u := ⟨_, fun _ _ => rfl⟩
    have il : ∀ h u, IsLine (ln h u) a0 (tl h u) := fun h u => by rw [hln]; exact isLine a0 _ _
    have n0 : (ln true false).toList = (ln true true).toList := by rw [hln, hln]; rfl
    have n1 : ((ln true true).toList == (ln false true).toList) = false := beq_false_of_ne (line_ne (il _ _) (il _ _) (by decide))
    have n2 : ((ln true true).toList == (ln false false).toList) = false := beq_false_of_ne (line_ne (il _ _) (il _ _) (by decide))
    have n3 : ((ln false true).toList == (ln false false).toList) = false := beq_false_of_ne (line_ne (il _ _) (il _ _) (by decide))
    have c : ∀ h u w, Calls Try.prog 20 #[.agg #[.string a0, .bool h, .bool u]] w fun e w' => e = .returned (.string (ln h u)) ∧ Grown w w' := by
      intro h u w; rw [hln]; exact string_any _ _ _ _ hs
    have d : ∀ h u w, Calls Try.prog 22 #[.string (ln h u), .string a0] w fun e w' => e = .returned (.bool true) ∧ w = w' := fun h u w =>
      lineOf_true _ _ _ w (il h u) (tl_len h u).1 (tl_len h u).2 hs
    clear hln il
    have hgw : Grown w w := Grown.refl w
    go_enter Try.func6, Try.ntmps6
    go_wp2_with (first | (go_at_call 21; refine (bytes6 _ _ w0).mono ?_; rintro e w' ⟨rfl, rfl⟩) | (go_at_call 20; refine (c _ _ _).mono ?_; rintro e w1 ⟨rfl, hg1⟩; replace hgw := grown_trans hgw hg1; clear hg1) | (go_at_call 22; refine (d _ _ _).mono ?_; rintro e w' ⟨rfl, rfl⟩))
    go_ret
    exact ⟨rfl, hgw⟩
  · go_enter Try.func6, Try.ntmps6
    go_wp2_with (first | (go_at_call 21; refine (bytes6 _ _ w0).mono ?_; rintro e w' ⟨rfl, rfl⟩))
    go_ret
    exact ⟨rfl, by repeat (first | exact Grown.refl _ | apply Grown.drew | apply Grown.alloc)⟩

/-! ### THE ROW's STEP: WRITTEN OUT: LEAVE IT -/
set_option maxRecDepth 100000 in
theorem lifted (os : Os) (started : os.Started) (H : Type) (enc : TypeId × Value → H) :
    ReturnsInHanded {} Try.checked os 6 .any (Rows.fnVerdictStringThreeLinesDifferSpec.pre6 enc Try.prog Try.f6 Rows.fnVerdictStringThreeLinesDifferRow.domain false) (Rows.fnVerdictStringThreeLinesDifferSpec.post enc Try.prog Try.f6 false true false false) := by
  refine returnsInHanded_of_change (C := Try.checked) own started (by kernel_rfl) Try.func6
    (ChangeSpec.witness6 (enc := enc) (C := Try.checked) false ⟨#[], #[.string ByteArray.empty], []⟩ 8 (by kernel_rfl) (by kernel_rfl) (by kernel_rfl) (by kernel_rfl)) ?_
  intro W base args ds gs before hval0 hW hcnd _
  have hval : ∀ (j : Nat) t v, Try.f6.params[j]? = some t → args[j]? = some v → Value.okWide Try.prog W .any base t v := hval0
  have hW' := hW
  obtain ⟨p, q, hA0, hV, rfl, hfz, hnd⟩ := hW
  have hA : DataW.TrodAll enc Try.prog W 0 (fun _ => true) true Try.f6.params.toList args.toList ds p := hA0
  rw [Try.params6] at hA hval
  obtain ⟨v0, vs0, d0, ds0, p0, q0, hargs, rfl, rfl, h0, r0⟩ := trodAll_cons hA
  obtain ⟨rfl, rfl, rfl⟩ := trodAll_nil r0
  obtain rfl : args = #[v0] := by cases args; simp_all
  obtain ⟨rfl, rfl⟩ := trodVars_none hV
  obtain ⟨a0, rfl, rfl, rfl, w0⟩ := open_string Try.underlying9 (hval 0 9 v0 rfl rfl) h0
  clear hA0 hval0
  simp only [List.append_nil] at hW'
  refine (walk a0 w0 W).mono fun e W' ⟨he, hg⟩ => ?_
  subst he
  exact ⟨_, rfl, post_of_same (pa := []) (pv := []) hW' (fun _ _ _ => (trodAll_cons_mk (shut_bool Try.underlying4 _) trodAll_mk0)) (fun sp _ => (trodAll_cons_mk (shut_string Try.underlying9 w0) trodAll_mk0)) (fun _ _ => rfl) rfl
    (hg.frame _) hg.2.1 (ok_one (by kernel_rfl) rfl (okWide_bool_mk Try.underlying4 _))⟩

theorem over : Rows.fnVerdictStringThreeLinesDifferRow.holds Try.pinned (OpenSpec.ofChange Rows.fnVerdictStringThreeLinesDifferSpec) :=
  OpenClaim.holds_of_wide 6 Try.f6 rfl rfl rfl rfl rfl rfl rfl ⟨rfl, rfl, rfl, rfl, rfl⟩ rfl rfl rfl rfl rfl (by kernel_rfl) Try.func6 (by kernel_rfl)
    (of_decide_eq_true (by kernel_rfl)) (by unfold Func.isWrapper; first | (rw [if_pos (by decide +kernel)]; kernel_rfl) | (rw [if_neg (by decide +kernel)]; exact ⟨rfl, rfl⟩))
    (fun os started H enc _ => lifted os started H enc)

/-- ████ THE STATEMENT ████ -/
theorem proved : Rows.FnVerdictStringThreeLinesDifferSaid :=
  over
end Go.Proofs.Qxb6605804a.fnVerdictStringThreeLinesDiffer
