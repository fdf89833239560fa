/-
  The tied card of 'FnNoteKeysNotesEveryStampedKeyRecord': the frame after the kit's shell (proof-skeleton.mjs) and worked examples (MapyProofs, MapyCard, Two9Proofs); the walk lies in its own text.
-/
import Derived.Test.Qxb6605845aDoorLawAll
import Derived.Test.Qxb6605845aDoorTie
import Derived.Test.Qxb6605845aDoorCards
import Derived.ProofKit
import Derived.OpenShut
import Derived.ShutString
import Derived.ChangeOld
import Derived.Below
import Derived.SliceStrings
import Derived.Deep.Matrix
import Derived.LaidMore
import Derived.Stop.Joined
import Derived.Stop.LaidErr
import Derived.SevenTiedAt
namespace Go.Proofs.Qxb6605845aDoor.fnNoteKeysNotesEveryStampedKeyRecord
open Go.ChangeShapes Go.WideShapes Go.ChangeAt Go.RowKit Go.Deep
open Mem RecWalk
set_option linter.unusedVariables false

theorem own : ownKnob Tryd.prog.godebug = none := by kernel_rfl
theorem laidOut : laidOutB Tryd.prog = true := by kernel_rfl

theorem getD_take (ss : List ByteArray) (len i : Nat) (s : ByteArray) (h : (ss.take len)[i]? = some s) : i < len ∧ i < ss.length ∧ ss.getD i ByteArray.empty = s := by
  rw [List.getElem?_take] at h
  split at h
  · rename_i hi
    refine ⟨hi, ?_, by rw [List.getD, h]; rfl⟩
    rcases Nat.lt_or_ge i ss.length with h1 | h1
    · exact h1
    · rw [List.getElem?_eq_none h1] at h; cases h
  · cases h

/-- A slice of strings that came in. -/
theorem strs_in {H : Type} {enc : TypeId × Value → H} {W : World} {a : Option Addr} {len cap : Nat} {d : DataW H} {p : List MemPlace} (h : ∃ fuel, DataW.trod enc Tryd.prog W 0 (fun _ => true) true fuel 22 (Value.cells (.slice a len cap)).toList = some (d, p)) :
    ∃ ss, Rd Value.string W (.slice a len cap) ss ∧ ss.length ≤ 9223372036854775807 ∧ ∀ s ∈ ss, s.size ≤ 9223372036854775807 := by
  obtain ⟨fuel, hf⟩ := h
  rcases open_strings Tryd.underlying22 Tryd.underlying9 (by kernel_rfl) hf with ⟨hcs, _⟩ | ⟨x, l, c, ss, hcs, _, hl, hm, hz, _, hcell, hws⟩
  · simp [Value.cells] at hcs
    obtain ⟨rfl, rfl, rfl⟩ := hcs
    exact ⟨[], .inl ⟨rfl, rfl⟩, by simp, by simp⟩
  · simp [Value.cells] at hcs
    obtain ⟨rfl, rfl, rfl⟩ := hcs
    simp only [if_true] at hz
    have e : (ss.take len).length = len := by rw [List.length_take]; omega
    refine ⟨ss.take len, .inr ⟨x, cap, by rw [e], by omega, fun i s hi => ?_⟩, by rw [e]; unfold maxLen at hm; omega, fun s hs => hws s (List.mem_of_mem_take hs)⟩
    obtain ⟨_, h2, h3⟩ := getD_take ss len i s hi
    rw [hcell i h2, h3]

/-- A slice of byte slices that came in. -/
theorem rows_in {H : Type} {enc : TypeId × Value → H} {W : World} {a : Option Addr} {len cap : Nat} {d : DataW H} {p : List MemPlace} (h : ∃ fuel, DataW.trod enc Tryd.prog W 0 (fun _ => true) true fuel 23 (Value.cells (.slice a len cap)).toList = some (d, p)) :
    ∃ vs, RdV W (.slice a len cap) vs ∧ vs.length ≤ 9223372036854775807 ∧ (∀ q ∈ vs, q.1.2.1 ≤ 9223372036854775807) ∧ (∀ q ∈ vs, q.1.2.1 = q.2.length) ∧ ∀ q ∈ vs, ∀ z ∈ q.2, 0 ≤ z ∧ z ≤ 255 := by
  obtain ⟨fuel, hf⟩ := h
  rcases open_int_rows Tryd.underlying23 Tryd.underlying32 Tryd.underlying5 (by kernel_rfl) (by kernel_rfl) hf with ⟨hcs, _⟩ | ⟨x, l, c, A, L, C, Z, hcs, _, hl, hm, _, hrow⟩
  · simp [Value.cells] at hcs
    obtain ⟨rfl, rfl, rfl⟩ := hcs
    exact ⟨[], ⟨.inl ⟨rfl, rfl⟩, by simp⟩, by simp, by simp, by simp, by simp⟩
  · simp [Value.cells] at hcs
    obtain ⟨rfl, rfl, rfl⟩ := hcs
    have e : ((List.range len).map fun r => (((A r, L r, C r), (Z r).take (L r)) : BS)).length = len := by simp
    have mem : ∀ q ∈ ((List.range len).map fun r => (((A r, L r, C r), (Z r).take (L r)) : BS)), ∃ r, r < len ∧ q = ((A r, L r, C r), (Z r).take (L r)) := by
      intro q hq
      obtain ⟨r, hr, rfl⟩ := List.mem_map.1 hq
      exact ⟨r, List.mem_range.1 hr, rfl⟩
    refine ⟨(List.range len).map fun r => ((A r, L r, C r), (Z r).take (L r)), ⟨.inr ⟨x, cap, by rw [e], by omega, fun i q hi => ?_⟩, fun q hq => ?_⟩, by rw [e]; unfold maxLen at hm; omega, fun q hq => ?_, fun q hq => ?_, fun q hq z hzq => ?_⟩
    · rw [List.getElem?_map] at hi
      obtain ⟨r, hr, rfl⟩ := Option.map_eq_some_iff.1 hi
      have hil : i < len := by
        rcases Nat.lt_or_ge i len with h | h
        · exact h
        · rw [List.getElem?_eq_none (by simpa using h)] at hr; cases hr
      rw [List.getElem?_range hil] at hr
      cases hr
      exact (hrow i (by omega)).1
    · obtain ⟨r, hr, rfl⟩ := mem q hq
      obtain ⟨_, h1, h2, h3, _, h4, h5⟩ := hrow r (by omega)
      cases hA : A r with
      | none =>
        have := h4 hA
        have h0 : L r = 0 := by omega
        refine .inl ⟨?_, ?_⟩
        · show Value.slice none (L r) (C r) = _
          rw [h0, this]
        · show (Z r).take (L r) = []
          rw [h0]; rfl
      | some a' =>
        have e' : ((Z r).take (L r)).length = L r := by rw [List.length_take]; omega
        refine .inr ⟨a', C r, ?_, ?_, fun i z hi => ?_⟩
        · show Value.slice (some a') (L r) (C r) = Value.slice (some a') ((Z r).take (L r)).length (C r)
          rw [e']
        · show ((Z r).take (L r)).length ≤ C r
          omega
        · have hi' : ((Z r).take (L r))[i]? = some z := hi
          rw [List.getElem?_take] at hi'
          split at hi'
          · rename_i hlt
            rw [(h5 a' hA).2 i (by omega), List.getD, hi']
            rfl
          · cases hi'
    · obtain ⟨r, hr, rfl⟩ := mem q hq
      obtain ⟨_, h1, h2, _⟩ := hrow r (by omega)
      show L r ≤ _
      unfold maxLen at h2; omega
    · obtain ⟨r, hr, rfl⟩ := mem q hq
      obtain ⟨_, h1, h2, h3, _⟩ := hrow r (by omega)
      show L r = ((Z r).take (L r)).length
      rw [List.length_take]; omega
    · obtain ⟨r, hr, rfl⟩ := mem q hq
      obtain ⟨_, h1, h2, h3, h4, _⟩ := hrow r (by omega)
      have hw := h4 z (List.mem_of_mem_take hzq)
      have e1 : IntKind.u8.min = 0 := rfl
      have e2 : IntKind.u8.max = 255 := rfl
      simp [Lit.wf] at hw
      omega

theorem walk (v1 v2 v3 : Value) (ts ks : List ByteArray) (vs : List BS) (w : World) (h1 : Rd Value.string w v1 ts) (h2 : Rd Value.string w v2 ks) (h3 : RdV w v3 vs)
    (n1 : ts.length ≤ 9223372036854775807) (n2 : ks.length ≤ 9223372036854775807) (n3 : vs.length ≤ 9223372036854775807)
    (s1 : ∀ s ∈ ts, s.size ≤ 9223372036854775807) (s2 : ∀ s ∈ ks, s.size ≤ 9223372036854775807) (s3 : ∀ p ∈ vs, p.1.2.1 ≤ 9223372036854775807) (s3' : ∀ p ∈ vs, p.1.2.1 = p.2.length)
    (hz : ∀ p ∈ vs, ∀ z ∈ p.2, 0 ≤ z ∧ z ≤ 255) (hs : Sent w) :
    Calls Tryd.prog 3 #[v1, v2, v3] w fun e w' => e = .returned (.bool true) ∧ Below w.heap.size w w' := by
  by_cases hb : ts.length ≤ 4096 ∧ ks.length ≤ 4096 ∧ vs.length ≤ 4096
  · obtain ⟨q1, q2, q3⟩ := hb
    exact LawAll.walk v1 v2 v3 ts ks vs w h1 h2 h3 q1 q2 q3 _ rfl s1 s2 s3 s3' hz hs
  · exact LawAll.walk_big v1 v2 v3 ts ks vs w h1 h2 h3 n1 n2 n3 (by omega) s1 s2 s3

theorem gR : Tryd.prog.globalNamed "strconv.ErrRange" = some 1 := by kernel_rfl
theorem gRType : (Tryd.prog.globals[1]?).map (·.type) = some 86 := by kernel_rfl
theorem gS : Tryd.prog.globalNamed "strconv.ErrSyntax" = some 0 := by kernel_rfl
theorem gSType : (Tryd.prog.globals[0]?).map (·.type) = some 86 := by kernel_rfl
theorem star : "*" ++ "errors.errorString" = "*errors.errorString" := by decide
theorem row112 (u : TypeId) (h : Tryd.prog.typeName? 3 u = some "*errors.errorString") : u = 112 :=
  typeName_ptr_named (nm := "errors.errorString") (by rw [star]; kernel_rfl) (by kernel_rfl) (by decide) u (by rw [star]; exact h)
theorem cells114 : Tryd.prog.cellsOf 114 = 1 := by kernel_rfl
theorem cells9 : Tryd.prog.cellsOf 9 = 1 := by kernel_rfl

/-- The door's own heap meets the condition. -/
theorem door_met (os : Os) (args : Array Value) : laidMetH Tryd.prog Rows.fnNoteKeysNotesEveryStampedKeyRecordRow.laid ((World.doorLaid Tryd.prog 62 os).forCall (fun _ _ => 0) ⟨#[], args, []⟩).memory :=
  laidMetH_of_parts3 (fuel := 8) (laidMet_of_run' 8 (by kernel_rfl) (by kernel_rfl)) (by kernel_rfl) (by kernel_rfl)
/-- What the condition gives the walk: the two sentinels of strconv hold an error each. -/
theorem sent_of {W : World} (h : laidMetH Tryd.prog Rows.fnNoteKeysNotesEveryStampedKeyRecordRow.laid W) : Sent W := by
  rw [MakeChecks.laidMetH_plain _ _ _ (by kernel_rfl)] at h
  have h3 := h.tail.tail.tail
  obtain ⟨a0, s0, hv0, -, -, -⟩ := laid_sentinel h3 gR gRType Tryd.underlying86 row112 Tryd.underlying112 Tryd.underlying114 rfl rfl Tryd.underlying9 cells114 cells9
  obtain ⟨b0, t0, hw0, -, -, -⟩ := laid_sentinel h3.tail gS gSType Tryd.underlying86 row112 Tryd.underlying112 Tryd.underlying114 rfl rfl Tryd.underlying9 cells114 cells9
  exact ⟨⟨_, _, by have := World.var?_cell gS hw0 0; simpa using this⟩, _, _, by have := World.var?_cell gR hv0 0; simpa using this⟩

set_option maxRecDepth 100000 in
theorem lifted (os : Os) (started : os.Started) (H : Type) (enc : TypeId × Value → H) :
    ReturnsInHanded {} Tryd.checked os 3 .any (fun w args => (Rows.fnNoteKeysNotesEveryStampedKeyRecordSpec.pre enc Tryd.prog Tryd.f3 Rows.fnNoteKeysNotesEveryStampedKeyRecordRow.domain false w args ∧ laidMetH Tryd.prog Rows.fnNoteKeysNotesEveryStampedKeyRecordRow.laid w) ∧ sizedMet enc Tryd.prog Tryd.f3 (OpenSpec.ofChange Rows.fnNoteKeysNotesEveryStampedKeyRecordSpec) false w args) (Rows.fnNoteKeysNotesEveryStampedKeyRecordSpec.post enc Tryd.prog Tryd.f3 false true false false) := by
  refine returnsInHanded_of_change_and (C := Tryd.checked) (X := fun w _ => laidMetH Tryd.prog Rows.fnNoteKeysNotesEveryStampedKeyRecordRow.laid w) (fun _ _ _ hh h => h.of_heap hh) own started (by kernel_rfl) Tryd.func3
    (ChangeSpec.witness_shaped (enc := enc) (C := Tryd.checked) (os := os) (X := fun w _ => laidMetH Tryd.prog Rows.fnNoteKeysNotesEveryStampedKeyRecordRow.laid w) false (World.doorLaid Tryd.prog 62 os) #[.slice none 0 0, .slice none 0 0, .slice none 0 0] 8 rfl (World.shaped_of_RefB (by kernel_rfl) (by kernel_rfl)) (by kernel_rfl) (by kernel_rfl) (by kernel_rfl) (door_met os _)) ?_
  intro W base args ds gs before hval0 hW _ _ hL _
  have hval : ∀ (j : Nat) t v, Tryd.f3.params[j]? = some t → args[j]? = some v → Value.okWide Tryd.prog W .any base t v := hval0
  have hW' := hW
  obtain ⟨p, q, hA0, hV, rfl, hfz, hnd⟩ := hW
  have hA : DataW.TrodAll enc Tryd.prog W 0 (fun _ => true) true Tryd.f3.params.toList args.toList ds p := hA0
  rw [Tryd.params3] at hA hval
  obtain ⟨v0, vs0, d0, ds0, p0, q0, hargs, rfl, rfl, h0, r0⟩ := trodAll_cons hA
  obtain ⟨v1, vs1, d1, ds1, p1, q1, rfl, rfl, rfl, h1, r1⟩ := trodAll_cons r0
  obtain ⟨v2, vs2, d2, ds2, p2, q2, rfl, rfl, rfl, h2, r2⟩ := trodAll_cons r1
  obtain ⟨rfl, rfl, rfl⟩ := trodAll_nil r2
  obtain rfl : args = #[v0, v1, v2] := by cases args; simp_all
  obtain ⟨rfl, rfl⟩ := trodVars_none hV
  obtain ⟨a0, len0, cap0, rfl⟩ := okWide_slice Tryd.underlying22 (hval 0 22 v0 rfl rfl)
  obtain ⟨a1, len1, cap1, rfl⟩ := okWide_slice Tryd.underlying22 (hval 1 22 v1 rfl rfl)
  obtain ⟨a2, len2, cap2, rfl⟩ := okWide_slice Tryd.underlying23 (hval 2 23 v2 rfl rfl)
  have lt0 : ∀ x ∈ p0, x.block < W.heap.size := by obtain ⟨m, hm⟩ := h0; exact DataW.trod_lt m _ _ _ hm
  have lt1 : ∀ x ∈ p1, x.block < W.heap.size := by obtain ⟨m, hm⟩ := h1; exact DataW.trod_lt m _ _ _ hm
  have lt2 : ∀ x ∈ p2, x.block < W.heap.size := by obtain ⟨m, hm⟩ := h2; exact DataW.trod_lt m _ _ _ hm
  obtain ⟨ts, t1, t2, t3⟩ := strs_in h0
  obtain ⟨ks, k1, k2, k3⟩ := strs_in h1
  obtain ⟨vs, b1, b2, b3, b4, b5⟩ := rows_in h2
  clear hA0 hval0
  refine (walk _ _ _ ts ks vs W t1 k1 b1 t2 k2 b2 t3 k3 b3 b4 b5 (sent_of hL)).mono fun e W' ⟨he, bel⟩ => ?_
  subst he
  exact ⟨_, rfl, _, _, _, [], _, [], hW', trodAll_mk1 (shut_bool Tryd.underlying4 _), (trodAll_cons_mk (Below.trod laidOut (by kernel_rfl) (of_decide_eq_true (by kernel_rfl)) h0 bel lt0) (trodAll_cons_mk (Below.trod laidOut (by kernel_rfl) (of_decide_eq_true (by kernel_rfl)) h1 bel lt1) (trodAll_cons_mk (Below.trod laidOut (by kernel_rfl) (of_decide_eq_true (by kernel_rfl)) h2 bel lt2) trodAll_mk0))), rfl, bel.frame _, fun h => by cases h⟩

theorem over : Rows.fnNoteKeysNotesEveryStampedKeyRecordRow.holds Tryd.pinned (OpenSpec.ofChange Rows.fnNoteKeysNotesEveryStampedKeyRecordSpec) :=
  OpenClaim.holds_of_wide 3 Tryd.f3 rfl rfl rfl rfl rfl rfl rfl ⟨rfl, rfl, rfl, rfl, rfl⟩ rfl rfl rfl rfl rfl (by kernel_rfl) Tryd.func3 (by kernel_rfl)
    (of_decide_eq_true (by kernel_rfl)) (by unfold Func.isWrapper; first | (rw [if_pos (by decide +kernel)]; kernel_rfl) | (rw [if_neg (by decide +kernel)]; exact ⟨rfl, rfl⟩))
    (fun os started H enc _ => lifted os started H enc)

/-- THE TIED CARD: THE STATEMENT. -/
theorem proved : Rows.FnNoteKeysNotesEveryStampedKeyRecordCardSaid :=
  Claim7.holds_tied_plain_at .later [] [.data, .data, .data, .sentinel, .sentinel] true Rows.fnNoteKeysNotesEveryStampedKeyRecordCard.stood.harness true over (fun _ h => by cases h) (by kernel_rfl) (fun _ h => by cases h) fnNoteKeysNotesEveryStampedKeyRecord_row_tie rfl ⟨rfl, rfl⟩ (by kernel_rfl) rfl
    (fun f fn hf hfn => by
      obtain rfl : f = 3 := Option.some.inj ((show Tryd.prog.funcNamed Rows.fnNoteKeysNotesEveryStampedKeyRecordRow.func = some 3 by kernel_rfl).symm.trans hf) |>.symm
      obtain rfl : fn = Tryd.f3 := (Option.some.inj (Tryd.func3.symm.trans hfn)).symm
      exact ⟨by kernel_rfl, fun j t ht => by
        rw [Tryd.params3] at ht
        have hm : t ∈ [22, 22, 23] := by simpa using Array.mem_of_getElem? ht
        have hall : ([22, 22, 23].all fun u => !Tryd.prog.wantsStandIn u) = true := by kernel_rfl
        exact (show Tryd.prog.wantsStandIn t = false by simpa using List.all_eq_true.1 hall t hm)⟩)
    (by kernel_rfl)
end Go.Proofs.Qxb6605845aDoor.fnNoteKeysNotesEveryStampedKeyRecord
