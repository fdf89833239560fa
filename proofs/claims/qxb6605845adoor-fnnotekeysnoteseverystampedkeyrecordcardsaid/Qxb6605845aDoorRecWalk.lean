/-
  The walk of the program's own reading of a stamp (recordStamp), over strconv.ParseInt and bytes.HasPrefix by the shelf.
-/
import Derived.Test.Qxb6605845aDoorStampWalk
import Derived.Test.Qxb6605845aDoorShelf
import Derived.Lib.SlBytesConst
import Derived.Laws.IdiomStrings
import Derived.Lib.AtoiErrMem
import Derived.OwnWalk
namespace Go.Proofs.Qxb6605845aDoor.RecWalk
open Go.RowKit Mem Small Stamp Go.Shelf

/-- The answer of the program's own reading. -/
def Ans (zs : List Int) (w : World) (e : Ending) (w' : World) : Prop := ∃ (x m : Int) (b : Bool), e = .returned (.tuple #[.int .i64 x, .int .i64 m, .bool b]) ∧ ((b = true ∧ stampOf zs = some x) ∨ (b = false ∧ stampOf zs = none)) ∧ Below w.heap.size w w'

/-- The two sentinels of strconv hold some error each. -/
def Sent (w : World) : Prop := (∃ tp p, w.cell? ⟨0, 0, none⟩ = some (.iface tp p)) ∧ ∃ tp p, w.cell? ⟨1, 0, none⟩ = some (.iface tp p)
theorem Sent.below {w w' : World} (h : Sent w) (hb : Below w.heap.size w w') : Sent w' := by
  obtain ⟨⟨tp, p, h1⟩, tq, q, h2⟩ := h
  exact ⟨⟨tp, p, by rw [hb.cell (p := ⟨0, 0, none⟩) (cell_lt h1)]; exact h1⟩, tq, q, by rw [hb.cell (p := ⟨1, 0, none⟩) (cell_lt h2)]; exact h2⟩

/-- strconv.ParseInt(s, 10, 64), whole. -/
def PAns (s : ByteArray) (w : World) (e : Ending) (w' : World) : Prop := ∃ (x : Int) (er : Value), e = .returned (.tuple #[.int .i64 x, er]) ∧ Hid ((er = .nilIface ∧ okOf (Lib.parseIntB 64 s.data.toList) = some x) ∨ ∃ t v, er = .iface t v ∧ okOf (Lib.parseIntB 64 s.data.toList) = none) ∧ Below w.heap.size w w'
theorem parse (s : ByteArray) (w : World) (hl : s.size ≤ 1048576) (hs : Sent w) : Calls Tryd.prog 25 #[.string s, .int .i64 10, .int .i64 64] w (PAns s w) := by
  cases h : Lib.parseIntB 64 s.data.toList with
  | ok v =>
    refine (Any.strconv_ParseInt_10_at64_ok Tryd.laysC174 s (by omega) v h w).mono ?_
    rintro e w' ⟨he, hw⟩
    refine ⟨v, .nilIface, he, .inl ⟨rfl, by rw [h]; rfl⟩, ?_⟩
    rcases hw with rfl | ⟨t, rfl⟩
    · exact Below.refl _ _
    · exact Lib.bytesWorld_below _ _ _
  | range =>
    obtain ⟨tp, p, h1⟩ := hs.2
    refine (Any.strconv_ParseInt_10_at64_range Tryd.laysC174 s (by omega) h _ w h1 (.inr ⟨tp, p, rfl⟩)).mono ?_
    rintro e w' ⟨N, he, -, -, hb⟩
    exact ⟨_, _, he, .inr ⟨_, _, rfl, by rw [h]; rfl⟩, hb⟩
  | _ =>
    obtain ⟨tp, p, h1⟩ := hs.1
    refine (Any.strconv_ParseInt_10_at64_syntax Tryd.laysC174 s (by omega) h _ w h1 (.inr ⟨tp, p, rfl⟩)).mono ?_
    rintro e w' ⟨N, he, -, -, hb⟩
    exact ⟨_, _, he, .inr ⟨_, _, rfl, by rw [h]; rfl⟩, hb⟩

theorem bytesIn {w : World} {a : Option Addr} {c : Nat} {zs : List Int} (h : Rd (Value.int .u8) w (.slice a zs.length c) zs) : Lib.BytesIn w a zs.length zs := by
  intro hp
  obtain ⟨b, off, c', e, -, hc⟩ := h.at hp
  obtain ⟨rfl, -, rfl⟩ := Value.slice.inj e
  exact ⟨b, off, rfl, fun i hi => hc.out i _ (by rw [List.getD_eq_getElem?_getD, List.getElem?_eq_getElem hi]; rfl)⟩
theorem alloc_cell (w : World) (C : Array Value) (e : TypeId) (fz : Nat × Nat) (i : Nat) (u : Value) (h : C[i]? = some u) : (w.alloc (.cells C e fz)).cell? ⟨w.heap.size, i, none⟩ = some u := by
  have : (w.alloc (.cells C e fz)).heap[w.heap.size]? = some (.cells C e fz) := by
    show (w.heap.push _)[w.heap.size]? = _
    simp
  unfold World.cell?
  simp only [this]
  exact h
theorem cap_le {w : World} {a : Option Addr} {c : Nat} {zs : List Int} (h : Rd (Value.int .u8) w (.slice a zs.length c) zs) : zs.length ≤ c := by
  rcases h with ⟨e, rfl⟩ | ⟨x, cap, e, hl, -⟩
  · simp
  · obtain ⟨-, -, rfl⟩ := Value.slice.inj e; exact hl
theorem toU_inj {x y : Int} (hx : 0 ≤ x ∧ x ≤ 255) (hy : 0 ≤ y ∧ y ≤ 255) (h : UInt8.ofNat x.toNat = UInt8.ofNat y.toNat) : x = y := by
  have := congrArg UInt8.toNat h
  simp at this
  omega
theorem pre_iff {zs : List Int} (hz : ∀ z ∈ zs, 0 ≤ z ∧ z ≤ 255) : Lib.hasPrefix (Lib.bytesOf zs) (Lib.bytesOf hd) = decide (zs.take 6 = hd) := by
  rw [Bool.eq_iff_iff]
  simp only [Lib.hasPrefix, List.isPrefixOf_iff_prefix, decide_eq_true_eq]
  constructor
  · intro h
    have h2 := List.prefix_iff_eq_take.1 h
    unfold Lib.bytesOf at h2
    rw [List.length_map, ← List.map_take] at h2
    have : hd.length = 6 := rfl
    rw [this] at h2
    have hl := congrArg List.length h2
    simp only [List.length_map] at hl
    apply List.ext_getElem (by rw [← hl])
    intro i h3 h4
    have h5 := congrArg (·[i]?) h2
    simp only [List.getElem?_map, List.getElem?_eq_getElem h3, List.getElem?_eq_getElem h4, Option.map_some, Option.some.injEq] at h5
    refine (toU_inj ?_ ?_ h5.symm)
    · exact hz _ (List.mem_of_mem_take (List.getElem_mem h3))
    · have : ∀ z ∈ hd, 0 ≤ z ∧ z ≤ 255 := by decide
      exact this _ (List.getElem_mem h4)
  · intro h
    unfold Lib.bytesOf
    rw [← h, List.map_take]
    exact List.take_prefix _ _

theorem run_more {zs : List Int} {k : Nat} {z : Int} (h : ∀ z ∈ (zs.drop 6).take (k - 6), isR z = true) (hz : zs[k]? = some z) (hk : 6 ≤ k) (hR : isR z = true) : ∀ z ∈ (zs.drop 6).take (k + 1 - 6), isR z = true := by
  have e : (zs.drop 6)[k - 6]? = some z := by rw [List.getElem?_drop, show 6 + (k - 6) = k by omega]; exact hz
  rw [show k + 1 - 6 = (k - 6) + 1 by omega, List.take_add_one, e]
  intro y hy
  rcases List.mem_append.1 hy with h1 | h1
  · exact h y h1
  · simp at h1; subst h1; exact hR
theorem run_end {l : List Int} {j : Nat} (h : ∀ z ∈ l.take j, isR z = true) (he : ∀ z, l[j]? = some z → isR z = false) : run l = l.take j := by
  unfold run
  induction l generalizing j with
  | nil => simp
  | cons y r ih =>
    cases j with
    | zero =>
      have := he y rfl
      simp [this]
    | succ j =>
      have h1 : isR y = true := h y (by simp)
      rw [List.takeWhile_cons_of_pos h1, List.take_succ_cons, ih (j := j) (fun z hz => h z (by simp [hz])) (fun z hz => he z (by simpa using hz))]

theorem below_drewN {B : Nat} {a w : World} (h : Below B a w) (n : Nat) : Below B a (w.drewN n) := ⟨h.os, h.tape, h.output, h.size, h.block⟩
theorem toU_R {z : Int} (h : isR z = true) : ((toU z).toNat : Int) = z := by
  have hz : 45 ≤ z ∧ z ≤ 57 := by
    simp only [isR, isD, Bool.or_eq_true, Bool.and_eq_true, decide_eq_true_eq] at h
    omega
  have : (toU z).toNat = z.toNat := by simp [toU]; omega
  omega
theorem tail_conv {w' : World} {b off k : Nat} {zs : List Int} (hc : ∀ i a, zs[i]? = some a → w'.cell? ⟨b, off + i, none⟩ = some (.int .u8 a)) (h6 : 6 ≤ k) (hk : k ≤ zs.length) (hR : ∀ z ∈ (zs.drop 6).take (k - 6), isR z = true) (o cap : Nat) (ho : k = 6 ∨ o = off + 6) :
    (convert 32 9 (.slice (some ⟨b, o, none⟩) (k - 6) cap)).run Tryd.prog w' = .ok (.string ⟨(((zs.drop 6).take (k - 6)).map toU).toArray⟩) w' := by
  have hl : (((zs.drop 6).take (k - 6)).map toU).length = k - 6 := by simp; omega
  have := run_convert_bytes_back (P := Tryd.prog) w' 32 9 5 ⟨b, o, none⟩ cap (((zs.drop 6).take (k - 6)).map toU) Tryd.underlying32 Tryd.underlying5 Tryd.underlying9 (fun j hj => by
    rw [hl] at hj
    rcases ho with h0 | rfl
    · omega
    · rw [add_plain, List.getElem_map]
      have hj' : 6 + j < zs.length := by omega
      have e : ((zs.drop 6).take (k - 6))[j]'(by simp; omega) = zs[6 + j] := by simp
      rw [toU_R (hR _ (List.getElem_mem _)), e]
      rw [show off + 6 + j = off + (6 + j) by omega]
      exact hc _ _ (List.getElem?_eq_getElem hj'))
  rwa [hl] at this
theorem stamp_run {zs : List Int} {k : Nat} (hp : zs.take 6 = hd) (hR : ∀ z ∈ (zs.drop 6).take (k - 6), isR z = true) (he : ∀ z, zs[k]? = some z → isR z = false) (h6 : 6 ≤ k) :
    okOf (Lib.parseIntB 64 (ByteArray.mk (((zs.drop 6).take (k - 6)).map toU).toArray).data.toList) = stampOf zs := by
  have := run_end (l := zs.drop 6) hR (fun z hz => he z (by rw [List.getElem?_drop, show 6 + (k - 6) = k by omega] at hz; exact hz))
  simp [stampOf, hp, this]

set_option maxRecDepth 100000 in
set_option maxHeartbeats 1000000 in
theorem record (v : Value) (zs : List Int) (w : World) (hr : Rd (Value.int .u8) w v zs) (hn : zs.length ≤ 1048576) (hz : ∀ z ∈ zs, 0 ≤ z ∧ z ≤ 255) (hs : Sent w) : Calls Tryd.prog 22 #[v] w (Ans zs w) := by
  obtain ⟨a, c, rfl⟩ := hr.form
  have hb1 : Below w.heap.size w (w.alloc (.cells #[.int .u8 123, .int .u8 34, .int .u8 97, .int .u8 116, .int .u8 34, .int .u8 58] 5 (6, 7))) := (Below.refl _ _).alloc (Nat.le_refl _) _
  have hcc := Lib.run_convert_bytes_const (P := Tryd.prog) w 32 5 #[.int .u8 123, .int .u8 34, .int .u8 97, .int .u8 116, .int .u8 34, .int .u8 58] 6 6 Tryd.underlying32 Tryd.underlying5
  have hr1 := hr.below hb1
  have hcon := Any.bytes_HasPrefix_all Tryd.lays116 a (some ⟨w.heap.size, 0, none⟩) zs.length c 6 6 zs hd _ rfl rfl (cap_le hr) (bytesIn hr1) (fun _ => ⟨w.heap.size, 0, rfl, fun i hi => by
    have : i = 0 ∨ i = 1 ∨ i = 2 ∨ i = 3 ∨ i = 4 ∨ i = 5 := by omega
    rw [Nat.zero_add]
    rcases this with rfl | rfl | rfl | rfl | rfl | rfl <;> exact alloc_cell w _ _ _ _ _ rfl⟩)
  change Calls Tryd.prog 24 _ _ _ at hcon
  rw [pre_iff hz] at hcon
  by_cases hp : zs.take 6 = hd
  · simp only [hp, decide_true] at hcon
    obtain ⟨b, off, c', e, -, hc⟩ := hr1.at (by have := congrArg List.length hp; rw [List.length_take] at this; simp [hd] at this; omega)
    obtain ⟨rfl, -, rfl⟩ := Value.slice.inj e
    clear e
    have h6 : 6 ≤ zs.length := by have := congrArg List.length hp; rw [List.length_take] at this; simp [hd] at this; omega
    have hpos : (0 : Nat) < zs.length := by omega
    have hcl := cap_le hr
    have HB := Lib.hid hb1
    have HP := Lib.hid hp
    by_cases c6 : c = 6
    · have hl6 : zs.length = 6 := by omega
      have hcv := tail_conv (k := 6) (zs := zs) hc.out (by omega) (by omega) (by simp) off 0 (.inl rfl)
      have HS := Lib.hid (stamp_run (k := 6) hp (by simp) (fun z hz => by rw [List.getElem?_eq_none (by omega)] at hz; cases hz) (by omega))
      have hpa := fun w' hs => parse (ByteArray.mk (((zs.drop 6).take (6 - 6)).map toU).toArray) w' (by show (((zs.drop 6).take (6 - 6)).map toU).toArray.size ≤ _; simp) hs
      rw [hl6] at hcon ⊢
      subst c6
      generalize ByteArray.mk (((zs.drop 6).take (6 - 6)).map toU).toArray = str at hcv HS hpa
      generalize hw1 : w.alloc (.cells #[.int .u8 123, .int .u8 34, .int .u8 97, .int .u8 116, .int .u8 34, .int .u8 58] 5 (6, 7)) = w1 at hcon hc HB hcc hcv
      have hpb := hpa w1 (hs.below HB.out)
      clear hr hr1 hz hp hb1 hpa
      go_enter Tryd.func22, Tryd.ntmps22
      go_wp2_with (go_at_call 24; refine hcon.mono ?_; rintro e w' ⟨rfl, rfl⟩; refine Hid.out ?_)
      refine Lib.hid ?_
      go_wp2
      go_loop [3] (fun i => i = .int .i64 6) (fun _ => 0)
      case atStart => rfl
      case round =>
        subst hrel
        go_wp2_with (go_at_call 25; refine hpb.mono ?_; rintro e w2 ⟨x, er, rfl, HO, hb2⟩; refine Hid.out ?_)
        refine Lib.hid ?_
        rcases HO.out with ⟨rfl, hx⟩ | ⟨t, pv, rfl, hx⟩
        · have HX := Lib.hid (HS.out.symm.trans hx)
          clear hx HO HS
          go_wp2
          go_quiet (fail)
          go_wp2
          go_ret3
          exact ⟨x, _, true, rfl, .inl ⟨rfl, HX.out⟩, below_drewN (HB.out.trans (hb2.mono HB.out.size)) nq⟩
        · have HX := Lib.hid (HS.out.symm.trans hx)
          clear hx HO HS
          go_wp2
          go_quiet (fail)
          go_wp2
          go_ret3
          exact ⟨x, _, false, rfl, .inr ⟨rfl, HX.out⟩, below_drewN (HB.out.trans (hb2.mono HB.out.size)) nq⟩
    generalize hw1 : w.alloc (.cells #[.int .u8 123, .int .u8 34, .int .u8 97, .int .u8 116, .int .u8 34, .int .u8 58] 5 (6, 7)) = w1 at hcon hc HB hcc
    clear hr hr1 hz hp hb1
    go_enter Tryd.func22, Tryd.ntmps22
    go_wp2_with (go_at_call 24; refine hcon.mono ?_; rintro e w' ⟨rfl, rfl⟩; refine Hid.out ?_)
    refine Lib.hid ?_
    go_wp2
    go_loop [3] (fun i => ∃ k : Nat, k ≤ zs.length ∧ 6 ≤ k ∧ i = .int .i64 k ∧ Hid (∀ z ∈ (zs.drop 6).take (k - 6), isR z = true)) (fun i => zs.length - (intOf i).toNat)
    case atStart => exact ⟨6, by omega, by omega, rfl, Lib.hid (by simp)⟩
    case round =>
      obtain ⟨k, hk, hk6, rfl, HR⟩ := hrel
      by_cases hlt : k < zs.length
      · obtain ⟨z, hz⟩ := get_some hlt
        have g := hc.out k z hz
        have HZ := Lib.hid hz
        clear hz
        by_cases z45 : z = 45
        · subst z45
          go_wp2
          go_round
          case rel => exact ⟨k + 1, by omega, by omega, by go_num, Lib.hid (run_more HR.out HZ.out hk6 (by decide))⟩
          case measure => simp [intOf]; omega
        · by_cases z1 : 48 ≤ z
          · by_cases z2 : z ≤ 57
            · go_wp2
              go_round
              case rel => exact ⟨k + 1, by omega, by omega, by go_num, Lib.hid (run_more HR.out HZ.out hk6 (by simp [isR, isD, z1, z2]))⟩
              case measure => simp [intOf]; omega
            · have hcv := tail_conv hc.out hk6 hk HR.out (off + 6) (c - 6) (.inr rfl)
              have HS := Lib.hid (stamp_run HP.out HR.out (fun z' hz' => by rw [HZ.out] at hz'; cases hz'; simp [isR, isD, z45, z2]) hk6)
              generalize hstr : ByteArray.mk (((zs.drop 6).take (k - 6)).map toU).toArray = str at hcv HS
              have hsz : str.size ≤ 1048576 := by rw [← hstr]; show (((zs.drop 6).take (k - 6)).map toU).toArray.size ≤ _; simp; omega
              have hpa := parse str w' hsz (hs.below HB.out)
              clear hstr HR
              go_wp2_with (go_at_call 25; refine hpa.mono ?_; rintro e w2 ⟨x, er, rfl, HO, hb2⟩; refine Hid.out ?_)
              refine Lib.hid ?_
              rcases HO.out with ⟨rfl, hx⟩ | ⟨t, pv, rfl, hx⟩
              · have HX := Lib.hid (HS.out.symm.trans hx)
                clear hx HO HS
                go_wp2
                go_quiet (fail)
                go_wp2
                go_ret3
                exact ⟨x, _, true, rfl, .inl ⟨rfl, HX.out⟩, below_drewN (HB.out.trans (hb2.mono HB.out.size)) nq⟩
              · have HX := Lib.hid (HS.out.symm.trans hx)
                clear hx HO HS
                go_wp2
                go_quiet (fail)
                go_wp2
                go_ret3
                exact ⟨x, _, false, rfl, .inr ⟨rfl, HX.out⟩, below_drewN (HB.out.trans (hb2.mono HB.out.size)) nq⟩
          · have hcv := tail_conv hc.out hk6 hk HR.out (off + 6) (c - 6) (.inr rfl)
            have HS := Lib.hid (stamp_run HP.out HR.out (fun z' hz' => by rw [HZ.out] at hz'; cases hz'; simp [isR, isD, z45, z1]) hk6)
            generalize hstr : ByteArray.mk (((zs.drop 6).take (k - 6)).map toU).toArray = str at hcv HS
            have hsz : str.size ≤ 1048576 := by rw [← hstr]; show (((zs.drop 6).take (k - 6)).map toU).toArray.size ≤ _; simp; omega
            have hpa := parse str w' hsz (hs.below HB.out)
            clear hstr HR
            go_wp2_with (go_at_call 25; refine hpa.mono ?_; rintro e w2 ⟨x, er, rfl, HO, hb2⟩; refine Hid.out ?_)
            refine Lib.hid ?_
            rcases HO.out with ⟨rfl, hx⟩ | ⟨t, pv, rfl, hx⟩
            · have HX := Lib.hid (HS.out.symm.trans hx)
              clear hx HO HS
              go_wp2
              go_quiet (fail)
              go_wp2
              go_ret3
              exact ⟨x, _, true, rfl, .inl ⟨rfl, HX.out⟩, below_drewN (HB.out.trans (hb2.mono HB.out.size)) nq⟩
            · have HX := Lib.hid (HS.out.symm.trans hx)
              clear hx HO HS
              go_wp2
              go_quiet (fail)
              go_wp2
              go_ret3
              exact ⟨x, _, false, rfl, .inr ⟨rfl, HX.out⟩, below_drewN (HB.out.trans (hb2.mono HB.out.size)) nq⟩
      · have hcv := tail_conv hc.out hk6 hk HR.out (off + 6) (c - 6) (.inr rfl)
        have HS := Lib.hid (stamp_run HP.out HR.out (fun z' hz' => by rw [List.getElem?_eq_none (by omega)] at hz'; cases hz') hk6)
        generalize hstr : ByteArray.mk (((zs.drop 6).take (k - 6)).map toU).toArray = str at hcv HS
        have hsz : str.size ≤ 1048576 := by rw [← hstr]; show (((zs.drop 6).take (k - 6)).map toU).toArray.size ≤ _; simp; omega
        have hpa := parse str w' hsz (hs.below HB.out)
        clear hstr HR
        go_wp2_with (go_at_call 25; refine hpa.mono ?_; rintro e w2 ⟨x, er, rfl, HO, hb2⟩; refine Hid.out ?_)
        refine Lib.hid ?_
        rcases HO.out with ⟨rfl, hx⟩ | ⟨t, pv, rfl, hx⟩
        · have HX := Lib.hid (HS.out.symm.trans hx)
          clear hx HO HS
          go_wp2
          go_quiet (fail)
          go_wp2
          go_ret3
          exact ⟨x, _, true, rfl, .inl ⟨rfl, HX.out⟩, below_drewN (HB.out.trans (hb2.mono HB.out.size)) nq⟩
        · have HX := Lib.hid (HS.out.symm.trans hx)
          clear hx HO HS
          go_wp2
          go_quiet (fail)
          go_wp2
          go_ret3
          exact ⟨x, _, false, rfl, .inr ⟨rfl, HX.out⟩, below_drewN (HB.out.trans (hb2.mono HB.out.size)) nq⟩
  · have hno : Hid (stampOf zs = none) := Lib.hid (by simp [stampOf, hp])
    simp only [hp, decide_false] at hcon
    generalize hw1 : w.alloc (.cells #[.int .u8 123, .int .u8 34, .int .u8 97, .int .u8 116, .int .u8 34, .int .u8 58] 5 (6, 7)) = w1 at hcon hr1 hb1 hcc
    have HB := Lib.hid hb1
    clear hr hr1 hz hp hb1
    go_enter Tryd.func22, Tryd.ntmps22
    go_wp2_with (go_at_call 24; refine hcon.mono ?_; rintro e w' ⟨rfl, rfl⟩; refine Hid.out ?_)
    refine Lib.hid ?_
    go_wp2
    go_ret3
    exact ⟨0, 0, false, rfl, .inr ⟨rfl, hno.out⟩, HB.out⟩
end Go.Proofs.Qxb6605845aDoor.RecWalk
