/-
  The walks of noteKeys and of the small functions around it.
-/
import Derived.Test.Qxb6605845aDoorHeapUp
import Derived.Test.Qxb6605845aDoorRecWalk
namespace Go.Proofs.Qxb6605845aDoor.Note
open Go.RowKit Mem Small Heap HeapWalk Stamp RecWalk

/-- A write: its table, its key, its value. -/
abbrev WR := ByteArray × ByteArray × BS
/-- The table of the keys. -/
def kt : List UInt8 := [0, 105, 100, 101, 109, 112, 111, 116, 101, 110, 99, 121, 95, 107, 101, 121]
/-- What one write notes. -/
def note (x : WR) : Option KS := if x.1.toList = kt then (match x.2.2.1.1 with | none => none | some _ => (stampOf x.2.2.2).map fun v => (v, x.2.1)) else none
def noted (ws : List WR) : List KS := ws.filterMap note

theorem note_other {tb ky : ByteArray} {v : BS} (h : tb.toList ≠ kt) : note (tb, ky, v) = none := by simp [note, h]
theorem note_nil {tb ky : ByteArray} {l c : Nat} {zs : List Int} : note (tb, ky, (none, l, c), zs) = none := by simp [note]
theorem note_some {tb ky : ByteArray} {a : Addr} {l c : Nat} {zs : List Int} (h : tb.toList = kt) : note (tb, ky, (some a, l, c), zs) = (stampOf zs).map fun v => (v, ky) := by simp [note, h]
theorem noted_skip {ws : List WR} {k : Nat} {x : WR} (hx : ws[k]? = some x) (hn : note x = none) : noted (ws.take (k + 1)) = noted (ws.take k) := by
  rw [List.take_add_one, hx, noted, List.filterMap_append]
  simp [hn, noted]
theorem noted_more {ws : List WR} {k : Nat} {x : WR} {y : KS} (hx : ws[k]? = some x) (hn : note x = some y) : noted (ws.take (k + 1)) = noted (ws.take k) ++ [y] := by
  rw [List.take_add_one, hx, noted, List.filterMap_append]
  simp [hn, noted]
theorem noted_le (ws : List WR) (k : Nat) : (noted (ws.take k)).length ≤ k := by
  have := List.length_filterMap_le note (ws.take k)
  rw [List.length_take] at this
  unfold noted
  omega

/-- The writes lie in block gw, three cells each; each value's bytes can be read. -/
structure WRow (w : World) (b : Nat) (ws : List WR) : Prop where
  cell : ∀ i x, ws[i]? = some x → w.cell? ⟨b, i * 3, none⟩ = some (.string x.1) ∧ w.cell? ⟨b, i * 3 + 1, none⟩ = some (.string x.2.1) ∧ w.cell? ⟨b, i * 3 + 2, none⟩ = some (encB x.2.2)
  rd : ∀ x ∈ ws, Rd (Value.int .u8) w (encB x.2.2) x.2.2.2
  len : ∀ x ∈ ws, x.2.2.2.length ≤ 1048576
  byte : ∀ x ∈ ws, ∀ z ∈ x.2.2.2, 0 ≤ z ∧ z ≤ 255
theorem WRow.below {w w' : World} {b : Nat} {ws : List WR} (h : WRow w b ws) (hb : Below w.heap.size w w') : WRow w' b ws :=
  ⟨fun i x hx => by
    obtain ⟨h1, h2, h3⟩ := h.cell i x hx
    exact ⟨by rw [hb.cell (p := ⟨b, i * 3, none⟩) (cell_lt h1)]; exact h1, by rw [hb.cell (p := ⟨b, i * 3 + 1, none⟩) (cell_lt h2)]; exact h2, by rw [hb.cell (p := ⟨b, i * 3 + 2, none⟩) (cell_lt h3)]; exact h3⟩,
  fun x hx => (h.rd x hx).below hb, h.len, h.byte⟩

/-- What noteKeys leaves. -/
def PostN (w : World) (g : Nat) (ws : List WR) (e : Ending) (w' : World) : Prop := e = .returned (.tuple #[]) ∧ ∃ h', HAt w' g h' ∧ h'.Perm (noted ws) ∧ IsHeap h' ∧ Below g w w'

set_option maxRecDepth 100000 in
set_option maxHeartbeats 1000000 in
theorem noteKeys (g b n c : Nat) (ws : List WR) (W w : World) (hg : W.heap.size = g) (hW : Below g W w) (hh : HAt w g []) (hr : WRow W b ws) (hs : Sent W) (hn : ws.length = n) (hn1 : n ≤ 65536) :
    Calls Tryd.prog 20 #[.pointer (some ⟨g, 0, none⟩), .slice (some ⟨b, 0, none⟩) n c] w (PostN w g ws) := by
  have HH := Lib.hid hh
  have HR := Lib.hid hr
  have HS := Lib.hid hs
  have HW := Lib.hid hW
  have HGs := Lib.hid hg
  have heq := fun a n c n' c' w => Lib.run_eql_slice_nil (P := Tryd.prog) w 32 5 a n c n' c' Tryd.underlying32
  clear hh hr hs hW hg
  go_enter Tryd.func20, Tryd.ntmps20
  go_wp2
  go_loopw [11] (fun s wr => ∃ (k : Nat) (h' : List KS), s = .int .i64 k ∧ k ≤ n ∧ Hid (HAt wr g h') ∧ Hid (h'.Perm (noted (ws.take k))) ∧ Hid (IsHeap h') ∧ Hid (Below g w wr)) (fun s _ => n - (intOf s).toNat)
  case atStart => exact ⟨0, [], rfl, by omega, HH, Lib.hid (by simp [noted]), Lib.hid (fun k _ h => by simp at h), Lib.hid (Below.refl _ _)⟩
  case round =>
    obtain ⟨k, h', rfl, hk, HA, HP, HI, HB⟩ := hrel
    clear HH
    by_cases hlt : k < n
    · obtain ⟨⟨tb, ky, ⟨va, vl, vc⟩, zs⟩, hx⟩ := get_some (xs := ws) (k := k) (by omega)
      have HWr : Hid (WRow wr b ws) := (HR.out.below (by rw [HGs.out]; exact HW.out.trans HB.out))
      obtain ⟨g0, g1, g2⟩ := HWr.out.cell k _ hx
      have kn : (k : Int) < (n : Int) := by omega
      have HX := Lib.hid hx
      clear hx
      unfold encB at g2
      simp only at g0 g1 g2
      have HA1 : Hid (HAt (wr.alloc (.cells #[.string tb, .string ky, .slice va vl vc] 34)) g h') := HA.out.below ((Below.refl _ _).alloc (Nat.le_refl _) _)
      have HB1 : Hid (Below g w (wr.alloc (.cells #[.string tb, .string ky, .slice va vl vc] 34))) := HB.out.alloc (Nat.le_of_lt HA.out.lt) _
      by_cases ht : tb.toList = [0, 105, 100, 101, 109, 112, 111, 116, 101, 110, 99, 121, 95, 107, 101, 121]
      · cases va with
        | none =>
          go_wp2
          go_roundw
          case rel => exact ⟨k + 1, h', by go_num, by omega, HA1, Lib.hid (by rw [noted_skip HX.out note_nil]; exact HP.out), HI, HB1⟩
          case measure => simp [intOf]; omega
        | some va =>
          have HNt := Lib.hid (note_some (ky := ky) (a := va) (l := vl) (c := vc) (zs := zs) ht)
          have hrec := record (.slice (some va) vl vc) zs (wr.alloc (.cells #[.string tb, .string ky, .slice (some va) vl vc] 34)) (((HWr.out.rd _ (List.mem_of_getElem? HX.out)).below ((Below.refl _ _).alloc (Nat.le_refl _) _))) (HWr.out.len _ (List.mem_of_getElem? HX.out)) (HWr.out.byte _ (List.mem_of_getElem? HX.out)) ((HS.out.below (by rw [HGs.out]; exact HW.out.trans HB1.out)))
          have cky := alloc_cell wr #[.string tb, .string ky, .slice (some va) vl vc] 34 (0, 0) 1 _ rfl
          have hsz : wr.heap.size < (wr.alloc (.cells #[.string tb, .string ky, .slice (some va) vl vc] 34)).heap.size := by show _ < (wr.heap.push _).size; simp
          go_wp2_with (go_at_call 22; refine hrec.mono ?_; rintro e w2 ⟨x, m, bb, rfl, hor, hb2⟩; refine Hid.out ?_)
          refine Lib.hid ?_
          have ck2 : w2.cell? ⟨wr.heap.size, 1, none⟩ = some (.string ky) := by rw [hb2.cell (p := ⟨wr.heap.size, 1, none⟩) hsz]; exact cky
          have HA2 := Lib.hid (HA1.out.below hb2)
          have HB2 := Lib.hid (HB1.out.trans (hb2.mono (Nat.le_of_lt HA1.out.lt)))
          clear hrec cky
          rcases hor with ⟨rfl, hst⟩ | ⟨rfl, hst⟩
          · have HNx : Hid (note (tb, ky, (some va, vl, vc), zs) = some (x, ky)) := HNt.out.trans (by rw [hst]; rfl)
            have hlen : h'.length < 1048576 := by have := HP.out.length_eq; have := noted_le ws k; omega
            have hpu := heapPush g x ky h' w2.drew HA2.out HI.out hlen
            clear hst
            go_wp2
            go_region_with (go_at_call 23; refine hpu.mono ?_; rintro e w3 ⟨rfl, h3, a1, a2, a3, a4⟩)
            all_goals
              go_wp2
              go_roundw
              case rel => exact ⟨k + 1, h3, by go_num, by omega, Lib.hid a1, Lib.hid (by rw [noted_more HX.out HNx.out]; exact a2.trans (HP.out.append_right _)), Lib.hid a3, Lib.hid (HB2.out.drew.trans a4)⟩
              case measure => simp [intOf]; omega
          · have HNx : Hid (note (tb, ky, (some va, vl, vc), zs) = none) := HNt.out.trans (by rw [hst]; rfl)
            clear hst
            go_wp2
            go_roundw
            case rel => exact ⟨k + 1, h', by go_num, by omega, HA2, Lib.hid (by rw [noted_skip HX.out HNx.out]; exact HP.out), HI, HB2⟩
            case measure => simp [intOf]; omega
      · go_wp2
        go_roundw
        case rel => exact ⟨k + 1, h', by go_num, by omega, HA1, Lib.hid (by rw [noted_skip HX.out (note_other ht)]; exact HP.out), HI, HB1⟩
        case measure => simp [intOf]; omega
    · go_wp2
      go_end0
      exact ⟨rfl, h', HA.out, by have := HP.out; rwa [List.take_of_length_le (by omega)] at this, HI.out, HB.out⟩

theorem zzNoteKeys (g b n c : Nat) (ws : List WR) (W w : World) (hg : W.heap.size = g) (hW : Below g W w) (hh : HAt w g []) (hr : WRow W b ws) (hs : Sent W) (hn : ws.length = n) (hn1 : n ≤ 65536) :
    Calls Tryd.prog 13 #[.pointer (some ⟨g, 0, none⟩), .slice (some ⟨b, 0, none⟩) n c] w (PostN w g ws) := by
  have h1 := noteKeys g b n c ws W w hg hW hh hr hs hn hn1
  go_enter Tryd.func13, Tryd.ntmps13
  go_wp2_with (go_at_call 20; refine h1.mono ?_; rintro e w2 ⟨rfl, h2⟩; refine Hid.out ?_)
  refine Lib.hid ?_
  go_wp2
  go_end0
  exact ⟨rfl, h2⟩

set_option maxRecDepth 100000 in
theorem newEngine (w : World) : Calls Tryd.prog 12 #[] w fun e w' => e = .returned (.pointer (some ⟨w.heap.size, 0, none⟩)) ∧ HAt w' w.heap.size [] ∧ Below w.heap.size w w' := by
  go_enter Tryd.func12, Tryd.ntmps12
  go_wp2
  go_ret
  exact ⟨rfl, ⟨_, .slice none 0 0, own_new w _ 75, rfl, World.ownsRow_nil _ _ _ _⟩, (Below.refl _ _).alloc (Nat.le_refl _) _⟩

set_option maxRecDepth 100000 in
theorem keysLen (g : Nat) (h : List KS) (w : World) (hh : HAt w g h) : Calls Tryd.prog 14 #[.pointer (some ⟨g, 0, none⟩)] w fun e w' => e = .returned (.int .i64 h.length) ∧ w = w' := by
  obtain ⟨es, v, ho, he, hr⟩ := hh
  have c20 := ho.cell he
  obtain ⟨a, c, rfl⟩ := row_form hr
  clear ho he hr
  go_enter Tryd.func14, Tryd.ntmps14
  go_wp2
  go_ret
  exact ⟨rfl, rfl⟩

set_option maxRecDepth 100000 in
theorem keyAt (g i : Nat) (h : List KS) (x : KS) (w : World) (hh : HAt w g h) (hx : h[i]? = some x) : Calls Tryd.prog 15 #[.pointer (some ⟨g, 0, none⟩), .int .i64 i] w fun e w' => e = .returned (.tuple #[.int .i64 x.1, .string x.2]) ∧ ∃ q, w' = w.drewN q := by
  have hl : i < h.length := (List.getElem?_eq_some_iff.1 hx).1
  have hl' : (i : Int) < (h.length : Int) := by omega
  obtain ⟨r, cap, c20, HC, -⟩ := hh.at (by omega)
  obtain ⟨c0, c1⟩ := HC.out i x hx
  clear hh hx HC
  go_enter Tryd.func15, Tryd.ntmps15
  go_wp2
  go_quiet (fail)
  go_wp2
  go_ret2
  exact ⟨rfl, _, rfl⟩
end Go.Proofs.Qxb6605845aDoor.Note
