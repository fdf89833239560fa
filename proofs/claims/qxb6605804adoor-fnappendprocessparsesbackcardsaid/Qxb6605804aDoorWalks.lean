/-
  The walks of the small functions on the roads of the two laws on appendProcess.
-/
import Derived.Test.Qxb6605804aDoorRows
import Derived.Test.Qxb6605804aDoorShelf
import Derived.WalkKit
import Derived.WalkSpells
import Derived.WalkLawsBesides
import Derived.Laws.CopyOwn
import Derived.Deep.OwnRows
import Derived.Lib.AppendStr
import Derived.Lib.AppendIntMem
import Derived.Lib.ItoaLen
import Derived.Lib.Slices
import Derived.Lib.Hide
import Derived.OwnWalk
import Derived.BigCall
import Derived.Deep.QuietTactic
import Derived.BigQuiet
import Derived.OpenShut
namespace Go.Proofs.Qxb6605804aDoor.BytesWalks
open Go.RowKit Go.Shelf

/-- Bytes as cells. -/
def ib (zs : List Int) : List Value := zs.map fun z => Value.int .u8 z
theorem ib_length (zs : List Int) : (ib zs).length = zs.length := by simp [ib]

/-- The value v, read in w, is a slice of these bytes. -/
def Rd (w : World) (v : Value) (zs : List Int) : Prop :=
  (v = .slice none 0 0 ∧ zs = []) ∨
  ∃ x cap, v = .slice (some x) zs.length cap ∧ ∀ i, i < zs.length → w.cell? (x.add i) = some (.int .u8 (zs.getD i 0))

theorem cell_lt {w : World} {a : Addr} {v : Value} (h : w.cell? a = some v) : a.block < w.heap.size := by
  rcases Nat.lt_or_ge a.block w.heap.size with h1 | h1
  · exact h1
  · simp [World.cell?, Array.getElem?_eq_none h1] at h

theorem Rd.below {w w' : World} {v : Value} {zs : List Int} (h : Rd w v zs) (hb : Below w.heap.size w w') : Rd w' v zs := by
  rcases h with h | ⟨x, cap, hv, hc⟩
  · exact .inl h
  · refine .inr ⟨x, cap, hv, fun i hi => ?_⟩
    rw [← hc i hi]
    exact hb.cell (p := x.add i) (cell_lt (hc i hi))
theorem Rd.drewN {w : World} {v : Value} {zs : List Int} (h : Rd w v zs) (n : Nat) : Rd (w.drewN n) v zs := h

theorem rd_of_owns {w : World} {B : Nat} {v : Value} {zs : List Int} (h : w.ownsRow B 5 1 v zs.length (ib zs)) : Rd w v zs := by
  rcases h.2 with ⟨rfl, hn⟩ | ⟨g, cap, cur, rfl, -⟩
  · exact .inl ⟨rfl, List.eq_nil_of_length_eq_zero hn⟩
  · exact .inr ⟨⟨g, 0, none⟩, cap, rfl, fun i hi => h.cells (g := g) rfl i _ (by simp [ib, List.getD, hi])⟩

theorem infoByte : (Tryd.prog.info? 5).map (fun i => (i.zero, i.size, i.bytes)) = some (some (.int .u8 0), 1, 1) := by kernel_rfl

theorem bytes3 (a : Option Addr) (n c : Nat) (p : Int) (w : World) (hn : n ≤ 9223372036854775807) :
    Calls Tryd.prog 5 #[.slice a n c, .int .i64 p] w fun e w' => e = .returned (.bool (decide (n ≤ 1048576))) ∧ w = w' := by
  by_cases h : n ≤ 1048576
  · go_enter Tryd.func5, Tryd.ntmps5
    go_wp2
    go_ret
    exact ⟨by simp [h], rfl⟩
  · go_enter Tryd.func5, Tryd.ntmps5
    go_wp2
    go_ret
    exact ⟨by simp [h], rfl⟩

theorem bytes4 (a : Option Addr) (n c : Nat) (p q : Int) (w : World) (hn : n ≤ 9223372036854775807) :
    Calls Tryd.prog 9 #[.slice a n c, .int .i64 p, .int .i64 q] w fun e w' => e = .returned (.bool (decide (n ≤ 1048576))) ∧ w = w' := by
  by_cases h : n ≤ 1048576
  · go_enter Tryd.func9, Tryd.ntmps9
    go_wp2
    go_ret
    exact ⟨by simp [h], rfl⟩
  · go_enter Tryd.func9, Tryd.ntmps9
    go_wp2
    go_ret
    exact ⟨by simp [h], rfl⟩

set_option maxHeartbeats 400000 in
theorem clone_any (v : Value) (zs : List Int) (w : World) (hr : Rd w v zs) (hn : zs.length ≤ 1048576) :
    Calls Tryd.prog 6 #[v] w fun e w' => ∃ v', e = .returned v' ∧ w'.ownsRow w.heap.size 5 1 v' zs.length (ib zs) ∧ Below w.heap.size w w' := by
  have heq := fun a n c n' c' w => Lib.run_eql_slice_nil (P := Tryd.prog) w 22 5 a n c n' c' Tryd.underlying22
  rcases hr with ⟨rfl, rfl⟩ | ⟨x, cap, rfl, hc⟩
  · go_enter Tryd.func6, Tryd.ntmps6
    go_wp2
    go_ret
    exact ⟨_, rfl, World.ownsRow_nil _ _ _ _, Below.refl _ _⟩
  · have hmk := fun w => run_make_row' (P := Tryd.prog) 22 5 (.int .u8 0) 1 Tryd.underlying22 infoByte rfl .i64 .i64 zs.length (by omega) (by omega) w
    have hg : (w.alloc (.cells (madeCells #[Value.int .u8 0] zs.length) 5)).heap[w.heap.size]? = some (.cells (madeCells #[Value.int .u8 0] zs.length) 5 (0, 0)) := by
      show (w.heap.push _)[w.heap.size]? = _
      simp
    have hsrc : ∀ j u, (ib zs)[j]? = some u → (w.alloc (.cells (madeCells #[Value.int .u8 0] zs.length) 5)).cell? (x.add j) = some u := by
      intro j u hu
      obtain ⟨z, hz, rfl⟩ : ∃ z, zs[j]? = some z ∧ Value.int .u8 z = u := by simpa [ib] using hu
      have hj : j < zs.length := by
        rcases Nat.lt_or_ge j zs.length with h | h
        · exact h
        · rw [List.getElem?_eq_none h] at hz; cases hz
      have h1 := hc j hj
      rw [List.getD, hz] at h1
      rw [((Below.refl w.heap.size w).alloc (Nat.le_refl _) _).cell (p := x.add j) (cell_lt (hc j hj))]
      exact h1
    have hcp := run_copy_row (P := Tryd.prog) _ 22 22 3 5 w.heap.size 0 zs.length zs.length x zs.length cap _ 5 (ib zs) Tryd.underlying22 (by kernel_rfl) hg (by simp [ib]) hsrc (by simp [ib, size_madeCells]) (by intro u hu; obtain ⟨z, -, rfl⟩ := List.mem_map.1 hu; rfl)
    have hrow : ((madeCells #[Value.int .u8 0] zs.length).toList.take 0 ++ ib zs ++ (madeCells #[Value.int .u8 0] zs.length).toList.drop (0 + (ib zs).length)) = ib zs := by
      simp [ib, size_madeCells]
    rw [hrow, ib_length] at hcp
    clear hrow hsrc hc
    go_enter Tryd.func6, Tryd.ntmps6
    go_wp2
    go_ret
    refine ⟨_, rfl, ⟨by simp [ib], .inr ⟨w.heap.size, zs.length, (ib zs).toArray, rfl, Nat.le_refl _, ?_, Nat.le_refl _, by unfold maxLen; omega, by simp [ib], by rw [Nat.mul_one]; exact List.take_of_length_le (by simp [ib])⟩⟩, below_setRow ((Below.refl _ _).alloc (Nat.le_refl _) _) (Nat.le_refl _) _⟩
    exact setRow_heap _ _ _ _ _ _ hg

/-- What appendProcess lays behind the bytes that it is handed. -/
def name (p : Int) : List Int := 34 :: 112 :: ((Lib.itoa p).map fun b => (b.toNat : Int)) ++ [34]
theorem name_length (p : Int) : (name p).length = (Lib.itoa p).length + 3 := by simp [name]

set_option maxHeartbeats 400000 in
theorem append_any (B : Nat) (p : Int) (h0 : -9223372036854775808 ≤ p) (h1 : p ≤ 9223372036854775807) (v : Value) (zs : List Int) (w : World) (hown : w.ownsRow B 5 1 v zs.length (ib zs)) (hB : B ≤ w.heap.size) (hn : zs.length ≤ 1048576)
    (htab : Lib.TabBelow Tryd.prog B w tabName .u64 Lib.pow10Tab) :
    Calls Tryd.prog 11 #[v, .int .i64 p] w fun e w' => ∃ v', e = .returned v' ∧ w'.ownsRow B 5 1 v' (zs ++ name p).length (ib (zs ++ name p)) ∧ Below B w w' := by
  obtain ⟨i0, hi, hz0, hz1, hz2⟩ := info_parts infoByte
  have la := Lib.itoa_length_le p h0 h1
  go_enter Tryd.func11, Tryd.ntmps11
  go_wp2_with (at_builtin; refine Lib.wpList_append_own_string _ rfl _ _ 22 9 rfl B 5 i0 Tryd.underlying22 Tryd.underlying9 hi hz0 hz1 hz2 v zs.length (ib zs) rfl hown _ rfl ?_ ?_ hB ?_)
  · show zs.length + 2 ≤ maxLen; unfold maxLen; omega
  · show zs.length + 2 ≤ _; omega
  intro v1 w1 hown1 hgrow _
  have hnx1 : Below B w w1 := (Below.refl B w).grown hgrow hB (fun k hk => (hown.lt k hk).1)
  have hB1 : B ≤ w1.heap.size := Nat.le_trans hB hnx1.size
  go_wp2_with (go_at_call 12; refine (Tryd.strconv_AppendInt_10 B _ p h0 h1 v1 _ w1 hown1 hB1 (by omega) (htab.on hnx1)).mono ?_; rintro e w2 ⟨v2, rfl, hown2, hnx2, -⟩; refine Hid.out ?_)
  refine Lib.hid ?_
  have hB2 : B ≤ w2.heap.size := Nat.le_trans hB1 hnx2.size
  go_wp2_with (at_builtin; refine wpList_append_own _ rfl _ _ 22 rfl B 5 i0 (.int .u8 0) 1 1 Tryd.underlying22 hi hz0 hz1 hz2 rfl (by decide) _ _ _ rfl (hown2.alloc _) ⟨w2.heap.size, 0, none⟩ 1 1 [Value.int .u8 34] rfl rfl (by intro j u' hj; match j, hj with | 0, hj => simp at hj; subst hj; simp [Addr.add]) (by intro u' hu'; simp at hu'; subst hu'; rfl) (by unfold maxLen; omega) (by omega) (by simp; omega) ?_)
  intro v3 w3 hown3 hgrow3 _
  have hnx3 : Below B w2 w3 := ((Below.refl B w2).alloc hB2 _).grown hgrow3 (by simp; omega) (fun k hk => (hown2.lt k hk).1)
  go_wp2
  go_ret
  have e1 : (zs ++ name p).length = zs.length + 2 + (Lib.itoa p).length + 1 := by rw [List.length_append, name_length]; omega
  have e2 : ib (zs ++ name p) = ib zs ++ (Lib.strCells ⟨#[34, 112]⟩ ++ (Lib.byteCells (Lib.itoa p) ++ [Value.int .u8 34])) := by
    simp [ib, name, Lib.byteCells, Lib.strCells]
  rw [e1, e2]
  exact ⟨v3, rfl, hown3, hnx1.trans (hnx2.trans hnx3)⟩

theorem zzappend_any (B : Nat) (p : Int) (h0 : -9223372036854775808 ≤ p) (h1 : p ≤ 9223372036854775807) (v : Value) (zs : List Int) (w : World) (hown : w.ownsRow B 5 1 v zs.length (ib zs)) (hB : B ≤ w.heap.size) (hn : zs.length ≤ 1048576)
    (htab : Lib.TabBelow Tryd.prog B w tabName .u64 Lib.pow10Tab) :
    Calls Tryd.prog 7 #[v, .int .i64 p] w fun e w' => ∃ v', e = .returned v' ∧ w'.ownsRow B 5 1 v' (zs ++ name p).length (ib (zs ++ name p)) ∧ Below B w w' := by
  go_enter Tryd.func7, Tryd.ntmps7
  go_wp2_with (go_at_call 11; refine (append_any B p h0 h1 v zs w hown hB hn htab).mono ?_; rintro e w2 ⟨v2, rfl, hown2, hnx2⟩)
  go_ret
  exact ⟨v2, rfl, hown2, hnx2⟩

/-- 'zs' begins with 'ps'. -/
def pre (zs ps : List Int) : Bool := ps.isPrefixOf zs
theorem pre_iff (zs ps : List Int) : pre zs ps = true ↔ ps.length ≤ zs.length ∧ ∀ i, i < ps.length → zs.getD i 0 = ps.getD i 0 := by
  unfold pre
  rw [List.isPrefixOf_iff_prefix]
  constructor
  · rintro ⟨r, rfl⟩
    refine ⟨by simp, fun i hi => ?_⟩
    simp [List.getD, List.getElem?_append_left hi]
  · rintro ⟨h1, h2⟩
    rw [List.prefix_iff_eq_take]
    apply List.ext_getElem (by simp; omega)
    intro i ha hb
    have := h2 i ha
    simp only [List.getD, List.getElem?_eq_getElem ha, List.getElem?_eq_getElem (show i < zs.length by omega), Option.getD_some] at this
    simp [this]

theorem Rd.form {w : World} {v : Value} {zs : List Int} (h : Rd w v zs) : ∃ a c, v = .slice a zs.length c := by
  rcases h with ⟨rfl, rfl⟩ | ⟨x, cx, rfl, _⟩
  · exact ⟨none, 0, rfl⟩
  · exact ⟨some x, cx, rfl⟩
theorem Rd.at {w : World} {v : Value} {zs : List Int} (h : Rd w v zs) (hp : 0 < zs.length) : ∃ b off c, v = .slice (some ⟨b, off, none⟩) zs.length c ∧ ∀ j, j < zs.length → w.cell? ⟨b, off + j, none⟩ = some (.int .u8 (zs.getD j 0)) := by
  rcases h with ⟨rfl, rfl⟩ | ⟨x, cx, rfl, hc⟩
  · simp at hp
  · obtain ⟨b, off, rfl, hc'⟩ := ints_at hc hp
    exact ⟨b, off, cx, rfl, hc'⟩

theorem ret_bool {a b : Bool} (h : a = b) : Ending.returned (.bool a) = .returned (.bool b) := by rw [h]
theorem pre_no (zs ps : List Int) (k : Nat) (hk : k < ps.length) (h : (zs[k]?.getD 0 != ps[k]) = true) : pre zs ps = false := by
  rw [Bool.eq_false_iff]
  intro hp
  have := ((pre_iff _ _).1 hp).2 k hk
  simp only [List.getD, List.getElem?_eq_getElem hk, Option.getD_some] at this
  simp [this] at h
theorem pre_go (zs ps : List Int) (k : Nat) (hk : k < ps.length) (h : (zs[k]?.getD 0 != ps[k]) = false) (hall : ∀ j, j < k → zs.getD j 0 = ps.getD j 0) (j : Nat) (hj : j < k + 1) : zs.getD j 0 = ps.getD j 0 := by
  by_cases e : j = k
  · subst e
    simp only [List.getD, List.getElem?_eq_getElem hk, Option.getD_some]
    simpa using h
  · exact hall j (by omega)

set_option maxHeartbeats 400000 in
theorem hasPrefix_any (v u : Value) (zs ps : List Int) (w : World) (hv : Rd w v zs) (hu : Rd w u ps) (hz : zs.length ≤ 2000000) (hp : ps.length ≤ 2000000) :
    Calls Tryd.prog 8 #[v, u] w fun e w' => e = .returned (.bool (pre zs ps)) ∧ ∃ n, w' = w.drewN n := by
  by_cases hlen : zs.length < ps.length
  · have he : pre zs ps = false := by
      rw [Bool.eq_false_iff]
      intro h
      have := (pre_iff _ _).1 h
      omega
    rw [he]
    obtain ⟨a, c, rfl⟩ := hv.form
    obtain ⟨a', c', rfl⟩ := hu.form
    go_enter Tryd.func8, Tryd.ntmps8
    go_wp2
    go_ret
    exact ⟨rfl, 0, rfl⟩
  · by_cases h0 : ps.length = 0
    · have he : pre zs ps = true := (pre_iff _ _).2 ⟨by omega, by omega⟩
      rw [he]
      obtain ⟨a, c, rfl⟩ := hv.form
      obtain ⟨a', c', rfl⟩ := hu.form
      rw [h0]
      go_enter Tryd.func8, Tryd.ntmps8
      go_wp2
      go_loop [5] (fun i => i = .int .i64 0) (fun _ => 0)
      case atStart => rfl
      case round =>
        subst hrel
        go_wp2
        go_ret
        exact ⟨rfl, 0, rfl⟩
    · obtain ⟨b, off, c, rfl, hc⟩ := hv.at (by omega)
      obtain ⟨b', off', c', rfl, hc'⟩ := hu.at (by omega)
      clear hv hu
      go_enter Tryd.func8, Tryd.ntmps8
      go_wp2
      go_loopw [5] (fun i wr => ∃ k n : Nat, k ≤ ps.length ∧ i = .int .i64 k ∧ wr = w.drewN n ∧ ∀ j, j < k → zs.getD j 0 = ps.getD j 0) (fun i _ => ps.length - (intOf i).toNat)
      case atStart => exact ⟨0, 0, by omega, rfl, rfl, by intro j hj; omega⟩
      case round =>
        obtain ⟨k, n, hk, rfl, rfl, hall⟩ := hrel
        by_cases hlt : k < ps.length
        · have g1 := hc k (by omega)
          have g2 := hc' k hlt
          go_wp2
          go_quiet (fail)
          go_wp2
          · have ht : (zs[k]?.getD 0 != ps[k]) = true := by assumption
            go_ret
            exact ⟨ret_bool (pre_no zs ps k hlt ht).symm, n + nq, by simp⟩
          · have ht : (zs[k]?.getD 0 != ps[k]) = false := by assumption
            go_roundw
            case rel => exact ⟨k + 1, _, by omega, by go_num, rfl, fun j hj => pre_go zs ps k hlt ht hall j hj⟩
            case measure => simp [intOf]; omega
        · have he : pre zs ps = true := (pre_iff _ _).2 ⟨by omega, fun i hi => hall i (by omega)⟩
          clear hall
          have HE := Lib.hid he
          clear he
          go_wp2
          go_ret
          exact ⟨ret_bool HE.out.symm, _, rfl⟩

/-- Two byte slices are the same. -/
def same (zs ps : List Int) : Bool := decide (zs = ps)
theorem same_eq (zs ps : List Int) (h : zs.length = ps.length) : pre zs ps = same zs ps := by
  rw [Bool.eq_iff_iff]
  unfold same pre
  rw [List.isPrefixOf_iff_prefix, decide_eq_true_iff]
  exact ⟨fun hh => (hh.eq_of_length h.symm).symm, fun hh => hh ▸ List.prefix_refl _⟩

theorem bytesEqual_any (v u : Value) (zs ps : List Int) (w : World) (hv : Rd w v zs) (hu : Rd w u ps) (hz : zs.length ≤ 2000000) (hp : ps.length ≤ 2000000) :
    Calls Tryd.prog 10 #[v, u] w fun e w' => e = .returned (.bool (same zs ps)) ∧ ∃ n, w' = w.drewN n := by
  have hpre := hasPrefix_any v u zs ps w hv hu hz hp
  obtain ⟨a, c, rfl⟩ := hv.form
  obtain ⟨a', c', rfl⟩ := hu.form
  by_cases hlen : zs.length = ps.length
  · rw [same_eq zs ps hlen] at hpre
    have ht : ((zs.length : Int) == (ps.length : Int)) = true := by simp [hlen]
    clear hlen
    go_enter Tryd.func10, Tryd.ntmps10
    go_wp2_with (go_at_call 8; refine hpre.mono ?_; rintro e w2 ⟨rfl, n, rfl⟩)
    go_ret
    exact ⟨rfl, n, rfl⟩
  · have he : same zs ps = false := by
      unfold same; rw [decide_eq_false_iff_not]; intro h; exact hlen (by rw [h])
    rw [he]
    have ht : ((zs.length : Int) == (ps.length : Int)) = false := by simp; omega
    go_enter Tryd.func10, Tryd.ntmps10
    go_wp2
    go_ret
    exact ⟨rfl, 0, rfl⟩
/-- clone, with the answer's shape written out. -/
theorem clone_form (v : Value) (zs : List Int) (w : World) (hr : Rd w v zs) (hn : zs.length ≤ 1048576) :
    Calls Tryd.prog 6 #[v] w fun e w' => ∃ a c, e = .returned (.slice a zs.length c) ∧ w'.ownsRow w.heap.size 5 1 (.slice a zs.length c) zs.length (ib zs) ∧ Below w.heap.size w w' := by
  refine (clone_any v zs w hr hn).mono ?_
  rintro e w' ⟨v', rfl, hown, hb⟩
  obtain ⟨a, c, rfl⟩ := (rd_of_owns hown).form
  exact ⟨a, c, rfl, hown, hb⟩
/-- ZZappendProcess, with the answer's shape written out, its bytes under a name. -/
theorem zzappend_form (B : Nat) (p : Int) (h0 : -9223372036854775808 ≤ p) (h1 : p ≤ 9223372036854775807) (v : Value) (zs : List Int) (w : World) (hown : w.ownsRow B 5 1 v zs.length (ib zs)) (hB : B ≤ w.heap.size) (hn : zs.length ≤ 1048576)
    (htab : Lib.TabBelow Tryd.prog B w tabName .u64 Lib.pow10Tab) :
    Calls Tryd.prog 7 #[v, .int .i64 p] w fun e w' => ∃ a c xs, e = .returned (.slice a xs.length c) ∧ Hid (xs = zs ++ name p) ∧ w'.ownsRow B 5 1 (.slice a xs.length c) xs.length (ib xs) ∧ Below B w w' := by
  refine (zzappend_any B p h0 h1 v zs w hown hB hn htab).mono ?_
  rintro e w' ⟨v', rfl, hown, hb⟩
  obtain ⟨a, c, rfl⟩ := (rd_of_owns hown).form
  exact ⟨a, c, zs ++ name p, rfl, rfl, hown, hb⟩
/-- The same, with the row's address and cells. -/
theorem zzappend_at (B : Nat) (p : Int) (h0 : -9223372036854775808 ≤ p) (h1 : p ≤ 9223372036854775807) (v : Value) (zs : List Int) (w : World) (hown : w.ownsRow B 5 1 v zs.length (ib zs)) (hB : B ≤ w.heap.size) (hn : zs.length ≤ 1048576)
    (htab : Lib.TabBelow Tryd.prog B w tabName .u64 Lib.pow10Tab) :
    Calls Tryd.prog 7 #[v, .int .i64 p] w fun e w' => ∃ g c xs, e = .returned (.slice (some ⟨g, 0, none⟩) xs.length c) ∧ Hid (xs = zs ++ name p) ∧ xs.length ≤ c ∧ c ≤ 9223372036854775807 ∧ (∀ j, j < xs.length → w'.cell? ⟨g, j, none⟩ = some (.int .u8 (xs.getD j 0))) ∧ Rd w' (.slice (some ⟨g, 0, none⟩) xs.length c) xs ∧ Below B w w' := by
  refine (zzappend_any B p h0 h1 v zs w hown hB hn htab).mono ?_
  rintro e w' ⟨v', rfl, hown, hb⟩
  have hrd := rd_of_owns hown
  rcases hown.2 with ⟨rfl, hl⟩ | ⟨g, c, cur, rfl, -, -, hle, hm, -⟩
  · exfalso; rw [List.length_append, name_length] at hl; omega
  · refine ⟨g, c, zs ++ name p, rfl, rfl, hle, hm, fun j hj => ?_, hrd, hb⟩
    have := hown.cells (g := g) rfl j (.int .u8 ((zs ++ name p).getD j 0)) (by rw [ib, List.getElem?_map, List.getD, List.getElem?_eq_getElem hj]; rfl)
    rwa [Lib.add_plain, Nat.zero_add] at this
end Go.Proofs.Qxb6605804aDoor.BytesWalks
