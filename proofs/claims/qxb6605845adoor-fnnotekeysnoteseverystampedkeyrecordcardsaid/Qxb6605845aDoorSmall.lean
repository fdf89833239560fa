/-
  The walks of the small functions that the laws on writeList call.
-/
import Derived.Test.Qxb6605845aDoorRows
import Derived.Test.Qxb6605845aDoorMem
import Derived.Lib.SliceRun
import Derived.Lib.Hide
import Derived.Deep.QuietTactic
import Derived.BigQuiet
namespace Go.Proofs.Qxb6605845aDoor.Small
open Go.RowKit Mem

theorem infoStr : (Tryd.prog.info? 9).map (fun i => (i.zero, i.size, i.bytes)) = some (some (.string ByteArray.empty), 1, 16) := by kernel_rfl
theorem infoByte : (Tryd.prog.info? 5).map (fun i => (i.zero, i.size, i.bytes)) = some (some (.int .u8 0), 1, 1) := by kernel_rfl
theorem infoSl : (Tryd.prog.info? 32).map (fun i => (i.zero, i.size, i.bytes)) = some (some (.slice none 0 0), 1, 24) := by kernel_rfl
theorem infoInt : (Tryd.prog.info? 3).map (fun i => (i.zero, i.size, i.bytes)) = some (some (.int .i64 0), 1, 8) := by kernel_rfl

theorem get_some {α : Type} {xs : List α} {k : Nat} (h : k < xs.length) : ∃ a, xs[k]? = some a := ⟨_, List.getElem?_eq_getElem h⟩

set_option maxHeartbeats 400000 in
theorem stringsBytes (v : Value) (ss : List ByteArray) (w : World) (hr : Rd Value.string w v ss) (hn : ss.length ≤ 65536) (hs : ∀ s ∈ ss, s.size ≤ 9223372036854775807) :
    Calls Tryd.prog 6 #[v] w fun e w' => ∃ r : Int, e = .returned (.int .i64 r) ∧ 0 ≤ r ∧ r ≤ 33554432 ∧ w = w' := by
  by_cases h0 : ss.length = 0
  · obtain ⟨a, c, rfl⟩ := hr.form
    rw [h0]
    go_enter Tryd.func6, Tryd.ntmps6
    go_wp2
    go_loop [3, 4] (fun n i => n = .int .i64 0 ∧ i = .int .i64 0) (fun _ _ => 0)
    case atStart => exact ⟨rfl, rfl⟩
    case round =>
      obtain ⟨rfl, rfl⟩ := hrel
      go_wp2
      go_ret
      exact ⟨0, rfl, by omega, by omega, rfl⟩
  · obtain ⟨b, off, c, rfl, hle, hc⟩ := hr.at (by omega)
    clear hr
    go_enter Tryd.func6, Tryd.ntmps6
    go_wp2
    go_loop [3, 4] (fun n i => ∃ (k : Nat) (r : Int), k ≤ ss.length ∧ i = .int .i64 k ∧ n = .int .i64 r ∧ 0 ≤ r ∧ r ≤ 33554432) (fun _ i => ss.length - (intOf i).toNat)
    case atStart => exact ⟨0, _, by omega, rfl, rfl, by omega, by omega⟩
    case round =>
      obtain ⟨k, r, hk, rfl, rfl, hr0, hr1⟩ := hrel
      by_cases hlt : k < ss.length
      · obtain ⟨s, hsk⟩ := get_some hlt
        have g := hc.out k s hsk
        have hsz := hs s (List.mem_of_getElem? hsk)
        clear hsk
        by_cases h1 : r ≤ 1048576
        · by_cases h2 : s.size ≤ 1048576
          · go_wp2
            go_round
            case rel => exact ⟨k + 1, _, by omega, by go_num, rfl, by omega, by omega⟩
            case measure => simp [intOf]; omega
          · go_wp2
            go_ret
            exact ⟨_, rfl, by omega, by omega, rfl⟩
        · go_wp2
          go_ret
          exact ⟨_, rfl, by omega, by omega, rfl⟩
      · go_wp2
        go_ret
        exact ⟨r, rfl, hr0, hr1, rfl⟩

set_option maxHeartbeats 400000 in
theorem bytesBytes (v : Value) (vs : List BS) (w : World) (hr : Rd encB w v vs) (hn : vs.length ≤ 65536) (hs : ∀ s ∈ vs, s.1.2.1 ≤ 9223372036854775807) :
    Calls Tryd.prog 7 #[v] w fun e w' => ∃ r : Int, e = .returned (.int .i64 r) ∧ 0 ≤ r ∧ r ≤ 33554432 ∧ w = w' := by
  by_cases h0 : vs.length = 0
  · obtain ⟨a, c, rfl⟩ := hr.form
    rw [h0]
    go_enter Tryd.func7, Tryd.ntmps7
    go_wp2
    go_loop [3, 4] (fun n i => n = .int .i64 0 ∧ i = .int .i64 0) (fun _ _ => 0)
    case atStart => exact ⟨rfl, rfl⟩
    case round =>
      obtain ⟨rfl, rfl⟩ := hrel
      go_wp2
      go_ret
      exact ⟨0, rfl, by omega, by omega, rfl⟩
  · obtain ⟨b, off, c, rfl, hle, hc⟩ := hr.at (by omega)
    clear hr
    go_enter Tryd.func7, Tryd.ntmps7
    go_wp2
    go_loop [3, 4] (fun n i => ∃ (k : Nat) (r : Int), k ≤ vs.length ∧ i = .int .i64 k ∧ n = .int .i64 r ∧ 0 ≤ r ∧ r ≤ 33554432) (fun _ i => vs.length - (intOf i).toNat)
    case atStart => exact ⟨0, _, by omega, rfl, rfl, by omega, by omega⟩
    case round =>
      obtain ⟨k, r, hk, rfl, rfl, hr0, hr1⟩ := hrel
      by_cases hlt : k < vs.length
      · obtain ⟨⟨⟨pa, pl, pc⟩, pb⟩, hsk⟩ := get_some hlt
        have g : w.cell? ⟨b, off + k, none⟩ = some (.slice pa pl pc) := hc.out k _ hsk
        have hsz : pl ≤ 9223372036854775807 := hs _ (List.mem_of_getElem? hsk)
        clear hsk
        by_cases h1 : r ≤ 1048576
        · by_cases h2 : pl ≤ 1048576
          · go_wp2
            go_round
            case rel => exact ⟨k + 1, _, by omega, by go_num, rfl, by omega, by omega⟩
            case measure => simp [intOf]; omega
          · go_wp2
            go_ret
            exact ⟨_, rfl, by omega, by omega, rfl⟩
        · go_wp2
          go_ret
          exact ⟨_, rfl, by omega, by omega, rfl⟩
      · go_wp2
        go_ret
        exact ⟨r, rfl, hr0, hr1, rfl⟩

/-- Two ints: the lesser. -/
theorem min2 (a b : Nat) (w : World) : Calls Tryd.prog 19 #[.int .i64 a, .int .i64 b] w fun e w' => e = .returned (.int .i64 (min a b : Nat)) ∧ w = w' := by
  by_cases h : b < a
  · rw [Nat.min_eq_right (by omega)]
    go_enter Tryd.func19, Tryd.ntmps19
    go_wp2
    go_ret
    exact ⟨rfl, rfl⟩
  · rw [Nat.min_eq_left (by omega)]
    go_enter Tryd.func19, Tryd.ntmps19
    go_wp2
    go_ret
    exact ⟨rfl, rfl⟩
theorem min3 (a b c n : Nat) (hn : min (min a b) c = n) (w : World) : Calls Tryd.prog 10 #[.int .i64 a, .int .i64 b, .int .i64 c] w fun e w' => e = .returned (.int .i64 n) ∧ w = w' := by
  subst hn
  have h1 := min2 a b w
  have h2 := min2 (min a b) c w
  obtain ⟨x, hx⟩ : ∃ x, x = min a b := ⟨_, rfl⟩
  rw [← hx] at h1 h2 ⊢
  clear hx
  obtain ⟨y, hy⟩ : ∃ y, y = min x c := ⟨_, rfl⟩
  rw [← hy] at h2 ⊢
  clear hy
  go_enter Tryd.func10, Tryd.ntmps10
  go_wp2_with (go_at_call 19; refine h1.mono ?_; rintro e w' ⟨rfl, rfl⟩; refine Hid.out ?_)
  refine Lib.hid ?_
  go_wp2_with (go_at_call 19; refine h2.mono ?_; rintro e w' ⟨rfl, rfl⟩)
  go_ret
  exact ⟨rfl, rfl⟩

set_option maxHeartbeats 400000 in
theorem cloneStrings (v : Value) (xs : List ByteArray) (w : World) (hr : Rd Value.string w v xs) (hn : xs.length ≤ 1048576) :
    Calls Tryd.prog 8 #[v] w fun e w' => ∃ a c, e = .returned (.slice a xs.length c) ∧ Rd Value.string w' (.slice a xs.length c) xs ∧ Below w.heap.size w w' ∧ (a = none ↔ v = .slice none 0 0) := by
  have heq := fun a n c n' c' w => Lib.run_eql_slice_nil (P := Tryd.prog) w 22 9 a n c n' c' Tryd.underlying22
  have hmk := fun w => run_make_row' (P := Tryd.prog) 22 9 (Value.string ByteArray.empty) 16 Tryd.underlying22 infoStr rfl .i64 .i64 xs.length (by omega) (by omega) w
  by_cases hnil : v = .slice none 0 0
  · subst hnil
    obtain ⟨a, c, hf⟩ := hr.form
    have hl : xs.length = 0 := by simp only [Value.slice.injEq] at hf; omega
    obtain rfl : xs = [] := List.eq_nil_of_length_eq_zero hl
    clear hmk
    go_enter Tryd.func8, Tryd.ntmps8
    go_wp2
    go_ret
    exact ⟨none, 0, rfl, .inl ⟨rfl, rfl⟩, Below.refl _ _, by simp⟩
  · by_cases h0 : xs.length = 0
    · obtain rfl : xs = [] := List.eq_nil_of_length_eq_zero h0
      rcases hr with ⟨rfl, -⟩ | ⟨x, cap, rfl, -⟩
      · exact absurd rfl hnil
      · clear hnil
        have hmk0 : ∀ w, (Instr.makeSlice 22 (.int .i64 0) (.int .i64 0)).run Tryd.prog w = .ok (.slice (some ⟨w.heap.size, 0, none⟩) 0 0) (w.alloc (.cells (madeCells #[(Value.string ByteArray.empty)] 0) 9)) := fun w => hmk w
        clear hmk
        go_enter Tryd.func8, Tryd.ntmps8
        go_wp2
        go_loop [4] (fun i => i = .int .i64 0) (fun _ => 0)
        case atStart => rfl
        case round =>
          subst hrel
          go_wp2
          go_ret
          exact ⟨_, 0, rfl, .inr ⟨_, 0, rfl, Nat.le_refl _, by simp⟩, (Below.refl _ _).alloc (Nat.le_refl _) _, by simp⟩
    · obtain ⟨b, off, c, rfl, hle, hc⟩ := hr.at (by omega)
      have hst := Fills.start (enc := Value.string) (w := w) (e := 9) (xs := xs) (madeCells #[(Value.string ByteArray.empty)] xs.length) (size_madeCells _ _)
      have HB : Hid (Below w.heap.size w (w.alloc (.cells (madeCells #[(Value.string ByteArray.empty)] xs.length) 9))) := (Below.refl _ _).alloc (Nat.le_refl _) _
      clear hnil
      go_enter Tryd.func8, Tryd.ntmps8
      go_wp2
      go_loopw [4] (fun i wr => ∃ k : Nat, k ≤ xs.length ∧ i = .int .i64 k ∧ Fills Value.string wr w.heap.size 9 xs k ∧ Hid (Below w.heap.size w wr)) (fun i _ => xs.length - (intOf i).toNat)
      case atStart => exact ⟨0, by omega, rfl, hst, HB⟩
      case round =>
        obtain ⟨k, hk, rfl, hfl, hbel⟩ := hrel
        by_cases hlt : k < xs.length
        · obtain ⟨s, hsk⟩ := get_some hlt
          have g := hc.out k s hsk
          have g1 : wr.cell? ⟨b, off + k, none⟩ = some (Value.string s) := by rw [hbel.out.cell (p := ⟨b, off + k, none⟩) (cell_lt g)]; exact g
          obtain ⟨u, g2⟩ := hfl.cell hlt
          have g3 := hfl.frozen k
          have HS := Lib.hid (hfl.step hsk)
          clear hsk g
          go_wp2
          go_roundw
          case rel => exact ⟨k + 1, by omega, by go_num, HS.out, hbel.out.setCell (Nat.le_refl _) _⟩
          case measure => simp [intOf]; omega
        · go_wp2
          go_ret
          exact ⟨_, _, rfl, rd_of_own (hfl.done (by omega)), hbel.out, by simp⟩

set_option maxHeartbeats 400000 in
theorem cloneBytes (v : Value) (xs : List Int) (w : World) (hr : Rd (Value.int .u8) w v xs) (hn : xs.length ≤ 1048576) :
    Calls Tryd.prog 18 #[v] w fun e w' => ∃ a c, e = .returned (.slice a xs.length c) ∧ Rd (Value.int .u8) w' (.slice a xs.length c) xs ∧ Below w.heap.size w w' ∧ (a = none ↔ v = .slice none 0 0) := by
  have heq := fun a n c n' c' w => Lib.run_eql_slice_nil (P := Tryd.prog) w 32 5 a n c n' c' Tryd.underlying32
  have hmk := fun w => run_make_row' (P := Tryd.prog) 32 5 (Value.int .u8 0) 1 Tryd.underlying32 infoByte rfl .i64 .i64 xs.length (by omega) (by omega) w
  by_cases hnil : v = .slice none 0 0
  · subst hnil
    obtain ⟨a, c, hf⟩ := hr.form
    have hl : xs.length = 0 := by simp only [Value.slice.injEq] at hf; omega
    obtain rfl : xs = [] := List.eq_nil_of_length_eq_zero hl
    clear hmk
    go_enter Tryd.func18, Tryd.ntmps18
    go_wp2
    go_ret
    exact ⟨none, 0, rfl, .inl ⟨rfl, rfl⟩, Below.refl _ _, by simp⟩
  · by_cases h0 : xs.length = 0
    · obtain rfl : xs = [] := List.eq_nil_of_length_eq_zero h0
      rcases hr with ⟨rfl, -⟩ | ⟨x, cap, rfl, -⟩
      · exact absurd rfl hnil
      · clear hnil
        have hmk0 : ∀ w, (Instr.makeSlice 32 (.int .i64 0) (.int .i64 0)).run Tryd.prog w = .ok (.slice (some ⟨w.heap.size, 0, none⟩) 0 0) (w.alloc (.cells (madeCells #[(Value.int .u8 0)] 0) 5)) := fun w => hmk w
        clear hmk
        go_enter Tryd.func18, Tryd.ntmps18
        go_wp2
        go_loop [4] (fun i => i = .int .i64 0) (fun _ => 0)
        case atStart => rfl
        case round =>
          subst hrel
          go_wp2
          go_ret
          exact ⟨_, 0, rfl, .inr ⟨_, 0, rfl, Nat.le_refl _, by simp⟩, (Below.refl _ _).alloc (Nat.le_refl _) _, by simp⟩
    · obtain ⟨b, off, c, rfl, hle, hc⟩ := hr.at (by omega)
      have hst := Fills.start (enc := (Value.int .u8)) (w := w) (e := 5) (xs := xs) (madeCells #[(Value.int .u8 0)] xs.length) (size_madeCells _ _)
      have HB : Hid (Below w.heap.size w (w.alloc (.cells (madeCells #[(Value.int .u8 0)] xs.length) 5))) := (Below.refl _ _).alloc (Nat.le_refl _) _
      clear hnil
      go_enter Tryd.func18, Tryd.ntmps18
      go_wp2
      go_loopw [4] (fun i wr => ∃ k : Nat, k ≤ xs.length ∧ i = .int .i64 k ∧ Fills (Value.int .u8) wr w.heap.size 5 xs k ∧ Hid (Below w.heap.size w wr)) (fun i _ => xs.length - (intOf i).toNat)
      case atStart => exact ⟨0, by omega, rfl, hst, HB⟩
      case round =>
        obtain ⟨k, hk, rfl, hfl, hbel⟩ := hrel
        by_cases hlt : k < xs.length
        · obtain ⟨s, hsk⟩ := get_some hlt
          have g := hc.out k s hsk
          have g1 : wr.cell? ⟨b, off + k, none⟩ = some ((Value.int .u8) s) := by rw [hbel.out.cell (p := ⟨b, off + k, none⟩) (cell_lt g)]; exact g
          obtain ⟨u, g2⟩ := hfl.cell hlt
          have g3 := hfl.frozen k
          have HS := Lib.hid (hfl.step hsk)
          clear hsk g
          go_wp2
          go_roundw
          case rel => exact ⟨k + 1, by omega, by go_num, HS.out, hbel.out.setCell (Nat.le_refl _) _⟩
          case measure => simp [intOf]; omega
        · go_wp2
          go_ret
          exact ⟨_, _, rfl, rd_of_own (hfl.done (by omega)), hbel.out, by simp⟩

/-- What the copying loop has laid after k rounds. -/
structure Copied (w wr : World) (g : Nat) (vs ys : List BS) (k : Nat) : Prop where
  len : ys.length = k
  own : Own wr g 32 (ys.map encB ++ List.replicate (vs.length - k) (.slice none 0 0))
  rd : ∀ p ∈ ys, Rd (Value.int .u8) wr (encB p) p.2
  bytes : ys.map Prod.snd = (vs.take k).map Prod.snd
  below : Below g w wr
  hg : g = w.heap.size

theorem Copied.step {w wr w2 : World} {g k : Nat} {vs ys : List BS} (h : Copied w wr g vs ys k) (hlt : k < vs.length) {p q : BS} (hp : vs[k]? = some p) (hb : Below wr.heap.size wr w2) (hq : Rd (Value.int .u8) w2 (encB q) q.2) (hqp : q.2 = p.2) :
    Copied w (w2.setCell ⟨g, k, none⟩ (encB q)) g vs (ys ++ [q]) (k + 1) := by
  have ho := h.own.below hb h.own.lt
  have hc : w2.cell? ⟨g, k, none⟩ = some (.slice none 0 0) := ho.cell (by
    rw [List.getElem?_append_right (by simp [h.len]), List.getElem?_replicate_of_lt (by simp [h.len]; omega)])
  have hne : ∀ x : Int, Value.int .u8 x ≠ .slice none 0 0 := fun x e => by cases e
  refine ⟨by simp [h.len], ?_, ?_, ?_, ?_, h.hg⟩
  · have := ho.set k (encB q)
    rw [set_fill _ _ _ _ _ (by simp [h.len]) hlt] at this
    rw [List.map_append]
    exact this
  · intro r hr
    rcases List.mem_append.1 hr with hr | hr
    · exact ((h.rd r hr).below hb).setOther hc hne _
    · obtain rfl : r = q := by simpa using hr
      exact hq.setOther hc hne _
  · rw [List.map_append, h.bytes, List.take_add_one, hp]
    simp [hqp]
  · exact (h.below.trans (hb.mono (Nat.le_of_lt h.own.lt))).setCell (Nat.le_refl _) _

set_option maxHeartbeats 400000 in
theorem cloneList (v : Value) (vs : List BS) (w : World) (hr : RdV w v vs) (hn : vs.length ≤ 65536) (hs : ∀ p ∈ vs, p.2.length ≤ 1048576) :
    Calls Tryd.prog 9 #[v] w fun e w' => ∃ a c ys, e = .returned (.slice a vs.length c) ∧ ys.length = vs.length ∧ ys.map Prod.snd = vs.map Prod.snd ∧ RdV w' (.slice a vs.length c) ys ∧ Below w.heap.size w w' := by
  have heq := fun a n c n' c' w => Lib.run_eql_slice_nil (P := Tryd.prog) w 23 32 a n c n' c' Tryd.underlying23
  have hmk := fun w => run_make_row' (P := Tryd.prog) 23 32 (.slice none 0 0) 24 Tryd.underlying23 infoSl rfl .i64 .i64 vs.length (by omega) (by omega) w
  by_cases hnil : v = .slice none 0 0
  · subst hnil
    obtain ⟨a, c, hf⟩ := hr.1.form
    have hl : vs.length = 0 := by simp only [Value.slice.injEq] at hf; omega
    obtain rfl : vs = [] := List.eq_nil_of_length_eq_zero hl
    clear hmk
    go_enter Tryd.func9, Tryd.ntmps9
    go_wp2
    go_ret
    exact ⟨none, 0, [], rfl, rfl, rfl, ⟨.inl ⟨rfl, rfl⟩, by simp⟩, Below.refl _ _⟩
  · by_cases h0 : vs.length = 0
    · obtain rfl : vs = [] := List.eq_nil_of_length_eq_zero h0
      rcases hr.1 with ⟨rfl, -⟩ | ⟨x, cap, rfl, -⟩
      · exact absurd rfl hnil
      · clear hnil
        have hmk0 : ∀ w, (Instr.makeSlice 23 (.int .i64 0) (.int .i64 0)).run Tryd.prog w = .ok (.slice (some ⟨w.heap.size, 0, none⟩) 0 0) (w.alloc (.cells (madeCells #[(.slice none 0 0)] 0) 32)) := fun w => hmk w
        clear hmk
        go_enter Tryd.func9, Tryd.ntmps9
        go_wp2
        go_loop [4] (fun i => i = .int .i64 0) (fun _ => 0)
        case atStart => rfl
        case round =>
          subst hrel
          go_wp2
          go_ret
          exact ⟨_, 0, rfl, ⟨.inr ⟨_, 0, rfl, Nat.le_refl _, by simp⟩, by simp⟩, (Below.refl _ _).alloc (Nat.le_refl _) _⟩
    · obtain ⟨b, off, c, rfl, hle, hc⟩ := hr.1.at (by omega)
      have hst : Copied w (w.alloc (.cells (madeCells #[(.slice none 0 0)] vs.length) 32)) w.heap.size vs [] 0 :=
        ⟨rfl, by have := own_new w (madeCells #[(.slice none 0 0)] vs.length) 32; rwa [toList_madeCells_one] at this, by simp, by simp, (Below.refl _ _).alloc (Nat.le_refl _) _, rfl⟩
      clear hnil
      go_enter Tryd.func9, Tryd.ntmps9
      go_wp2
      go_loopw [4] (fun i wr => ∃ (k : Nat) (ys : List BS), k ≤ vs.length ∧ i = .int .i64 k ∧ Copied w wr w.heap.size vs ys k) (fun i _ => vs.length - (intOf i).toNat)
      case atStart => exact ⟨0, [], by omega, rfl, hst⟩
      case round =>
        obtain ⟨k, ys, hk, rfl, hcp⟩ := hrel
        by_cases hlt : k < vs.length
        · obtain ⟨p, hsk⟩ := get_some hlt
          have g := hc.out k p hsk
          have g1 : wr.cell? ⟨b, off + k, none⟩ = some (encB p) := by rw [hcp.below.cell (p := ⟨b, off + k, none⟩) (cell_lt g)]; exact g
          have hrd := (hr.2 p (List.mem_of_getElem? hsk)).below hcp.below
          have hsz := hs p (List.mem_of_getElem? hsk)
          have hcl := cloneBytes _ _ wr hrd hsz
          have HK := Lib.hid hsk
          clear hsk g
          have hgl := hcp.own.lt
          unfold encB at g1 hcl
          go_wp2_with (go_at_call 18; refine hcl.mono ?_; rintro e w2 ⟨qa, qc, rfl, hq, hb2, -⟩; refine Hid.out ?_)
          refine Lib.hid ?_
          have hst2 := hcp.step hlt HK.out hb2 (q := ((qa, p.2.length, qc), p.2)) hq rfl
          have ho2 := hcp.own.below hb2 hgl
          have g2 : w2.cell? ⟨w.heap.size, k, none⟩ = some (.slice none 0 0) := ho2.cell (by rw [List.getElem?_append_right (by simp [hcp.len]), List.getElem?_replicate_of_lt (by simp [hcp.len]; omega)])
          have g3 := ho2.frozen k
          go_wp2
          go_roundw
          case rel => exact ⟨k + 1, _, by omega, by go_num, hst2⟩
          case measure => simp [intOf]; omega
        · go_wp2
          go_ret
          have hkl : k = vs.length := by omega
          have hyl : ys.length = vs.length := by rw [hcp.len]; exact hkl
          have hbl := hcp.below
          refine ⟨_, _, ys, rfl, hyl, ?_, ⟨?_, hcp.rd⟩, hbl⟩
          · have := hcp.bytes; rwa [hkl, List.take_length] at this
          · have ho := hcp.own
            rw [hkl, Nat.sub_self, List.replicate_zero, List.append_nil] at ho
            have := rd_of_own ho
            rwa [hyl] at this
end Go.Proofs.Qxb6605845aDoor.Small
