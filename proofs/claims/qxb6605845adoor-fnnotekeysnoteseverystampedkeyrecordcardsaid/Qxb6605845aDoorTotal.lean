/-
  The walks of the two bounds on total length that the laws on writeList open with.
-/
import Derived.Test.Qxb6605845aDoorSmall
namespace Go.Proofs.Qxb6605845aDoor.Total
open Go.RowKit Mem Small

/-- The answer: some bool; where it is yes no byte slice is longer than 2^20. -/
def Ans (vs : List BS) (w : World) (e : Ending) (w' : World) : Prop := ∃ b : Bool, e = .returned (.bool b) ∧ w = w' ∧ (b = true → ∀ p ∈ vs, p.1.2.1 ≤ 1048576)
theorem ans_no {vs : List BS} {w : World} {e : Ending} {w' : World} (h : e = .returned (.bool false)) (hw : w = w') : Ans vs w e w' := ⟨false, h, hw, by simp⟩
theorem ans_yes {vs : List BS} {w : World} {e : Ending} {w' : World} (h : e = .returned (.bool true)) (hw : w = w') (ha : ∀ (j : Nat) (p : BS), vs[j]? = some p → p.1.2.1 ≤ 1048576) : Ans vs w e w' :=
  ⟨true, h, hw, fun _ p hp => by obtain ⟨j, hj⟩ := List.mem_iff_getElem?.1 hp; exact ha j p hj⟩
theorem lt_of_get {α : Type} {xs : List α} {k : Nat} {a : α} (h : xs[k]? = some a) : k < xs.length := by
  rcases Nat.lt_or_ge k xs.length with h1 | h1
  · exact h1
  · rw [List.getElem?_eq_none h1] at h; cases h
theorem all_succ {vs : List BS} {k : Nat} (h : ∀ j p, j < k → vs[j]? = some p → p.1.2.1 ≤ 1048576) {pa : Option Addr} {pl pc : Nat} {pb : List Int} (hk : vs[k]? = some ((pa, pl, pc), pb)) (hp : pl ≤ 1048576) :
    ∀ j p, j < k + 1 → vs[j]? = some p → p.1.2.1 ≤ 1048576 := by
  intro j p hj hp'
  by_cases e : j = k
  · subst e; rw [hk] at hp'; cases hp'; exact hp
  · exact h j p (by omega) hp'

set_option maxHeartbeats 2000000 in
theorem total5 (v1 v2 v3 : Value) (ts ks : List ByteArray) (vs : List BS) (w : World) (h1 : Rd Value.string w v1 ts) (h2 : Rd Value.string w v2 ks) (h3 : Rd encB w v3 vs)
    (n1 : ts.length ≤ 9223372036854775807) (n2 : ks.length ≤ 9223372036854775807) (n3 : vs.length ≤ 9223372036854775807)
    (s1 : ∀ s ∈ ts, s.size ≤ 9223372036854775807) (s2 : ∀ s ∈ ks, s.size ≤ 9223372036854775807) (s3 : ∀ p ∈ vs, p.1.2.1 ≤ 9223372036854775807) :
    Calls Tryd.prog 5 #[v1, v2, v3] w (Ans vs w) := by
  obtain ⟨a1, c1, rfl, H1⟩ := h1.parts
  obtain ⟨a2, c2, rfl, H2⟩ := h2.parts
  obtain ⟨a3, c3, rfl, H3⟩ := h3.parts
  have S1 := Lib.hid s1
  have S2 := Lib.hid s2
  have S3 := Lib.hid s3
  clear h1 h2 h3 s1 s2 s3
  by_cases l1 : ts.length ≤ 1048576
  case neg =>
    go_enter Tryd.func5, Tryd.ntmps5
    go_wp2
    go_ret
    exact ans_no rfl rfl
  go_enter Tryd.func5, Tryd.ntmps5
  go_wp2
  go_loop [7, 8] (fun n i => ∃ (k r : Nat), k ≤ ts.length ∧ i = .int .i64 k ∧ n = .int .i64 r ∧ r ≤ 1048576) (fun _ i => ts.length - (intOf i).toNat)
  case atStart => exact ⟨0, ts.length, by omega, rfl, rfl, by omega⟩
  case round =>
    obtain ⟨k, r, hk, rfl, rfl, hr⟩ := hrel
    by_cases hlt : k < ts.length
    · obtain ⟨s, hsk⟩ := get_some hlt
      obtain ⟨b, off, rfl, g⟩ := H1.out k s hsk
      have hsz := S1.out s (List.mem_of_getElem? hsk)
      clear hsk
      by_cases q1 : s.size ≤ 1048576
      · by_cases q2 : r + s.size ≤ 1048576
        · go_wp2
          go_round
          case rel => exact ⟨k + 1, r + s.size, by omega, by go_num, by go_num, q2⟩
          case measure => simp [intOf]; omega
        · go_wp2
          go_ret
          exact ans_no rfl rfl
      · go_wp2
        go_ret
        exact ans_no rfl rfl
    · clear H1
      by_cases l2 : ks.length ≤ 1048576
      case neg =>
        go_wp2
        go_ret
        exact ans_no rfl rfl
      by_cases l2' : r + ks.length ≤ 1048576
      case neg =>
        go_wp2
        go_ret
        exact ans_no rfl rfl
      go_wp2
      go_loop [7, 9] (fun n i => ∃ (k r : Nat), k ≤ ks.length ∧ i = .int .i64 k ∧ n = .int .i64 r ∧ r ≤ 1048576) (fun _ i => ks.length - (intOf i).toNat)
      case atStart => exact ⟨0, r + ks.length, by omega, rfl, by go_num, by omega⟩
      case round =>
        clear hlt hk hr l2 l2'
        obtain ⟨k', r', hk, rfl, rfl, hr⟩ := hrel
        by_cases hlt : k' < ks.length
        · obtain ⟨s, hsk⟩ := get_some hlt
          obtain ⟨b, off, rfl, g⟩ := H2.out k' s hsk
          have hsz := S2.out s (List.mem_of_getElem? hsk)
          clear hsk
          by_cases q1 : s.size ≤ 1048576
          · by_cases q2 : r' + s.size ≤ 1048576
            · go_wp2
              go_round
              case rel => exact ⟨k' + 1, r' + s.size, by omega, by go_num, by go_num, q2⟩
              case measure => simp [intOf]; omega
            · go_wp2
              go_ret
              exact ans_no rfl rfl
          · go_wp2
            go_ret
            exact ans_no rfl rfl
        · clear H2
          by_cases l2 : vs.length ≤ 1048576
          case neg =>
            go_wp2
            go_ret
            exact ans_no rfl rfl
          by_cases l2' : r' + vs.length ≤ 1048576
          case neg =>
            go_wp2
            go_ret
            exact ans_no rfl rfl
          go_wp2
          go_loop [7, 10] (fun n i => ∃ (k r : Nat), k ≤ vs.length ∧ i = .int .i64 k ∧ n = .int .i64 r ∧ r ≤ 1048576 ∧ Hid (∀ j p, j < k → vs[j]? = some p → p.1.2.1 ≤ 1048576)) (fun _ i => vs.length - (intOf i).toNat)
          case atStart => exact ⟨0, r' + vs.length, by omega, rfl, by go_num, by omega, fun j p hj => by omega⟩
          case round =>
            clear hlt hk hr l2 l2'
            obtain ⟨k'', r'', hk, rfl, rfl, hr, HA⟩ := hrel
            by_cases hlt : k'' < vs.length
            · obtain ⟨⟨⟨pa, pl, pc⟩, pb⟩, hsk⟩ := get_some hlt
              obtain ⟨b, off, rfl, g⟩ := H3.out k'' _ hsk
              have hsz : pl ≤ 9223372036854775807 := S3.out _ (List.mem_of_getElem? hsk)
              have HK := Lib.hid hsk
              clear hsk
              unfold encB at g
              by_cases q1 : pl ≤ 1048576
              · by_cases q2 : r'' + pl ≤ 1048576
                · go_wp2
                  go_round
                  case rel => exact ⟨k'' + 1, r'' + pl, by omega, by go_num, by go_num, q2, all_succ HA.out HK.out q1⟩
                  case measure => simp [intOf]; omega
                · go_wp2
                  go_ret
                  exact ans_no rfl rfl
              · go_wp2
                go_ret
                exact ans_no rfl rfl
            · go_wp2
              go_ret
              exact ans_yes rfl rfl (fun j p hj => HA.out j p (by have := lt_of_get hj; omega) hj)

set_option maxHeartbeats 2000000 in
theorem total17 (v1 v2 v3 : Value) (ts ks : List ByteArray) (vs : List BS) (w : World) (h1 : Rd Value.string w v1 ts) (h2 : Rd Value.string w v2 ks) (h3 : Rd encB w v3 vs)
    (n1 : ts.length ≤ 9223372036854775807) (n2 : ks.length ≤ 9223372036854775807) (n3 : vs.length ≤ 9223372036854775807)
    (s1 : ∀ s ∈ ts, s.size ≤ 9223372036854775807) (s2 : ∀ s ∈ ks, s.size ≤ 9223372036854775807) (s3 : ∀ p ∈ vs, p.1.2.1 ≤ 9223372036854775807) :
    Calls Tryd.prog 17 #[v1, v2, v3] w (Ans vs w) := by
  obtain ⟨a1, c1, rfl, H1⟩ := h1.parts
  obtain ⟨a2, c2, rfl, H2⟩ := h2.parts
  obtain ⟨a3, c3, rfl, H3⟩ := h3.parts
  have S1 := Lib.hid s1
  have S2 := Lib.hid s2
  have S3 := Lib.hid s3
  clear h1 h2 h3 s1 s2 s3
  by_cases l1 : ts.length ≤ 1048576
  case neg =>
    go_enter Tryd.func17, Tryd.ntmps17
    go_wp2
    go_ret
    exact ans_no rfl rfl
  go_enter Tryd.func17, Tryd.ntmps17
  go_wp2
  go_loop [7, 8] (fun n i => ∃ (k r : Nat), k ≤ ts.length ∧ i = .int .i64 k ∧ n = .int .i64 r ∧ r ≤ 1048576) (fun _ i => ts.length - (intOf i).toNat)
  case atStart => exact ⟨0, ts.length, by omega, rfl, rfl, by omega⟩
  case round =>
    obtain ⟨k, r, hk, rfl, rfl, hr⟩ := hrel
    by_cases hlt : k < ts.length
    · obtain ⟨s, hsk⟩ := get_some hlt
      obtain ⟨b, off, rfl, g⟩ := H1.out k s hsk
      have hsz := S1.out s (List.mem_of_getElem? hsk)
      clear hsk
      by_cases q1 : s.size ≤ 1048576
      · by_cases q2 : r + s.size ≤ 1048576
        · go_wp2
          go_round
          case rel => exact ⟨k + 1, r + s.size, by omega, by go_num, by go_num, q2⟩
          case measure => simp [intOf]; omega
        · go_wp2
          go_ret
          exact ans_no rfl rfl
      · go_wp2
        go_ret
        exact ans_no rfl rfl
    · clear H1
      by_cases l2 : ks.length ≤ 1048576
      case neg =>
        go_wp2
        go_ret
        exact ans_no rfl rfl
      by_cases l2' : r + ks.length ≤ 1048576
      case neg =>
        go_wp2
        go_ret
        exact ans_no rfl rfl
      go_wp2
      go_loop [7, 9] (fun n i => ∃ (k r : Nat), k ≤ ks.length ∧ i = .int .i64 k ∧ n = .int .i64 r ∧ r ≤ 1048576) (fun _ i => ks.length - (intOf i).toNat)
      case atStart => exact ⟨0, r + ks.length, by omega, rfl, by go_num, by omega⟩
      case round =>
        clear hlt hk hr l2 l2'
        obtain ⟨k', r', hk, rfl, rfl, hr⟩ := hrel
        by_cases hlt : k' < ks.length
        · obtain ⟨s, hsk⟩ := get_some hlt
          obtain ⟨b, off, rfl, g⟩ := H2.out k' s hsk
          have hsz := S2.out s (List.mem_of_getElem? hsk)
          clear hsk
          by_cases q1 : s.size ≤ 1048576
          · by_cases q2 : r' + s.size ≤ 1048576
            · go_wp2
              go_round
              case rel => exact ⟨k' + 1, r' + s.size, by omega, by go_num, by go_num, q2⟩
              case measure => simp [intOf]; omega
            · go_wp2
              go_ret
              exact ans_no rfl rfl
          · go_wp2
            go_ret
            exact ans_no rfl rfl
        · clear H2
          by_cases l2 : vs.length ≤ 1048576
          case neg =>
            go_wp2
            go_ret
            exact ans_no rfl rfl
          by_cases l2' : r' + vs.length ≤ 1048576
          case neg =>
            go_wp2
            go_ret
            exact ans_no rfl rfl
          go_wp2
          go_loop [7, 10] (fun n i => ∃ (k r : Nat), k ≤ vs.length ∧ i = .int .i64 k ∧ n = .int .i64 r ∧ r ≤ 1048576 ∧ Hid (∀ j p, j < k → vs[j]? = some p → p.1.2.1 ≤ 1048576)) (fun _ i => vs.length - (intOf i).toNat)
          case atStart => exact ⟨0, r' + vs.length, by omega, rfl, by go_num, by omega, fun j p hj => by omega⟩
          case round =>
            clear hlt hk hr l2 l2'
            obtain ⟨k'', r'', hk, rfl, rfl, hr, HA⟩ := hrel
            by_cases hlt : k'' < vs.length
            · obtain ⟨⟨⟨pa, pl, pc⟩, pb⟩, hsk⟩ := get_some hlt
              obtain ⟨b, off, rfl, g⟩ := H3.out k'' _ hsk
              have hsz : pl ≤ 9223372036854775807 := S3.out _ (List.mem_of_getElem? hsk)
              have HK := Lib.hid hsk
              clear hsk
              unfold encB at g
              by_cases q1 : pl ≤ 1048576
              · by_cases q2 : r'' + pl ≤ 1048576
                · go_wp2
                  go_round
                  case rel => exact ⟨k'' + 1, r'' + pl, by omega, by go_num, by go_num, q2, all_succ HA.out HK.out q1⟩
                  case measure => simp [intOf]; omega
                · go_wp2
                  go_ret
                  exact ans_no rfl rfl
              · go_wp2
                go_ret
                exact ans_no rfl rfl
            · go_wp2
              go_ret
              exact ans_yes rfl rfl (fun j p hj => HA.out j p (by have := lt_of_get hj; omega) hj)
end Go.Proofs.Qxb6605845aDoor.Total
