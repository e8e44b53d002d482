/-
  Identifier, Number, Point, Points: some answer; nothing is changed.
-/
import Derived.Test.YtdhhdnopilfifaaPrTxt
import Derived.Deep.RegionHeld3
namespace Go.Proofs.Ytdhhdnopilfifaa
open Go.RowKit

theorem Identifier_any (s : ByteArray) (hs : s.size ≤ maxLen) (w : World) : Calls Try.prog 26 #[.string s] w (AnyB w) := by
  go_enter Try.func26, Try.ntmps26
  go_wp2_with fail
  refine (Word_any s hs w).mono ?_
  rintro e1 w1 ⟨⟨b, rfl⟩, hb1⟩
  have HB1 := Lib.hid hb1
  clear hb1
  cases b
  · go_wp2_with fail
    go_ret
    exact AnyB.ok rfl HB1.out
  · go_wp2_with fail
    refine (Keyword_any s w1).mono ?_
    rintro e2 w2 ⟨⟨b2, rfl⟩, hb2⟩
    have HB2 := Lib.hid (HB1.out.trans (hb2.mono HB1.out.size))
    clear hb2
    go_wp2_with fail
    go_ret
    exact AnyB.ok rfl HB2.out
/-- A code point, and how many bytes it has. -/
def PtPost (w : World) (e : Ending) (w' : World) : Prop := (∃ (p : Int) (m : Nat), m ≤ 4 ∧ e = .returned (.tuple #[.int .i64 p, .int .i64 m])) ∧ Below w.heap.size w w'
theorem PtPost.ok {w w' : World} {v : Value} {p : Int} {m : Nat} (hm : m ≤ 4) (h : v = .tuple #[.int .i64 p, .int .i64 m]) (hb : Below w.heap.size w w') : PtPost w (.returned v) w' := ⟨⟨p, m, hm, by rw [h]⟩, hb⟩
set_option maxRecDepth 100000 in
theorem Point_any (s : ByteArray) (j : Nat) (hj : j < s.size) (hs : s.size ≤ 2147483647) (w : World) : Calls Try.prog 35 #[.string s, .int .i64 j] w (PtPost w) := by
  have ej := by_eq hj
  have ec := by_lt s j
  obtain ⟨c, hc⟩ : ∃ c, c = by_ s j := ⟨_, rfl⟩
  rw [← hc] at ej ec
  clear hc
  have hs' : s.size ≤ maxLen := by unfold maxLen; omega
  have KC := Lib.hid (fun (i : Nat) (w : World) => continued_any s i hs' w)
  by_cases h1 : c < 128
  · go_enter Try.func35, Try.ntmps35
    go_wp2_with fail
    go_ret2
    exact PtPost.ok (m := 1) (by omega) rfl (Below.refl _ _)
  · by_cases h2 : 194 ≤ c ∧ c < 224
    · obtain ⟨h2a, h2b⟩ := h2
      have q1 : (194 : Int) ≤ c := by omega
      have q2 : (c : Int) < 224 := by omega
      have q3 : ¬ (c : Int) < 128 := by omega
      go_enter Try.func35, Try.ntmps35
      go_wp2_with fail
      refine (KC.out (j + 1) w).mono ?_
      rintro e1 w1 ⟨⟨b1, rfl, hb1⟩, hw1⟩
      have HW1 := Lib.hid hw1
      clear hw1
      cases b1
      · clear hb1
        go_wp2_with fail
        go_ret2
        exact PtPost.ok (m := 0) (by omega) rfl HW1.out
      · have hj1 : j + 1 < s.size := hb1 (by trivial)
        clear hb1
        go_wp2_with fail
        go_ret2
        exact PtPost.ok (m := 2) (by omega) rfl HW1.out
    · by_cases h3 : 224 ≤ c ∧ c < 240
      · obtain ⟨h3a, h3b⟩ := h3
        have q1 : (194 : Int) ≤ c := by omega
        have q2 : ¬ (c : Int) < 224 := by omega
        have q3 : ¬ (c : Int) < 128 := by omega
        have q4 : (224 : Int) ≤ c := by omega
        have q5 : (c : Int) < 240 := by omega
        have q6 : ¬ (240 : Int) ≤ c := by omega
        clear h2
        go_enter Try.func35, Try.ntmps35
        go_wp2_with fail
        refine (KC.out (j + 1) w).mono ?_
        rintro e1 w1 ⟨⟨b1, rfl, hb1⟩, hw1⟩
        have HW1 := Lib.hid hw1
        clear hw1
        cases b1
        · clear hb1
          go_wp2_with fail
          go_ret2
          exact PtPost.ok (m := 0) (by omega) rfl HW1.out
        · have hj1 : j + 1 < s.size := hb1 (by trivial)
          clear hb1
          go_wp2_with fail
          refine (KC.out (j + 2) w1).mono ?_
          rintro e2 w2 ⟨⟨b2, rfl, hb2⟩, hw2⟩
          have HW2 := Lib.hid (HW1.out.trans (hw2.mono HW1.out.size))
          clear hw2
          cases b2
          · clear hb2
            go_wp2_with fail
            go_ret2
            exact PtPost.ok (m := 0) (by omega) rfl HW2.out
          · have hj2 : j + 2 < s.size := hb2 (by trivial)
            clear hb2
            have z1 : (0 : Int) ≤ (j : Int) + 1 := by omega
            have z2 : (j : Int) + 1 < (s.size : Int) := by omega
            have z3 : (0 : Int) ≤ (j : Int) + 2 := by omega
            have z4 : (j : Int) + 2 < (s.size : Int) := by omega
            go_wp2_with fail
            go_quiet ((fail))
            go_wp2_with fail
            all_goals
              go_ret2
              first
                | exact PtPost.ok (m := 3) (by omega) rfl (below_drewN HW2.out _)
                | exact PtPost.ok (m := 0) (by omega) rfl (below_drewN HW2.out _)
      · by_cases h4 : 240 ≤ c ∧ c < 245
        · obtain ⟨h4a, h4b⟩ := h4
          have q1 : (194 : Int) ≤ c := by omega
          have q2 : ¬ (c : Int) < 224 := by omega
          have q3 : ¬ (c : Int) < 128 := by omega
          have q4 : (224 : Int) ≤ c := by omega
          have q5 : ¬ (c : Int) < 240 := by omega
          have q6 : (240 : Int) ≤ c := by omega
          have q7 : (c : Int) < 245 := by omega
          clear h2 h3
          go_enter Try.func35, Try.ntmps35
          go_wp2_with fail
          refine (KC.out (j + 1) w).mono ?_
          rintro e1 w1 ⟨⟨b1, rfl, hb1⟩, hw1⟩
          have HW1 := Lib.hid hw1
          clear hw1
          cases b1
          · clear hb1
            go_wp2_with fail
            go_ret2
            exact PtPost.ok (m := 0) (by omega) rfl HW1.out
          · have hj1 : j + 1 < s.size := hb1 (by trivial)
            clear hb1
            go_wp2_with fail
            refine (KC.out (j + 2) w1).mono ?_
            rintro e2 w2 ⟨⟨b2, rfl, hb2⟩, hw2⟩
            have HW2 := Lib.hid (HW1.out.trans (hw2.mono HW1.out.size))
            clear hw2
            cases b2
            · clear hb2
              go_wp2_with fail
              go_ret2
              exact PtPost.ok (m := 0) (by omega) rfl HW2.out
            · have hj2 : j + 2 < s.size := hb2 (by trivial)
              clear hb2
              go_wp2_with fail
              refine (KC.out (j + 3) w2).mono ?_
              rintro e3 w3 ⟨⟨b3, rfl, hb3⟩, hw3⟩
              have HW3 := Lib.hid (HW2.out.trans (hw3.mono HW2.out.size))
              clear hw3
              cases b3
              · clear hb3
                go_wp2_with fail
                go_ret2
                exact PtPost.ok (m := 0) (by omega) rfl HW3.out
              · have hj3 : j + 3 < s.size := hb3 (by trivial)
                clear hb3
                have z1 : (0 : Int) ≤ (j : Int) + 1 := by omega
                have z2 : (j : Int) + 1 < (s.size : Int) := by omega
                have z3 : (0 : Int) ≤ (j : Int) + 2 := by omega
                have z4 : (j : Int) + 2 < (s.size : Int) := by omega
                have z5 : (0 : Int) ≤ (j : Int) + 3 := by omega
                have z6 : (j : Int) + 3 < (s.size : Int) := by omega
                go_wp2_with fail
                go_quiet ((fail))
                go_wp2_with fail
                all_goals
                  go_ret2
                  first
                    | exact PtPost.ok (m := 4) (by omega) rfl (below_drewN HW3.out _)
                    | exact PtPost.ok (m := 0) (by omega) rfl (below_drewN HW3.out _)
        · by_cases g1 : (194 : Int) ≤ c <;> by_cases g2 : (c : Int) < 224 <;> by_cases g3 : (224 : Int) ≤ c <;> by_cases g4 : (c : Int) < 240 <;> by_cases g5 : (240 : Int) ≤ c <;> by_cases g6 : (c : Int) < 245
          all_goals first
            | (exfalso; omega)
            | skip
          all_goals
            have q3 : ¬ (c : Int) < 128 := by omega
            clear h2 h3 h4
            go_enter Try.func35, Try.ntmps35
            go_wp2_with fail
            go_ret2
            exact PtPost.ok (m := 0) (by omega) rfl (Below.refl _ _)
theorem Points_any (s : ByteArray) (hs : s.size ≤ 2147483647) (w : World) : Calls Try.prog 25 #[.string s] w (AnyB w) := by
  go_enter Try.func25, Try.ntmps25
  go_wp2_with fail
  go_loopw [3] (fun t wr => ∃ k : Nat, k ≤ s.size + 4 ∧ t = .int .i64 k ∧ Hid (Below w.heap.size w wr)) (fun t _ => s.size + 4 - (intOf t).toNat)
  case atStart => exact ⟨0, by omega, rfl, Lib.hid (Below.refl _ _)⟩
  case round =>
    obtain ⟨k, hk, rfl, HB⟩ := hrel
    by_cases hlt : k < s.size
    · go_wp2_with fail
      refine (Point_any s k hlt hs wr).mono ?_
      rintro e1 w1 ⟨⟨p, m, hm, rfl⟩, hb1⟩
      have HB1 := Lib.hid (HB.out.trans (hb1.mono HB.out.size))
      clear hb1
      by_cases h0 : m = 0
      · subst h0
        go_wp2_with fail
        go_ret
        exact AnyB.ok rfl HB1.out
      · have q0 : ((m : Int) == 0) = false := by simp; omega
        go_wp2_with fail
        go_roundw
        case rel => exact ⟨k + m, by omega, by go_num, HB1⟩
        case measure => simp [intOf]; omega
    · have hge : ¬ (k : Int) < (s.size : Int) := by omega
      go_wp2_with fail
      go_ret
      exact AnyB.ok rfl HB.out
end Go.Proofs.Ytdhhdnopilfifaa
