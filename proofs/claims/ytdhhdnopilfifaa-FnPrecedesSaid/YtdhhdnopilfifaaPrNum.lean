/-
  spec.Number: some answer; nothing is changed.
-/
import Derived.Test.YtdhhdnopilfifaaPrPt
import Derived.Deep.DeepCutAuto
namespace Go.Proofs.Ytdhhdnopilfifaa
open Go.RowKit

def AtI (s : ByteArray) (w wx : World) (v : Value) : Prop := ∃ a : Nat, v = .int .i64 a ∧ 1 ≤ a ∧ a ≤ s.size ∧ Below w.heap.size w wx
set_option maxRecDepth 100000 in
set_option maxHeartbeats 1600000 in
theorem Number_any (s : ByteArray) (hs : s.size ≤ 2147483647) (w : World) : Calls Try.prog 24 #[.string s] w (IPost (fun _ => True) w) := by
  have hs' : s.size ≤ maxLen := by unfold maxLen; omega
  have KD := Lib.hid (fun (a : Nat) (ha : a ≤ s.size) (w : World) => digits_any s a hs' ha w)
  go_enter Try.func24, Try.ntmps24
  go_wp2_with fail
  refine (KD.out 0 (Nat.zero_le _) w).mono ?_
  rintro e1 w1 ⟨⟨r, rfl, ⟨a, rfl, ha0, ha⟩⟩, hb1⟩
  have HB1 := Lib.hid hb1
  clear hb1 ha0
  by_cases h0 : a = 0
  · subst h0
    go_wp2_with fail
    go_ret
    exact ⟨⟨_, rfl, trivial⟩, HB1.out⟩
  · have q0 : ((a : Int) == 0) = false := by simp; omega
    have hp : 0 < s.size := by omega
    go_upto_if 12 with fail
    go_cut [3] (fun s3 wx => Hid (AtI s w wx s3))
    case first =>
      cases hz : (((by_ s 0 : Nat) : Int) == 48)
      all_goals
        rw [← by_eq hp] at hz
        go_wp2_with fail
        go_meet
        first
          | exact Lib.hid ⟨a, rfl, by omega, ha, HB1.out⟩
          | exact Lib.hid ⟨1, rfl, by omega, by omega, HB1.out⟩
    case rest =>
      obtain ⟨a2, rfl, h1, h2, hb⟩ := hcut.out
      have HB2 := Lib.hid hb
      clear hb hcut HB1 q0 h0 ha
      go_upto_region 6 with fail
      go_cut [30] (fun s30 wx => ∃ b : Bool, s30 = .bool b ∧ (b = true → a2 + 1 < s.size) ∧ Hid (Below w.heap.size w wx))
      case first =>
        by_cases hlt : a2 + 1 < s.size
        · have ha2 : a2 < s.size := by omega
          have z1 : (0 : Int) ≤ (a2 : Int) + 1 := by omega
          have z2 : (a2 : Int) + 1 < (s.size : Int) := by omega
          cases hz : (((by_ s a2 : Nat) : Int) == 46)
          · rw [← by_eq ha2] at hz
            go_wp2_with fail
            go_meet
            exact ⟨_, rfl, fun h => (by first | exact hlt | trivial), HB2⟩
          · rw [← by_eq ha2] at hz
            go_wp2_with fail
            refine (digit_any _ wc).mono ?_
            rintro e3 w3 ⟨⟨b3, rfl⟩, hb3⟩
            have HB3 := Lib.hid (HB2.out.trans (hb3.mono HB2.out.size))
            clear hb3
            go_wp2_with fail
            go_meet
            exact ⟨_, rfl, fun h => (by first | exact hlt | trivial), HB3⟩
        · have hz : ¬ (a2 : Int) + 1 < (s.size : Int) := by omega
          go_wp2_with fail
          go_meet
          exact ⟨_, rfl, fun h => (by simp at h), HB2⟩
      case rest =>
        obtain ⟨b6, rfl, hb6, HB3⟩ := hcut
        have HB6 := Lib.hid hb6
        obtain ⟨w4, hw4⟩ : ∃ w4, w4 = wc := ⟨_, rfl⟩
        subst hw4
        clear hb6 HB2
        go_upto_if 30 with fail
        go_cut [3] (fun s3 wx => Hid (AtI s w wx s3))
        case first =>
          cases b6
          · go_wp2_with fail
            go_meet
            exact Lib.hid ⟨a2, rfl, h1, h2, HB3.out⟩
          · have h7 := HB6.out (by trivial)
            go_wp2_with fail
            refine (KD.out (a2 + 1) (by omega) _).mono ?_
            rintro e4 w5 ⟨⟨r4, rfl, ⟨a4, rfl, g1, g2⟩⟩, hb4⟩
            have HB4 := Lib.hid (HB3.out.trans (hb4.mono HB3.out.size))
            clear hb4
            go_wp2_with fail
            go_meet
            exact Lib.hid ⟨a4, rfl, by omega, g2, HB4.out⟩
        case rest =>
          obtain ⟨a3, rfl, h3, h4, hb⟩ := hcut.out
          have HB5 := Lib.hid hb
          clear hb hcut HB3 HB6
          obtain ⟨w6, hw6⟩ : ∃ w6, w6 = wc := ⟨_, rfl⟩
          subst hw6
          go_upto_region 8 with fail
          go_cut [50] (fun s50 wx => ∃ b : Bool, s50 = .bool b ∧ (b = true → a3 < s.size) ∧ Hid (Below w.heap.size w wx))
          case first =>
            by_cases hlt : a3 < s.size
            · cases hz : (((by_ s a3 : Nat) : Int) == 101) <;> cases hz2 : (((by_ s a3 : Nat) : Int) == 69)
              all_goals
                rw [← by_eq hlt] at hz hz2
                go_wp2_with fail
                go_meet
                exact ⟨_, rfl, fun h => (by first | exact hlt | trivial), HB5⟩
            · have hz : ¬ (a3 : Int) < (s.size : Int) := by omega
              go_wp2_with fail
              go_meet
              exact ⟨_, rfl, fun h => (by simp at h), HB5⟩
          case rest =>
            obtain ⟨b8, rfl, hb8, HB7⟩ := hcut
            have HB8 := Lib.hid hb8
            clear hb8 HB5
            obtain ⟨w7, hw7⟩ : ∃ w7, w7 = wc := ⟨_, rfl⟩
            subst hw7
            cases b8
            · go_wp2_with fail
              go_ret
              exact ⟨⟨_, rfl, trivial⟩, HB7.out⟩
            · have h9 := HB8.out (by trivial)
              go_upto_region 10 with fail
              go_cut [68] (fun s68 wx => ∃ b : Bool, s68 = .bool b ∧ (b = true → a3 + 1 < s.size) ∧ Hid (Below w.heap.size w wx))
              case first =>
                by_cases hlt : a3 + 1 < s.size
                · have z1 : (0 : Int) ≤ (a3 : Int) + 1 := by omega
                  have z2 : (a3 : Int) + 1 < (s.size : Int) := by omega
                  cases hz : (((by_ s (a3 + 1) : Nat) : Int) == 43) <;> cases hz2 : (((by_ s (a3 + 1) : Nat) : Int) == 45)
                  all_goals
                    rw [← by_eq hlt] at hz hz2
                    go_wp2_with fail
                    go_meet
                    exact ⟨_, rfl, fun h => (by first | exact hlt | trivial), HB7⟩
                · have hz : ¬ (a3 : Int) + 1 < (s.size : Int) := by omega
                  go_wp2_with fail
                  go_meet
                  exact ⟨_, rfl, fun h => (by simp at h), HB7⟩
              case rest =>
                obtain ⟨b10, rfl, hb10, HB9⟩ := hcut
                have HB10 := Lib.hid hb10
                clear hb10 HB7
                obtain ⟨w8, hw8⟩ : ∃ w8, w8 = wc := ⟨_, rfl⟩
                subst hw8
                cases b10
                · go_wp2_with fail
                  refine (KD.out (a3 + 1) (by omega) _).mono ?_
                  rintro e5 w9 ⟨⟨r5, rfl, ⟨a5, rfl, g3, g4⟩⟩, hb5⟩
                  have HB11 := Lib.hid (HB9.out.trans (hb5.mono HB9.out.size))
                  clear hb5
                  go_wp2_with fail
                  all_goals
                    go_ret
                    exact ⟨⟨_, rfl, trivial⟩, HB11.out⟩
                · go_wp2_with fail
                  refine (KD.out (a3 + 2) (by have := HB10.out (by trivial); omega) _).mono ?_
                  rintro e5 w9 ⟨⟨r5, rfl, ⟨a5, rfl, g3, g4⟩⟩, hb5⟩
                  have HB11 := Lib.hid (HB9.out.trans (hb5.mono HB9.out.size))
                  clear hb5
                  go_wp2_with fail
                  all_goals
                    go_ret
                    exact ⟨⟨_, rfl, trivial⟩, HB11.out⟩
end Go.Proofs.Ytdhhdnopilfifaa
