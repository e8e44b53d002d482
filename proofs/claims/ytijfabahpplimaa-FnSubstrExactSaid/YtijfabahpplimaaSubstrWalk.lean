/-
  The walk of FnSubstrExact: it answers true.
-/
import Derived.Test.YtijfabahpplimaaSubstrPart
namespace Go.Proofs.Ytijfabahpplimaa
open Go.RowKit Ieee

set_option maxRecDepth 100000 in
set_option maxHeartbeats 1600000 in
theorem substrExact_walk (s : ByteArray) (a z : Nat) (hs : s.size ≤ 9223372036854775807) (ha : a ≤ 65535) (hz : z ≤ 65535) (w : World) :
    Calls Try.prog 5 #[.string s, .int .u16 a, .int .u16 z] w fun e w' => e = .returned (.bool true) ∧ Below w.heap.size w w' := by
  obtain ⟨x, hx⟩ : ∃ x, floatOfInt .f64 (a : Int) = x := ⟨_, rfl⟩
  obtain ⟨y, hy⟩ : ∃ y, floatOfInt .f64 (z : Int) = y := ⟨_, rfl⟩
  have k1 : ∀ w, (convert 35 25 (.int .u16 (a : Int))).run Try.prog w = .ok (.float .f64 x) w := fun w => by
    rw [← hx]; exact run_convert_int_float w _ _ _ _ _ (by kernel_rfl) Try.underlying25
  have k2 : ∀ w, (convert 35 25 (.int .u16 (z : Int))).run Try.prog w = .ok (.float .f64 y) w := fun w => by
    rw [← hy]; exact run_convert_int_float w _ _ _ _ _ (by kernel_rfl) Try.underlying25
  have HX := Lib.hid hx
  have HY := Lib.hid hy
  clear hx hy
  by_cases hbig : 2147483647 < s.size
  · have d1 : decide ((2147483647 : Int) < (s.size : Int)) = true := by simp; omega
    go_enter Try.func5, Try.ntmps5
    go_wp2_with fail
    go_ret
    exact ⟨rfl, Below.refl _ _⟩
  have d1 : decide ((2147483647 : Int) < (s.size : Int)) = false := by simp; omega
  go_enter Try.func5, Try.ntmps5
  go_wp2_with fail
  refine (units9_any s (by omega) _).mono ?_
  rintro e w1 ⟨h, hb⟩
  have HB := Lib.hid hb
  clear hb
  rcases h with rfl | ⟨v, l, rfl, hown, hru, hle, hxx⟩
  · go_wp2_with fail
    go_ret
    exact ⟨rfl, HB.out⟩
  have hsc := units_scal hru
  obtain ⟨S, hS⟩ : ∃ S, text (sub l a z) = S := ⟨_, rfl⟩
  have T := Lib.hid (substr_text s l a z hru (by omega) hsc ha hz x y HX.out HY.out S hS)
  have HO := Lib.hid hown
  have HSC := Lib.hid hsc
  have HS := Lib.hid hS
  clear hown hru hxx hsc hS
  obtain ⟨A, c, hv, gc⟩ : ∃ A c, v = .slice A l.length c ∧ l.length ≤ c := by
    rcases HO.out.2 with ⟨rfl, h0⟩ | ⟨g, cap, cur, rfl, _, _, h1, _⟩
    · exact ⟨none, 0, by rw [h0], by omega⟩
    · exact ⟨_, cap, rfl, h1⟩
  subst hv
  go_wp2_with fail
  refine (T.out _).mono ?_
  rintro e w2 ⟨rfl, hb⟩
  have HB2 := Lib.hid (HB.out.trans (hb.mono HB.out.size))
  have HB12 := Lib.hid hb
  clear hb
  have HR := Lib.hid ((Reads.of_own HO.out).below HB12.out)
  have hws := HB.out.size
  have hws2 := HB12.out.size
  have hln : l.length ≤ 2147483647 := by omega
  have key := fun (a' b' : Nat) (h1 : a' ≤ b') (h2 : b' ≤ l.length) (h3 : (l.drop a').take (b' - a') = sub l a z) => (by
    have hcut := ((HR.out.cut (k := a') (cap := c) (by omega) gc).take (m := b' - a') (by omega))
    have e0 : ((intsOf l).drop (a' * 1)).take ((b' - a') * 1) = intsOf (sub l a z) := by
      rw [← h3]; simp [intsOf, List.map_take, List.map_drop]
    rw [e0, Nat.mul_one] at hcut
    have hlen : (sub l a z).length = b' - a' := by rw [← h3]; simp; omega
    have := ofUnits_any _ (b' - a') (c - a') (sub l a z) w1.heap.size w2 hcut hlen (by omega) (sub_scal HSC.out a z) (by omega)
    rw [HS.out] at this
    exact this : Calls Try.prog 11 #[.slice (if c = a' then A else A.map (·.add a')) (b' - a') (c - a')] w2 fun e w' => e = .returned (.string S) ∧ Below w2.heap.size w2 w')
  by_cases h1 : l.length < a
  · have K0 := Lib.hid (key l.length l.length (by omega) (by omega) (by unfold sub; rw [if_pos h1]; simp))
    clear key
    by_cases hca : c = l.length
    · have K := K0.out
      rw [if_pos hca] at K
      rw [Nat.sub_self, hca, Nat.sub_self] at K
      subst hca
      have KK := Lib.hid K
      clear K K0 HR
      go_wp2_with fail
      all_goals
        refine KK.out.mono ?_
        rintro e w3 ⟨rfl, hb3⟩
        have HB3 := Lib.hid (HB2.out.trans (hb3.mono (Nat.le_trans hws hws2)))
        clear hb3
        go_wp2_with fail
        go_ret
        exact ⟨rfl, HB3.out⟩
    · have K := K0.out
      rw [if_neg hca] at K
      rw [Nat.sub_self] at K
      have KK := Lib.hid K
      clear K K0 HR
      go_wp2_with fail
      all_goals
        refine KK.out.mono ?_
        rintro e w3 ⟨rfl, hb3⟩
        have HB3 := Lib.hid (HB2.out.trans (hb3.mono (Nat.le_trans hws hws2)))
        clear hb3
        go_wp2_with fail
        go_ret
        exact ⟨rfl, HB3.out⟩
  · by_cases h2 : l.length < a + z
    · have K0 := Lib.hid (key a l.length (by omega) (by omega) (by unfold sub; rw [if_neg h1, Nat.min_eq_right (by omega)]))
      clear key
      by_cases hca : c = a
      · have K := K0.out
        rw [if_pos hca] at K
        have hla : l.length = a := by omega
        rw [show l.length - a = 0 by omega, show c - a = 0 by omega] at K
        subst hca
        have KK := Lib.hid K
        clear K K0 HR
        go_wp2_with fail
        all_goals
          refine KK.out.mono ?_
          rintro e w3 ⟨rfl, hb3⟩
          have HB3 := Lib.hid (HB2.out.trans (hb3.mono (Nat.le_trans hws hws2)))
          clear hb3
          go_wp2_with fail
          go_ret
          exact ⟨rfl, HB3.out⟩
      · have K := K0.out
        rw [if_neg hca] at K
        have KK := Lib.hid K
        clear K K0 HR
        go_wp2_with fail
        all_goals
          refine KK.out.mono ?_
          rintro e w3 ⟨rfl, hb3⟩
          have HB3 := Lib.hid (HB2.out.trans (hb3.mono (Nat.le_trans hws hws2)))
          clear hb3
          go_wp2_with fail
          go_ret
          exact ⟨rfl, HB3.out⟩
    · have K0 := Lib.hid (key a (a + z) (by omega) (by omega) (by unfold sub; rw [if_neg h1, Nat.min_eq_left (by omega)]))
      clear key
      by_cases hca : c = a
      · have K := K0.out
        rw [if_pos hca] at K
        have hla : l.length = a := by omega
        have hz0 : z = 0 := by omega
        rw [show a + z - a = 0 by omega, show c - a = 0 by omega] at K
        subst hca hz0
        have KK := Lib.hid K
        clear K K0 HR
        go_wp2_with fail
        all_goals
          refine KK.out.mono ?_
          rintro e w3 ⟨rfl, hb3⟩
          have HB3 := Lib.hid (HB2.out.trans (hb3.mono (Nat.le_trans hws hws2)))
          clear hb3
          go_wp2_with fail
          go_ret
          exact ⟨rfl, HB3.out⟩
      · have K := K0.out
        rw [if_neg hca] at K
        rw [Nat.add_sub_cancel_left] at K
        have KK := Lib.hid K
        clear K K0 HR
        go_wp2_with fail
        all_goals
          refine KK.out.mono ?_
          rintro e w3 ⟨rfl, hb3⟩
          have HB3 := Lib.hid (HB2.out.trans (hb3.mono (Nat.le_trans hws hws2)))
          clear hb3
          go_wp2_with fail
          go_ret
          exact ⟨rfl, HB3.out⟩
end Go.Proofs.Ytijfabahpplimaa
