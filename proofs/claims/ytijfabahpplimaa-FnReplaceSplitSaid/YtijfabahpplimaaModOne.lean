/-
  math.Mod of a whole number by 1: it is 0.
-/
import Derived.Test.YtijfabahpplimaaMod
namespace Go.Proofs.Ytijfabahpplimaa
open Go.RowKit Ieee

theorem fv_zero0 : fv 0 = 0 := fv_zero false
theorem fv_rung_nonneg0 {r : Nat} (h : r < 9218868437227405312) : 0 ≤ fv r := by
  rw [← fv_zero0]; exact fv_le (by omega) h
theorem rung_zero {r : Nat} (h : r < 9218868437227405312) (h0 : fv r = 0) : r = 0 := by
  rcases Nat.eq_zero_or_pos r with h1 | h1
  · exact h1
  · have := fv_mono h1 h
    rw [fv_zero0, h0] at this
    exact absurd this (by grind)

/-- A round: the rest becomes less, and stays whole. -/
theorem round_whole {r y L : Nat} (hy0 : 0 < y) (hyr : y ≤ r) (hr : r < 9218868437227405312) (k : Int) (hk : k = (if mant r < mant y then expo r - 1 else expo r) - expo y) (hk0 : 0 ≤ k) (hL : L < 9218868437227405312) (hLv : fv L = fv y * p2 k) (hy1 : fv y = 1) (hw : ∃ m : Nat, fv r = (m : Rat)) :
    ∃ d, double.sub r L = some d ∧ d < 9218868437227405312 ∧ d < r ∧ ∃ m : Nat, fv d = (m : Rat) := by
  obtain ⟨a1, a2, a3, a4, a5, a6⟩ := mod_shift hy0 hyr hr k hk
  rw [← hLv] at a4 a5 a6
  obtain ⟨d, h1, h2, h3⟩ := sub_exact hr hL a4 a5
  refine ⟨d, h1, h2, fv_inj_lt h2 ?_, ?_⟩
  · rw [h3]
    grind
  · obtain ⟨m, hm⟩ := hw
    obtain ⟨j, rfl⟩ : ∃ j : Nat, k = (j : Int) := ⟨k.toNat, by omega⟩
    rw [hy1, p2_nat] at hLv
    have hle : fv L ≤ fv r := a4
    rw [hLv, hm] at hle h3
    have h4 : 2 ^ j ≤ m := by
      have : ((2 ^ j : Nat) : Rat) ≤ (m : Rat) := by grind
      exact Rat.natCast_le_natCast.1 this
    refine ⟨m - 2 ^ j, ?_⟩
    have h5 : ((m - 2 ^ j : Nat) : Rat) = (m : Rat) - ((2 ^ j : Nat) : Rat) := by
      have : ((m - 2 ^ j + 2 ^ j : Nat) : Rat) = (m : Rat) := by rw [Nat.sub_add_cancel h4]
      rw [Rat.natCast_add] at this
      grind
    rw [h5, h3]
    grind
def fbits1 (v : Value) : Nat := match v with
  | .float _ b => b
  | _ => 0

set_option maxRecDepth 100000 in
set_option maxHeartbeats 3200000 in
theorem mod_one (x y n : Nat) (hx : x < 9218868437227405312) (hn : fv x = (n : Rat)) (hy : y < 9218868437227405312) (hy0 : 0 < y) (hy1 : fv y = 1) (w : World) :
    Calls Try.prog 49 #[.float .f64 x, .float .f64 y] w fun e w' => e = .returned (.float .f64 0) ∧ w = w' := by
  have n1 : infB x = false := rung_inf hx
  have n2 : nanB x = false := rung_nan hx
  have n3 : nanB y = false := rung_nan hy
  have hyz : (FloatKind.f64.format.order y 0 == some .eq) = false := rung_eq0 hy0 hy
  have hs : (FloatKind.f64.format.order x 0 == some .lt) = false := by
    have h : (FloatKind.f64.format.order x 0 == some .lt) = decide (x < 0) := ord_lt_rung hx (by decide)
    rw [h]; simp
  have xl : x < 18446744073709551616 := by omega
  have habs := fun w => abs_any y (by omega) w
  simp only [absw_rung hy] at habs
  have HABS := Lib.hid habs
  have HN := Lib.hid (show ∃ m : Nat, fv x = (m : Rat) from ⟨n, hn⟩)
  have HY1 := Lib.hid hy1
  clear habs hn hy1
  go_enter Try.func49, Try.ntmps49
  go_wp2_with (first
    | (go_at_call 50; refine (isInf_any x xl _).mono ?_; rintro e w' ⟨rfl, rfl⟩)
    | (go_at_call 51; refine (isNaN_any _ _).mono ?_; rintro e w' ⟨rfl, rfl⟩)
    | (go_at_call 53; refine (HABS.out _).mono ?_; rintro e w' ⟨rfl, rfl⟩)
    | (go_at_call 54; refine (frexp_any y hy0 hy _).mono ?_; rintro e w' ⟨rfl, rfl⟩))
  go_loop [7] (fun r => ∃ ρ : Nat, r = .float .f64 ρ ∧ ρ < 9218868437227405312 ∧ Hid (∃ m : Nat, fv ρ = (m : Rat))) (fun r => fbits1 r)
  case atStart => exact ⟨x, rfl, hx, HN⟩
  case round =>
    obtain ⟨ρ, rfl, hρ, HW⟩ := hrel
    by_cases hge : y ≤ ρ
    · have t1 : (FloatKind.f64.format.order ρ y == some .gt || FloatKind.f64.format.order ρ y == some .eq) = true := by
        have a1 : (FloatKind.f64.format.order ρ y == some .gt) = decide (y < ρ) := ord_gt_rung hρ hy
        have a2 : (FloatKind.f64.format.order ρ y == some .eq) = decide (ρ = y) := ord_eq_rung hρ hy
        rw [a1, a2]; simp; omega
      have t2 : (FloatKind.f64.format.order (4602678819172646912 + (mant ρ - 4503599627370496)) (4602678819172646912 + (mant y - 4503599627370496)) == some .lt) = decide (mant ρ < mant y) := by
        obtain ⟨-, c1, c2, -⟩ := mant_spec (r := ρ) (by omega) hρ
        obtain ⟨-, c3, c4, -⟩ := mant_spec (r := y) hy0 hy
        rw [rung_lt (by omega) (by omega), Bool.eq_iff_iff]
        simp only [decide_eq_true_eq]
        omega
      have hρp : 0 < ρ := by omega
      obtain ⟨-, -, -, e1, e2, -⟩ := mant_spec (r := ρ) hρp hρ
      obtain ⟨-, -, -, e3, e4, -⟩ := mant_spec (r := y) hy0 hy
      by_cases hm : mant ρ < mant y
      · have HK := Lib.hid (mod_shift hy0 hge hρ (expo ρ + 53 - 1 - (expo y + 53)) (by rw [if_pos hm]; omega))
        have HR := Lib.hid (fun L hL hv => round_whole (L := L) hy0 hge hρ (expo ρ + 53 - 1 - (expo y + 53)) (by rw [if_pos hm]; omega) HK.out.1 hL hv HY1.out HW.out)
        rw [decide_eq_true hm] at t2
        clear hm
        go_wp2_with (go_at_call 54; refine (frexp_any ρ hρp hρ _).mono ?_; rintro e w' ⟨rfl, rfl⟩)
        refine (ldexp_any y hy0 hy _ HK.out.1 (by have := HK.out.2.1; omega) (by have := HK.out.2.2.1; omega) _).mono ?_
        rintro e w' ⟨⟨L, rfl, hL, hLv⟩, rfl⟩
        obtain ⟨d, d1, d2, d3, d4⟩ := HR.out L hL hLv
        have km : ∀ w, (binOp .sub 25 (.float .f64 ρ) (.float .f64 L)).run Try.prog w = .ok (.float .f64 d) w := fun w => run_float_arith w .sub 25 .f64 ρ L d d1
        have D4 := Lib.hid d4
        clear d1 hLv t1 t2 d4
        go_wp2
        go_round
        case rel => exact ⟨d, rfl, d2, D4⟩
        case measure => simp [fbits1]; omega
      · have HK := Lib.hid (mod_shift hy0 hge hρ (expo ρ + 53 - (expo y + 53)) (by rw [if_neg hm]; omega))
        have HR := Lib.hid (fun L hL hv => round_whole (L := L) hy0 hge hρ (expo ρ + 53 - (expo y + 53)) (by rw [if_neg hm]; omega) HK.out.1 hL hv HY1.out HW.out)
        rw [decide_eq_false hm] at t2
        clear hm
        go_wp2_with (go_at_call 54; refine (frexp_any ρ hρp hρ _).mono ?_; rintro e w' ⟨rfl, rfl⟩)
        refine (ldexp_any y hy0 hy _ HK.out.1 (by have := HK.out.2.1; omega) (by have := HK.out.2.2.1; omega) _).mono ?_
        rintro e w' ⟨⟨L, rfl, hL, hLv⟩, rfl⟩
        obtain ⟨d, d1, d2, d3, d4⟩ := HR.out L hL hLv
        have km : ∀ w, (binOp .sub 25 (.float .f64 ρ) (.float .f64 L)).run Try.prog w = .ok (.float .f64 d) w := fun w => run_float_arith w .sub 25 .f64 ρ L d d1
        have D4 := Lib.hid d4
        clear d1 hLv t1 t2 d4
        go_wp2
        go_round
        case rel => exact ⟨d, rfl, d2, D4⟩
        case measure => simp [fbits1]; omega
    · have t1 : (FloatKind.f64.format.order ρ y == some .gt || FloatKind.f64.format.order ρ y == some .eq) = false := by
        have a1 : (FloatKind.f64.format.order ρ y == some .gt) = decide (y < ρ) := ord_gt_rung hρ hy
        have a2 : (FloatKind.f64.format.order ρ y == some .eq) = decide (ρ = y) := ord_eq_rung hρ hy
        rw [a1, a2]; simp; omega
      have hz : ρ = 0 := by
        obtain ⟨m, hm⟩ := HW.out
        have h1 : fv ρ < fv y := fv_mono (by omega) hy
        rw [HY1.out, hm] at h1
        have h2 : m < 1 := Rat.natCast_lt_natCast.1 (by simpa using h1)
        refine rung_zero hρ ?_
        rw [hm, show m = 0 by omega]
        rfl
      subst hz
      go_wp2
      go_ret
      exact ⟨rfl, rfl⟩

theorem modOne_any (x n : Nat) (hx : x < 9218868437227405312) (hn : fv x = (n : Rat)) (w : World) :
    Calls Try.prog 43 #[.float .f64 x, .float .f64 4607182418800017408] w fun e w' => e = .returned (.float .f64 0) ∧ w = w' := by
  have hy1 : fv 4607182418800017408 = 1 := by
    rw [fv_of read_one]
    show ((4503599627370496 : Nat) : Rat) * p2 (-52) = 1
    have := p2_neg_mul 52
    rw [Rat.mul_comm]
    exact this
  have K := Lib.hid (fun w => mod_one x 4607182418800017408 n hx hn (by decide) (by decide) hy1 w)
  clear hn hy1
  go_enter Try.func43, Try.ntmps43
  go_wp2_with (go_at_call 49; refine (K.out _).mono ?_; rintro e w' ⟨rfl, rfl⟩)
  go_ret
  exact ⟨rfl, rfl⟩
end Go.Proofs.Ytijfabahpplimaa
