/-
  math.Mod: what it answers: a rest that is less than the divisor, in size, and has not the other sign than the number.
-/
import Derived.Test.YtkeoakppldheeaaMod
namespace Go.Proofs.Ytkeoakppldheeaa
open Go.RowKit Ieee

/-- What is asked of the rest. -/
def Good (x y o : Nat) : Prop := fin o ∧ absw o < absw y ∧ absw o ≤ absw x ∧ (fv o = 0 ∨ (fv o < 0 ↔ fv x < 0))

theorem neg_word' (x : Nat) : Op.negFloat .f64 x = x ^^^ 2 ^ 63 := rfl
theorem xor_low {r : Nat} (h : r < 9223372036854775808) : r ^^^ 2 ^ 63 = r + 9223372036854775808 ∧ (r + 9223372036854775808) ^^^ 2 ^ 63 = r := by
  have e1 : r ^^^ 2 ^ 63 = r + 9223372036854775808 := by
    have a1 : (r ^^^ 2 ^ 63) % 2 ^ 63 = r := by
      rw [Nat.xor_mod_two_pow]; simp
      exact h
    have a2 : (r ^^^ 2 ^ 63) / 2 ^ 63 = 1 := by
      rw [Nat.xor_div_two_pow]
      have b1 : r / 2 ^ 63 = 0 := Nat.div_eq_of_lt h
      have b2 : (2 : Nat) ^ 63 / 2 ^ 63 = 1 := Nat.div_self (by omega)
      rw [b1, b2]; rfl
    have a3 := Nat.div_add_mod (r ^^^ 2 ^ 63) (2 ^ 63)
    rw [a1, a2] at a3
    have : (2 : Nat) ^ 63 = 9223372036854775808 := rfl
    omega
  refine ⟨e1, ?_⟩
  rw [← e1, Nat.xor_assoc, Nat.xor_self, Nat.xor_zero]

/-- A word: its rung, and its sign. -/
theorem word_split {x : Nat} (hx : fin x) (hl : x < 18446744073709551616) : absw x < 9218868437227405312 ∧ (x = absw x ∧ fv x = fv (absw x) ∨ x = absw x + 9223372036854775808 ∧ fv x = -fv (absw x)) := by
  have ha : absw x = x % 9223372036854775808 := rfl
  obtain ⟨s, m, i, hr⟩ := hx
  have hr' := read_absw hr
  have hb : absw x < 9218868437227405312 := by
    rcases Nat.lt_or_ge (absw x) 9218868437227405312 with h | h
    · exact h
    · exfalso
      unfold Format.read at hr'
      rw [dbl_place, dbl_bin, dbl_inf, dbl_sign] at hr'
      simp only at hr'
      rw [if_neg (by omega), if_neg (by omega)] at hr'
      split at hr' <;> cases hr'
  refine ⟨hb, ?_⟩
  rcases Nat.lt_or_ge x 9223372036854775808 with h | h
  · left
    have e : absw x = x := by rw [ha]; exact Nat.mod_eq_of_lt h
    exact ⟨e.symm, by rw [e]⟩
  · right
    have e : x = absw x + 9223372036854775808 := by omega
    refine ⟨e, ?_⟩
    have hs : s = true := by
      unfold Format.read at hr
      rw [dbl_place, dbl_bin, dbl_inf, dbl_sign] at hr
      have e1 : x / 9223372036854775808 % 2 = 1 := by omega
      simp only [e1] at hr
      split at hr
      · injection hr with q; exact q.symm
      · split at hr
        · injection hr with q; exact q.symm
        · split at hr <;> cases hr
    rw [fv_of hr, fv_of hr', hs]
    rfl
theorem fv_rung_nonneg {r : Nat} (h : r < 9218868437227405312) : 0 ≤ fv r := by
  have z : fv 0 = 0 := fv_zero false
  rw [← z]; exact fv_le (by omega) h
theorem neg_rung {r : Nat} (h : r < 9218868437227405312) : Op.negFloat .f64 r = r + 9223372036854775808 ∧ fin (r + 9223372036854775808) ∧ absw (r + 9223372036854775808) = r ∧ fv (r + 9223372036854775808) = -fv r := by
  refine ⟨(xor_low (by omega)).1, ?_, ?_, ?_⟩
  · have := word_fin true r h
    have e : double.word true r = r + 9223372036854775808 := by
      show double.signWeight + r = _
      rw [dbl_sign]; omega
    rwa [e] at this
  · unfold absw; omega
  · have := fv_flip false r h
    have e : double.word (!false) r = r + 9223372036854775808 := by
      show double.signWeight + r = _
      rw [dbl_sign]; omega
    rw [e, word_false] at this
    exact this

/-- A round: the rest becomes less. -/
theorem round_step {r y L : Nat} (hy0 : 0 < y) (hyr : y ≤ r) (hr : r < 9218868437227405312) (k : Int) (hk : k = (if mant r < mant y then expo r - 1 else expo r) - expo y) (hL : L < 9218868437227405312) (hLv : fv L = fv y * p2 k) :
    ∃ d, double.sub r L = some d ∧ d < 9218868437227405312 ∧ d < r := by
  obtain ⟨a1, a2, a3, a4, a5, a6⟩ := mod_shift hy0 hyr hr k hk
  rw [← hLv] at a4 a5 a6
  obtain ⟨d, h1, h2, h3⟩ := sub_exact hr hL a4 a5
  refine ⟨d, h1, h2, fv_inj_lt h2 ?_⟩
  rw [h3]
  grind
def fbits (v : Value) : Nat := match v with
  | .float _ b => b
  | _ => 0

set_option maxRecDepth 100000 in
set_option maxHeartbeats 3200000 in
/-- The loop: both numbers are finite, neither is 0; 's' tells whether the first one is below 0. -/
theorem mod_fin (x y : Nat) (hx : fin x) (hy : fin y) (xl : x < 18446744073709551616) (yl : y < 18446744073709551616) (hy0 : 0 < absw y) (hyi : absw y < 9218868437227405312) (hyz : (FloatKind.f64.format.order y 0 == some .eq) = false) (s : Bool) (hs : (FloatKind.f64.format.order x 0 == some .lt) = s)
    (r0 : Nat) (hr0 : r0 < 9218868437227405312) (hsx : s = false → r0 = x) (hsn : s = true → Op.negFloat .f64 x = r0) (w : World) :
    Calls Try.prog 70 #[.float .f64 x, .float .f64 y] w fun e w' => (∃ ρ, ρ < absw y ∧ ρ ≤ r0 ∧ e = .returned (.float .f64 (if s = true then Op.negFloat .f64 ρ else ρ))) ∧ w = w' := by
  have n1 : infB x = false := by have := finB_true hx; simp [finB] at this; exact this.2
  have n2 : nanB x = false := by have := finB_true hx; simp [finB] at this; exact this.1
  have n3 : nanB y = false := by have := finB_true hy; simp [finB] at this; exact this.1
  have NX := Lib.hid hsx
  have NN := Lib.hid hsn
  have habs := fun w => abs_any y yl w
  obtain ⟨ya, hya⟩ : ∃ ya, absw y = ya := ⟨_, rfl⟩
  simp only [hya] at habs
  have HABS := Lib.hid habs
  have YA := Lib.hid hya
  rw [hya] at hy0 hyi
  have kn : ∀ (b : Nat) (w : World), (Op.unary .neg (.float .f64 b)).run Try.prog w = .ok (.float .f64 (Op.negFloat .f64 b)) w := fun _ _ => rfl
  clear hsx hsn hx hy hya habs
  cases s
  all_goals
    go_enter Try.func70, Try.ntmps70
    go_wp2_with (first
      | (go_at_call 29; refine (isInf_any x xl _).mono ?_; rintro e w' ⟨rfl, rfl⟩)
      | (go_at_call 28; refine (isNaN_any _ _).mono ?_; rintro e w' ⟨rfl, rfl⟩)
      | (go_at_call 11; refine (HABS.out _).mono ?_; rintro e w' ⟨rfl, rfl⟩)
      | (go_at_call 73; refine (frexp_any ya hy0 hyi _).mono ?_; rintro e w' ⟨rfl, rfl⟩))
    go_loop [7] (fun r => ∃ ρ : Nat, r = .float .f64 ρ ∧ ρ < 9218868437227405312 ∧ ρ ≤ r0) (fun r => fbits r)
    case atStart => first | exact ⟨r0, by rw [NX.out trivial], hr0, Nat.le_refl _⟩ | exact ⟨r0, by rw [NN.out trivial], hr0, Nat.le_refl _⟩
    case round =>
      obtain ⟨ρ, rfl, hρ, hρ0⟩ := hrel
      by_cases hge : ya ≤ ρ
      · have t1 : (FloatKind.f64.format.order ρ ya == some .gt || FloatKind.f64.format.order ρ ya == some .eq) = true := by
          have a1 : (FloatKind.f64.format.order ρ ya == some .gt) = decide (ya < ρ) := ord_gt_rung hρ hyi
          have a2 : (FloatKind.f64.format.order ρ ya == some .eq) = decide (ρ = ya) := ord_eq_rung hρ hyi
          rw [a1, a2]; simp; omega
        have t2 : (FloatKind.f64.format.order (4602678819172646912 + (mant ρ - 4503599627370496)) (4602678819172646912 + (mant ya - 4503599627370496)) == some .lt) = decide (mant ρ < mant ya) := by
          obtain ⟨-, c1, c2, -⟩ := mant_spec (r := ρ) (by omega) hρ
          obtain ⟨-, c3, c4, -⟩ := mant_spec (r := ya) hy0 hyi
          rw [rung_lt (by omega) (by omega), Bool.eq_iff_iff]
          simp only [decide_eq_true_eq]
          omega
        have hρp : 0 < ρ := by omega
        obtain ⟨-, -, -, e1, e2, -⟩ := mant_spec (r := ρ) hρp hρ
        obtain ⟨-, -, -, e3, e4, -⟩ := mant_spec (r := ya) hy0 hyi
        by_cases hm : mant ρ < mant ya
        · have HK := Lib.hid (mod_shift hy0 hge hρ (expo ρ + 53 - 1 - (expo ya + 53)) (by rw [if_pos hm]; omega))
          have HR := Lib.hid (fun L hL hv => round_step (L := L) hy0 hge hρ (expo ρ + 53 - 1 - (expo ya + 53)) (by rw [if_pos hm]; omega) hL hv)
          rw [decide_eq_true hm] at t2
          clear hm
          go_wp2_with (go_at_call 73; refine (frexp_any ρ hρp hρ _).mono ?_; rintro e w' ⟨rfl, rfl⟩)
          refine (ldexp_any ya hy0 hyi _ HK.out.1 (by have := HK.out.2.1; omega) (by have := HK.out.2.2.1; omega) _).mono ?_
          rintro e w' ⟨⟨L, rfl, hL, hLv⟩, rfl⟩
          obtain ⟨d, d1, d2, d3⟩ := HR.out L hL hLv
          have km : ∀ w, (binOp .sub 23 (.float .f64 ρ) (.float .f64 L)).run Try.prog w = .ok (.float .f64 d) w := fun w => run_float_arith w .sub 23 .f64 ρ L d d1
          clear d1 hLv t1 t2
          go_wp2
          go_round
          case rel => exact ⟨d, rfl, d2, by omega⟩
          case measure => simp [fbits]; omega
        · have HK := Lib.hid (mod_shift hy0 hge hρ (expo ρ + 53 - (expo ya + 53)) (by rw [if_neg hm]; omega))
          have HR := Lib.hid (fun L hL hv => round_step (L := L) hy0 hge hρ (expo ρ + 53 - (expo ya + 53)) (by rw [if_neg hm]; omega) hL hv)
          rw [decide_eq_false hm] at t2
          clear hm
          go_wp2_with (go_at_call 73; refine (frexp_any ρ hρp hρ _).mono ?_; rintro e w' ⟨rfl, rfl⟩)
          refine (ldexp_any ya hy0 hyi _ HK.out.1 (by have := HK.out.2.1; omega) (by have := HK.out.2.2.1; omega) _).mono ?_
          rintro e w' ⟨⟨L, rfl, hL, hLv⟩, rfl⟩
          obtain ⟨d, d1, d2, d3⟩ := HR.out L hL hLv
          have km : ∀ w, (binOp .sub 23 (.float .f64 ρ) (.float .f64 L)).run Try.prog w = .ok (.float .f64 d) w := fun w => run_float_arith w .sub 23 .f64 ρ L d d1
          clear d1 hLv t1 t2
          go_wp2
          go_round
          case rel => exact ⟨d, rfl, d2, by omega⟩
          case measure => simp [fbits]; omega
      · have t1 : (FloatKind.f64.format.order ρ ya == some .gt || FloatKind.f64.format.order ρ ya == some .eq) = false := by
          have a1 : (FloatKind.f64.format.order ρ ya == some .gt) = decide (ya < ρ) := ord_gt_rung hρ hyi
          have a2 : (FloatKind.f64.format.order ρ ya == some .eq) = decide (ρ = ya) := ord_eq_rung hρ hyi
          rw [a1, a2]; simp; omega
        go_wp2
        go_ret
        exact ⟨⟨ρ, by rw [YA.out]; omega, hρ0, rfl⟩, rfl⟩

theorem nan_any (w : World) : Calls Try.prog 72 #[] w fun e w' => e = .returned (.float .f64 9221120237041090561) ∧ w = w' := by
  have b := run_ofBits 9221120237041090561
  have c : ((9221120237041090561 : Nat) : Int) = 9221120237041090561 := by decide
  rw [c] at b
  clear c
  go_enter Try.func72, Try.ntmps72
  go_wp2
  go_ret
  exact ⟨rfl, rfl⟩

set_option maxRecDepth 100000 in
theorem mod_nan (x y : Nat) (xl : x < 18446744073709551616) (hyz : (FloatKind.f64.format.order y 0 == some .eq) = false) (h : infB x = true ∨ infB x = false ∧ nanB x = true ∨ infB x = false ∧ nanB x = false ∧ nanB y = true) (w : World) :
    Calls Try.prog 70 #[.float .f64 x, .float .f64 y] w fun e w' => e = .returned (.float .f64 9221120237041090561) ∧ w = w' := by
  rcases h with h | ⟨h1, h⟩ | ⟨h1, h2, h⟩
  all_goals
    go_enter Try.func70, Try.ntmps70
    go_wp2_with (first
      | (go_at_call 29; refine (isInf_any x xl _).mono ?_; rintro e w' ⟨rfl, rfl⟩)
      | (go_at_call 28; refine (isNaN_any _ _).mono ?_; rintro e w' ⟨rfl, rfl⟩)
      | (go_at_call 72; refine (nan_any _).mono ?_; rintro e w' ⟨rfl, rfl⟩))
    go_ret
    exact ⟨rfl, rfl⟩

set_option maxRecDepth 100000 in
/-- Where the loop is not entered: the divisor's size is greater at once. -/
theorem mod_less (x y : Nat) (n1 : infB x = false) (n2 : nanB x = false) (n3 : nanB y = false) (xl : x < 18446744073709551616) (yl : y < 18446744073709551616) (hyz : (FloatKind.f64.format.order y 0 == some .eq) = false)
    (ya : Nat) (hya : absw y = ya) (s : Bool) (hs : (FloatKind.f64.format.order x 0 == some .lt) = s) (r : Nat) (hr : r = if s = true then Op.negFloat .f64 x else x)
    (ht : (FloatKind.f64.format.order r ya == some .gt || FloatKind.f64.format.order r ya == some .eq) = false) (fr : Value) (fe : Value)
    (hfr : ∀ w, Calls Try.prog 73 #[.float .f64 ya] w fun e w' => e = .returned (.tuple #[fr, fe]) ∧ w = w') (w : World) :
    Calls Try.prog 70 #[.float .f64 x, .float .f64 y] w fun e w' => e = .returned (.float .f64 (if s = true then Op.negFloat .f64 r else r)) ∧ w = w' := by
  have habs := fun w => abs_any y yl w
  simp only [hya] at habs
  have HABS := Lib.hid habs
  have HFR := Lib.hid hfr
  have kn : ∀ (b : Nat) (w : World), (Op.unary .neg (.float .f64 b)).run Try.prog w = .ok (.float .f64 (Op.negFloat .f64 b)) w := fun _ _ => rfl
  clear hya habs hfr
  subst hr
  cases s
  · have e0 : (if false = true then Op.negFloat .f64 x else x) = x := rfl
    rw [e0] at ht ⊢
    clear e0
    go_enter Try.func70, Try.ntmps70
    go_wp2_with (first
      | (go_at_call 29; refine (isInf_any x xl _).mono ?_; rintro e w' ⟨rfl, rfl⟩)
      | (go_at_call 28; refine (isNaN_any _ _).mono ?_; rintro e w' ⟨rfl, rfl⟩)
      | (go_at_call 11; refine (HABS.out _).mono ?_; rintro e w' ⟨rfl, rfl⟩)
      | (go_at_call 73; refine (HFR.out _).mono ?_; rintro e w' ⟨rfl, rfl⟩))
    go_loop [7] (fun r => r = .float .f64 x) (fun _ => 0)
    case atStart => rfl
    case round =>
      subst hrel
      go_wp2
      go_ret
      exact ⟨rfl, rfl⟩
  · have e0 : (if true = true then Op.negFloat .f64 x else x) = Op.negFloat .f64 x := rfl
    rw [e0] at ht ⊢
    clear e0
    obtain ⟨nx, hnx⟩ : ∃ nx, Op.negFloat .f64 x = nx := ⟨_, rfl⟩
    rw [hnx] at ht ⊢
    go_enter Try.func70, Try.ntmps70
    go_wp2_with (first
      | (go_at_call 29; refine (isInf_any x xl _).mono ?_; rintro e w' ⟨rfl, rfl⟩)
      | (go_at_call 28; refine (isNaN_any _ _).mono ?_; rintro e w' ⟨rfl, rfl⟩)
      | (go_at_call 11; refine (HABS.out _).mono ?_; rintro e w' ⟨rfl, rfl⟩)
      | (go_at_call 73; refine (HFR.out _).mono ?_; rintro e w' ⟨rfl, rfl⟩))
    go_loop [7] (fun r => r = .float .f64 nx) (fun _ => 0)
    case atStart => rfl
    case round =>
      subst hrel
      go_wp2
      go_ret
      exact ⟨rfl, rfl⟩

set_option maxRecDepth 100000 in
theorem frexp_inf (z : Nat) (zl : z < 18446744073709551616) (h1 : infB z = true) (h0 : (FloatKind.f64.format.order z 0 == some .eq) = false) (w : World) :
    Calls Try.prog 73 #[.float .f64 z] w fun e w' => e = .returned (.tuple #[.float .f64 z, .int .i64 0]) ∧ w = w' := by
  have key : ∀ w, Calls Try.prog 76 #[.float .f64 z] w fun e w' => e = .returned (.tuple #[.float .f64 z, .int .i64 0]) ∧ w = w' := by
    intro w
    go_enter Try.func76, Try.ntmps76
    go_wp2_with (first
      | (go_at_call 29; refine (isInf_any z zl _).mono ?_; rintro e w' ⟨rfl, rfl⟩)
      | (go_at_call 28; refine (isNaN_any z _).mono ?_; rintro e w' ⟨rfl, rfl⟩))
    go_ret2
    exact ⟨rfl, rfl⟩
  have KEY := Lib.hid key
  clear key
  go_enter Try.func73, Try.ntmps73
  go_wp2_with fail
  refine (KEY.out _).mono ?_
  rintro e w' ⟨rfl, rfl⟩
  go_wp2
  go_ret2
  exact ⟨rfl, rfl⟩
end Go.Proofs.Ytkeoakppldheeaa
