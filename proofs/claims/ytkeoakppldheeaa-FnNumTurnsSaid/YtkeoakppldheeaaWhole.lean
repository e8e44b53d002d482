/-
  spec.Whole: if it says yes, the float is a whole number within what is safe; and the operations on bits of int64.
-/
import Derived.Test.YtkeoakppldheeaaBitwise
namespace Go.Proofs.Ytkeoakppldheeaa
open Go.RowKit Ieee

theorem cut_zero_le (s : Bool) (m : Nat) (i : Int) : ((Toward.zero.cut s (m <<< i.toNat) (-i).toNat : Nat) : Rat) ≤ (m : Rat) * p2 i := by
  rw [Nat.shiftLeft_eq]
  rcases Int.le_total 0 i with hi | hi
  · obtain ⟨k, rfl⟩ : ∃ k : Nat, i = k := ⟨i.toNat, by omega⟩
    have e : (-(k : Int)).toNat = 0 := by omega
    have e1 : ((k : Int)).toNat = k := by omega
    rw [e, e1]
    unfold Toward.cut
    simp only [Nat.shiftLeft_eq, Nat.one_mul, Nat.zero_min, Nat.pow_zero, Nat.div_one, Bool.toNat_false, Nat.add_zero]
    rw [p2_nat, Rat.natCast_mul]
    exact Rat.le_refl
  · obtain ⟨k, rfl⟩ : ∃ k : Nat, i = -(k : Int) := ⟨(-i).toNat, by omega⟩
    have e : (-(k : Int)).toNat = 0 := by omega
    have e1 : (- -(k : Int)).toNat = k := by omega
    rw [e, e1, Nat.pow_zero, Nat.mul_one]
    have h1 := p2_neg_mul k
    unfold Toward.cut
    simp only [Nat.shiftLeft_eq, Nat.one_mul, Bool.toNat_false, Nat.add_zero]
    rcases Nat.lt_or_ge (m.log2 + 2) k with hk | hk
    · rw [Nat.min_eq_right (by omega)]
      have h2 : m < 2 ^ (m.log2 + 1) := Nat.lt_log2_self
      have h3 : 2 ^ (m.log2 + 1) ≤ 2 ^ (m.log2 + 2) := Nat.pow_le_pow_right (by omega) (by omega)
      rw [Nat.div_eq_of_lt (by omega)]
      exact Rat.mul_nonneg Rat.natCast_nonneg (Rat.le_of_lt (p2_pos _))
    · rw [Nat.min_eq_left hk]
      have h2 : m / 2 ^ k * 2 ^ k ≤ m := Nat.div_mul_le_self m (2 ^ k)
      have h3 := Rat.mul_le_mul_of_nonneg_right (Rat.natCast_le_natCast.2 h2) (Rat.le_of_lt (p2_pos (-(k : Int))))
      rw [Rat.natCast_mul, Rat.mul_assoc, Rat.mul_comm ((2 ^ k : Nat) : Rat), h1, Rat.mul_one] at h3
      exact h3

/-- The word of a float, made whole towards zero. -/
theorem run_trunc (x : Nat) (hx : fin x) : ∃ z, z < 18446744073709551616 ∧ (-9007199254740992 < fv x → fv x < 9007199254740992 → fin z ∧ (fv x = fv z → ∃ a, Safe x a)) ∧ ∀ w, (callFunc 55 #[.float .f64 x]).run Try.prog w = .ok (.value (.float .f64 z)) w := by
  obtain ⟨s, m, i, hr⟩ := hx
  obtain ⟨N, hN⟩ : ∃ N, N = Toward.zero.cut s (m <<< i.toNat) (-i).toNat := ⟨_, rfl⟩
  refine ⟨double.nearest s N 0, double.nearest_lt s N 0, ?_, fun w => ?_⟩
  · intro h1 h2
    have hfx : fin x := ⟨_, _, _, hr⟩
    have hle := cut_zero_le s m i
    rw [← hN] at hle
    have hNb : N < 9007199254740992 := by
      have hlt : (m : Rat) * p2 i < ((9007199254740992 : Nat) : Rat) := by
        have e9 : ((9007199254740992 : Nat) : Rat) = 9007199254740992 := rfl
        rw [e9]
        rw [fv_of hr] at h1 h2
        unfold rv at h1 h2
        cases s
        · simpa using h2
        · simp at h1
          exact h1
      exact Rat.natCast_lt_natCast.1 (Std.lt_of_le_of_lt hle hlt)
    rcases Nat.eq_zero_or_pos N with h0 | h0
    · refine ⟨by rw [h0]; exact ⟨_, _, _, nearest_zero s 0⟩, fun he => ⟨0, hfx, ?_, by omega, by omega⟩⟩
      rw [he, h0, fv_of (nearest_zero s 0)]
      unfold rv
      cases s <;> simp
    · obtain ⟨n, hn⟩ : ∃ n : Int, n = if s then -(N : Int) else (N : Int) := ⟨_, rfl⟩
      have hs : decide (n < 0) = s := by
        rw [hn]; cases s
        · simp
        · simp; omega
      have ha : n.natAbs = N := by
        rw [hn]; cases s <;> simp
      obtain ⟨a1, a2⟩ := int_fin n (by rw [hn]; split <;> omega) (by rw [hn]; split <;> omega)
      rw [hs, ha] at a1 a2
      refine ⟨a1, fun he => ⟨n, hfx, by rw [he, a2], ?_, ?_⟩⟩
      · rw [hn]; split <;> omega
      · rw [hn]; split <;> omega
  · rw [run_callFunc_extern Try.func55 (by kernel_rfl) (by kernel_rfl) (by kernel_rfl) (e := Extern.MathFloor.toIntegral "math.archTrunc" .zero) (by kernel_rfl)]
    have hd : Extern.MathFloor.toIntegral "math.archTrunc" .zero #[.float .f64 x] = (match double.read x with
      | .nan s t => if FloatKind.f64.format.quiet t = t then pure (.float .f64 x) else do
          let kept ← choose (.extern "math.Floor,Ceil,Trunc,RoundToEven.signallingNaN kept" 2)
          pure (.float .f64 (if kept == 1 then x else FloatKind.f64.encode (.nan s (FloatKind.f64.format.quiet t))))
      | d => pure (.float .f64 (FloatKind.f64.encode (d.integral .zero)))) := rfl
    rw [hd, hr]
    simp only [Datum.integral, ← hN]
    simp
    rfl

theorem trunc_any (x z : Nat) (hz : ∀ w, (callFunc 55 #[.float .f64 x]).run Try.prog w = .ok (.value (.float .f64 z)) w) (w : World) :
    Calls Try.prog 42 #[.float .f64 x] w fun e w' => e = .returned (.float .f64 z) ∧ w = w' := by
  go_enter Try.func42, Try.ntmps42
  go_wp2
  go_ret
  exact ⟨rfl, rfl⟩

set_option maxRecDepth 100000 in
theorem integer_any (x : Nat) (hx : fin x) (w : World) :
    Calls Try.prog 30 #[.float .f64 x] w fun e w' => (∃ a b, e = .returned (.tuple #[.int .i64 a, .bool b]) ∧ (b = true → ∃ a', Safe x a')) ∧ w = w' := by
  obtain ⟨z, hz1, hz2, hz3⟩ := run_trunc x hx
  have r1 : double.read 14069245235905429504 = .number true 4503599627370496 1 := by rfl
  have r2 : double.read 4845873199050653696 = .number false 4503599627370496 1 := by rfl
  have g1 := ord_gt hx (⟨_, _, _, r1⟩ : fin 14069245235905429504)
  have g2 := ord_lt hx (⟨_, _, _, r2⟩ : fin 4845873199050653696)
  have e2 : p2 1 = 2 := rfl
  have v1 : fv 14069245235905429504 = -9007199254740992 := by
    rw [fv_of r1]; unfold rv; rw [e2]; simp
    have : ((4503599627370496 : Nat) : Rat) = 4503599627370496 := rfl
    grind
  have v2 : fv 4845873199050653696 = 9007199254740992 := by
    rw [fv_of r2]; unfold rv; rw [e2]; simp
    have : ((4503599627370496 : Nat) : Rat) = 4503599627370496 := rfl
    grind
  rw [v1] at g1
  rw [v2] at g2
  by_cases hb : -9007199254740992 < fv x ∧ fv x < 9007199254740992
  · obtain ⟨b1, b2⟩ := hb
    obtain ⟨hzf, hzs⟩ := hz2 b1 b2
    have t1 : (FloatKind.f64.format.order x 14069245235905429504 == some .gt) = true := by
      show (double.order x 14069245235905429504 == some .gt) = true
      rw [g1]; exact decide_eq_true b1
    have t2 : (FloatKind.f64.format.order x 4845873199050653696 == some .lt) = true := by
      show (double.order x 4845873199050653696 == some .lt) = true
      rw [g2]; exact decide_eq_true b2
    have g3 := ord_eq hx hzf
    clear g1 g2 r1 r2 v1 v2 e2 b1 b2 hz2
    by_cases he : fv x = fv z
    · obtain ⟨a, ha⟩ := hzs he
      have t3 : (FloatKind.f64.format.order x z == some .eq) = true := by
        show (double.order x z == some .eq) = true
        rw [g3]; exact decide_eq_true he
      have t4 : (FloatKind.f64.format.order x z != some .eq) = false := by
        show (!(double.order x z == some .eq)) = false
        rw [g3, decide_eq_true he]; rfl
      have k1 : ∀ w, (convert 23 2 (.float .f64 x)).run Try.prog w = .ok (.int .i64 a) w := fun w => run_convert_float_int w _ _ _ _ _ _ (by kernel_rfl) Try.underlying2 (safe_int ha)
      have HA := Lib.hid ha
      have HZ := Lib.hid hz3
      clear g3 he hzs ha hz3
      go_enter Try.func30, Try.ntmps30
      go_wp2_with (go_at_call 42; refine (trunc_any x z HZ.out _).mono ?_; rintro e w' ⟨rfl, rfl⟩)
      go_ret2
      exact ⟨⟨a, true, rfl, fun _ => ⟨a, HA.out⟩⟩, rfl⟩
    · have t3 : (FloatKind.f64.format.order x z == some .eq) = false := by
        show (double.order x z == some .eq) = false
        rw [g3]; exact decide_eq_false he
      have t4 : (FloatKind.f64.format.order x z != some .eq) = true := by
        show (!(double.order x z == some .eq)) = true
        rw [g3, decide_eq_false he]; rfl
      have HZ := Lib.hid hz3
      clear g3 he hzs hz3
      go_enter Try.func30, Try.ntmps30
      go_wp2_with (go_at_call 42; refine (trunc_any x z HZ.out _).mono ?_; rintro e w' ⟨rfl, rfl⟩)
      go_ret2
      exact ⟨⟨0, false, rfl, fun h => by cases h⟩, rfl⟩
  · have HZ := Lib.hid hz3
    have hcase : (FloatKind.f64.format.order x 14069245235905429504 == some .gt) = false ∨ (FloatKind.f64.format.order x 14069245235905429504 == some .gt) = true ∧ (FloatKind.f64.format.order x 4845873199050653696 == some .lt) = false := by
      by_cases b1 : -9007199254740992 < fv x
      · right
        refine ⟨?_, ?_⟩
        · show (double.order x 14069245235905429504 == some .gt) = true
          rw [g1]; exact decide_eq_true b1
        · show (double.order x 4845873199050653696 == some .lt) = false
          rw [g2]; exact decide_eq_false (fun h => hb ⟨b1, h⟩)
      · left
        show (double.order x 14069245235905429504 == some .gt) = false
        rw [g1]; exact decide_eq_false b1
    clear g1 g2 r1 r2 v1 v2 e2 hb hz2 hz3
    rcases hcase with t1 | ⟨t1, t2⟩
    all_goals
      go_enter Try.func30, Try.ntmps30
      go_wp2
      go_ret2
      exact ⟨⟨0, false, rfl, fun h => by cases h⟩, rfl⟩

theorem whole_any (x : Nat) (hx : fin x) (w : World) :
    Calls Try.prog 15 #[.float .f64 x] w fun e w' => (∃ a b, e = .returned (.tuple #[.int .i64 a, .bool b]) ∧ (b = true → ∃ a', Safe x a')) ∧ w = w' := by
  go_enter Try.func15, Try.ntmps15
  go_wp2_with fail
  refine (integer_any x hx _).mono ?_
  rintro e w' ⟨⟨a, b, rfl, hb⟩, rfl⟩
  have HB := Lib.hid hb
  clear hb
  go_wp2
  go_ret2
  exact ⟨⟨a, b, rfl, HB.out⟩, rfl⟩

/-! ### and, or, xor -/
theorem band_any (a b : Int) (w : World) :
    Calls Try.prog 57 #[.int .i64 a, .int .i64 b] w fun e w' => e = .returned (.int .i64 (bits .and .i64 a b)) ∧ w = w' := by
  go_enter Try.func57, Try.ntmps57
  go_wp2
  go_ret
  exact ⟨rfl, rfl⟩
theorem bor_any (a b : Int) (w : World) :
    Calls Try.prog 58 #[.int .i64 a, .int .i64 b] w fun e w' => e = .returned (.int .i64 (bits .or .i64 a b)) ∧ w = w' := by
  go_enter Try.func58, Try.ntmps58
  go_wp2
  go_ret
  exact ⟨rfl, rfl⟩
theorem bxor_any (a b : Int) (w : World) :
    Calls Try.prog 59 #[.int .i64 a, .int .i64 b] w fun e w' => e = .returned (.int .i64 (bits .xor .i64 a b)) ∧ w = w' := by
  go_enter Try.func59, Try.ntmps59
  go_wp2
  go_ret
  exact ⟨rfl, rfl⟩
theorem bits_range (op : BinOp) (a b : Int) : -9223372036854775808 ≤ bits op .i64 a b ∧ bits op .i64 a b ≤ 9223372036854775807 := by
  unfold bits
  simp only [IntKind.wrap_i64]
  omega
theorem band_comm (a b : Int) : bits .and .i64 a b = bits .and .i64 b a := by unfold bits; simp only [BitVec.and_comm]
theorem bor_comm (a b : Int) : bits .or .i64 a b = bits .or .i64 b a := by unfold bits; simp only [BitVec.or_comm]
theorem bxor_comm (a b : Int) : bits .xor .i64 a b = bits .xor .i64 b a := by unfold bits; simp only [BitVec.xor_comm]
end Go.Proofs.Ytkeoakppldheeaa
