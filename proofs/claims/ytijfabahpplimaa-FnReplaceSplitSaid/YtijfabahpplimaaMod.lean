/-
  math.Mod: what it reckons with (normalize, Frexp, Ldexp), for positive finite numbers.
-/
import Derived.Test.YtijfabahpplimaaNum
import Derived.Lib.Hide
namespace Go.Proofs.Ytijfabahpplimaa
open Go.RowKit Ieee

theorem absw_rung {r : Nat} (h : r < 9218868437227405312) : absw r = r := Nat.mod_eq_of_lt (by omega)
theorem rung_eq0 {r : Nat} (h0 : 0 < r) (h : r < 9218868437227405312) : (FloatKind.f64.format.order r 0 == some .eq) = false := by
  show (double.order r 0 == some .eq) = false
  rw [ord_eq_rung h (by omega)]; exact decide_eq_false (by omega)
theorem rung_lt {r s : Nat} (hr : r < 9218868437227405312) (hs : s < 9218868437227405312) : (FloatKind.f64.format.order r s == some .lt) = decide (r < s) := ord_lt_rung hr hs
theorem rung_fin {r : Nat} (h : r < 9218868437227405312) : finB r = true := finB_true (fin_rung h)
theorem rung_nan {r : Nat} (h : r < 9218868437227405312) : nanB r = false := by have := rung_fin h; simp [finB] at this; exact this.1
theorem rung_inf {r : Nat} (h : r < 9218868437227405312) : infB r = false := by have := rung_fin h; simp [finB] at this; exact this.2

theorem normalize_any (r : Nat) (h : r < 9218868437227405312) (w : World) :
    Calls Try.prog 62 #[.float .f64 r] w fun e w' => e = .returned (.tuple #[.float .f64 (nrm r), .int .i64 (nex r)]) ∧ w = w' := by
  have hb : r < 18446744073709551616 := by omega
  have ha := absw_rung h
  rcases Nat.lt_or_ge r 4503599627370496 with hs | hs
  · have t : (FloatKind.f64.format.order (absw r) 4503599627370496 == some .lt) = true := by rw [ha, rung_lt h (by omega)]; exact decide_eq_true hs
    have k : ∀ w, (binOp .mul 25 (.float .f64 r) (.float .f64 4841369599423283200)).run Try.prog w = .ok (.float .f64 (nrm r)) w := fun w => run_float_arith w .mul 25 .f64 r _ _ (nrm_mul hs)
    have hn : nex r = -52 := by unfold nex; rw [if_pos hs]
    have HN := Lib.hid hn
    clear hn ha
    go_enter Try.func62, Try.ntmps62
    go_wp2_with (go_at_call 53; refine (abs_any r hb _).mono ?_; rintro e w' ⟨rfl, rfl⟩)
    go_ret2
    exact ⟨by rw [HN.out]; rfl, rfl⟩
  · have t : (FloatKind.f64.format.order (absw r) 4503599627370496 == some .lt) = false := by rw [ha, rung_lt h (by omega)]; exact decide_eq_false (by omega)
    have hn : nex r = 0 := by unfold nex; rw [if_neg (by omega)]
    have hm : nrm r = r := by unfold nrm; rw [if_neg (by omega)]
    have HN := Lib.hid hn
    have HM := Lib.hid hm
    clear hn hm ha
    go_enter Try.func62, Try.ntmps62
    go_wp2_with (go_at_call 53; refine (abs_any r hb _).mono ?_; rintro e w' ⟨rfl, rfl⟩)
    go_ret2
    exact ⟨by rw [HN.out, HM.out]; rfl, rfl⟩

theorem bits_exp {s : Nat} (h : s < 9223372036854775808) : bits .and .u64 ((s : Int) / 4503599627370496) 2047 = ((s / 4503599627370496 : Nat) : Int) := by
  have e : (s : Int) / 4503599627370496 = ((s / 4503599627370496 : Nat) : Int) := by omega
  rw [e]
  have h1 := u64_and_nat (s / 4503599627370496) 2047 (by omega) (by omega)
  have h2 : s / 4503599627370496 &&& 2047 = s / 4503599627370496 := by
    have := Nat.and_two_pow_sub_one_eq_mod (s / 4503599627370496) 11
    have e2 : (2 : Nat) ^ 11 - 1 = 2047 := by decide
    rw [e2] at this
    rw [this]
    exact Nat.mod_eq_of_lt (by have : (2 : Nat) ^ 11 = 2048 := by decide
                               omega)
  rw [h2] at h1
  exact h1
theorem ofInt_i64' (a : Nat) (ha : a < 9223372036854775808) : (BitVec.ofInt 64 (a : Int)).toNat = a := by
  rw [BitVec.ofInt_natCast, BitVec.toNat_ofNat]; exact Nat.mod_eq_of_lt (by omega)
theorem bits_exp' {s : Nat} (h : s < 9223372036854775808) : bits .and .i64 ((s : Int) / 4503599627370496) 2047 = ((s / 4503599627370496 : Nat) : Int) := by
  have e : (s : Int) / 4503599627370496 = ((s / 4503599627370496 : Nat) : Int) := by omega
  rw [e]
  have h2 : s / 4503599627370496 &&& 2047 = s / 4503599627370496 := by
    have := Nat.and_two_pow_sub_one_eq_mod (s / 4503599627370496) 11
    have e2 : (2 : Nat) ^ 11 - 1 = 2047 := by decide
    rw [e2] at this
    rw [this]
    exact Nat.mod_eq_of_lt (by have : (2 : Nat) ^ 11 = 2048 := by decide
                               omega)
  show IntKind.i64.wrap ((BitVec.ofInt 64 ((s / 4503599627370496 : Nat) : Int) &&& BitVec.ofInt 64 ((2047 : Nat) : Int)).toNat : Int) = _
  rw [BitVec.toNat_and, ofInt_i64' _ (by omega), ofInt_i64' 2047 (by omega), h2, IntKind.wrap_i64]
  omega
theorem bits_frac {s : Nat} (h : s < 9223372036854775808) : bits .andNot .u64 (s : Int) 9218868437227405312 = ((s % 4503599627370496 : Nat) : Int) := by
  have h1 := u64_andNot_nat s 9218868437227405312 (by omega) (by omega)
  have e : 18446744073709551615 - 9218868437227405312 = 9227875636482146303 := by decide
  rw [e] at h1
  have h2 : s &&& 9227875636482146303 = s % 4503599627370496 := by
    have a1 := Nat.and_two_pow_sub_one_eq_mod s 63
    rw [Nat.mod_eq_of_lt (by have : (2 : Nat) ^ 63 = 9223372036854775808 := by decide
                             omega)] at a1
    have a2 : (2 ^ 63 - 1) &&& 9227875636482146303 = 2 ^ 52 - 1 := by decide
    rw [← a1, Nat.and_assoc, a2, Nat.and_two_pow_sub_one_eq_mod, a1]
  rw [h2] at h1
  exact h1
theorem bits_join {f : Nat} (e : Nat) (hf : f < 4503599627370496) (he : e < 4096) : bits .or .u64 (f : Int) ((e * 4503599627370496 : Nat) : Int) = ((e * 4503599627370496 + f : Nat) : Int) := by
  have h1 := u64_or_nat f (e * 4503599627370496) (by omega) (by omega)
  have h2 : f ||| e * 4503599627370496 = e * 4503599627370496 + f := by
    rw [Nat.or_comm]
    exact nat_join 52 (e * 4503599627370496) f (by have : (2 : Nat) ^ 52 = 4503599627370496 := by decide
                                                   rw [this]; omega) hf
  rw [h2] at h1
  exact h1

set_option maxRecDepth 100000 in
theorem frexpIn_any (r : Nat) (h0 : 0 < r) (h : r < 9218868437227405312) (w : World) :
    Calls Try.prog 59 #[.float .f64 r] w fun e w' => e = .returned (.tuple #[.float .f64 (4602678819172646912 + (mant r - 4503599627370496)), .int .i64 (expo r + 53)]) ∧ w = w' := by
  have hb : r < 18446744073709551616 := by omega
  have t0 := rung_eq0 h0 h
  have t1 := rung_nan h
  have t2 := rung_inf h
  obtain ⟨n1, n2, -⟩ := nrm_spec h0 h
  obtain ⟨m1, m2, m3, m4, m5, m6⟩ := mant_spec h0 h
  have b1 := run_bitsOf (nrm r)
  have q1 := bits_exp (s := nrm r) (by omega)
  have q2 := bits_frac (s := nrm r) (by omega)
  have q3 := bits_join (f := nrm r % 4503599627370496) 1022 (Nat.mod_lt _ (by omega)) (by omega)
  have b2 := run_ofBits (1022 * 4503599627370496 + nrm r % 4503599627370496)
  have hq : nrm r / 4503599627370496 ≤ 2047 := by omega
  have e1 : expo r + 53 = nex r + (((nrm r / 4503599627370496 : Nat) : Int) - 1023 + 1) := by unfold expo; omega
  have e2 : 1022 * 4503599627370496 + nrm r % 4503599627370496 = 4602678819172646912 + (mant r - 4503599627370496) := by unfold mant; omega
  rw [e2] at q3 b2
  have E1 := Lib.hid e1
  have c3 : ((1022 * 4503599627370496 : Nat) : Int) = 4602678819172646912 := by decide
  have c4 : ((nrm r % 4503599627370496 : Nat) : Int) = (nrm r : Int) % 4503599627370496 := by omega
  rw [c3, c4] at q3
  obtain ⟨fw, hfw⟩ : ∃ fw, fw = 4602678819172646912 + (mant r - 4503599627370496) := ⟨_, rfl⟩
  rw [← hfw] at q3 b2 ⊢
  have HFW := Lib.hid hfw
  clear e1 e2 c3 c4 hfw
  go_enter Try.func59, Try.ntmps59
  go_wp2_with (first
    | (go_at_call 50; refine (isInf_any r hb _).mono ?_; rintro e w' ⟨rfl, rfl⟩)
    | (go_at_call 51; refine (isNaN_any r _).mono ?_; rintro e w' ⟨rfl, rfl⟩)
    | (go_at_call 62; refine (normalize_any r h _).mono ?_; rintro e w' ⟨rfl, rfl⟩))
  go_ret2
  exact ⟨by rw [E1.out]; rfl, rfl⟩

theorem frexp_any (r : Nat) (h0 : 0 < r) (h : r < 9218868437227405312) (w : World) :
    Calls Try.prog 54 #[.float .f64 r] w fun e w' => e = .returned (.tuple #[.float .f64 (4602678819172646912 + (mant r - 4503599627370496)), .int .i64 (expo r + 53)]) ∧ w = w' := by
  go_enter Try.func54, Try.ntmps54
  go_wp2_with fail
  refine (frexpIn_any r h0 h _).mono ?_
  rintro e w' ⟨rfl, rfl⟩
  go_wp2
  go_ret2
  exact ⟨rfl, rfl⟩

set_option maxRecDepth 100000 in
theorem ldexpIn_any (y : Nat) (h0 : 0 < y) (h : y < 9218868437227405312) (k : Int) (hk : 0 ≤ k) (hk2 : k + expo y + 52 ≤ 1023) (hk3 : -1074 ≤ k + expo y + 52) (w : World) :
    Calls Try.prog 61 #[.float .f64 y, .int .i64 k] w fun e w' => (∃ L, e = .returned (.float .f64 L) ∧ L < 9218868437227405312 ∧ fv L = fv y * p2 k) ∧ w = w' := by
  have hb : y < 18446744073709551616 := by omega
  have t0 := rung_eq0 h0 h
  have t1 := rung_nan h
  have t2 := rung_inf h
  obtain ⟨n1, n2, -⟩ := nrm_spec h0 h
  obtain ⟨m1, m2, m3, m4, m5, m6⟩ := mant_spec h0 h
  have b1 := run_bitsOf (nrm y)
  have q1 := bits_exp' (s := nrm y) (by omega)
  have q2 := bits_frac (s := nrm y) (by omega)
  have he : k + expo y + 52 = k + nex y + (((nrm y / 4503599627370496 : Nat) : Int) - 1023) := by unfold expo; omega
  rw [he] at hk2 hk3
  have hX : expo y = nex y + (((nrm y / 4503599627370496 : Nat) : Int) - 1075) := by unfold expo; omega
  have hM : mant y - 4503599627370496 = nrm y % 4503599627370496 := by unfold mant; omega
  have c4 : ((nrm y % 4503599627370496 : Nat) : Int) = (nrm y : Int) % 4503599627370496 := by omega
  have c5 : ((nrm y / 4503599627370496 : Nat) : Int) = (nrm y : Int) / 4503599627370496 := by omega
  by_cases hlow : k + nex y + (((nrm y / 4503599627370496 : Nat) : Int) - 1023) < -1022
  · obtain ⟨E, hE⟩ : ∃ E : Nat, (E : Int) = k + expo y + 1128 := ⟨(k + expo y + 1128).toNat, by omega⟩
    have hE2 : E ≤ 53 := by omega
    have hE1 : 1 ≤ E := by omega
    obtain ⟨L, l1, l2, l3⟩ := ldexp_low h0 h k hk E hE hE1 hE2
    have q3 := bits_join (f := nrm y % 4503599627370496) E (Nat.mod_lt _ (by omega)) (by omega)
    have c6 : ((E * 4503599627370496 : Nat) : Int) = (k + nex y + ((nrm y : Int) / 4503599627370496 - 1023) + 53 + 1023) * 4503599627370496 := by omega
    rw [c4, c6, ← hM] at q3
    obtain ⟨W, hW⟩ : ∃ W, W = E * 4503599627370496 + (mant y - 4503599627370496) := ⟨_, rfl⟩
    rw [← hW] at l1 q3
    have b2 := run_ofBits W
    have km : ∀ w, (binOp .mul 25 (.float .f64 4368491638549381120) (.float .f64 W)).run Try.prog w = .ok (.float .f64 L) w := fun w => run_float_arith w .mul 25 .f64 _ _ L l1
    have L3 := Lib.hid l3
    clear hE l1 l3 c4 c5 c6 hW hM hX he m1 hE1 hE2
    go_enter Try.func61, Try.ntmps61
    go_wp2_with (first
      | (go_at_call 50; refine (isInf_any y hb _).mono ?_; rintro e w' ⟨rfl, rfl⟩)
      | (go_at_call 51; refine (isNaN_any y _).mono ?_; rintro e w' ⟨rfl, rfl⟩)
      | (go_at_call 62; refine (normalize_any y h _).mono ?_; rintro e w' ⟨rfl, rfl⟩))
    go_ret
    exact ⟨⟨L, rfl, l2, L3.out⟩, rfl⟩
  · obtain ⟨E, hE⟩ : ∃ E : Nat, (E : Int) = k + expo y + 1075 := ⟨(k + expo y + 1075).toNat, by omega⟩
    have hE2 : E ≤ 2046 := by omega
    have hE1 : 1 ≤ E := by omega
    obtain ⟨L, l1, l2, l3⟩ := ldexp_up h0 h k hk E hE hE1 hE2
    have q3 := bits_join (f := nrm y % 4503599627370496) E (Nat.mod_lt _ (by omega)) (by omega)
    have c6 : ((E * 4503599627370496 : Nat) : Int) = (k + nex y + ((nrm y : Int) / 4503599627370496 - 1023) + 1023) * 4503599627370496 := by omega
    rw [c4, c6, ← hM] at q3
    obtain ⟨W, hW⟩ : ∃ W, W = E * 4503599627370496 + (mant y - 4503599627370496) := ⟨_, rfl⟩
    rw [← hW] at l1 q3
    have b2 := run_ofBits W
    have km : ∀ w, (binOp .mul 25 (.float .f64 4607182418800017408) (.float .f64 W)).run Try.prog w = .ok (.float .f64 L) w := fun w => run_float_arith w .mul 25 .f64 _ _ L l1
    have L3 := Lib.hid l3
    clear hE l1 l3 c4 c5 c6 hW hM hX he m1 hE1 hE2
    go_enter Try.func61, Try.ntmps61
    go_wp2_with (first
      | (go_at_call 50; refine (isInf_any y hb _).mono ?_; rintro e w' ⟨rfl, rfl⟩)
      | (go_at_call 51; refine (isNaN_any y _).mono ?_; rintro e w' ⟨rfl, rfl⟩)
      | (go_at_call 62; refine (normalize_any y h _).mono ?_; rintro e w' ⟨rfl, rfl⟩))
    go_ret
    exact ⟨⟨L, rfl, l2, L3.out⟩, rfl⟩

theorem ldexp_any (y : Nat) (h0 : 0 < y) (h : y < 9218868437227405312) (k : Int) (hk : 0 ≤ k) (hk2 : k + expo y + 52 ≤ 1023) (hk3 : -1074 ≤ k + expo y + 52) (w : World) :
    Calls Try.prog 55 #[.float .f64 y, .int .i64 k] w fun e w' => (∃ L, e = .returned (.float .f64 L) ∧ L < 9218868437227405312 ∧ fv L = fv y * p2 k) ∧ w = w' := by
  go_enter Try.func55, Try.ntmps55
  go_wp2_with fail
  refine (ldexpIn_any y h0 h k hk hk2 hk3 _).mono ?_
  rintro e w' ⟨⟨L, rfl, l2, l3⟩, rfl⟩
  have L3 := Lib.hid l3
  clear l3
  go_wp2
  go_ret
  exact ⟨⟨L, rfl, l2, L3.out⟩, rfl⟩
end Go.Proofs.Ytijfabahpplimaa
