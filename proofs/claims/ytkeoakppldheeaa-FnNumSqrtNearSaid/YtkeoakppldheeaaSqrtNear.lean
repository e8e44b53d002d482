/-
  The walk of FnNumSqrtNear: it answers true.
-/
import Derived.Test.YtkeoakppldheeaaSqrtWalk
import Derived.Test.YtkeoakppldheeaaFinite
namespace Go.Proofs.Ytkeoakppldheeaa
open Go.RowKit Ieee

theorem zero_fin : fin 0 := fin_rung (by omega)
theorem fv_zero0 : fv 0 = 0 := fv_zero false

theorem near_facts (x : Nat) (hf : finB x = true) (b1 : (double.order x 118622047889322841 == some .lt) = false) (b2 : (double.order x 9094988921128908188 == some .gt) = false) :
    ∃ o wv d t, double.sqrt x = some o ∧ finB o = true ∧ (double.order o 0 == some .gt) = true ∧ double.mul o o = some wv ∧ double.sub wv x = some d ∧ d < 18446744073709551616 ∧ double.mul x 4382569440205035030 = some t ∧
      (double.order (absw d) t == some .lt || double.order (absw d) t == some .eq) = true := by
  have hfin := finB_fin hf
  obtain ⟨s, m, i, hr⟩ := hfin
  have r1 : double.read 118622047889322841 = .number false 6032057205060441 (-1049) := by rfl
  have r2 : double.read 9094988921128908188 = .number false 6724873095247260 944 := by rfl
  have r3 : double.read 4382569440205035030 = .number false 5070602400912918 (-102) := by rfl
  rw [ord_lt ⟨_, _, _, hr⟩ ⟨_, _, _, r1⟩, fv_of hr, fv_of r1] at b1
  rw [ord_gt ⟨_, _, _, hr⟩ ⟨_, _, _, r2⟩, fv_of hr, fv_of r2] at b2
  have b1 := Rat.not_lt.1 (of_decide_eq_false b1)
  have b2 := Rat.not_lt.1 (of_decide_eq_false b2)
  rw [rv_pos_eq] at b1 b2
  have lo : p2 (-997) ≤ ((6032057205060441 : Nat) : Rat) * p2 (-1049) := by
    rw [p2_split (show (-997 : Int) = 52 + -1049 by omega), p2_52]
    exact Rat.mul_le_mul_of_nonneg_right (Rat.natCast_le_natCast.2 (by omega)) (Rat.le_of_lt (p2_pos _))
  have hi : ((6724873095247260 : Nat) : Rat) * p2 944 ≤ p2 997 := by
    rw [p2_split (show (997 : Int) = 53 + 944 by omega), p2_53]
    exact Rat.mul_le_mul_of_nonneg_right (Rat.natCast_le_natCast.2 (by omega)) (Rat.le_of_lt (p2_pos _))
  have hs : s = false := by
    cases s
    · rfl
    · exfalso
      have h1 : 0 ≤ (m : Rat) * p2 i := Rat.mul_nonneg Rat.natCast_nonneg (Rat.le_of_lt (p2_pos i))
      have h2 : rv true m i = -((m : Rat) * p2 i) := rfl
      rw [h2] at b1
      have h3 := p2_pos (-997)
      grind
  subst hs
  rw [rv_pos_eq] at b1 b2
  have hm : 0 < m := by
    rcases Nat.eq_zero_or_pos m with h | h
    · subst h
      exfalso
      have h0 : ((0 : Nat) : Rat) = 0 := rfl
      rw [h0, Rat.zero_mul] at b1
      have h3 := p2_pos (-997)
      grind
    · exact h
  have hg : p2 (-53) * 9 ≤ ((5070602400912918 : Nat) : Rat) * p2 (-102) := by
    rw [p2_split (show (-53 : Int) = 49 + -102 by omega)]
    have e : p2 49 = ((562949953421312 : Nat) : Rat) := p2_nat 49
    rw [e]
    have h9 : ((9 : Nat) : Rat) = 9 := rfl
    have h1 : ((562949953421312 * 9 : Nat) : Rat) ≤ ((5070602400912918 : Nat) : Rat) := Rat.natCast_le_natCast.2 (by omega)
    have h2 := Rat.mul_le_mul_of_nonneg_right h1 (Rat.le_of_lt (p2_pos (-102)))
    rw [Rat.natCast_mul, h9] at h2
    refine Rat.le_trans (Std.le_of_eq ?_) h2
    generalize ((562949953421312 : Nat) : Rat) = q
    grind
  have hg1 : ((5070602400912918 : Nat) : Rat) * p2 (-102) ≤ 1 := by
    have e : ((5070602400912918 : Nat) : Rat) * p2 (-102) ≤ p2 53 * p2 (-102) := by
      rw [p2_53]
      exact Rat.mul_le_mul_of_nonneg_right (Rat.natCast_le_natCast.2 (by omega)) (Rat.le_of_lt (p2_pos _))
    rw [← p2_add] at e
    have e0 : p2 0 = 1 := rfl
    rw [← e0]
    exact Rat.le_trans e (p2_le (by omega))
  obtain ⟨o, M, P, h1, h2, h3, h4, wv, h5, d, s', D, E, h6, h7, t, T, F, h8, h9, h10⟩ := sqrt_law x m i 4382569440205035030 5070602400912918 (-102) hr hm (Rat.le_trans lo b1) (Rat.le_trans b2 hi) r3 (by omega) hg hg1
  refine ⟨o, wv, d, t, h1, finB_true ⟨_, _, _, h2⟩, ?_, h5, h6, double.sub_lt h6, h8, ?_⟩
  · rw [ord_gt ⟨_, _, _, h2⟩ zero_fin, fv_of h2, fv_zero0]
    exact decide_eq_true (Rat.mul_pos (Rat.natCast_pos.2 h3) (p2_pos P))
  · have ha := read_absw h7
    rw [ord_lt ⟨_, _, _, ha⟩ ⟨_, _, _, h9⟩, ord_eq ⟨_, _, _, ha⟩ ⟨_, _, _, h9⟩, fv_of ha, fv_of h9, rv_pos_eq, rv_pos_eq]
    simp only [Bool.or_eq_true, decide_eq_true_eq]
    exact Rat.le_iff_lt_or_eq.1 h10

set_option maxRecDepth 100000 in
set_option maxHeartbeats 1600000 in
theorem sqrtNear_walk (x : Nat) (hx : x < 18446744073709551616) (w : World) :
    Calls Try.prog 4 #[.float .f64 x] w fun e w' => e = .returned (.bool true) ∧ Below w.heap.size w w' := by
  by_cases hgo : finB x = true ∧ (FloatKind.f64.format.order x 118622047889322841 == some .lt) = false ∧ (FloatKind.f64.format.order x 9094988921128908188 == some .gt) = false
  · obtain ⟨hfx, b1, b2⟩ := hgo
    obtain ⟨o, wv, d, t, f1, f2, f3, f4, f5, f6, f7, f8⟩ := near_facts x hfx b1 b2
    have F1 := Lib.hid f1
    have F2 := Lib.hid f2
    have m1 : ∀ w, (binOp .mul 23 (.float .f64 o) (.float .f64 o)).run Try.prog w = .ok (.float .f64 wv) w := fun w => run_float_arith w .mul 23 .f64 o o wv f4
    have m2 : ∀ w, (binOp .sub 23 (.float .f64 wv) (.float .f64 x)).run Try.prog w = .ok (.float .f64 d) w := fun w => run_float_arith w .sub 23 .f64 wv x d f5
    have m3 : ∀ w, (binOp .mul 23 (.float .f64 x) (.float .f64 4382569440205035030)).run Try.prog w = .ok (.float .f64 t) w := fun w => run_float_arith w .mul 23 .f64 x _ t f7
    have g3 : (FloatKind.f64.format.order o 0 == some .gt) = true := f3
    have g8 : (FloatKind.f64.format.order (absw d) t == some .lt || FloatKind.f64.format.order (absw d) t == some .eq) = true := f8
    clear f1 f2 f3 f4 f5 f7 f8
    go_enter Try.func4, Try.ntmps4
    go_wp2_with fail
    refine (numSqrt_any x _).mono ?_
    rintro e w1 ⟨y, ho, h, hb⟩
    have HB := Lib.hid hb
    obtain rfl := ho o F1.out
    clear hb ho
    rcases h with ⟨hf, rfl⟩ | ⟨hf, rfl⟩
    · clear hf
      go_wp2_with (first
        | (go_at_call 10; refine (lawFinite_any _ 1 _ [x] (w1.heap.size + 1) _ (Reads.ofBlock1 (heap_alloc_new w1 _) (by simp)) (by omega) (by simpa using hx)).mono ?_; rintro e w' ⟨rfl, rfl⟩)
        | (go_at_call 11; refine (abs_any d f6 _).mono ?_; rintro e w' ⟨rfl, rfl⟩))
      go_ret
      exact ⟨rfl, HB.out.alloc HB.out.size _⟩
    · rw [F2.out] at hf; cases hf
  · have hgo' : finB x = false ∨ (finB x = true ∧ (FloatKind.f64.format.order x 118622047889322841 == some .lt) = true) ∨ (finB x = true ∧ (FloatKind.f64.format.order x 118622047889322841 == some .lt) = false ∧ (FloatKind.f64.format.order x 9094988921128908188 == some .gt) = true) := by
      revert hgo
      cases finB x <;> cases (FloatKind.f64.format.order x 118622047889322841 == some .lt) <;> cases (FloatKind.f64.format.order x 9094988921128908188 == some .gt) <;> simp
    clear hgo
    go_enter Try.func4, Try.ntmps4
    go_wp2_with fail
    refine (numSqrt_any x _).mono ?_
    rintro e w1 ⟨y, ho, h, hb⟩
    have HB := Lib.hid hb
    clear ho hb
    have key : ∃ b z, e = .returned (.tuple #[.float .f64 z, .bool b]) := by
      rcases h with ⟨_, rfl⟩ | ⟨_, rfl⟩
      · exact ⟨_, _, rfl⟩
      · exact ⟨_, _, rfl⟩
    clear h
    obtain ⟨b, z, rfl⟩ := key
    rcases hgo' with h1 | ⟨h1, h2⟩ | ⟨h1, h2, h3⟩
    all_goals
      go_wp2_with (go_at_call 10; refine (lawFinite_any _ 1 _ [x] (w1.heap.size + 1) _ (Reads.ofBlock1 (heap_alloc_new w1 _) (by simp)) (by omega) (by simpa using hx)).mono ?_; rintro e w' ⟨rfl, rfl⟩)
      go_ret
      exact ⟨rfl, HB.out.alloc HB.out.size _⟩
end Go.Proofs.Ytkeoakppldheeaa
