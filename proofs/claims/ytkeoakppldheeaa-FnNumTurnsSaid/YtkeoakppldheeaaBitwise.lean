/-
  The operations on bits: what the closures of liftBitwise answer for whole numbers.
-/
import Derived.Test.YtkeoakppldheeaaNumOps
import Derived.Deep.RegionHeld3
import Derived.Deep.DrawnRows
import Derived.Laws.ShiftsVarLaws
namespace Go.Proofs.Ytkeoakppldheeaa
open Go.RowKit Ieee

theorem shl_lt (a b : Nat) (ha : a < 2097152) (hb : b ≤ 31) : a * 2 ^ b < 4503599627370496 := by
  have h1 : 2 ^ b ≤ 2 ^ 31 := Nat.pow_le_pow_right (by omega) hb
  have h2 : a * 2 ^ b ≤ a * 2 ^ 31 := Nat.mul_le_mul_left _ h1
  omega
theorem ret_i64 {a b : Int} (h : a = b) : Ending.returned (.int .i64 a) = .returned (.int .i64 b) := by rw [h]
theorem shl_any (a b : Nat) (ha : a < 2097152) (hb : b ≤ 31) (w : World) :
    Calls Try.prog 48 #[.int .i64 a, .int .i64 b] w fun e w' => e = .returned (.int .i64 ((a * 2 ^ b : Nat) : Int)) ∧ w = w' := by
  go_enter Try.func48, Try.ntmps48
  go_wp2
  go_ret
  refine ⟨ret_i64 ?_, rfl⟩
  have e : b % 64 = b := Nat.mod_eq_of_lt (by omega)
  have h := shl_lt a b ha hb
  rw [e]
  have e2 : ((a : Int) * 2 ^ b) = ((a * 2 ^ b : Nat) : Int) := by simp
  rw [e2]
  generalize a * 2 ^ b = c at h ⊢
  exact IntWalk.wrap64_in _ (by omega)

theorem shr_any (a b : Nat) (_ha : a < 4503599627370496) (hb : b ≤ 31) (w : World) :
    Calls Try.prog 50 #[.int .i64 a, .int .i64 b] w fun e w' => e = .returned (.int .i64 ((a / 2 ^ b : Nat) : Int)) ∧ w = w' := by
  go_enter Try.func50, Try.ntmps50
  go_wp2
  go_ret
  refine ⟨ret_i64 ?_, rfl⟩
  have e : b % 64 = b := Nat.mod_eq_of_lt (by omega)
  rw [e]
  simp

/-- A word that is a whole number within what is safe. -/
def Safe (x : Nat) (a : Int) : Prop := fin x ∧ fv x = (a : Rat) ∧ -9007199254740991 ≤ a ∧ a ≤ 9007199254740991

theorem safe_lo {x : Nat} {a : Int} (h : Safe x a) : (double.order x 14069245235905429503 == some .lt) = false := by
  have r : double.read 14069245235905429503 = .number true 9007199254740991 0 := by rfl
  rw [ord_lt h.1 ⟨_, _, _, r⟩, h.2.1, fv_of r]
  refine decide_eq_false (Rat.not_lt.2 ?_)
  have e : rv true 9007199254740991 0 = ((-9007199254740991 : Int) : Rat) := by
    unfold rv
    have e0 : p2 0 = 1 := rfl
    rw [e0, Rat.mul_one]
    rfl
  rw [e]
  exact Rat.intCast_le_intCast.2 h.2.2.1
theorem safe_hi {x : Nat} {a : Int} (h : Safe x a) : (double.order x 4845873199050653695 == some .gt) = false := by
  have r : double.read 4845873199050653695 = .number false 9007199254740991 0 := by rfl
  rw [ord_gt h.1 ⟨_, _, _, r⟩, h.2.1, fv_of r]
  refine decide_eq_false (Rat.not_lt.2 ?_)
  have e : rv false 9007199254740991 0 = ((9007199254740991 : Int) : Rat) := by
    unfold rv
    have e0 : p2 0 = 1 := rfl
    rw [e0, Rat.mul_one]
    rfl
  rw [e]
  exact Rat.intCast_le_intCast.2 h.2.2.2
theorem safe_neg {x : Nat} {a : Int} (h : Safe x a) (h0 : 0 ≤ a) : (double.order x 0 == some .lt) = false := by
  have z : fv 0 = 0 := fv_zero false
  rw [ord_lt h.1 (fin_rung (by omega)), h.2.1, z]
  refine decide_eq_false (Rat.not_lt.2 ?_)
  exact Rat.intCast_nonneg.2 h0
theorem safe_int {x : Nat} {a : Int} (h : Safe x a) : floatToIntVal .f64 x .i64 = some a := by
  have h1 := toInt_whole h.1 a h.2.1
  unfold floatToIntVal
  have e : FloatKind.f64.decode x = double.read x := rfl
  rw [e, h1]
  have m1 : IntKind.i64.min = -9223372036854775808 := by decide
  have m2 : IntKind.i64.max = 9223372036854775807 := by decide
  rw [m1, m2]
  simp only
  rw [if_pos (by have := h.2.2.1; have := h.2.2.2; omega)]
theorem safe_of (n : Int) (h1 : -9007199254740991 ≤ n) (h2 : n ≤ 9007199254740991) : Safe (floatOfInt .f64 n) n := by
  obtain ⟨a, b⟩ := int_fin n (by omega) (by omega)
  exact ⟨a, b, h1, h2⟩
theorem fin_int (n : Int) (h1 : -9223372036854775808 ≤ n) (h2 : n ≤ 9223372036854775807) : fin (floatOfInt .f64 n) := by
  show fin (double.nearest (decide (n < 0)) n.natAbs 0)
  rcases Nat.eq_zero_or_pos n.natAbs with h0 | h0
  · rw [h0]; exact ⟨_, _, _, nearest_zero _ _⟩
  · have e0 : p2 0 = 1 := rfl
    obtain ⟨M, P, r1, -⟩ := near (decide (n < 0)) n.natAbs 0 h0 (by
      rw [e0, Rat.mul_one]
      have h3 : ((n.natAbs : Nat) : Rat) < ((2 ^ 64 : Nat) : Rat) := Rat.natCast_lt_natCast.2 (by omega)
      rw [← p2_nat] at h3
      exact Std.lt_trans h3 (p2_mono_lt (by omega)))
    exact ⟨_, _, _, r1⟩
theorem floatOfInt_lt (n : Int) : floatOfInt .f64 n < 18446744073709551616 := by
  have := floatOfInt_wf .f64 n
  simpa [Lit.wf] using this

theorem undrew' {w w1 : World} (h : Below w.drew.heap.size w.drew w1) : Below w.heap.size w w1 := ⟨h.os, h.tape, h.output, h.size, h.block⟩

theorem check_fin (i : Value) (x : Nat) (hx : x < 18446744073709551616) (hf : finB x = true) (w : World) :
    Calls Try.prog 54 #[i, .float .f64 x] w fun e w' => ∃ g, e = .returned (.tuple #[.iface 81 (.pointer (some ⟨g, 0, none⟩)), .nilIface]) ∧ w'.cell? ⟨g, 0, none⟩ = some (.float .f64 x) ∧ Below w.heap.size w w' := by
  refine (check_ok i x hx hf w).mono ?_
  rintro e w' ⟨rfl, rfl⟩
  exact ⟨_, rfl, by simp, (Below.refl _ _).alloc (Nat.le_refl _) _⟩
end Go.Proofs.Ytkeoakppldheeaa
