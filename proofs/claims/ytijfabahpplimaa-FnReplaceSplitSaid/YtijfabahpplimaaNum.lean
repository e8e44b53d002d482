/-
  Floats of 64 bits in the walk: math.Abs, IsNaN, IsInf (sign 0), spec.Finite: what they answer; they change nothing.
-/
import Derived.Test.YtijfabahpplimaaWords
import Derived.Test.YtijfabahpplimaaFlo
import Derived.Test.YtijfabahpplimaaProg
import Derived.Laws.FloatArith
import Derived.Laws.BitsAllLaws
import Derived.Laws.Externs
namespace Go.Proofs.Ytijfabahpplimaa
open Go.RowKit Ieee

theorem run_bitsOf (x : Nat) (w : World) : (callFunc 57 #[.float .f64 x]).run Try.prog w = .ok (.value (.int .u64 (x : Int))) w := by
  rw [run_callFunc_extern Try.func57 (by kernel_rfl) (by kernel_rfl) (by kernel_rfl) (e := Extern.MathFloatBits.float64bits) (by kernel_rfl)]; rfl
theorem run_ofBits (x : Nat) (w : World) : (callFunc 56 #[.int .u64 (x : Int)]).run Try.prog w = .ok (.value (.float .f64 x)) w := by
  rw [run_callFunc_extern Try.func56 (by kernel_rfl) (by kernel_rfl) (by kernel_rfl) (e := Extern.MathFloatBits.float64frombits) (by kernel_rfl)]; rfl
theorem bits_abs (x : Nat) (hx : x < 18446744073709551616) : bits .andNot .u64 (x : Int) 9223372036854775808 = ((absw x : Nat) : Int) := by
  have h := u64_andNot_nat x 9223372036854775808 hx (by omega)
  have e : 18446744073709551615 - 9223372036854775808 = 2 ^ 63 - 1 := by decide
  rw [e, Nat.and_two_pow_sub_one_eq_mod] at h
  exact h

theorem abs_any (x : Nat) (hx : x < 18446744073709551616) (w : World) :
    Calls Try.prog 53 #[.float .f64 x] w fun e w' => e = .returned (.float .f64 (absw x)) ∧ w = w' := by
  have h1 := run_bitsOf x
  have h2 := run_ofBits (absw x)
  have h3 := bits_abs x hx
  go_enter Try.func53, Try.ntmps53
  go_wp2
  go_ret
  exact ⟨rfl, rfl⟩

/-- A word that is a number: neither a NaN nor an infinity. -/
def nanB (x : Nat) : Bool := !(double.order x x == some .eq)
def infB (x : Nat) : Bool := double.order (absw x) 9218868437227405311 == some .gt
def finB (x : Nat) : Bool := !nanB x && !infB x

theorem isNaN_any (x : Nat) (w : World) :
    Calls Try.prog 51 #[.float .f64 x] w fun e w' => e = .returned (.bool (nanB x)) ∧ w = w' := by
  go_enter Try.func51, Try.ntmps51
  go_wp2
  go_ret
  exact ⟨rfl, rfl⟩

theorem isInf_any (x : Nat) (hx : x < 18446744073709551616) (w : World) :
    Calls Try.prog 50 #[.float .f64 x, .int .i64 0] w fun e w' => e = .returned (.bool (infB x)) ∧ w = w' := by
  go_enter Try.func50, Try.ntmps50
  go_wp2_with (go_at_call 53; refine (abs_any x hx _).mono ?_; rintro e w' ⟨rfl, rfl⟩)
  go_ret
  exact ⟨rfl, rfl⟩

/-- What the tests tell of a word. -/
theorem finB_true {x : Nat} (h : fin x) : finB x = true := by
  simp [finB, nanB, infB, nan_no (.inl h), inf_no h]
theorem finB_fin {x : Nat} (h : finB x = true) : fin x := by
  by_cases h1 : fin x ∨ infw x
  · rcases h1 with h1 | h1
    · exact h1
    · simp [finB, infB, inf_yes h1] at h
  · simp [finB, nanB, nan_yes h1] at h
theorem finB_inf {x : Nat} (h : infw x) : finB x = false := by simp [finB, infB, inf_yes h]
end Go.Proofs.Ytijfabahpplimaa
