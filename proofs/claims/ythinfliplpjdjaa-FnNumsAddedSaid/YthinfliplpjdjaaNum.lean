/-
  Floats of 64 bits in the walk: math.Abs, IsNaN, IsInf (sign 0), spec.Finite: what they answer; they change nothing.
-/
import Derived.Test.YthinfliplpjdjaaWords
import Derived.Test.YthinfliplpjdjaaFlo
import Derived.Test.YthinfliplpjdjaaProg
import Derived.Laws.FloatArith
import Derived.Laws.BitsAllLaws
import Derived.Laws.Externs
namespace Go.Proofs.Ythinfliplpjdjaa
open Go.RowKit Ieee

theorem run_bitsOf (x : Nat) (w : World) : (callFunc 79 #[.float .f64 x]).run Try.prog w = .ok (.value (.int .u64 (x : Int))) w := by
  rw [run_callFunc_extern Try.func79 (by kernel_rfl) (by kernel_rfl) (by kernel_rfl) (e := Extern.MathFloatBits.float64bits) (by kernel_rfl)]; rfl
theorem run_ofBits (x : Nat) (w : World) : (callFunc 78 #[.int .u64 (x : Int)]).run Try.prog w = .ok (.value (.float .f64 x)) w := by
  rw [run_callFunc_extern Try.func78 (by kernel_rfl) (by kernel_rfl) (by kernel_rfl) (e := Extern.MathFloatBits.float64frombits) (by kernel_rfl)]; rfl
theorem bits_abs (x : Nat) (hx : x < 18446744073709551616) : bits .andNot .u64 (x : Int) 9223372036854775808 = ((absw x : Nat) : Int) := by
  have h := u64_andNot_nat x 9223372036854775808 hx (by omega)
  have e : 18446744073709551615 - 9223372036854775808 = 2 ^ 63 - 1 := by decide
  rw [e, Nat.and_two_pow_sub_one_eq_mod] at h
  exact h

theorem abs_any (x : Nat) (hx : x < 18446744073709551616) (w : World) :
    Calls Try.prog 63 #[.float .f64 x] w fun e w' => e = .returned (.float .f64 (absw x)) ∧ w = w' := by
  have h1 := run_bitsOf x
  have h2 := run_ofBits (absw x)
  have h3 := bits_abs x hx
  go_enter Try.func63, Try.ntmps63
  go_wp2
  go_ret
  exact ⟨rfl, rfl⟩

/-- A word that is a number: neither a NaN nor an infinity. -/
def nanB (x : Nat) : Bool := !(double.order x x == some .eq)
def infB (x : Nat) : Bool := double.order (absw x) 9218868437227405311 == some .gt
def finB (x : Nat) : Bool := !nanB x && !infB x

theorem isNaN_any (x : Nat) (w : World) :
    Calls Try.prog 48 #[.float .f64 x] w fun e w' => e = .returned (.bool (nanB x)) ∧ w = w' := by
  go_enter Try.func48, Try.ntmps48
  go_wp2
  go_ret
  exact ⟨rfl, rfl⟩

theorem isInf_any (x : Nat) (hx : x < 18446744073709551616) (w : World) :
    Calls Try.prog 49 #[.float .f64 x, .int .i64 0] w fun e w' => e = .returned (.bool (infB x)) ∧ w = w' := by
  go_enter Try.func49, Try.ntmps49
  go_wp2_with (go_at_call 63; refine (abs_any x hx _).mono ?_; rintro e w' ⟨rfl, rfl⟩)
  go_ret
  exact ⟨rfl, rfl⟩

theorem finite_any (x : Nat) (hx : x < 18446744073709551616) (w : World) :
    Calls Try.prog 37 #[.float .f64 x] w fun e w' => e = .returned (.bool (finB x)) ∧ w = w' := by
  cases h : nanB x
  · go_enter Try.func37, Try.ntmps37
    go_wp2_with (first
      | (go_at_call 48; refine (isNaN_any x _).mono ?_; rintro e w' ⟨rfl, rfl⟩)
      | (go_at_call 49; refine (isInf_any x hx _).mono ?_; rintro e w' ⟨rfl, rfl⟩))
    go_ret
    exact ⟨by simp [finB, h], rfl⟩
  · go_enter Try.func37, Try.ntmps37
    go_wp2_with (first
      | (go_at_call 48; refine (isNaN_any x _).mono ?_; rintro e w' ⟨rfl, rfl⟩)
      | (go_at_call 49; refine (isInf_any x hx _).mono ?_; rintro e w' ⟨rfl, rfl⟩))
    go_ret
    exact ⟨by simp [finB, h], rfl⟩

/-- What the tests tell of a word. -/
theorem finB_true {x : Nat} (h : fin x) : finB x = true := by
  simp [finB, nanB, infB, nan_no (.inl h), inf_no h]
theorem finB_fin {x : Nat} (h : finB x = true) : fin x := by
  by_cases h1 : fin x ∨ infw x
  · rcases h1 with h1 | h1
    · exact h1
    · simp [finB, infB, inf_yes h1] at h
  · simp [finB, nanB, nan_yes h1] at h
theorem finB_inf {x : Nat} (h : infw x) : finB x = false := by simp [finB, infB, inf_yes h]
end Go.Proofs.Ythinfliplpjdjaa
