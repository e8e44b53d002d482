/-
  The walk of FnNumShifted: it answers true.
-/
import Derived.Test.YtkeoakppldheeaaBitDoorA
namespace Go.Proofs.Ytkeoakppldheeaa
open Go.RowKit Ieee

theorem eq_self_fin (x : Nat) (h : fin x) : (FloatKind.f64.format.order x x == some .eq) = true := nan_no (.inl h)

set_option maxRecDepth 100000 in
set_option maxHeartbeats 800000 in
theorem shifted_walk (x y : Nat) (hx : x < 4294967296) (hy : y < 4294967296) (w : World) :
    Calls Try.prog 3 #[.int .u32 (x : Int), .int .u32 (y : Int)] w fun e w' => e = .returned (.bool true) ∧ Below w.heap.size w w' := by
  by_cases hgo : x < 2097152 ∧ y ≤ 31
  · obtain ⟨h1, h2⟩ := hgo
    have hl := shl_lt x y h1 h2
    have hback : x * 2 ^ y / 2 ^ y = x := Nat.mul_div_cancel _ (Nat.pow_pos (by omega))
    have HBK := Lib.hid hback
    clear hback
    have sx := safe_of x (by omega) (by omega)
    have sy := safe_of y (by omega) (by omega)
    have ss := safe_of ((x * 2 ^ y : Nat) : Int) (by omega) (by omega)
    have he := eq_self_fin _ sx.1
    have SX := Lib.hid sx
    have SY := Lib.hid sy
    have SS := Lib.hid ss
    clear sx sy ss
    have c1 := fun w => shl_any x y h1 h2 w
    have c2 := fun w => shr_any (x * 2 ^ y) y hl h2 w
    have C1 := Lib.hid c1
    have C2 := Lib.hid c2
    clear c1 c2
    have q1 : ¬ 2097152 ≤ x := by omega
    have q2 : ¬ 31 < y := by omega
    have d1 : decide ((2097152 : Int) ≤ (x : Int)) = false := by simp; omega
    have d2 : decide ((31 : Int) < (y : Int)) = false := by simp; omega
    go_enter Try.func3, Try.ntmps3
    go_wp2_with fail
    refine (shl_num _ _ x y _ _ SX.out SY.out (fun _ => by omega) (by omega) (by omega) C1.out).mono ?_
    rintro e w1 ⟨rfl, hb1⟩
    have HB1 := Lib.hid hb1
    clear hb1
    go_wp2_with fail
    refine (shr_num _ _ ((x * 2 ^ y : Nat) : Int) y _ _ SS.out SY.out (fun _ => by omega) (by rw [HBK.out]; omega) (by rw [HBK.out]; omega) C2.out).mono ?_
    rintro e w2 ⟨rfl, hb2⟩
    have HB2 := Lib.hid (HB1.out.trans (hb2.mono HB1.out.size))
    clear hb2
    rw [HBK.out]
    go_wp2_with fail
    go_ret
    exact ⟨rfl, HB2.out⟩
  · have hgo' : 2097152 ≤ x ∨ x < 2097152 ∧ 31 < y := by omega
    clear hgo
    rcases hgo' with h | ⟨h1, h2⟩
    · have d1 : decide ((2097152 : Int) ≤ (x : Int)) = true := by simp; omega
      go_enter Try.func3, Try.ntmps3
      go_wp2_with fail
      go_ret
      exact ⟨rfl, Below.refl _ _⟩
    · have d1 : decide ((2097152 : Int) ≤ (x : Int)) = false := by simp; omega
      have d2 : decide ((31 : Int) < (y : Int)) = true := by simp; omega
      go_enter Try.func3, Try.ntmps3
      go_wp2_with fail
      go_ret
      exact ⟨rfl, Below.refl _ _⟩
end Go.Proofs.Ytkeoakppldheeaa
