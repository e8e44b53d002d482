/-
  The operations on bits, from the thin package on: for whole numbers they answer the float of the operation, and that it is one.
-/
import Derived.Test.YtkeoakppldheeaaBitOpsA
import Derived.Test.YtkeoakppldheeaaBitLift
namespace Go.Proofs.Ytkeoakppldheeaa
open Go.RowKit Ieee

theorem shl_builtin (w : World) :
    Calls Try.prog 36 #[] w fun e w' => e = .returned (.func (.func 62) #[] #[.pointer (some ⟨w.heap.size + 1, 0, none⟩), .pointer (some ⟨w.heap.size, 0, none⟩)]) ∧ (w.alloc (.cells #[.func (.func 48) #[] #[]] 84)).alloc (.cells #[.bool true] 4) = w' := by
  go_enter Try.func36, Try.ntmps36
  go_wp2_with (go_at_call 47; refine (liftB_any _ _ _).mono ?_; rintro e w' ⟨rfl, rfl⟩)
  go_ret
  exact ⟨rfl, rfl⟩
set_option maxRecDepth 100000 in
theorem shl_part (x y : Nat) (a b r : Int) (w : World) (hx : Safe x a) (hy : Safe y b) (hpb : true = true → 0 ≤ b) (hr1 : -9223372036854775808 ≤ r) (hr2 : r ≤ 9223372036854775807)
    (hcall : ∀ w, Calls Try.prog 48 #[.int .i64 a, .int .i64 b] w fun e w' => e = .returned (.int .i64 r) ∧ w = w') :
    Calls Try.prog 21 #[.float .f64 x, .float .f64 y] w fun e w' => e = .returned (.tuple #[.float .f64 (floatOfInt .f64 r), .nilIface]) ∧ Below w.heap.size w w' := by
  have HC := Lib.hid hcall
  have HP := Lib.hid hpb
  clear hcall hpb
  go_enter Try.func21, Try.ntmps21
  go_wp2_with (first
    | (go_at_call 36; refine (shl_builtin _).mono ?_; rintro e w' ⟨rfl, rfl⟩)
    | (go_at_call 37; refine (num_any _ _).mono ?_; rintro e w' ⟨rfl, rfl⟩))
  refine Calls.mono (shl_closure true (w.heap.size + 2) (w.heap.size + 3) (w.heap.size + 4) (w.heap.size + 1) w.heap.size x y a b r _ ?_ ?_ ?_ ?_ hx hy (by first | exact HP.out | exact (fun _ => HP.out trivial) | exact (fun h => absurd h (by decide))) hr1 hr2 HC.out) ?_
  iterate 4 (· first | (simp [World.cell?_alloc_lt]; done) | go_simp)
  rintro e w1 ⟨g, rfl, hg, hb1⟩
  have hb2 : Below w.heap.size w w1 := ((((((Below.refl _ _).alloc (Nat.le_refl _) _).alloc (by simp) _).alloc (by simp; omega) _).alloc (by simp; omega) _).alloc (by simp; omega) _).trans (hb1.mono (by simp; omega))
  have HB := Lib.hid hb2
  clear hb1 hb2
  go_wp2_with (go_at_call 35; refine (numOf_ok g _ _ hg).mono ?_; rintro e w' ⟨rfl, rfl⟩)
  go_ret2
  exact ⟨rfl, HB.out⟩
theorem shl_num (x y : Nat) (a b r : Int) (w : World) (hx : Safe x a) (hy : Safe y b) (hpb : true = true → 0 ≤ b) (hr1 : -9223372036854775808 ≤ r) (hr2 : r ≤ 9223372036854775807)
    (hcall : ∀ w, Calls Try.prog 48 #[.int .i64 a, .int .i64 b] w fun e w' => e = .returned (.int .i64 r) ∧ w = w') :
    Calls Try.prog 7 #[.float .f64 x, .float .f64 y] w fun e w' => e = .returned (.tuple #[.float .f64 (floatOfInt .f64 r), .bool true]) ∧ Below w.heap.size w w' := by
  have HC := Lib.hid hcall
  have HP := Lib.hid hpb
  clear hcall hpb
  go_enter Try.func7, Try.ntmps7
  go_wp2_with fail
  refine (shl_part x y a b r _ hx hy (by first | exact HP.out | exact (fun _ => HP.out trivial) | exact (fun h => absurd h (by decide))) hr1 hr2 HC.out).mono ?_
  rintro e w1 ⟨rfl, hb⟩
  have HB := Lib.hid hb
  clear hb
  go_wp2_with (go_at_call 20; refine (number_ok _ _).mono ?_; rintro e w' ⟨rfl, rfl⟩)
  go_ret2
  exact ⟨rfl, HB.out⟩

theorem shr_builtin (w : World) :
    Calls Try.prog 38 #[] w fun e w' => e = .returned (.func (.func 62) #[] #[.pointer (some ⟨w.heap.size + 1, 0, none⟩), .pointer (some ⟨w.heap.size, 0, none⟩)]) ∧ (w.alloc (.cells #[.func (.func 50) #[] #[]] 84)).alloc (.cells #[.bool true] 4) = w' := by
  go_enter Try.func38, Try.ntmps38
  go_wp2_with (go_at_call 47; refine (liftB_any _ _ _).mono ?_; rintro e w' ⟨rfl, rfl⟩)
  go_ret
  exact ⟨rfl, rfl⟩
set_option maxRecDepth 100000 in
theorem shr_part (x y : Nat) (a b r : Int) (w : World) (hx : Safe x a) (hy : Safe y b) (hpb : true = true → 0 ≤ b) (hr1 : -9223372036854775808 ≤ r) (hr2 : r ≤ 9223372036854775807)
    (hcall : ∀ w, Calls Try.prog 50 #[.int .i64 a, .int .i64 b] w fun e w' => e = .returned (.int .i64 r) ∧ w = w') :
    Calls Try.prog 22 #[.float .f64 x, .float .f64 y] w fun e w' => e = .returned (.tuple #[.float .f64 (floatOfInt .f64 r), .nilIface]) ∧ Below w.heap.size w w' := by
  have HC := Lib.hid hcall
  have HP := Lib.hid hpb
  clear hcall hpb
  go_enter Try.func22, Try.ntmps22
  go_wp2_with (first
    | (go_at_call 38; refine (shr_builtin _).mono ?_; rintro e w' ⟨rfl, rfl⟩)
    | (go_at_call 37; refine (num_any _ _).mono ?_; rintro e w' ⟨rfl, rfl⟩))
  refine Calls.mono (shr_closure true (w.heap.size + 2) (w.heap.size + 3) (w.heap.size + 4) (w.heap.size + 1) w.heap.size x y a b r _ ?_ ?_ ?_ ?_ hx hy (by first | exact HP.out | exact (fun _ => HP.out trivial) | exact (fun h => absurd h (by decide))) hr1 hr2 HC.out) ?_
  iterate 4 (· first | (simp [World.cell?_alloc_lt]; done) | go_simp)
  rintro e w1 ⟨g, rfl, hg, hb1⟩
  have hb2 : Below w.heap.size w w1 := ((((((Below.refl _ _).alloc (Nat.le_refl _) _).alloc (by simp) _).alloc (by simp; omega) _).alloc (by simp; omega) _).alloc (by simp; omega) _).trans (hb1.mono (by simp; omega))
  have HB := Lib.hid hb2
  clear hb1 hb2
  go_wp2_with (go_at_call 35; refine (numOf_ok g _ _ hg).mono ?_; rintro e w' ⟨rfl, rfl⟩)
  go_ret2
  exact ⟨rfl, HB.out⟩
theorem shr_num (x y : Nat) (a b r : Int) (w : World) (hx : Safe x a) (hy : Safe y b) (hpb : true = true → 0 ≤ b) (hr1 : -9223372036854775808 ≤ r) (hr2 : r ≤ 9223372036854775807)
    (hcall : ∀ w, Calls Try.prog 50 #[.int .i64 a, .int .i64 b] w fun e w' => e = .returned (.int .i64 r) ∧ w = w') :
    Calls Try.prog 8 #[.float .f64 x, .float .f64 y] w fun e w' => e = .returned (.tuple #[.float .f64 (floatOfInt .f64 r), .bool true]) ∧ Below w.heap.size w w' := by
  have HC := Lib.hid hcall
  have HP := Lib.hid hpb
  clear hcall hpb
  go_enter Try.func8, Try.ntmps8
  go_wp2_with fail
  refine (shr_part x y a b r _ hx hy (by first | exact HP.out | exact (fun _ => HP.out trivial) | exact (fun h => absurd h (by decide))) hr1 hr2 HC.out).mono ?_
  rintro e w1 ⟨rfl, hb⟩
  have HB := Lib.hid hb
  clear hb
  go_wp2_with (go_at_call 20; refine (number_ok _ _).mono ?_; rintro e w' ⟨rfl, rfl⟩)
  go_ret2
  exact ⟨rfl, HB.out⟩

end Go.Proofs.Ytkeoakppldheeaa
