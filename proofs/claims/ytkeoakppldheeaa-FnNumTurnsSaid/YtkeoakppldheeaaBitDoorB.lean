/-
  The operations on bits, from the thin package on: for whole numbers they answer the float of the operation, and that it is one.
-/
import Derived.Test.YtkeoakppldheeaaBitOpsB
import Derived.Test.YtkeoakppldheeaaBitLift
namespace Go.Proofs.Ytkeoakppldheeaa
open Go.RowKit Ieee

theorem band_builtin (w : World) :
    Calls Try.prog 43 #[] w fun e w' => e = .returned (.func (.func 62) #[] #[.pointer (some ⟨w.heap.size + 1, 0, none⟩), .pointer (some ⟨w.heap.size, 0, none⟩)]) ∧ (w.alloc (.cells #[.func (.func 57) #[] #[]] 84)).alloc (.cells #[.bool false] 4) = w' := by
  go_enter Try.func43, Try.ntmps43
  go_wp2_with (go_at_call 47; refine (liftB_any _ _ _).mono ?_; rintro e w' ⟨rfl, rfl⟩)
  go_ret
  exact ⟨rfl, rfl⟩
set_option maxRecDepth 100000 in
theorem band_part (x y : Nat) (a b r : Int) (w : World) (hx : Safe x a) (hy : Safe y b) (hpb : false = true → 0 ≤ b) (hr1 : -9223372036854775808 ≤ r) (hr2 : r ≤ 9223372036854775807)
    (hcall : ∀ w, Calls Try.prog 57 #[.int .i64 a, .int .i64 b] w fun e w' => e = .returned (.int .i64 r) ∧ w = w') :
    Calls Try.prog 31 #[.float .f64 x, .float .f64 y] w fun e w' => e = .returned (.tuple #[.float .f64 (floatOfInt .f64 r), .nilIface]) ∧ Below w.heap.size w w' := by
  have HC := Lib.hid hcall
  have HP := Lib.hid hpb
  clear hcall hpb
  go_enter Try.func31, Try.ntmps31
  go_wp2_with (first
    | (go_at_call 43; refine (band_builtin _).mono ?_; rintro e w' ⟨rfl, rfl⟩)
    | (go_at_call 37; refine (num_any _ _).mono ?_; rintro e w' ⟨rfl, rfl⟩))
  refine Calls.mono (band_closure false (w.heap.size + 2) (w.heap.size + 3) (w.heap.size + 4) (w.heap.size + 1) w.heap.size x y a b r _ ?_ ?_ ?_ ?_ hx hy (by first | exact HP.out | exact (fun _ => HP.out trivial) | exact (fun h => absurd h (by decide))) hr1 hr2 HC.out) ?_
  iterate 4 (· first | (simp [World.cell?_alloc_lt]; done) | go_simp)
  rintro e w1 ⟨g, rfl, hg, hb1⟩
  have hb2 : Below w.heap.size w w1 := ((((((Below.refl _ _).alloc (Nat.le_refl _) _).alloc (by simp) _).alloc (by simp; omega) _).alloc (by simp; omega) _).alloc (by simp; omega) _).trans (hb1.mono (by simp; omega))
  have HB := Lib.hid hb2
  clear hb1 hb2
  go_wp2_with (go_at_call 35; refine (numOf_ok g _ _ hg).mono ?_; rintro e w' ⟨rfl, rfl⟩)
  go_ret2
  exact ⟨rfl, HB.out⟩
theorem band_num (x y : Nat) (a b r : Int) (w : World) (hx : Safe x a) (hy : Safe y b) (hpb : false = true → 0 ≤ b) (hr1 : -9223372036854775808 ≤ r) (hr2 : r ≤ 9223372036854775807)
    (hcall : ∀ w, Calls Try.prog 57 #[.int .i64 a, .int .i64 b] w fun e w' => e = .returned (.int .i64 r) ∧ w = w') :
    Calls Try.prog 16 #[.float .f64 x, .float .f64 y] w fun e w' => e = .returned (.tuple #[.float .f64 (floatOfInt .f64 r), .bool true]) ∧ Below w.heap.size w w' := by
  have HC := Lib.hid hcall
  have HP := Lib.hid hpb
  clear hcall hpb
  go_enter Try.func16, Try.ntmps16
  go_wp2_with fail
  refine (band_part x y a b r _ hx hy (by first | exact HP.out | exact (fun _ => HP.out trivial) | exact (fun h => absurd h (by decide))) hr1 hr2 HC.out).mono ?_
  rintro e w1 ⟨rfl, hb⟩
  have HB := Lib.hid hb
  clear hb
  go_wp2_with (go_at_call 20; refine (number_ok _ _).mono ?_; rintro e w' ⟨rfl, rfl⟩)
  go_ret2
  exact ⟨rfl, HB.out⟩

theorem bor_builtin (w : World) :
    Calls Try.prog 44 #[] w fun e w' => e = .returned (.func (.func 62) #[] #[.pointer (some ⟨w.heap.size + 1, 0, none⟩), .pointer (some ⟨w.heap.size, 0, none⟩)]) ∧ (w.alloc (.cells #[.func (.func 58) #[] #[]] 84)).alloc (.cells #[.bool false] 4) = w' := by
  go_enter Try.func44, Try.ntmps44
  go_wp2_with (go_at_call 47; refine (liftB_any _ _ _).mono ?_; rintro e w' ⟨rfl, rfl⟩)
  go_ret
  exact ⟨rfl, rfl⟩
set_option maxRecDepth 100000 in
theorem bor_part (x y : Nat) (a b r : Int) (w : World) (hx : Safe x a) (hy : Safe y b) (hpb : false = true → 0 ≤ b) (hr1 : -9223372036854775808 ≤ r) (hr2 : r ≤ 9223372036854775807)
    (hcall : ∀ w, Calls Try.prog 58 #[.int .i64 a, .int .i64 b] w fun e w' => e = .returned (.int .i64 r) ∧ w = w') :
    Calls Try.prog 32 #[.float .f64 x, .float .f64 y] w fun e w' => e = .returned (.tuple #[.float .f64 (floatOfInt .f64 r), .nilIface]) ∧ Below w.heap.size w w' := by
  have HC := Lib.hid hcall
  have HP := Lib.hid hpb
  clear hcall hpb
  go_enter Try.func32, Try.ntmps32
  go_wp2_with (first
    | (go_at_call 44; refine (bor_builtin _).mono ?_; rintro e w' ⟨rfl, rfl⟩)
    | (go_at_call 37; refine (num_any _ _).mono ?_; rintro e w' ⟨rfl, rfl⟩))
  refine Calls.mono (bor_closure false (w.heap.size + 2) (w.heap.size + 3) (w.heap.size + 4) (w.heap.size + 1) w.heap.size x y a b r _ ?_ ?_ ?_ ?_ hx hy (by first | exact HP.out | exact (fun _ => HP.out trivial) | exact (fun h => absurd h (by decide))) hr1 hr2 HC.out) ?_
  iterate 4 (· first | (simp [World.cell?_alloc_lt]; done) | go_simp)
  rintro e w1 ⟨g, rfl, hg, hb1⟩
  have hb2 : Below w.heap.size w w1 := ((((((Below.refl _ _).alloc (Nat.le_refl _) _).alloc (by simp) _).alloc (by simp; omega) _).alloc (by simp; omega) _).alloc (by simp; omega) _).trans (hb1.mono (by simp; omega))
  have HB := Lib.hid hb2
  clear hb1 hb2
  go_wp2_with (go_at_call 35; refine (numOf_ok g _ _ hg).mono ?_; rintro e w' ⟨rfl, rfl⟩)
  go_ret2
  exact ⟨rfl, HB.out⟩
theorem bor_num (x y : Nat) (a b r : Int) (w : World) (hx : Safe x a) (hy : Safe y b) (hpb : false = true → 0 ≤ b) (hr1 : -9223372036854775808 ≤ r) (hr2 : r ≤ 9223372036854775807)
    (hcall : ∀ w, Calls Try.prog 58 #[.int .i64 a, .int .i64 b] w fun e w' => e = .returned (.int .i64 r) ∧ w = w') :
    Calls Try.prog 17 #[.float .f64 x, .float .f64 y] w fun e w' => e = .returned (.tuple #[.float .f64 (floatOfInt .f64 r), .bool true]) ∧ Below w.heap.size w w' := by
  have HC := Lib.hid hcall
  have HP := Lib.hid hpb
  clear hcall hpb
  go_enter Try.func17, Try.ntmps17
  go_wp2_with fail
  refine (bor_part x y a b r _ hx hy (by first | exact HP.out | exact (fun _ => HP.out trivial) | exact (fun h => absurd h (by decide))) hr1 hr2 HC.out).mono ?_
  rintro e w1 ⟨rfl, hb⟩
  have HB := Lib.hid hb
  clear hb
  go_wp2_with (go_at_call 20; refine (number_ok _ _).mono ?_; rintro e w' ⟨rfl, rfl⟩)
  go_ret2
  exact ⟨rfl, HB.out⟩

theorem bxor_builtin (w : World) :
    Calls Try.prog 45 #[] w fun e w' => e = .returned (.func (.func 62) #[] #[.pointer (some ⟨w.heap.size + 1, 0, none⟩), .pointer (some ⟨w.heap.size, 0, none⟩)]) ∧ (w.alloc (.cells #[.func (.func 59) #[] #[]] 84)).alloc (.cells #[.bool false] 4) = w' := by
  go_enter Try.func45, Try.ntmps45
  go_wp2_with (go_at_call 47; refine (liftB_any _ _ _).mono ?_; rintro e w' ⟨rfl, rfl⟩)
  go_ret
  exact ⟨rfl, rfl⟩
set_option maxRecDepth 100000 in
theorem bxor_part (x y : Nat) (a b r : Int) (w : World) (hx : Safe x a) (hy : Safe y b) (hpb : false = true → 0 ≤ b) (hr1 : -9223372036854775808 ≤ r) (hr2 : r ≤ 9223372036854775807)
    (hcall : ∀ w, Calls Try.prog 59 #[.int .i64 a, .int .i64 b] w fun e w' => e = .returned (.int .i64 r) ∧ w = w') :
    Calls Try.prog 33 #[.float .f64 x, .float .f64 y] w fun e w' => e = .returned (.tuple #[.float .f64 (floatOfInt .f64 r), .nilIface]) ∧ Below w.heap.size w w' := by
  have HC := Lib.hid hcall
  have HP := Lib.hid hpb
  clear hcall hpb
  go_enter Try.func33, Try.ntmps33
  go_wp2_with (first
    | (go_at_call 45; refine (bxor_builtin _).mono ?_; rintro e w' ⟨rfl, rfl⟩)
    | (go_at_call 37; refine (num_any _ _).mono ?_; rintro e w' ⟨rfl, rfl⟩))
  refine Calls.mono (bxor_closure false (w.heap.size + 2) (w.heap.size + 3) (w.heap.size + 4) (w.heap.size + 1) w.heap.size x y a b r _ ?_ ?_ ?_ ?_ hx hy (by first | exact HP.out | exact (fun _ => HP.out trivial) | exact (fun h => absurd h (by decide))) hr1 hr2 HC.out) ?_
  iterate 4 (· first | (simp [World.cell?_alloc_lt]; done) | go_simp)
  rintro e w1 ⟨g, rfl, hg, hb1⟩
  have hb2 : Below w.heap.size w w1 := ((((((Below.refl _ _).alloc (Nat.le_refl _) _).alloc (by simp) _).alloc (by simp; omega) _).alloc (by simp; omega) _).alloc (by simp; omega) _).trans (hb1.mono (by simp; omega))
  have HB := Lib.hid hb2
  clear hb1 hb2
  go_wp2_with (go_at_call 35; refine (numOf_ok g _ _ hg).mono ?_; rintro e w' ⟨rfl, rfl⟩)
  go_ret2
  exact ⟨rfl, HB.out⟩
theorem bxor_num (x y : Nat) (a b r : Int) (w : World) (hx : Safe x a) (hy : Safe y b) (hpb : false = true → 0 ≤ b) (hr1 : -9223372036854775808 ≤ r) (hr2 : r ≤ 9223372036854775807)
    (hcall : ∀ w, Calls Try.prog 59 #[.int .i64 a, .int .i64 b] w fun e w' => e = .returned (.int .i64 r) ∧ w = w') :
    Calls Try.prog 18 #[.float .f64 x, .float .f64 y] w fun e w' => e = .returned (.tuple #[.float .f64 (floatOfInt .f64 r), .bool true]) ∧ Below w.heap.size w w' := by
  have HC := Lib.hid hcall
  have HP := Lib.hid hpb
  clear hcall hpb
  go_enter Try.func18, Try.ntmps18
  go_wp2_with fail
  refine (bxor_part x y a b r _ hx hy (by first | exact HP.out | exact (fun _ => HP.out trivial) | exact (fun h => absurd h (by decide))) hr1 hr2 HC.out).mono ?_
  rintro e w1 ⟨rfl, hb⟩
  have HB := Lib.hid hb
  clear hb
  go_wp2_with (go_at_call 20; refine (number_ok _ _).mono ?_; rintro e w' ⟨rfl, rfl⟩)
  go_ret2
  exact ⟨rfl, HB.out⟩

end Go.Proofs.Ytkeoakppldheeaa
