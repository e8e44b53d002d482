/-
  The closures of liftBitwise, one for each operation on bits: for whole numbers they answer the float of the operation.
-/
import Derived.Test.YtkeoakppldheeaaBitwise
namespace Go.Proofs.Ytkeoakppldheeaa
open Go.RowKit Ieee

set_option maxRecDepth 100000 in
set_option maxHeartbeats 1600000 in
theorem band_closure (pos : Bool) (ig n m cp cf : Nat) (x y : Nat) (a b r : Int) (w : World) 
    (hn : w.cell? ⟨n, 0, none⟩ = some (.float .f64 x)) (hm : w.cell? ⟨m, 0, none⟩ = some (.float .f64 y)) (hp : w.cell? ⟨cp, 0, none⟩ = some (.bool pos)) (hc : w.cell? ⟨cf, 0, none⟩ = some (.func (.func 57) #[] #[]))
    (hx : Safe x a) (hy : Safe y b) (hpb : pos = true → 0 ≤ b) (hr1 : -9223372036854775808 ≤ r) (hr2 : r ≤ 9223372036854775807)
    (hcall : ∀ w, Calls Try.prog 57 #[.int .i64 a, .int .i64 b] w fun e w' => e = .returned (.int .i64 r) ∧ w = w') :
    Calls Try.prog 62 #[.pointer (some ⟨ig, 0, none⟩), .iface 81 (.pointer (some ⟨n, 0, none⟩)), .iface 81 (.pointer (some ⟨m, 0, none⟩)), .pointer (some ⟨cp, 0, none⟩), .pointer (some ⟨cf, 0, none⟩)] w fun e w' =>
      ∃ g, e = .returned (.tuple #[.iface 81 (.pointer (some ⟨g, 0, none⟩)), .nilIface]) ∧ w'.cell? ⟨g, 0, none⟩ = some (.float .f64 (floatOfInt .f64 r)) ∧ Below w.heap.size w w' := by
  have ln := World.block_lt_of_cell? w _ hn
  have lm := World.block_lt_of_cell? w _ hm
  have lc := World.block_lt_of_cell? w _ hc
  have t1 : (FloatKind.f64.format.order x 14069245235905429503 == some .lt) = false := safe_lo hx
  have t2 : (FloatKind.f64.format.order x 4845873199050653695 == some .gt) = false := safe_hi hx
  have t3 : (FloatKind.f64.format.order y 14069245235905429503 == some .lt) = false := safe_lo hy
  have t4 : (FloatKind.f64.format.order y 4845873199050653695 == some .gt) = false := safe_hi hy
  have t5 : pos = false ∨ pos = true ∧ (FloatKind.f64.format.order y 0 == some .lt) = false := by
    cases pos
    · exact .inl rfl
    · exact .inr ⟨rfl, safe_neg hy (hpb rfl)⟩
  have k1 : ∀ w, (convert 23 2 (.float .f64 x)).run Try.prog w = .ok (.int .i64 a) w := fun w => run_convert_float_int w _ _ _ _ _ _ (by kernel_rfl) Try.underlying2 (safe_int hx)
  have k2 : ∀ w, (convert 23 2 (.float .f64 y)).run Try.prog w = .ok (.int .i64 b) w := fun w => run_convert_float_int w _ _ _ _ _ _ (by kernel_rfl) Try.underlying2 (safe_int hy)
  have hz := floatOfInt_lt r
  have hzf := finB_true (fin_int r hr1 hr2)
  have HZ := Lib.hid hzf
  have HC := Lib.hid hcall
  clear hzf hcall hpb hx hy
  rcases t5 with rfl | ⟨rfl, t6⟩
  all_goals
    go_enter Try.func62, Try.ntmps62
    go_wp2_with (go_at_call 53; refine (getNumber_any _ _ _).mono ?_; rintro e w' ⟨rfl, rfl⟩)
    clear t1 t2 t3 t4 hp
    go_region_held3 (fun w' => w'.cell? ⟨n, 0, none⟩ = some (.float .f64 x) ∧ w'.cell? ⟨m, 0, none⟩ = some (.float .f64 y) ∧ w'.cell? ⟨cf, 0, none⟩ = some (.func (.func 57) #[] #[]))
      (first
        | go_keep
        | exact ⟨(hb4.cell ln).trans hn, (hb4.cell lm).trans hm, (hb4.cell lc).trans hc⟩)
      (first
        | (go_at_call 54; refine (check_fin _ (floatOfInt .f64 r) hz HZ.out _).mono ?_; rintro e w3 ⟨g, rfl, hg, hb3⟩; have HG := Lib.hid hg; clear hg; have hb4 := undrew' hb3)
        | (go_at_call 57; refine (HC.out _).mono ?_; rintro e w1 ⟨rfl, rfl⟩))
    go_wp2
    go_ret2
    exact ⟨g, rfl, HG.out, hb4⟩
set_option maxRecDepth 100000 in
set_option maxHeartbeats 1600000 in
theorem bor_closure (pos : Bool) (ig n m cp cf : Nat) (x y : Nat) (a b r : Int) (w : World) 
    (hn : w.cell? ⟨n, 0, none⟩ = some (.float .f64 x)) (hm : w.cell? ⟨m, 0, none⟩ = some (.float .f64 y)) (hp : w.cell? ⟨cp, 0, none⟩ = some (.bool pos)) (hc : w.cell? ⟨cf, 0, none⟩ = some (.func (.func 58) #[] #[]))
    (hx : Safe x a) (hy : Safe y b) (hpb : pos = true → 0 ≤ b) (hr1 : -9223372036854775808 ≤ r) (hr2 : r ≤ 9223372036854775807)
    (hcall : ∀ w, Calls Try.prog 58 #[.int .i64 a, .int .i64 b] w fun e w' => e = .returned (.int .i64 r) ∧ w = w') :
    Calls Try.prog 62 #[.pointer (some ⟨ig, 0, none⟩), .iface 81 (.pointer (some ⟨n, 0, none⟩)), .iface 81 (.pointer (some ⟨m, 0, none⟩)), .pointer (some ⟨cp, 0, none⟩), .pointer (some ⟨cf, 0, none⟩)] w fun e w' =>
      ∃ g, e = .returned (.tuple #[.iface 81 (.pointer (some ⟨g, 0, none⟩)), .nilIface]) ∧ w'.cell? ⟨g, 0, none⟩ = some (.float .f64 (floatOfInt .f64 r)) ∧ Below w.heap.size w w' := by
  have ln := World.block_lt_of_cell? w _ hn
  have lm := World.block_lt_of_cell? w _ hm
  have lc := World.block_lt_of_cell? w _ hc
  have t1 : (FloatKind.f64.format.order x 14069245235905429503 == some .lt) = false := safe_lo hx
  have t2 : (FloatKind.f64.format.order x 4845873199050653695 == some .gt) = false := safe_hi hx
  have t3 : (FloatKind.f64.format.order y 14069245235905429503 == some .lt) = false := safe_lo hy
  have t4 : (FloatKind.f64.format.order y 4845873199050653695 == some .gt) = false := safe_hi hy
  have t5 : pos = false ∨ pos = true ∧ (FloatKind.f64.format.order y 0 == some .lt) = false := by
    cases pos
    · exact .inl rfl
    · exact .inr ⟨rfl, safe_neg hy (hpb rfl)⟩
  have k1 : ∀ w, (convert 23 2 (.float .f64 x)).run Try.prog w = .ok (.int .i64 a) w := fun w => run_convert_float_int w _ _ _ _ _ _ (by kernel_rfl) Try.underlying2 (safe_int hx)
  have k2 : ∀ w, (convert 23 2 (.float .f64 y)).run Try.prog w = .ok (.int .i64 b) w := fun w => run_convert_float_int w _ _ _ _ _ _ (by kernel_rfl) Try.underlying2 (safe_int hy)
  have hz := floatOfInt_lt r
  have hzf := finB_true (fin_int r hr1 hr2)
  have HZ := Lib.hid hzf
  have HC := Lib.hid hcall
  clear hzf hcall hpb hx hy
  rcases t5 with rfl | ⟨rfl, t6⟩
  all_goals
    go_enter Try.func62, Try.ntmps62
    go_wp2_with (go_at_call 53; refine (getNumber_any _ _ _).mono ?_; rintro e w' ⟨rfl, rfl⟩)
    clear t1 t2 t3 t4 hp
    go_region_held3 (fun w' => w'.cell? ⟨n, 0, none⟩ = some (.float .f64 x) ∧ w'.cell? ⟨m, 0, none⟩ = some (.float .f64 y) ∧ w'.cell? ⟨cf, 0, none⟩ = some (.func (.func 58) #[] #[]))
      (first
        | go_keep
        | exact ⟨(hb4.cell ln).trans hn, (hb4.cell lm).trans hm, (hb4.cell lc).trans hc⟩)
      (first
        | (go_at_call 54; refine (check_fin _ (floatOfInt .f64 r) hz HZ.out _).mono ?_; rintro e w3 ⟨g, rfl, hg, hb3⟩; have HG := Lib.hid hg; clear hg; have hb4 := undrew' hb3)
        | (go_at_call 58; refine (HC.out _).mono ?_; rintro e w1 ⟨rfl, rfl⟩))
    go_wp2
    go_ret2
    exact ⟨g, rfl, HG.out, hb4⟩
set_option maxRecDepth 100000 in
set_option maxHeartbeats 1600000 in
theorem bxor_closure (pos : Bool) (ig n m cp cf : Nat) (x y : Nat) (a b r : Int) (w : World) 
    (hn : w.cell? ⟨n, 0, none⟩ = some (.float .f64 x)) (hm : w.cell? ⟨m, 0, none⟩ = some (.float .f64 y)) (hp : w.cell? ⟨cp, 0, none⟩ = some (.bool pos)) (hc : w.cell? ⟨cf, 0, none⟩ = some (.func (.func 59) #[] #[]))
    (hx : Safe x a) (hy : Safe y b) (hpb : pos = true → 0 ≤ b) (hr1 : -9223372036854775808 ≤ r) (hr2 : r ≤ 9223372036854775807)
    (hcall : ∀ w, Calls Try.prog 59 #[.int .i64 a, .int .i64 b] w fun e w' => e = .returned (.int .i64 r) ∧ w = w') :
    Calls Try.prog 62 #[.pointer (some ⟨ig, 0, none⟩), .iface 81 (.pointer (some ⟨n, 0, none⟩)), .iface 81 (.pointer (some ⟨m, 0, none⟩)), .pointer (some ⟨cp, 0, none⟩), .pointer (some ⟨cf, 0, none⟩)] w fun e w' =>
      ∃ g, e = .returned (.tuple #[.iface 81 (.pointer (some ⟨g, 0, none⟩)), .nilIface]) ∧ w'.cell? ⟨g, 0, none⟩ = some (.float .f64 (floatOfInt .f64 r)) ∧ Below w.heap.size w w' := by
  have ln := World.block_lt_of_cell? w _ hn
  have lm := World.block_lt_of_cell? w _ hm
  have lc := World.block_lt_of_cell? w _ hc
  have t1 : (FloatKind.f64.format.order x 14069245235905429503 == some .lt) = false := safe_lo hx
  have t2 : (FloatKind.f64.format.order x 4845873199050653695 == some .gt) = false := safe_hi hx
  have t3 : (FloatKind.f64.format.order y 14069245235905429503 == some .lt) = false := safe_lo hy
  have t4 : (FloatKind.f64.format.order y 4845873199050653695 == some .gt) = false := safe_hi hy
  have t5 : pos = false ∨ pos = true ∧ (FloatKind.f64.format.order y 0 == some .lt) = false := by
    cases pos
    · exact .inl rfl
    · exact .inr ⟨rfl, safe_neg hy (hpb rfl)⟩
  have k1 : ∀ w, (convert 23 2 (.float .f64 x)).run Try.prog w = .ok (.int .i64 a) w := fun w => run_convert_float_int w _ _ _ _ _ _ (by kernel_rfl) Try.underlying2 (safe_int hx)
  have k2 : ∀ w, (convert 23 2 (.float .f64 y)).run Try.prog w = .ok (.int .i64 b) w := fun w => run_convert_float_int w _ _ _ _ _ _ (by kernel_rfl) Try.underlying2 (safe_int hy)
  have hz := floatOfInt_lt r
  have hzf := finB_true (fin_int r hr1 hr2)
  have HZ := Lib.hid hzf
  have HC := Lib.hid hcall
  clear hzf hcall hpb hx hy
  rcases t5 with rfl | ⟨rfl, t6⟩
  all_goals
    go_enter Try.func62, Try.ntmps62
    go_wp2_with (go_at_call 53; refine (getNumber_any _ _ _).mono ?_; rintro e w' ⟨rfl, rfl⟩)
    clear t1 t2 t3 t4 hp
    go_region_held3 (fun w' => w'.cell? ⟨n, 0, none⟩ = some (.float .f64 x) ∧ w'.cell? ⟨m, 0, none⟩ = some (.float .f64 y) ∧ w'.cell? ⟨cf, 0, none⟩ = some (.func (.func 59) #[] #[]))
      (first
        | go_keep
        | exact ⟨(hb4.cell ln).trans hn, (hb4.cell lm).trans hm, (hb4.cell lc).trans hc⟩)
      (first
        | (go_at_call 54; refine (check_fin _ (floatOfInt .f64 r) hz HZ.out _).mono ?_; rintro e w3 ⟨g, rfl, hg, hb3⟩; have HG := Lib.hid hg; clear hg; have hb4 := undrew' hb3)
        | (go_at_call 59; refine (HC.out _).mono ?_; rintro e w1 ⟨rfl, rfl⟩))
    go_wp2
    go_ret2
    exact ⟨g, rfl, HG.out, hb4⟩
end Go.Proofs.Ytkeoakppldheeaa
