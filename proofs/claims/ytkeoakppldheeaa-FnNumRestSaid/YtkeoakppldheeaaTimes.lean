/-
  impl.NumTimes and impl.NumMinus for finite numbers: the product, the difference, or that there is none.
-/
import Derived.Test.YtkeoakppldheeaaSqrtWalk
import Derived.Deep.RegionHeld3
import Derived.Deep.DrawnRows
namespace Go.Proofs.Ytkeoakppldheeaa
open Go.RowKit Ieee

/-- What the thin package answers of a word: it, if it is a number. -/
def numRes (z : Nat) : Value := if finB z = true then .tuple #[.float .f64 z, .bool true] else .tuple #[.float .f64 0, .bool false]
theorem numRes_yes {z : Nat} (h : finB z = true) : numRes z = .tuple #[.float .f64 z, .bool true] := if_pos h
theorem numRes_no {z : Nat} (h : finB z = false) : numRes z = .tuple #[.float .f64 0, .bool false] := if_neg (by rw [h]; decide)

set_option maxRecDepth 100000 in
set_option maxHeartbeats 1600000 in
theorem mul_builtin (ig n m : Nat) (x y z : Nat) (w : World) (h5 : w.cell? ⟨ig, 5, none⟩ = some (.pointer none)) (h7 : w.cell? ⟨ig, 7, none⟩ = some (.slice none 0 0))
    (hn : w.cell? ⟨n, 0, none⟩ = some (.float .f64 x)) (hm : w.cell? ⟨m, 0, none⟩ = some (.float .f64 y)) (hz : double.mul x y = some z) :
    Calls Try.prog 40 #[.pointer (some ⟨ig, 0, none⟩), .iface 81 (.pointer (some ⟨n, 0, none⟩)), .iface 81 (.pointer (some ⟨m, 0, none⟩))] w fun e w' =>
      ∃ v1 v2, e = .returned (.tuple #[v1, v2]) ∧ Chk w.heap.size z w' v1 v2 ∧ Below w.heap.size w w' := by
  have l5 := World.block_lt_of_cell? w _ h5
  have ln := World.block_lt_of_cell? w _ hn
  have lm := World.block_lt_of_cell? w _ hm
  have hzl : z < 18446744073709551616 := double.mul_lt hz
  have k1 : ∀ w, (binOp .mul 23 (.float .f64 x) (.float .f64 y)).run Try.prog w = .ok (.float .f64 z) w := fun w => run_float_arith w .mul 23 .f64 x y z hz
  clear hz
  go_enter Try.func40, Try.ntmps40
  go_wp2_with (go_at_call 53; refine (getNumber_any _ _ _).mono ?_; rintro e w' ⟨rfl, rfl⟩)
  go_region_held3 (fun w' => w'.cell? ⟨n, 0, none⟩ = some (.float .f64 x) ∧ w'.cell? ⟨m, 0, none⟩ = some (.float .f64 y) ∧ w'.cell? ⟨ig, 5, none⟩ = some (.pointer none) ∧ w'.cell? ⟨ig, 7, none⟩ = some (.slice none 0 0))
    (first
      | go_keep
      | exact ⟨(hb4.cell ln).trans hn, (hb4.cell lm).trans hm, (hb4.cell l5).trans h5, (hb4.cell l5).trans h7⟩)
    (first | (go_at_call 54; refine (check_any ig z hzl _ (by go_simp) (by go_simp)).mono ?_; rintro e w3 ⟨v1, v2, rfl, hck, hb3⟩; have HK := Lib.hid hck; clear hck; have hb4 := undrew hb3))
  go_wp2
  go_ret2
  exact ⟨v1, v2, rfl, HK.out, hb4⟩
set_option maxRecDepth 100000 in
theorem mul_part (x y z : Nat) (w : World) (hz : double.mul x y = some z) :
    Calls Try.prog 26 #[.float .f64 x, .float .f64 y] w fun e w' => (finB z = true ∧ e = .returned (.tuple #[.float .f64 z, .nilIface]) ∨ finB z = false ∧ ∃ u, e = .returned (.tuple #[.float .f64 0, .iface 94 u])) ∧ Below w.heap.size w w' := by
  have HZ := Lib.hid hz
  clear hz
  go_enter Try.func26, Try.ntmps26
  go_wp2_with (go_at_call 37; refine (num_any _ _).mono ?_; rintro e w' ⟨rfl, rfl⟩)
  refine Calls.mono (mul_builtin w.heap.size (w.heap.size + 1) (w.heap.size + 2) x y z _ ?_ ?_ ?_ ?_ HZ.out) ?_
  iterate 4 (· first | (simp [World.cell?_alloc_lt]; done) | go_simp)
  rintro e w1 ⟨v1, v2, rfl, hck, hb1⟩
  have hb2 : Below w.heap.size w w1 := ((((Below.refl _ _).alloc (Nat.le_refl _) _).alloc (by simp) _).alloc (by simp; omega) _).trans (hb1.mono (by simp; omega))
  have HB := Lib.hid hb2
  clear hb1 hb2
  rcases hck with ⟨hf, g, rfl, rfl, hg, hc⟩ | ⟨hf, rfl, u, rfl⟩
  · have HF := Lib.hid hf
    clear hf
    go_wp2_with (go_at_call 35; refine (numOf_ok g z _ hc).mono ?_; rintro e w' ⟨rfl, rfl⟩)
    go_ret2
    exact ⟨.inl ⟨HF.out, rfl⟩, HB.out⟩
  · have HF := Lib.hid hf
    clear hf
    go_wp2_with (go_at_call 35; refine (numOf_no _ _ _ _).mono ?_; rintro e w' ⟨rfl, rfl⟩)
    go_ret2
    exact ⟨.inr ⟨HF.out, u, rfl⟩, HB.out⟩
theorem mul_num (x y z : Nat) (w : World) (hz : double.mul x y = some z) :
    Calls Try.prog 12 #[.float .f64 x, .float .f64 y] w fun e w' => e = .returned (numRes z) ∧ Below w.heap.size w w' := by
  have HZ := Lib.hid hz
  clear hz
  go_enter Try.func12, Try.ntmps12
  go_wp2_with fail
  refine (mul_part x y z _ HZ.out).mono ?_
  rintro e w1 ⟨h, hb⟩
  have HB := Lib.hid hb
  clear hb
  rcases h with ⟨hf, rfl⟩ | ⟨hf, u, rfl⟩
  · have HF := Lib.hid hf
    clear hf
    go_wp2_with (go_at_call 20; refine (number_ok z _).mono ?_; rintro e w' ⟨rfl, rfl⟩)
    go_ret2
    exact ⟨by rw [numRes_yes HF.out]; rfl, HB.out⟩
  · have HF := Lib.hid hf
    clear hf
    go_wp2_with (go_at_call 20; refine (number_no _ _ _ _).mono ?_; rintro e w' ⟨rfl, rfl⟩)
    go_ret2
    exact ⟨by rw [numRes_no HF.out]; rfl, HB.out⟩

set_option maxRecDepth 100000 in
set_option maxHeartbeats 1600000 in
theorem sub_builtin (ig n m : Nat) (x y z : Nat) (w : World) (h5 : w.cell? ⟨ig, 5, none⟩ = some (.pointer none)) (h7 : w.cell? ⟨ig, 7, none⟩ = some (.slice none 0 0))
    (hn : w.cell? ⟨n, 0, none⟩ = some (.float .f64 x)) (hm : w.cell? ⟨m, 0, none⟩ = some (.float .f64 y)) (hz : double.sub x y = some z) :
    Calls Try.prog 41 #[.pointer (some ⟨ig, 0, none⟩), .iface 81 (.pointer (some ⟨n, 0, none⟩)), .iface 81 (.pointer (some ⟨m, 0, none⟩))] w fun e w' =>
      ∃ v1 v2, e = .returned (.tuple #[v1, v2]) ∧ Chk w.heap.size z w' v1 v2 ∧ Below w.heap.size w w' := by
  have l5 := World.block_lt_of_cell? w _ h5
  have ln := World.block_lt_of_cell? w _ hn
  have lm := World.block_lt_of_cell? w _ hm
  have hzl : z < 18446744073709551616 := double.sub_lt hz
  have k1 : ∀ w, (binOp .sub 23 (.float .f64 x) (.float .f64 y)).run Try.prog w = .ok (.float .f64 z) w := fun w => run_float_arith w .sub 23 .f64 x y z hz
  clear hz
  go_enter Try.func41, Try.ntmps41
  go_wp2_with (go_at_call 53; refine (getNumber_any _ _ _).mono ?_; rintro e w' ⟨rfl, rfl⟩)
  go_region_held3 (fun w' => w'.cell? ⟨n, 0, none⟩ = some (.float .f64 x) ∧ w'.cell? ⟨m, 0, none⟩ = some (.float .f64 y) ∧ w'.cell? ⟨ig, 5, none⟩ = some (.pointer none) ∧ w'.cell? ⟨ig, 7, none⟩ = some (.slice none 0 0))
    (first
      | go_keep
      | exact ⟨(hb4.cell ln).trans hn, (hb4.cell lm).trans hm, (hb4.cell l5).trans h5, (hb4.cell l5).trans h7⟩)
    (first | (go_at_call 54; refine (check_any ig z hzl _ (by go_simp) (by go_simp)).mono ?_; rintro e w3 ⟨v1, v2, rfl, hck, hb3⟩; have HK := Lib.hid hck; clear hck; have hb4 := undrew hb3))
  go_wp2
  go_ret2
  exact ⟨v1, v2, rfl, HK.out, hb4⟩
set_option maxRecDepth 100000 in
theorem sub_part (x y z : Nat) (w : World) (hz : double.sub x y = some z) :
    Calls Try.prog 27 #[.float .f64 x, .float .f64 y] w fun e w' => (finB z = true ∧ e = .returned (.tuple #[.float .f64 z, .nilIface]) ∨ finB z = false ∧ ∃ u, e = .returned (.tuple #[.float .f64 0, .iface 94 u])) ∧ Below w.heap.size w w' := by
  have HZ := Lib.hid hz
  clear hz
  go_enter Try.func27, Try.ntmps27
  go_wp2_with (go_at_call 37; refine (num_any _ _).mono ?_; rintro e w' ⟨rfl, rfl⟩)
  refine Calls.mono (sub_builtin w.heap.size (w.heap.size + 1) (w.heap.size + 2) x y z _ ?_ ?_ ?_ ?_ HZ.out) ?_
  iterate 4 (· first | (simp [World.cell?_alloc_lt]; done) | go_simp)
  rintro e w1 ⟨v1, v2, rfl, hck, hb1⟩
  have hb2 : Below w.heap.size w w1 := ((((Below.refl _ _).alloc (Nat.le_refl _) _).alloc (by simp) _).alloc (by simp; omega) _).trans (hb1.mono (by simp; omega))
  have HB := Lib.hid hb2
  clear hb1 hb2
  rcases hck with ⟨hf, g, rfl, rfl, hg, hc⟩ | ⟨hf, rfl, u, rfl⟩
  · have HF := Lib.hid hf
    clear hf
    go_wp2_with (go_at_call 35; refine (numOf_ok g z _ hc).mono ?_; rintro e w' ⟨rfl, rfl⟩)
    go_ret2
    exact ⟨.inl ⟨HF.out, rfl⟩, HB.out⟩
  · have HF := Lib.hid hf
    clear hf
    go_wp2_with (go_at_call 35; refine (numOf_no _ _ _ _).mono ?_; rintro e w' ⟨rfl, rfl⟩)
    go_ret2
    exact ⟨.inr ⟨HF.out, u, rfl⟩, HB.out⟩
theorem sub_num (x y z : Nat) (w : World) (hz : double.sub x y = some z) :
    Calls Try.prog 13 #[.float .f64 x, .float .f64 y] w fun e w' => e = .returned (numRes z) ∧ Below w.heap.size w w' := by
  have HZ := Lib.hid hz
  clear hz
  go_enter Try.func13, Try.ntmps13
  go_wp2_with fail
  refine (sub_part x y z _ HZ.out).mono ?_
  rintro e w1 ⟨h, hb⟩
  have HB := Lib.hid hb
  clear hb
  rcases h with ⟨hf, rfl⟩ | ⟨hf, u, rfl⟩
  · have HF := Lib.hid hf
    clear hf
    go_wp2_with (go_at_call 20; refine (number_ok z _).mono ?_; rintro e w' ⟨rfl, rfl⟩)
    go_ret2
    exact ⟨by rw [numRes_yes HF.out]; rfl, HB.out⟩
  · have HF := Lib.hid hf
    clear hf
    go_wp2_with (go_at_call 20; refine (number_no _ _ _ _).mono ?_; rintro e w' ⟨rfl, rfl⟩)
    go_ret2
    exact ⟨by rw [numRes_no HF.out]; rfl, HB.out⟩

end Go.Proofs.Ytkeoakppldheeaa
