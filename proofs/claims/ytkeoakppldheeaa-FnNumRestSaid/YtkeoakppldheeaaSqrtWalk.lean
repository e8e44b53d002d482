/-
  impl.NumSqrt: what it answers.
-/
import Derived.Test.YtkeoakppldheeaaNumOps
import Derived.Deep.RegionHeld3
import Derived.Deep.DrawnRows
namespace Go.Proofs.Ytkeoakppldheeaa
open Go.RowKit Ieee

theorem below_drewN {B : Nat} {a w : World} (h : Below B a w) (n : Nat) : Below B a (w.drewN n) := ⟨h.os, h.tape, h.output, h.size, h.block⟩
theorem undrew {w w1 : World} (h : Below w.drew.heap.size w.drew w1) : Below w.heap.size w w1 := ⟨h.os, h.tape, h.output, h.size, h.block⟩
/-- What makeDoubleCheck hands back: a number in new memory, or an error. -/
def Chk (B : Nat) (y : Nat) (w : World) (v1 v2 : Value) : Prop :=
  (finB y = true ∧ ∃ g, v1 = .iface 81 (.pointer (some ⟨g, 0, none⟩)) ∧ v2 = .nilIface ∧ B ≤ g ∧ w.cell? ⟨g, 0, none⟩ = some (.float .f64 y)) ∨
  (finB y = false ∧ v1 = .nilIface ∧ ∃ u, v2 = .iface 94 u)
theorem Chk.more {B B' y : Nat} {w : World} {v1 v2 : Value} (h : Chk B y w v1 v2) (hB : B' ≤ B) : Chk B' y w v1 v2 := by
  rcases h with ⟨h1, g, h2, h3, h4, h5⟩ | h
  · exact .inl ⟨h1, g, h2, h3, Nat.le_trans hB h4, h5⟩
  · exact .inr h
theorem check_any (g : Nat) (y : Nat) (hy : y < 18446744073709551616) (w : World) (h5 : w.cell? ⟨g, 5, none⟩ = some (.pointer none)) (h7 : w.cell? ⟨g, 7, none⟩ = some (.slice none 0 0)) :
    Calls Try.prog 54 #[.pointer (some ⟨g, 0, none⟩), .float .f64 y] w fun e w' => ∃ v1 v2, e = .returned (.tuple #[v1, v2]) ∧ Chk w.heap.size y w' v1 v2 ∧ Below w.heap.size w w' := by
  cases hf : finB y
  · refine (check_no g y hy hf w h5 h7).mono ?_
    rintro e w' ⟨⟨u, rfl⟩, hb⟩
    exact ⟨_, _, rfl, .inr ⟨hf, rfl, _, rfl⟩, hb⟩
  · refine (check_ok _ y hy hf w).mono ?_
    rintro e w' ⟨rfl, rfl⟩
    exact ⟨_, _, rfl, .inl ⟨hf, _, rfl, rfl, Nat.le_refl _, by simp⟩, (Below.refl _ _).alloc (Nat.le_refl _) _⟩

theorem nan_lt (x t : Nat) : (Question.nanBits .f64 x x).cut t < 18446744073709551616 := by
  simp only [Question.cut]
  omega
theorem run_sqrt (x : Nat) (w : World) : ∃ y n, y < 18446744073709551616 ∧ (∀ o, double.sqrt x = some o → y = o) ∧ (callFunc 66 #[.float .f64 x]).run Try.prog w = .ok (.value (.float .f64 y)) (w.drewN n) := by
  rw [run_callFunc_extern Try.func66 (by kernel_rfl) (by kernel_rfl) (by kernel_rfl) (e := Extern.MathSqrt.sqrt) (by kernel_rfl)]
  have hd : Extern.MathSqrt.sqrt #[.float .f64 x] = (match double.sqrt x with
    | some r => pure (Value.float .f64 r)
    | none => do pure (Value.float .f64 (← choose (.nanBits .f64 x x)))) := rfl
  rw [hd]
  cases h : double.sqrt x with
  | none =>
    refine ⟨_, 1, nan_lt x (w.tape w.drawn (.nanBits .f64 x x)), (fun o ho => by cases ho), ?_⟩
    simp
    rfl
  | some r =>
    refine ⟨r, 0, double.sqrt_lt h, (fun o ho => by injection ho), ?_⟩
    simp
    rfl

theorem sqrt_any (x : Nat) (w : World) :
    Calls Try.prog 52 #[.float .f64 x] w fun e w' => ∃ y, y < 18446744073709551616 ∧ (∀ o, double.sqrt x = some o → y = o) ∧ e = .returned (.float .f64 y) ∧ Below w.heap.size w w' := by
  obtain ⟨y, n, h1, h2, h3⟩ := run_sqrt x w
  have H2 := Lib.hid h2
  clear h2
  go_enter Try.func52, Try.ntmps52
  go_wp2
  go_ret
  exact ⟨y, h1, H2.out, rfl, below_drewN (Below.refl _ _) n⟩

set_option maxRecDepth 100000 in
set_option maxHeartbeats 800000 in
theorem lifted_sqrt (ig n c : Nat) (x : Nat) (w : World) (h5 : w.cell? ⟨ig, 5, none⟩ = some (.pointer none)) (h7 : w.cell? ⟨ig, 7, none⟩ = some (.slice none 0 0))
    (hn : w.cell? ⟨n, 0, none⟩ = some (.float .f64 x)) (hc : w.cell? ⟨c, 0, none⟩ = some (.func (.func 52) #[] #[])) :
    Calls Try.prog 65 #[.pointer (some ⟨ig, 0, none⟩), .iface 81 (.pointer (some ⟨n, 0, none⟩)), .pointer (some ⟨c, 0, none⟩)] w fun e w' =>
      ∃ y v1 v2, y < 18446744073709551616 ∧ (∀ o, double.sqrt x = some o → y = o) ∧ e = .returned (.tuple #[v1, v2]) ∧ Chk w.heap.size y w' v1 v2 ∧ Below w.heap.size w w' := by
  have l5 := World.block_lt_of_cell? w _ h5
  have ln := World.block_lt_of_cell? w _ hn
  have lc := World.block_lt_of_cell? w _ hc
  go_enter Try.func65, Try.ntmps65
  go_wp2_with (go_at_call 53; refine (getNumber_any _ _ _).mono ?_; rintro e w' ⟨rfl, rfl⟩)
  go_region_held3 (fun w' => w'.cell? ⟨n, 0, none⟩ = some (.float .f64 x) ∧ w'.cell? ⟨c, 0, none⟩ = some (.func (.func 52) #[] #[]) ∧ w'.cell? ⟨ig, 5, none⟩ = some (.pointer none) ∧ w'.cell? ⟨ig, 7, none⟩ = some (.slice none 0 0))
    (first
      | go_keep
      | exact ⟨(hb4.cell ln).trans hn, (hb4.cell lc).trans hc, (hb4.cell l5).trans h5, (hb4.cell l5).trans h7⟩
      | exact ⟨(hb2.cell ln).trans hn, (hb2.cell lc).trans hc, (hb2.cell l5).trans h5, (hb2.cell l5).trans h7⟩)
    (first
      | (go_at_call 52; refine (sqrt_any x _).mono ?_; rintro e w1 ⟨y, hy, ho, rfl, hb1⟩; have HO := Lib.hid ho; clear ho; have hb2 := undrew hb1)
      | (go_at_call 54; refine (check_any ig y hy _ ((hb2.cell l5).trans h5) ((hb2.cell l5).trans h7)).mono ?_; rintro e w3 ⟨v1, v2, rfl, hck, hb3⟩; have HK := Lib.hid hck; clear hck; have hb4 := hb2.trans (hb3.mono hb2.size)))
  go_wp2
  go_ret2
  exact ⟨y, v1, v2, hy, HO.out, rfl, HK.out.more hb2.size, hb4⟩

theorem lift_any (f : Fn) (w : World) :
    Calls Try.prog 51 #[.func f #[] #[]] w fun e w' => e = .returned (.func (.func 65) #[] #[.pointer (some ⟨w.heap.size, 0, none⟩)]) ∧ w.alloc (.cells #[.func f #[] #[]] 29) = w' := by
  go_enter Try.func51, Try.ntmps51
  go_wp2
  go_ret
  exact ⟨rfl, rfl⟩
theorem builtinSqrt_any (w : World) :
    Calls Try.prog 39 #[] w fun e w' => e = .returned (.func (.func 65) #[] #[.pointer (some ⟨w.heap.size, 0, none⟩)]) ∧ w.alloc (.cells #[.func (.func 52) #[] #[]] 29) = w' := by
  go_enter Try.func39, Try.ntmps39
  go_wp2_with (go_at_call 51; refine (lift_any _ _).mono ?_; rintro e w' ⟨rfl, rfl⟩)
  go_ret
  exact ⟨rfl, rfl⟩
set_option maxRecDepth 100000 in
theorem partSqrt_any (x : Nat) (w : World) :
    Calls Try.prog 23 #[.float .f64 x] w fun e w' => ∃ y, (∀ o, double.sqrt x = some o → y = o) ∧ (finB y = true ∧ e = .returned (.tuple #[.float .f64 y, .nilIface]) ∨ finB y = false ∧ ∃ u, e = .returned (.tuple #[.float .f64 0, .iface 94 u])) ∧ Below w.heap.size w w' := by
  go_enter Try.func23, Try.ntmps23
  go_wp2_with (first
    | (go_at_call 39; refine (builtinSqrt_any _).mono ?_; rintro e w' ⟨rfl, rfl⟩)
    | (go_at_call 37; refine (num_any x _).mono ?_; rintro e w' ⟨rfl, rfl⟩))
  refine Calls.mono (lifted_sqrt (w.heap.size + 1) (w.heap.size + 2) w.heap.size x _ ?_ ?_ ?_ ?_) ?_
  iterate 4 (· first | (simp [World.cell?_alloc_lt]; done) | go_simp)
  rintro e w1 ⟨y, v1, v2, hy, ho, rfl, hck, hb1⟩
  have HO := Lib.hid ho
  clear ho
  have hb2 : Below w.heap.size w w1 := ((((Below.refl _ _).alloc (Nat.le_refl _) _).alloc (by simp) _).alloc (by simp; omega) _).trans (hb1.mono (by simp; omega))
  have HB := Lib.hid hb2
  clear hb1 hb2
  rcases hck with ⟨hf, g, rfl, rfl, hg, hc⟩ | ⟨hf, rfl, u, rfl⟩
  · have HF := Lib.hid hf
    clear hf
    go_wp2_with (go_at_call 35; refine (numOf_ok g y _ hc).mono ?_; rintro e w' ⟨rfl, rfl⟩)
    go_ret2
    exact ⟨y, HO.out, .inl ⟨HF.out, rfl⟩, HB.out⟩
  · have HF := Lib.hid hf
    clear hf
    go_wp2_with (go_at_call 35; refine (numOf_no _ _ _ _).mono ?_; rintro e w' ⟨rfl, rfl⟩)
    go_ret2
    exact ⟨y, HO.out, .inr ⟨HF.out, u, rfl⟩, HB.out⟩
theorem numSqrt_any (x : Nat) (w : World) :
    Calls Try.prog 9 #[.float .f64 x] w fun e w' => ∃ y, (∀ o, double.sqrt x = some o → y = o) ∧ (finB y = true ∧ e = .returned (.tuple #[.float .f64 y, .bool true]) ∨ finB y = false ∧ e = .returned (.tuple #[.float .f64 0, .bool false])) ∧ Below w.heap.size w w' := by
  go_enter Try.func9, Try.ntmps9
  go_wp2_with fail
  refine (partSqrt_any x _).mono ?_
  rintro e w1 ⟨y, ho, h, hb⟩
  have HO := Lib.hid ho
  have HB := Lib.hid hb
  clear ho hb
  rcases h with ⟨hf, rfl⟩ | ⟨hf, u, rfl⟩
  · have HF := Lib.hid hf
    clear hf
    go_wp2_with (go_at_call 20; refine (number_ok y _).mono ?_; rintro e w' ⟨rfl, rfl⟩)
    go_ret2
    exact ⟨y, HO.out, .inl ⟨HF.out, rfl⟩, HB.out⟩
  · have HF := Lib.hid hf
    clear hf
    go_wp2_with (go_at_call 20; refine (number_no _ _ _ _).mono ?_; rintro e w' ⟨rfl, rfl⟩)
    go_ret2
    exact ⟨y, HO.out, .inr ⟨HF.out, rfl⟩, HB.out⟩
end Go.Proofs.Ytkeoakppldheeaa
