/-
  Numbers and texts as values, what std.substr asks of them: getNumber, getInt, getGoString, strOf, text.
-/
import Derived.Test.YtijfabahpplimaaModOne
import Derived.Test.YtijfabahpplimaaOfUnits2
import Derived.Test.YtijfabahpplimaaNumOps3
namespace Go.Proofs.Ytijfabahpplimaa
open Go.RowKit Ieee

theorem float_nat (a : Nat) (h : a ≤ 65535) : floatOfInt .f64 (a : Int) < 9218868437227405312 ∧ fv (floatOfInt .f64 (a : Int)) = (a : Rat) ∧ fin (floatOfInt .f64 (a : Int)) := by
  obtain ⟨h1, h2⟩ := int_fin (a : Int) (by omega) (by omega)
  have e : floatOfInt .f64 (a : Int) = double.nearest (decide ((a : Int) < 0)) (a : Int).natAbs 0 := rfl
  rw [e]
  refine ⟨?_, by rw [h2]; rfl, h1⟩
  have d : decide ((a : Int) < 0) = false := by simp
  rw [d] at h1 ⊢
  rw [nearest_word, word_false] at h1 ⊢
  have hle := rng_le (a : Int).natAbs 0
  rcases Nat.lt_or_ge (rng (a : Int).natAbs 0) 9218868437227405312 with h3 | h3
  · exact h3
  · have h4 : rng (a : Int).natAbs 0 = 9218868437227405312 := by omega
    rw [h4] at h1
    have h5 := read_inf false
    rw [word_false] at h5
    obtain ⟨s, m, i, h6⟩ := h1
    rw [h5] at h6
    cases h6

theorem num_any (x : Nat) (w : World) :
    Calls Try.prog 29 #[.float .f64 x] w fun e w' => e = .returned (.iface 91 (.pointer (some ⟨w.heap.size, 0, none⟩))) ∧ w.alloc (.cells #[.float .f64 x] 90) = w' := by
  go_enter Try.func29, Try.ntmps29
  go_wp2_with (go_at_call 33; refine (makeNum_any x _).mono ?_; rintro e w' ⟨rfl, rfl⟩)
  go_ret
  exact ⟨rfl, rfl⟩
theorem run_asNumber (v : Value) (x : TypeId) (w : World) : (Instr.typeAssert (.iface 91 v) x 91 true).run Try.prog w = .ok (.tuple #[v, .bool true]) w := by
  simp [Instr.typeAssert, run_underlying Try.underlying91]
set_option maxRecDepth 100000 in
theorem getNumber_any (i : Value) (a : Option Addr) (w : World) :
    Calls Try.prog 42 #[i, .iface 91 (.pointer a)] w fun e w' => e = .returned (.tuple #[.pointer a, .nilIface]) ∧ w = w' := by
  have ha := run_asNumber
  go_enter Try.func42, Try.ntmps42
  go_wp2
  go_ret2
  exact ⟨rfl, rfl⟩

set_option maxRecDepth 100000 in
theorem getInt_any (i : Value) (g x : Nat) (n : Nat) (w : World) (hc : w.cell? ⟨g, 0, none⟩ = some (.float .f64 x)) (hx : floatOfInt .f64 (n : Int) = x) (hn : n ≤ 65535) :
    Calls Try.prog 36 #[i, .iface 91 (.pointer (some ⟨g, 0, none⟩))] w fun e w' => e = .returned (.tuple #[.int .i64 n, .nilIface]) ∧ w = w' := by
  obtain ⟨h1, h2, h3⟩ := float_nat n hn
  have hi : floatToIntVal .f64 x .i32 = some (n : Int) := by
    have h4 := toInt_whole h3 (n : Int) (by rw [h2]; rfl)
    rw [hx] at h4
    unfold floatToIntVal
    have e : FloatKind.f64.decode x = double.read x := rfl
    rw [e, h4]
    have m1 : IntKind.i32.min = -2147483648 := by decide
    have m2 : IntKind.i32.max = 2147483647 := by decide
    rw [m1, m2]
    simp only
    rw [if_pos (by omega)]
  have k1 : ∀ w, (convert 25 21 (.float .f64 x)).run Try.prog w = .ok (.int .i32 n) w := fun w => run_convert_float_int w _ _ _ _ _ _ (by kernel_rfl) Try.underlying21 hi
  have k2 : ∀ w, (convert 3 25 (.int .i64 (n : Int))).run Try.prog w = .ok (.float .f64 x) w := fun w => by
    rw [← hx]; exact run_convert_int_float w _ _ _ _ _ (by kernel_rfl) Try.underlying25
  have k3 : (FloatKind.f64.format.order x x != some .eq) = false := by
    rw [hx] at h3
    have := nan_no (.inl h3)
    show (!(FloatKind.f64.format.order x x == some .eq)) = false
    exact (by rw [show (FloatKind.f64.format.order x x == some .eq) = true from this]; rfl)
  clear h1 h2 h3 hi hx
  go_enter Try.func36, Try.ntmps36
  go_wp2_with (go_at_call 42; refine (getNumber_any _ _ _).mono ?_; rintro e w' ⟨rfl, rfl⟩)
  go_ret2
  exact ⟨rfl, rfl⟩

/-- A row of code points, as a string. -/
theorem conv_runes (w : World) (B : Nat) (A : Option Addr) (l : List Nat) (n c : Nat) (hn : l.length = n) (h : Reads w B 1 A n (runesOf l).toList) : (convert 99 9 (.slice A n c)).run Try.prog w = .ok (.string (text l)) w := by
  subst hn
  cases l with
  | nil =>
    cases A with
    | none => exact run_convert_runes_nil w _ _ _ _ _ Try.underlying99 Try.underlying21 Try.underlying9
    | some a => exact run_convert_runes w _ _ _ a 0 c [] (by simp) Try.underlying99 Try.underlying21 Try.underlying9 (fun j hj => by simp at hj)
  | cons x r =>
    obtain ⟨ad, rfl, -, hc⟩ := h.2 (by simp)
    have := run_convert_runes (P := Try.prog) w 99 9 21 ad (x :: r).length c ((x :: r).map Int.ofNat) (by simp) Try.underlying99 Try.underlying21 Try.underlying9 (fun j hj => by
      have hj' : j < (x :: r).length := by simpa using hj
      refine hc j _ ?_
      simp only [runesOf]
      rw [List.getElem?_map, List.getElem?_eq_getElem hj']
      simp only [Option.map_some, List.getD_eq_getElem?_getD, List.getElem?_map, List.getElem?_eq_getElem hj', Option.getD_some])
    rw [this]
    have e : ((x :: r).map Int.ofNat).take (x :: r).length = (x :: r).map Int.ofNat := List.take_of_length_le (by simp)
    rw [e]
    rfl
end Go.Proofs.Ytijfabahpplimaa
