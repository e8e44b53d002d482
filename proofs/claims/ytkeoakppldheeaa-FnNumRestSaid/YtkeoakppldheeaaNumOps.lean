/-
  Numbers as values: makeValueNumber, num, getNumber, makeDoubleCheck, Error: what they answer, in new memory.
-/
import Derived.Test.YtkeoakppldheeaaNum
import Derived.Deep.QuietTactic
import Derived.BigQuiet
namespace Go.Proofs.Ytkeoakppldheeaa
open Go.RowKit Ieee

theorem makeNum_any (x : Nat) (w : World) :
    Calls Try.prog 49 #[.float .f64 x] w fun e w' => e = .returned (.pointer (some ⟨w.heap.size, 0, none⟩)) ∧ w.alloc (.cells #[.float .f64 x] 80) = w' := by
  go_enter Try.func49, Try.ntmps49
  go_wp2
  go_ret
  exact ⟨rfl, rfl⟩

theorem num_any (x : Nat) (w : World) :
    Calls Try.prog 37 #[.float .f64 x] w fun e w' => e = .returned (.iface 81 (.pointer (some ⟨w.heap.size, 0, none⟩))) ∧ w.alloc (.cells #[.float .f64 x] 80) = w' := by
  go_enter Try.func37, Try.ntmps37
  go_wp2_with (go_at_call 49; refine (makeNum_any x _).mono ?_; rintro e w' ⟨rfl, rfl⟩)
  go_ret
  exact ⟨rfl, rfl⟩

theorem run_asNumber (v : Value) (x : TypeId) (w : World) : (Instr.typeAssert (.iface 81 v) x 81 true).run Try.prog w = .ok (.tuple #[v, .bool true]) w := by
  simp [Instr.typeAssert, run_underlying Try.underlying81]
theorem run_isNumber (v : Value) (x : TypeId) (w : World) : (Instr.typeAssert (.iface 81 v) x 81 false).run Try.prog w = .ok v w := by
  simp [Instr.typeAssert, run_underlying Try.underlying81]

set_option maxRecDepth 100000 in
theorem getNumber_any (i : Value) (a : Option Addr) (w : World) :
    Calls Try.prog 53 #[i, .iface 81 (.pointer a)] w fun e w' => e = .returned (.tuple #[.pointer a, .nilIface]) ∧ w = w' := by
  have ha := run_asNumber
  go_enter Try.func53, Try.ntmps53
  go_wp2
  go_ret2
  exact ⟨rfl, rfl⟩

/-- The interpreter's cells as the doors make one: none of its fields set. -/
def bareCells : Array Value := #[.nilIface, .map none, .map none, .pointer none, .pointer none, .pointer none, .pointer none, .slice none 0 0, .int .i64 0, .int .i64 0, .nilFunc, .nilFunc]

set_option maxRecDepth 100000 in
theorem trace_any (g : Nat) (w : World) (h5 : w.cell? ⟨g, 5, none⟩ = some (.pointer none)) (h7 : w.cell? ⟨g, 7, none⟩ = some (.slice none 0 0)) :
    Calls Try.prog 64 #[.pointer (some ⟨g, 0, none⟩)] w fun e w' => e = .returned (.slice none 0 0) ∧ w = w' := by
  go_enter Try.func64, Try.ntmps64
  go_wp2
  go_loop [3, 12] (fun r i => r = .slice none 0 0 ∧ i = .int .i64 0) (fun _ _ => 0)
  case atStart => exact ⟨rfl, rfl⟩
  case round =>
    obtain ⟨rfl, rfl⟩ := hrel
    go_wp2
    go_ret
    exact ⟨rfl, rfl⟩

/-- A runtime error, as an error. -/
def IsErr (v : Value) : Prop := ∃ u, v = .iface 94 u
set_option maxRecDepth 100000 in
theorem mkErr_any (s : ByteArray) (w : World) :
    Calls Try.prog 63 #[.string s, .slice none 0 0] w fun e w' => e = .returned (.agg #[.string s, .slice none 0 0]) ∧ Below w.heap.size w w' := by
  go_enter Try.func63, Try.ntmps63
  go_wp2
  refine bodyPost_ret (v := .agg #[.string s, .slice none 0 0]) ?_ rfl ⟨rfl, ?_⟩
  · simp [results, Try.results63, go_sem]
  · exact (Below.refl _ _).alloc (Nat.le_refl _) _

set_option maxRecDepth 100000 in
theorem error_any (g : Nat) (s : ByteArray) (w : World) (h5 : w.cell? ⟨g, 5, none⟩ = some (.pointer none)) (h7 : w.cell? ⟨g, 7, none⟩ = some (.slice none 0 0)) :
    Calls Try.prog 60 #[.pointer (some ⟨g, 0, none⟩), .string s] w fun e w' => (∃ u, e = .returned (.iface 94 u)) ∧ Below w.heap.size w w' := by
  go_enter Try.func60, Try.ntmps60
  go_wp2_with (first
    | (go_at_call 64; refine (trace_any g _ h5 h7).mono ?_; rintro e w' ⟨rfl, rfl⟩)
    | (go_at_call 63; refine (mkErr_any _ _).mono ?_; rintro e w1 ⟨rfl, hb1⟩))
  go_ret
  exact ⟨⟨_, rfl⟩, hb1.alloc hb1.size _⟩

theorem check_ok (i : Value) (x : Nat) (hx : x < 18446744073709551616) (hf : finB x = true) (w : World) :
    Calls Try.prog 54 #[i, .float .f64 x] w fun e w' => e = .returned (.tuple #[.iface 81 (.pointer (some ⟨w.heap.size, 0, none⟩)), .nilIface]) ∧ w.alloc (.cells #[.float .f64 x] 80) = w' := by
  have h1 : nanB x = false := by simp [finB] at hf; exact hf.1
  have h2 : infB x = false := by simp [finB] at hf; exact hf.2
  clear hf
  go_enter Try.func54, Try.ntmps54
  go_wp2_with (first
    | (go_at_call 28; refine (isNaN_any x _).mono ?_; rintro e w' ⟨rfl, rfl⟩)
    | (go_at_call 29; refine (isInf_any x hx _).mono ?_; rintro e w' ⟨rfl, rfl⟩)
    | (go_at_call 49; refine (makeNum_any x _).mono ?_; rintro e w' ⟨rfl, rfl⟩))
  go_ret2
  exact ⟨rfl, rfl⟩

theorem check_no (g : Nat) (x : Nat) (hx : x < 18446744073709551616) (hf : finB x = false) (w : World) (h5 : w.cell? ⟨g, 5, none⟩ = some (.pointer none)) (h7 : w.cell? ⟨g, 7, none⟩ = some (.slice none 0 0)) :
    Calls Try.prog 54 #[.pointer (some ⟨g, 0, none⟩), .float .f64 x] w fun e w' => (∃ u, e = .returned (.tuple #[.nilIface, .iface 94 u])) ∧ Below w.heap.size w w' := by
  cases h1 : nanB x
  · have h2 : infB x = true := by simpa [finB, h1] using hf
    clear hf
    go_enter Try.func54, Try.ntmps54
    go_wp2_with (first
      | (go_at_call 28; refine (isNaN_any x _).mono ?_; rintro e w' ⟨rfl, rfl⟩)
      | (go_at_call 29; refine (isInf_any x hx _).mono ?_; rintro e w' ⟨rfl, rfl⟩)
      | (go_at_call 60; refine (error_any g _ _ h5 h7).mono ?_; rintro e w1 ⟨⟨u, rfl⟩, hb1⟩))
    go_ret2
    exact ⟨⟨_, rfl⟩, hb1⟩
  · clear hf
    go_enter Try.func54, Try.ntmps54
    go_wp2_with (first
      | (go_at_call 28; refine (isNaN_any x _).mono ?_; rintro e w' ⟨rfl, rfl⟩)
      | (go_at_call 60; refine (error_any g _ _ h5 h7).mono ?_; rintro e w1 ⟨⟨u, rfl⟩, hb1⟩))
    go_ret2
    exact ⟨⟨_, rfl⟩, hb1⟩

/-- numOf of what a builtin returned: a number, or an error. -/
theorem numOf_ok (g : Nat) (x : Nat) (w : World) (hc : w.cell? ⟨g, 0, none⟩ = some (.float .f64 x)) :
    Calls Try.prog 35 #[.iface 81 (.pointer (some ⟨g, 0, none⟩)), .nilIface] w fun e w' => e = .returned (.tuple #[.float .f64 x, .nilIface]) ∧ w = w' := by
  have ha := run_isNumber
  go_enter Try.func35, Try.ntmps35
  go_wp2
  go_ret2
  exact ⟨rfl, rfl⟩
theorem numOf_no (v u : Value) (t : TypeId) (w : World) :
    Calls Try.prog 35 #[v, .iface t u] w fun e w' => e = .returned (.tuple #[.float .f64 0, .iface t u]) ∧ w = w' := by
  go_enter Try.func35, Try.ntmps35
  go_wp2
  go_ret2
  exact ⟨rfl, rfl⟩
theorem number_ok (x : Nat) (w : World) :
    Calls Try.prog 20 #[.float .f64 x, .nilIface] w fun e w' => e = .returned (.tuple #[.float .f64 x, .bool true]) ∧ w = w' := by
  go_enter Try.func20, Try.ntmps20
  go_wp2
  go_ret2
  exact ⟨rfl, rfl⟩
theorem number_no (x : Nat) (u : Value) (t : TypeId) (w : World) :
    Calls Try.prog 20 #[.float .f64 x, .iface t u] w fun e w' => e = .returned (.tuple #[.float .f64 0, .bool false]) ∧ w = w' := by
  go_enter Try.func20, Try.ntmps20
  go_wp2
  go_ret2
  exact ⟨rfl, rfl⟩
end Go.Proofs.Ytkeoakppldheeaa
