/-
  Numbers as values, runtime errors: makeValueNumber, makeRuntimeError, Error, numOf, number.
-/
import Derived.Test.YthinfliplpjdjaaWords
import Derived.Test.YthinfliplpjdjaaProg
namespace Go.Proofs.Ythinfliplpjdjaa
open Go.RowKit

theorem makeNum_any (x : Nat) (w : World) :
    Calls Try.prog 74 #[.float .f64 x] w fun e w' => e = .returned (.pointer (some ⟨w.heap.size, 0, none⟩)) ∧ w.alloc (.cells #[.float .f64 x] 147) = w' := by
  go_enter Try.func74, Try.ntmps74
  go_wp2
  go_ret
  exact ⟨rfl, rfl⟩

theorem run_isNumber (v : Value) (x : TypeId) (w : World) : (Instr.typeAssert (.iface 148 v) x 148 false).run Try.prog w = .ok v w := by
  simp [Instr.typeAssert, run_underlying Try.underlying148]

set_option maxRecDepth 100000 in
theorem trace_any (g : Nat) (w : World) (h5 : w.cell? ⟨g, 5, none⟩ = some (.pointer none)) (h7 : w.cell? ⟨g, 7, none⟩ = some (.slice none 0 0)) :
    Calls Try.prog 83 #[.pointer (some ⟨g, 0, none⟩)] w fun e w' => e = .returned (.slice none 0 0) ∧ w = w' := by
  go_enter Try.func83, Try.ntmps83
  go_wp2
  go_loop [3, 12] (fun r i => r = .slice none 0 0 ∧ i = .int .i64 0) (fun _ _ => 0)
  case atStart => exact ⟨rfl, rfl⟩
  case round =>
    obtain ⟨rfl, rfl⟩ := hrel
    go_wp2
    go_ret
    exact ⟨rfl, rfl⟩

set_option maxRecDepth 100000 in
theorem mkErr_any (s : ByteArray) (w : World) :
    Calls Try.prog 82 #[.string s, .slice none 0 0] w fun e w' => e = .returned (.agg #[.string s, .slice none 0 0]) ∧ Below w.heap.size w w' := by
  go_enter Try.func82, Try.ntmps82
  go_wp2
  refine bodyPost_ret (v := .agg #[.string s, .slice none 0 0]) ?_ rfl ⟨rfl, ?_⟩
  · simp [results, Try.results82, go_sem]
  · exact (Below.refl _ _).alloc (Nat.le_refl _) _

set_option maxRecDepth 100000 in
theorem error_any (g : Nat) (s : ByteArray) (w : World) (h5 : w.cell? ⟨g, 5, none⟩ = some (.pointer none)) (h7 : w.cell? ⟨g, 7, none⟩ = some (.slice none 0 0)) :
    Calls Try.prog 71 #[.pointer (some ⟨g, 0, none⟩), .string s] w fun e w' => (∃ u, e = .returned (.iface 197 u)) ∧ Below w.heap.size w w' := by
  go_enter Try.func71, Try.ntmps71
  go_wp2_with (first
    | (go_at_call 83; refine (trace_any g _ h5 h7).mono ?_; rintro e w' ⟨rfl, rfl⟩)
    | (go_at_call 82; refine (mkErr_any _ _).mono ?_; rintro e w1 ⟨rfl, hb1⟩))
  go_ret
  exact ⟨⟨_, rfl⟩, hb1.alloc hb1.size _⟩

theorem numOf_ok (g : Nat) (x : Nat) (w : World) (hc : w.cell? ⟨g, 0, none⟩ = some (.float .f64 x)) :
    Calls Try.prog 59 #[.iface 148 (.pointer (some ⟨g, 0, none⟩)), .nilIface] w fun e w' => e = .returned (.tuple #[.float .f64 x, .nilIface]) ∧ w = w' := by
  have ha := run_isNumber
  go_enter Try.func59, Try.ntmps59
  go_wp2
  go_ret2
  exact ⟨rfl, rfl⟩
theorem numOf_no (v u : Value) (t : TypeId) (w : World) :
    Calls Try.prog 59 #[v, .iface t u] w fun e w' => e = .returned (.tuple #[.float .f64 0, .iface t u]) ∧ w = w' := by
  go_enter Try.func59, Try.ntmps59
  go_wp2
  go_ret2
  exact ⟨rfl, rfl⟩
theorem number_ok (x : Nat) (w : World) :
    Calls Try.prog 44 #[.float .f64 x, .nilIface] w fun e w' => e = .returned (.tuple #[.float .f64 x, .bool true]) ∧ w = w' := by
  go_enter Try.func44, Try.ntmps44
  go_wp2
  go_ret2
  exact ⟨rfl, rfl⟩
theorem number_no (x : Nat) (u : Value) (t : TypeId) (w : World) :
    Calls Try.prog 44 #[.float .f64 x, .iface t u] w fun e w' => e = .returned (.tuple #[.float .f64 0, .bool false]) ∧ w = w' := by
  go_enter Try.func44, Try.ntmps44
  go_wp2
  go_ret2
  exact ⟨rfl, rfl⟩
end Go.Proofs.Ythinfliplpjdjaa
