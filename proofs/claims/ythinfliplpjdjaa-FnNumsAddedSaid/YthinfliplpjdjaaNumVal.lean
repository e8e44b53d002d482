/-
  Numbers as values, and thunks that hold them: makeValueNumber, num, readyThunk: what they make.
-/
import Derived.Test.YthinfliplpjdjaaNum
import Derived.Deep.RegionHeld3
import Derived.Deep.DrawnRows
namespace Go.Proofs.Ythinfliplpjdjaa
open Go.RowKit Ieee

theorem makeNum_any (x : Nat) (w : World) :
    Calls Try.prog 74 #[.float .f64 x] w fun e w' => e = .returned (.pointer (some ⟨w.heap.size, 0, none⟩)) ∧ w.alloc (.cells #[.float .f64 x] 147) = w' := by
  go_enter Try.func74, Try.ntmps74
  go_wp2
  go_ret
  exact ⟨rfl, rfl⟩
theorem num_any (x : Nat) (w : World) :
    Calls Try.prog 65 #[.float .f64 x] w fun e w' => e = .returned (.iface 148 (.pointer (some ⟨w.heap.size, 0, none⟩))) ∧ w.alloc (.cells #[.float .f64 x] 147) = w' := by
  go_enter Try.func65, Try.ntmps65
  go_wp2_with (go_at_call 74; refine (makeNum_any x _).mono ?_; rintro e w' ⟨rfl, rfl⟩)
  go_ret
  exact ⟨rfl, rfl⟩
theorem run_isNumber (v : Value) (x : TypeId) (w : World) : (Instr.typeAssert (.iface 148 v) x 148 false).run Try.prog w = .ok v w := by
  simp [Instr.typeAssert, run_underlying Try.underlying148]
theorem thunk_any (t : TypeId) (v : Value) (w : World) :
    Calls Try.prog 64 #[.iface t v] w fun e w' => e = .returned (.pointer (some ⟨w.heap.size, 0, none⟩)) ∧ w.alloc (.cells #[.pointer none, .nilIface, .iface t v, .nilIface] 153) = w' := by
  go_enter Try.func64, Try.ntmps64
  go_wp2
  go_ret
  exact ⟨rfl, rfl⟩
end Go.Proofs.Ythinfliplpjdjaa
