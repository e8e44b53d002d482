/-
  liftBitwise: the closure that it makes.
-/
import Derived.Test.YtkeoakppldheeaaBitwise
namespace Go.Proofs.Ytkeoakppldheeaa
open Go.RowKit Ieee
theorem liftB_any (f : Fn) (b : Bool) (w : World) :
    Calls Try.prog 47 #[.func f #[] #[], .bool b] w fun e w' => e = .returned (.func (.func 62) #[] #[.pointer (some ⟨w.heap.size + 1, 0, none⟩), .pointer (some ⟨w.heap.size, 0, none⟩)]) ∧ (w.alloc (.cells #[.func f #[] #[]] 84)).alloc (.cells #[.bool b] 4) = w' := by
  go_enter Try.func47, Try.ntmps47
  go_wp2
  go_ret
  exact ⟨rfl, rfl⟩
end Go.Proofs.Ytkeoakppldheeaa
