/-
  What the joining proofs ask of the program: its settings, and how its types are laid out.
-/
import Derived.Test.YtijfabahpplimaaRows
import Derived.Test.YtijfabahpplimaaChecked
import Derived.Test.YtijfabahpplimaaWords
import Derived.ProofKit
import Derived.OpenShut
import Derived.ShutString
import Derived.ChangeOld
import Derived.SliceStrings
import Derived.Lib.SmallJoins
import Derived.Carry
namespace Go.Proofs.Ytijfabahpplimaa
theorem own : ownKnob Try.prog.godebug = none := by kernel_rfl
theorem laidOut : laidOutB Try.prog = true := by kernel_rfl
end Go.Proofs.Ytijfabahpplimaa
