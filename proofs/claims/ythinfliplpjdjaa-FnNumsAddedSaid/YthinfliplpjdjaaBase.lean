/-
  What the joining proofs ask of the program: its settings, and how its types are laid out.
-/
import Derived.Test.YthinfliplpjdjaaRows
import Derived.Test.YthinfliplpjdjaaChecked
import Derived.Test.YthinfliplpjdjaaWords
import Derived.ProofKit
import Derived.OpenShut
import Derived.ShutString
import Derived.ChangeOld
import Derived.SliceStrings
import Derived.Lib.SmallJoins
import Derived.Carry
namespace Go.Proofs.Ythinfliplpjdjaa
theorem own : ownKnob Try.prog.godebug = none := by kernel_rfl
theorem laidOut : laidOutB Try.prog = true := by kernel_rfl
end Go.Proofs.Ythinfliplpjdjaa
