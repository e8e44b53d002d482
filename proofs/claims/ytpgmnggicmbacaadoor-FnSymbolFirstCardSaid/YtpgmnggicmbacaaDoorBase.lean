/-
  What the joining proofs ask of the program: its settings, and how its types are laid out.
-/
import Derived.Test.YtpgmnggicmbacaaDoorRows
import Derived.Test.YtpgmnggicmbacaaDoorChecked
import Derived.Test.YtpgmnggicmbacaaDoorWords
import Derived.ProofKit
import Derived.OpenShut
import Derived.ShutString
import Derived.ChangeOld
import Derived.SliceStrings
import Derived.Lib.SmallJoins
import Derived.Carry
namespace Go.Proofs.YtpgmnggicmbacaaDoor
theorem own : ownKnob Tryd.prog.godebug = none := by kernel_rfl
theorem laidOut : laidOutB Tryd.prog = true := by kernel_rfl
end Go.Proofs.YtpgmnggicmbacaaDoor
