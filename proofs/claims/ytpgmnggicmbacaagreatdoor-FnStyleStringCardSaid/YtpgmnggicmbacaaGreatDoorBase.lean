/-
  What the joining proofs ask of the program: its settings, and how its types are laid out.
-/
import Derived.Test.YtpgmnggicmbacaaGreatDoorRows
import Derived.Test.YtpgmnggicmbacaaGreatDoorChecked
import Derived.Test.YtpgmnggicmbacaaGreatDoorWords
import Derived.ProofKit
import Derived.OpenShut
import Derived.ShutString
import Derived.ChangeOld
import Derived.SliceStrings
import Derived.Lib.SmallJoins
import Derived.Carry
namespace Go.Proofs.YtpgmnggicmbacaaGreatDoor
theorem own : ownKnob Tryz.prog.godebug = none := by kernel_rfl
theorem laidOut : laidOutB Tryz.prog = true := by kernel_rfl
end Go.Proofs.YtpgmnggicmbacaaGreatDoor
