/-
  No cell of these rows narrows 'for every input' (looked for: loops, veiled, ifaces, maps, wideKeys, modest, calm, conditions, laid).
  DERIVED. THE GIVEN ROWS OF THIS SEAT. 4 by the template 'for every input the law returns true; each argument reads behind the call as it read before'; 0 by the template 'total and deterministic' (their statements: YtkeoakppldheeaaTotals.lean).
  GIVEN WITH THE SEED: the statements are not yours to turn. If you find one false, say at which input.
  Laid BY PROGRAM, IN A SANDBOX (cutbox-rows.mjs): the forced cells as the released guide's own fill.sh prints them over the translation ada9738e28c1b55d… (all of the seat's roots in one cut). By AI agents, Wed Nov 11 2026. No macro, syntax, notation, axiom, sorry.
-/
import Derived.Test.YtkeoakppldheeaaChecked
import GoSem.Claim
import GoSem.ClaimJoined
import GoSem.ClaimMapViews
import Derived.JoinedTies
import Derived.KernelRfl
namespace Go.Proofs.Ytkeoakppldheeaa
/- THE CELL 'sum', in the pinned program and in every row, IS THE sha256 OF THE DUMP (.gsa) THAT YtkeoakppldheeaaProg.lean LOADS. Nothing in Lean hashes anything: it is a label: what it is worth is what the hold of that sum in a sandbox is worth. -/
noncomputable def Try.pinned : Pinned := { name := "ytkeoakppldheeaa", sum := "ada9738e28c1b55d5c03c0670d911cb1bdc3c6df801770e427b5d0545af1ec64", checked := Try.checked }
namespace Rows
def none {H : Type} : Left H := { results := [], args := [] }

/-- 'laws.FnNumShifted': WHATEVER THE INPUT: true; the input reads as it did. -/
def fnNumShiftedSpec : ChangeSpec := { name := "fnNumShifted", fn := fun _ => fun
  | [d1, d2] => { results := [.lit (.bool true)], args := [d1, d2] }
  | _ => none }
def fnNumShiftedRow : OpenClaim := { program := "ytkeoakppldheeaa", sum := "ada9738e28c1b55d5c03c0670d911cb1bdc3c6df801770e427b5d0545af1ec64", func := "given.example/pub-rondel/laws.FnNumShifted", spec := "fnNumShifted", inPlace := ["math.Float64bits", "math.Float64frombits"], unfollowed := true, recurses := true, plainKeys := false, apart := false }
def FnNumShiftedSaid : Prop := fnNumShiftedRow.holds Try.pinned (OpenSpec.ofChange fnNumShiftedSpec)

/-- ITS FALSE NEIGHBOUR: 'it returns false'. Refute it at one input. -/
def fnNumShiftedWrong : ChangeSpec := { name := "fnNumShifted", fn := fun _ => fun
  | [d1, d2] => { results := [.lit (.bool false)], args := [d1, d2] }
  | _ => none }
def FnNumShiftedWrongFalsely : Prop := fnNumShiftedRow.holds Try.pinned (OpenSpec.ofChange fnNumShiftedWrong)

/-- 'laws.FnNumSqrtNear': WHATEVER THE INPUT: true; the input reads as it did. -/
def fnNumSqrtNearSpec : ChangeSpec := { name := "fnNumSqrtNear", fn := fun _ => fun
  | [d] => { results := [.lit (.bool true)], args := [d] }
  | _ => none }
def fnNumSqrtNearRow : OpenClaim := { program := "ytkeoakppldheeaa", sum := "ada9738e28c1b55d5c03c0670d911cb1bdc3c6df801770e427b5d0545af1ec64", func := "given.example/pub-rondel/laws.FnNumSqrtNear", spec := "fnNumSqrtNear", inPlace := ["math.Float64bits", "math.Float64frombits", "math.sqrt"], unfollowed := true, recurses := true, plainKeys := false, apart := false }
def FnNumSqrtNearSaid : Prop := fnNumSqrtNearRow.holds Try.pinned (OpenSpec.ofChange fnNumSqrtNearSpec)

/-- ITS FALSE NEIGHBOUR: 'it returns false'. Refute it at one input. -/
def fnNumSqrtNearWrong : ChangeSpec := { name := "fnNumSqrtNear", fn := fun _ => fun
  | [d] => { results := [.lit (.bool false)], args := [d] }
  | _ => none }
def FnNumSqrtNearWrongFalsely : Prop := fnNumSqrtNearRow.holds Try.pinned (OpenSpec.ofChange fnNumSqrtNearWrong)

/-- 'laws.FnNumTurns': WHATEVER THE INPUT: true; the input reads as it did. -/
def fnNumTurnsSpec : ChangeSpec := { name := "fnNumTurns", fn := fun _ => fun
  | [d1, d2] => { results := [.lit (.bool true)], args := [d1, d2] }
  | _ => none }
def fnNumTurnsRow : OpenClaim := { program := "ytkeoakppldheeaa", sum := "ada9738e28c1b55d5c03c0670d911cb1bdc3c6df801770e427b5d0545af1ec64", func := "given.example/pub-rondel/laws.FnNumTurns", spec := "fnNumTurns", inPlace := ["math.Float64bits", "math.Float64frombits", "math.archTrunc"], unfollowed := true, recurses := true, plainKeys := false, apart := false }
def FnNumTurnsSaid : Prop := fnNumTurnsRow.holds Try.pinned (OpenSpec.ofChange fnNumTurnsSpec)

/-- ITS FALSE NEIGHBOUR: 'it returns false'. Refute it at one input. -/
def fnNumTurnsWrong : ChangeSpec := { name := "fnNumTurns", fn := fun _ => fun
  | [d1, d2] => { results := [.lit (.bool false)], args := [d1, d2] }
  | _ => none }
def FnNumTurnsWrongFalsely : Prop := fnNumTurnsRow.holds Try.pinned (OpenSpec.ofChange fnNumTurnsWrong)

/-- 'laws.FnNumRest': WHATEVER THE INPUT: true; the input reads as it did. -/
def fnNumRestSpec : ChangeSpec := { name := "fnNumRest", fn := fun _ => fun
  | [d1, d2] => { results := [.lit (.bool true)], args := [d1, d2] }
  | _ => none }
def fnNumRestRow : OpenClaim := { program := "ytkeoakppldheeaa", sum := "ada9738e28c1b55d5c03c0670d911cb1bdc3c6df801770e427b5d0545af1ec64", func := "given.example/pub-rondel/laws.FnNumRest", spec := "fnNumRest", inPlace := ["math.Float64bits", "math.Float64frombits"], plainKeys := false, apart := false }
def FnNumRestSaid : Prop := fnNumRestRow.holds Try.pinned (OpenSpec.ofChange fnNumRestSpec)

/-- ITS FALSE NEIGHBOUR: 'it returns false'. Refute it at one input. -/
def fnNumRestWrong : ChangeSpec := { name := "fnNumRest", fn := fun _ => fun
  | [d1, d2] => { results := [.lit (.bool false)], args := [d1, d2] }
  | _ => none }
def FnNumRestWrongFalsely : Prop := fnNumRestRow.holds Try.pinned (OpenSpec.ofChange fnNumRestWrong)

/- THE SECOND FORM. 'bulk': how many values and letters a reading holds, each counted each time it is reached (what is shared counts as often as it is met; a slice's spare places count too). A statement '..UptoSaid' is the law's where the arguments, and the package variables that the reading takes, are together of bulk at most 1048576: NARROWER than '..Said'. Prove '..Said' where nothing that the law and all that it calls make is longer than what came in: it says more and counts as full. Else prove '..UptoSaid'. A law counts once. -/
mutual
def uptoBulk {H : Type} : DataW H → Nat
  | .lit (.string bytes) => bytes.length + 1
  | .lit _ => 1
  | .nil => 1
  | .ptr d => uptoBulk d + 1
  | .slice elems spare => uptoBulkAll elems + uptoBulkAll spare + 1
  | .agg parts => uptoBulkAll parts + 1
  | .iface _ d => uptoBulk d + 1
  | .map entries => uptoBulkEntries entries + 1
  | .held _ => 1
def uptoBulkAll {H : Type} : List (DataW H) → Nat
  | [] => 0
  | d :: r => uptoBulk d + uptoBulkAll r
def uptoBulkEntries {H : Type} : List (Lit × DataW H) → Nat
  | [] => 0
  | x :: r => uptoBulkEntry x + uptoBulkEntries r
def uptoBulkEntry {H : Type} : Lit × DataW H → Nat
  | (.string bytes, d) => bytes.length + uptoBulk d + 1
  | (_, d) => uptoBulk d + 1
 end
def uptoSmall : (H : Type) → List (DataW H) → Bool := fun _ ds => decide (uptoBulkAll ds ≤ 1048576)
def OpenSpec.upto (s : _root_.Go.ChangeSpec) : _root_.Go.OpenSpec := { _root_.Go.OpenSpec.ofChange s with cond := some uptoSmall }

/-- 'laws.FnNumShifted', WHERE WHAT IT READS IS OF BULK AT MOST 1048576: true; the input reads as it did. -/
def fnNumShiftedUptoRow : OpenClaim := { program := "ytkeoakppldheeaa", sum := "ada9738e28c1b55d5c03c0670d911cb1bdc3c6df801770e427b5d0545af1ec64", func := "given.example/pub-rondel/laws.FnNumShifted", spec := "fnNumShifted", inPlace := ["math.Float64bits", "math.Float64frombits"], unfollowed := true, recurses := true, plainKeys := false, apart := false, narrowed := true }
def FnNumShiftedUptoSaid : Prop := fnNumShiftedUptoRow.holds Try.pinned (OpenSpec.upto fnNumShiftedSpec)

/-- 'laws.FnNumSqrtNear', WHERE WHAT IT READS IS OF BULK AT MOST 1048576: true; the input reads as it did. -/
def fnNumSqrtNearUptoRow : OpenClaim := { program := "ytkeoakppldheeaa", sum := "ada9738e28c1b55d5c03c0670d911cb1bdc3c6df801770e427b5d0545af1ec64", func := "given.example/pub-rondel/laws.FnNumSqrtNear", spec := "fnNumSqrtNear", inPlace := ["math.Float64bits", "math.Float64frombits", "math.sqrt"], unfollowed := true, recurses := true, plainKeys := false, apart := false, narrowed := true }
def FnNumSqrtNearUptoSaid : Prop := fnNumSqrtNearUptoRow.holds Try.pinned (OpenSpec.upto fnNumSqrtNearSpec)

/-- 'laws.FnNumTurns', WHERE WHAT IT READS IS OF BULK AT MOST 1048576: true; the input reads as it did. -/
def fnNumTurnsUptoRow : OpenClaim := { program := "ytkeoakppldheeaa", sum := "ada9738e28c1b55d5c03c0670d911cb1bdc3c6df801770e427b5d0545af1ec64", func := "given.example/pub-rondel/laws.FnNumTurns", spec := "fnNumTurns", inPlace := ["math.Float64bits", "math.Float64frombits", "math.archTrunc"], unfollowed := true, recurses := true, plainKeys := false, apart := false, narrowed := true }
def FnNumTurnsUptoSaid : Prop := fnNumTurnsUptoRow.holds Try.pinned (OpenSpec.upto fnNumTurnsSpec)

/-- 'laws.FnNumRest', WHERE WHAT IT READS IS OF BULK AT MOST 1048576: true; the input reads as it did. -/
def fnNumRestUptoRow : OpenClaim := { program := "ytkeoakppldheeaa", sum := "ada9738e28c1b55d5c03c0670d911cb1bdc3c6df801770e427b5d0545af1ec64", func := "given.example/pub-rondel/laws.FnNumRest", spec := "fnNumRest", inPlace := ["math.Float64bits", "math.Float64frombits"], plainKeys := false, apart := false, narrowed := true }
def FnNumRestUptoSaid : Prop := fnNumRestUptoRow.holds Try.pinned (OpenSpec.upto fnNumRestSpec)

end Rows
end Go.Proofs.Ytkeoakppldheeaa
