/-
  No cell of these rows narrows 'for every input' (looked for: loops, veiled, ifaces, maps, wideKeys, modest, calm, conditions, laid).
  DERIVED. THE GIVEN ROWS OF THIS SEAT. 6 by the template 'for every input the law returns true; each argument reads behind the call as it read before'; 0 by the template 'total and deterministic' (their statements: YthinfliplpjdjaaTotals.lean).
  GIVEN WITH THE SEED: the statements are not yours to turn. If you find one false, say at which input.
  Laid BY PROGRAM, IN A SANDBOX (cutbox-rows.mjs): the forced cells as the released guide's own fill.sh prints them over the translation f09eaf2b661df770… (all of the seat's roots in one cut). By AI agents, Wed Nov 11 2026. No macro, syntax, notation, axiom, sorry.
-/
import Derived.Test.YthinfliplpjdjaaChecked
import GoSem.Claim
import GoSem.ClaimJoined
import GoSem.ClaimMapViews
import Derived.JoinedTies
import Derived.KernelRfl
namespace Go.Proofs.Ythinfliplpjdjaa
/- THE CELL 'sum', in the pinned program and in every row, IS THE sha256 OF THE DUMP (.gsa) THAT YthinfliplpjdjaaProg.lean LOADS. Nothing in Lean hashes anything: it is a label: what it is worth is what the hold of that sum in a sandbox is worth. -/
noncomputable def Try.pinned : Pinned := { name := "ythinfliplpjdjaa", sum := "f09eaf2b661df770ad21f48ac4c1109b3a0f80fab1aa5b99f95077b52f0a6d57", checked := Try.checked }
namespace Rows
def none {H : Type} : Left H := { results := [], args := [] }

/-- 'laws.FnMaxBlanks': WHATEVER THE INPUT: true; the input reads as it did. -/
def fnMaxBlanksSpec : ChangeSpec := { name := "fnMaxBlanks", fn := fun _ => fun
  | [d1, d2] => { results := [.lit (.bool true)], args := [d1, d2] }
  | _ => none }
def fnMaxBlanksRow : OpenClaim := { program := "ythinfliplpjdjaa", sum := "f09eaf2b661df770ad21f48ac4c1109b3a0f80fab1aa5b99f95077b52f0a6d57", func := "given.example/pub-rondel/laws.FnMaxBlanks", spec := "fnMaxBlanks", plainKeys := false, apart := false }
def FnMaxBlanksSaid : Prop := fnMaxBlanksRow.holds Try.pinned (OpenSpec.ofChange fnMaxBlanksSpec)

/-- ITS FALSE NEIGHBOUR: 'it returns false'. Refute it at one input. -/
def fnMaxBlanksWrong : ChangeSpec := { name := "fnMaxBlanks", fn := fun _ => fun
  | [d1, d2] => { results := [.lit (.bool false)], args := [d1, d2] }
  | _ => none }
def FnMaxBlanksWrongFalsely : Prop := fnMaxBlanksRow.holds Try.pinned (OpenSpec.ofChange fnMaxBlanksWrong)

/-- 'laws.FnNumsAdded': WHATEVER THE INPUT: true; the input reads as it did. -/
def fnNumsAddedSpec : ChangeSpec := { name := "fnNumsAdded", fn := fun _ => fun
  | [d1, d2] => { results := [.lit (.bool true)], args := [d1, d2] }
  | _ => none }
def fnNumsAddedRow : OpenClaim := { program := "ythinfliplpjdjaa", sum := "f09eaf2b661df770ad21f48ac4c1109b3a0f80fab1aa5b99f95077b52f0a6d57", func := "given.example/pub-rondel/laws.FnNumsAdded", spec := "fnNumsAdded", inPlace := ["math.Float64bits", "math.Float64frombits"], plainKeys := false, apart := false }
def FnNumsAddedSaid : Prop := fnNumsAddedRow.holds Try.pinned (OpenSpec.ofChange fnNumsAddedSpec)

/-- ITS FALSE NEIGHBOUR: 'it returns false'. Refute it at one input. -/
def fnNumsAddedWrong : ChangeSpec := { name := "fnNumsAdded", fn := fun _ => fun
  | [d1, d2] => { results := [.lit (.bool false)], args := [d1, d2] }
  | _ => none }
def FnNumsAddedWrongFalsely : Prop := fnNumsAddedRow.holds Try.pinned (OpenSpec.ofChange fnNumsAddedWrong)

/-- 'laws.FnFodderConcat': WHATEVER THE INPUT: true; the input reads as it did. -/
def fnFodderConcatSpec : ChangeSpec := { name := "fnFodderConcat", fn := fun _ => fun
  | [d1, d2] => { results := [.lit (.bool true)], args := [d1, d2] }
  | _ => none }
def fnFodderConcatRow : OpenClaim := { program := "ythinfliplpjdjaa", sum := "f09eaf2b661df770ad21f48ac4c1109b3a0f80fab1aa5b99f95077b52f0a6d57", func := "given.example/pub-rondel/laws.FnFodderConcat", spec := "fnFodderConcat", plainKeys := false, apart := false }
def FnFodderConcatSaid : Prop := fnFodderConcatRow.holds Try.pinned (OpenSpec.ofChange fnFodderConcatSpec)

/-- ITS FALSE NEIGHBOUR: 'it returns false'. Refute it at one input. -/
def fnFodderConcatWrong : ChangeSpec := { name := "fnFodderConcat", fn := fun _ => fun
  | [d1, d2] => { results := [.lit (.bool false)], args := [d1, d2] }
  | _ => none }
def FnFodderConcatWrongFalsely : Prop := fnFodderConcatRow.holds Try.pinned (OpenSpec.ofChange fnFodderConcatWrong)

/-- 'laws.FnArgumentsTurned': WHATEVER THE INPUT: true; the input reads as it did. -/
def fnArgumentsTurnedSpec : ChangeSpec := { name := "fnArgumentsTurned", fn := fun _ => fun
  | [d1, d2, d3, d4] => { results := [.lit (.bool true)], args := [d1, d2, d3, d4] }
  | _ => none }
def fnArgumentsTurnedRow : OpenClaim := { program := "ythinfliplpjdjaa", sum := "f09eaf2b661df770ad21f48ac4c1109b3a0f80fab1aa5b99f95077b52f0a6d57", func := "given.example/pub-rondel/laws.FnArgumentsTurned", spec := "fnArgumentsTurned", plainKeys := false, apart := false }
def FnArgumentsTurnedSaid : Prop := fnArgumentsTurnedRow.holds Try.pinned (OpenSpec.ofChange fnArgumentsTurnedSpec)

/-- ITS FALSE NEIGHBOUR: 'it returns false'. Refute it at one input. -/
def fnArgumentsTurnedWrong : ChangeSpec := { name := "fnArgumentsTurned", fn := fun _ => fun
  | [d1, d2, d3, d4] => { results := [.lit (.bool false)], args := [d1, d2, d3, d4] }
  | _ => none }
def FnArgumentsTurnedWrongFalsely : Prop := fnArgumentsTurnedRow.holds Try.pinned (OpenSpec.ofChange fnArgumentsTurnedWrong)

/-- 'laws.FnCodepointExact': WHATEVER THE INPUT: true; the input reads as it did. -/
def fnCodepointExactSpec : ChangeSpec := { name := "fnCodepointExact", fn := fun _ => fun
  | [d] => { results := [.lit (.bool true)], args := [d] }
  | _ => none }
def fnCodepointExactRow : OpenClaim := { program := "ythinfliplpjdjaa", sum := "f09eaf2b661df770ad21f48ac4c1109b3a0f80fab1aa5b99f95077b52f0a6d57", func := "given.example/pub-rondel/laws.FnCodepointExact", spec := "fnCodepointExact", unfollowed := true, recurses := true, plainKeys := false, apart := false }
def FnCodepointExactSaid : Prop := fnCodepointExactRow.holds Try.pinned (OpenSpec.ofChange fnCodepointExactSpec)

/-- ITS FALSE NEIGHBOUR: 'it returns false'. Refute it at one input. -/
def fnCodepointExactWrong : ChangeSpec := { name := "fnCodepointExact", fn := fun _ => fun
  | [d] => { results := [.lit (.bool false)], args := [d] }
  | _ => none }
def FnCodepointExactWrongFalsely : Prop := fnCodepointExactRow.holds Try.pinned (OpenSpec.ofChange fnCodepointExactWrong)

/-- 'laws.FnCommaFixed': WHATEVER THE INPUT: true; the input reads as it did. -/
def fnCommaFixedSpec : ChangeSpec := { name := "fnCommaFixed", fn := fun _ => fun
  | [d1, d2, d3] => { results := [.lit (.bool true)], args := [d1, d2, d3] }
  | _ => none }
def fnCommaFixedRow : OpenClaim := { program := "ythinfliplpjdjaa", sum := "f09eaf2b661df770ad21f48ac4c1109b3a0f80fab1aa5b99f95077b52f0a6d57", func := "given.example/pub-rondel/laws.FnCommaFixed", spec := "fnCommaFixed", plainKeys := false, apart := false }
def FnCommaFixedSaid : Prop := fnCommaFixedRow.holds Try.pinned (OpenSpec.ofChange fnCommaFixedSpec)

/-- ITS FALSE NEIGHBOUR: 'it returns false'. Refute it at one input. -/
def fnCommaFixedWrong : ChangeSpec := { name := "fnCommaFixed", fn := fun _ => fun
  | [d1, d2, d3] => { results := [.lit (.bool false)], args := [d1, d2, d3] }
  | _ => none }
def FnCommaFixedWrongFalsely : Prop := fnCommaFixedRow.holds Try.pinned (OpenSpec.ofChange fnCommaFixedWrong)

/- THE SECOND FORM. 'bulk': how many values and letters a reading holds, each counted each time it is reached (what is shared counts as often as it is met; a slice's spare places count too). A statement '..UptoSaid' is the law's where the arguments, and the package variables that the reading takes, are together of bulk at most 1048576: NARROWER than '..Said'. Prove '..Said' where nothing that the law and all that it calls make is longer than what came in: it says more and counts as full. Else prove '..UptoSaid'. A law counts once. -/
mutual
def uptoBulk {H : Type} : DataW H → Nat
  | .lit (.string bytes) => bytes.length + 1
  | .lit _ => 1
  | .nil => 1
  | .ptr d => uptoBulk d + 1
  | .slice elems spare => uptoBulkAll elems + uptoBulkAll spare + 1
  | .agg parts => uptoBulkAll parts + 1
  | .iface _ d => uptoBulk d + 1
  | .map entries => uptoBulkEntries entries + 1
  | .held _ => 1
def uptoBulkAll {H : Type} : List (DataW H) → Nat
  | [] => 0
  | d :: r => uptoBulk d + uptoBulkAll r
def uptoBulkEntries {H : Type} : List (Lit × DataW H) → Nat
  | [] => 0
  | x :: r => uptoBulkEntry x + uptoBulkEntries r
def uptoBulkEntry {H : Type} : Lit × DataW H → Nat
  | (.string bytes, d) => bytes.length + uptoBulk d + 1
  | (_, d) => uptoBulk d + 1
 end
def uptoSmall : (H : Type) → List (DataW H) → Bool := fun _ ds => decide (uptoBulkAll ds ≤ 1048576)
def OpenSpec.upto (s : _root_.Go.ChangeSpec) : _root_.Go.OpenSpec := { _root_.Go.OpenSpec.ofChange s with cond := some uptoSmall }

/-- 'laws.FnMaxBlanks', WHERE WHAT IT READS IS OF BULK AT MOST 1048576: true; the input reads as it did. -/
def fnMaxBlanksUptoRow : OpenClaim := { program := "ythinfliplpjdjaa", sum := "f09eaf2b661df770ad21f48ac4c1109b3a0f80fab1aa5b99f95077b52f0a6d57", func := "given.example/pub-rondel/laws.FnMaxBlanks", spec := "fnMaxBlanks", plainKeys := false, apart := false, narrowed := true }
def FnMaxBlanksUptoSaid : Prop := fnMaxBlanksUptoRow.holds Try.pinned (OpenSpec.upto fnMaxBlanksSpec)

/-- 'laws.FnNumsAdded', WHERE WHAT IT READS IS OF BULK AT MOST 1048576: true; the input reads as it did. -/
def fnNumsAddedUptoRow : OpenClaim := { program := "ythinfliplpjdjaa", sum := "f09eaf2b661df770ad21f48ac4c1109b3a0f80fab1aa5b99f95077b52f0a6d57", func := "given.example/pub-rondel/laws.FnNumsAdded", spec := "fnNumsAdded", inPlace := ["math.Float64bits", "math.Float64frombits"], plainKeys := false, apart := false, narrowed := true }
def FnNumsAddedUptoSaid : Prop := fnNumsAddedUptoRow.holds Try.pinned (OpenSpec.upto fnNumsAddedSpec)

/-- 'laws.FnFodderConcat', WHERE WHAT IT READS IS OF BULK AT MOST 1048576: true; the input reads as it did. -/
def fnFodderConcatUptoRow : OpenClaim := { program := "ythinfliplpjdjaa", sum := "f09eaf2b661df770ad21f48ac4c1109b3a0f80fab1aa5b99f95077b52f0a6d57", func := "given.example/pub-rondel/laws.FnFodderConcat", spec := "fnFodderConcat", plainKeys := false, apart := false, narrowed := true }
def FnFodderConcatUptoSaid : Prop := fnFodderConcatUptoRow.holds Try.pinned (OpenSpec.upto fnFodderConcatSpec)

/-- 'laws.FnArgumentsTurned', WHERE WHAT IT READS IS OF BULK AT MOST 1048576: true; the input reads as it did. -/
def fnArgumentsTurnedUptoRow : OpenClaim := { program := "ythinfliplpjdjaa", sum := "f09eaf2b661df770ad21f48ac4c1109b3a0f80fab1aa5b99f95077b52f0a6d57", func := "given.example/pub-rondel/laws.FnArgumentsTurned", spec := "fnArgumentsTurned", plainKeys := false, apart := false, narrowed := true }
def FnArgumentsTurnedUptoSaid : Prop := fnArgumentsTurnedUptoRow.holds Try.pinned (OpenSpec.upto fnArgumentsTurnedSpec)

/-- 'laws.FnCodepointExact', WHERE WHAT IT READS IS OF BULK AT MOST 1048576: true; the input reads as it did. -/
def fnCodepointExactUptoRow : OpenClaim := { program := "ythinfliplpjdjaa", sum := "f09eaf2b661df770ad21f48ac4c1109b3a0f80fab1aa5b99f95077b52f0a6d57", func := "given.example/pub-rondel/laws.FnCodepointExact", spec := "fnCodepointExact", unfollowed := true, recurses := true, plainKeys := false, apart := false, narrowed := true }
def FnCodepointExactUptoSaid : Prop := fnCodepointExactUptoRow.holds Try.pinned (OpenSpec.upto fnCodepointExactSpec)

/-- 'laws.FnCommaFixed', WHERE WHAT IT READS IS OF BULK AT MOST 1048576: true; the input reads as it did. -/
def fnCommaFixedUptoRow : OpenClaim := { program := "ythinfliplpjdjaa", sum := "f09eaf2b661df770ad21f48ac4c1109b3a0f80fab1aa5b99f95077b52f0a6d57", func := "given.example/pub-rondel/laws.FnCommaFixed", spec := "fnCommaFixed", plainKeys := false, apart := false, narrowed := true }
def FnCommaFixedUptoSaid : Prop := fnCommaFixedUptoRow.holds Try.pinned (OpenSpec.upto fnCommaFixedSpec)

end Rows
end Go.Proofs.Ythinfliplpjdjaa
