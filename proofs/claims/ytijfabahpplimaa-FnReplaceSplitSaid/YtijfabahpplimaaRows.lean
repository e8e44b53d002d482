/-
  No cell of these rows narrows 'for every input' (looked for: loops, veiled, ifaces, maps, wideKeys, modest, calm, conditions, laid).
  DERIVED. THE GIVEN ROWS OF THIS SEAT. 3 by the template 'for every input the law returns true; each argument reads behind the call as it read before'; 0 by the template 'total and deterministic' (their statements: YtijfabahpplimaaTotals.lean).
  GIVEN WITH THE SEED: the statements are not yours to turn. If you find one false, say at which input.
  Laid BY PROGRAM, IN A SANDBOX (cutbox-rows.mjs): the forced cells as the released guide's own fill.sh prints them over the translation b53eeafcaf5659ae… (all of the seat's roots in one cut). By AI agents, Wed Nov 11 2026. No macro, syntax, notation, axiom, sorry.
-/
import Derived.Test.YtijfabahpplimaaChecked
import GoSem.Claim
import GoSem.ClaimJoined
import GoSem.ClaimMapViews
import Derived.JoinedTies
import Derived.KernelRfl
namespace Go.Proofs.Ytijfabahpplimaa
/- THE CELL 'sum', in the pinned program and in every row, IS THE sha256 OF THE DUMP (.gsa) THAT YtijfabahpplimaaProg.lean LOADS. Nothing in Lean hashes anything: it is a label: what it is worth is what the hold of that sum in a sandbox is worth. -/
noncomputable def Try.pinned : Pinned := { name := "ytijfabahpplimaa", sum := "b53eeafcaf5659aec42cdc143ac1ab87394fd67d7048347eadb27dc0cd6060c1", checked := Try.checked }
namespace Rows
def none {H : Type} : Left H := { results := [], args := [] }

/-- 'laws.FnCodepointExact': WHATEVER THE INPUT: true; the input reads as it did. -/
def fnCodepointExactSpec : ChangeSpec := { name := "fnCodepointExact", fn := fun _ => fun
  | [d] => { results := [.lit (.bool true)], args := [d] }
  | _ => none }
def fnCodepointExactRow : OpenClaim := { program := "ytijfabahpplimaa", sum := "b53eeafcaf5659aec42cdc143ac1ab87394fd67d7048347eadb27dc0cd6060c1", func := "given.example/pub-rondel/laws.FnCodepointExact", spec := "fnCodepointExact", unfollowed := true, recurses := true, plainKeys := false, apart := false }
def FnCodepointExactSaid : Prop := fnCodepointExactRow.holds Try.pinned (OpenSpec.ofChange fnCodepointExactSpec)

/-- ITS FALSE NEIGHBOUR: 'it returns false'. Refute it at one input. -/
def fnCodepointExactWrong : ChangeSpec := { name := "fnCodepointExact", fn := fun _ => fun
  | [d] => { results := [.lit (.bool false)], args := [d] }
  | _ => none }
def FnCodepointExactWrongFalsely : Prop := fnCodepointExactRow.holds Try.pinned (OpenSpec.ofChange fnCodepointExactWrong)

/-- 'laws.FnReplaceSplit': WHATEVER THE INPUT: true; the input reads as it did. -/
def fnReplaceSplitSpec : ChangeSpec := { name := "fnReplaceSplit", fn := fun _ => fun
  | [d1, d2, d3] => { results := [.lit (.bool true)], args := [d1, d2, d3] }
  | _ => none }
def fnReplaceSplitRow : OpenClaim := { program := "ytijfabahpplimaa", sum := "b53eeafcaf5659aec42cdc143ac1ab87394fd67d7048347eadb27dc0cd6060c1", func := "given.example/pub-rondel/laws.FnReplaceSplit", spec := "fnReplaceSplit", unfollowed := true, recurses := true, plainKeys := false, apart := false }
def FnReplaceSplitSaid : Prop := fnReplaceSplitRow.holds Try.pinned (OpenSpec.ofChange fnReplaceSplitSpec)

/-- ITS FALSE NEIGHBOUR: 'it returns false'. Refute it at one input. -/
def fnReplaceSplitWrong : ChangeSpec := { name := "fnReplaceSplit", fn := fun _ => fun
  | [d1, d2, d3] => { results := [.lit (.bool false)], args := [d1, d2, d3] }
  | _ => none }
def FnReplaceSplitWrongFalsely : Prop := fnReplaceSplitRow.holds Try.pinned (OpenSpec.ofChange fnReplaceSplitWrong)

/-- 'laws.FnSubstrExact': WHATEVER THE INPUT: true; the input reads as it did. -/
def fnSubstrExactSpec : ChangeSpec := { name := "fnSubstrExact", fn := fun _ => fun
  | [d1, d2, d3] => { results := [.lit (.bool true)], args := [d1, d2, d3] }
  | _ => none }
def fnSubstrExactRow : OpenClaim := { program := "ytijfabahpplimaa", sum := "b53eeafcaf5659aec42cdc143ac1ab87394fd67d7048347eadb27dc0cd6060c1", func := "given.example/pub-rondel/laws.FnSubstrExact", spec := "fnSubstrExact", inPlace := ["math.Float64bits", "math.Float64frombits"], unfollowed := true, recurses := true, plainKeys := false, apart := false }
def FnSubstrExactSaid : Prop := fnSubstrExactRow.holds Try.pinned (OpenSpec.ofChange fnSubstrExactSpec)

/-- ITS FALSE NEIGHBOUR: 'it returns false'. Refute it at one input. -/
def fnSubstrExactWrong : ChangeSpec := { name := "fnSubstrExact", fn := fun _ => fun
  | [d1, d2, d3] => { results := [.lit (.bool false)], args := [d1, d2, d3] }
  | _ => none }
def FnSubstrExactWrongFalsely : Prop := fnSubstrExactRow.holds Try.pinned (OpenSpec.ofChange fnSubstrExactWrong)

/- THE SECOND FORM. 'bulk': how many values and letters a reading holds, each counted each time it is reached (what is shared counts as often as it is met; a slice's spare places count too). A statement '..UptoSaid' is the law's where the arguments, and the package variables that the reading takes, are together of bulk at most 1048576: NARROWER than '..Said'. Prove '..Said' where nothing that the law and all that it calls make is longer than what came in: it says more and counts as full. Else prove '..UptoSaid'. A law counts once. -/
mutual
def uptoBulk {H : Type} : DataW H → Nat
  | .lit (.string bytes) => bytes.length + 1
  | .lit _ => 1
  | .nil => 1
  | .ptr d => uptoBulk d + 1
  | .slice elems spare => uptoBulkAll elems + uptoBulkAll spare + 1
  | .agg parts => uptoBulkAll parts + 1
  | .iface _ d => uptoBulk d + 1
  | .map entries => uptoBulkEntries entries + 1
  | .held _ => 1
def uptoBulkAll {H : Type} : List (DataW H) → Nat
  | [] => 0
  | d :: r => uptoBulk d + uptoBulkAll r
def uptoBulkEntries {H : Type} : List (Lit × DataW H) → Nat
  | [] => 0
  | x :: r => uptoBulkEntry x + uptoBulkEntries r
def uptoBulkEntry {H : Type} : Lit × DataW H → Nat
  | (.string bytes, d) => bytes.length + uptoBulk d + 1
  | (_, d) => uptoBulk d + 1
 end
def uptoSmall : (H : Type) → List (DataW H) → Bool := fun _ ds => decide (uptoBulkAll ds ≤ 1048576)
def OpenSpec.upto (s : _root_.Go.ChangeSpec) : _root_.Go.OpenSpec := { _root_.Go.OpenSpec.ofChange s with cond := some uptoSmall }

/-- 'laws.FnCodepointExact', WHERE WHAT IT READS IS OF BULK AT MOST 1048576: true; the input reads as it did. -/
def fnCodepointExactUptoRow : OpenClaim := { program := "ytijfabahpplimaa", sum := "b53eeafcaf5659aec42cdc143ac1ab87394fd67d7048347eadb27dc0cd6060c1", func := "given.example/pub-rondel/laws.FnCodepointExact", spec := "fnCodepointExact", unfollowed := true, recurses := true, plainKeys := false, apart := false, narrowed := true }
def FnCodepointExactUptoSaid : Prop := fnCodepointExactUptoRow.holds Try.pinned (OpenSpec.upto fnCodepointExactSpec)

/-- 'laws.FnReplaceSplit', WHERE WHAT IT READS IS OF BULK AT MOST 1048576: true; the input reads as it did. -/
def fnReplaceSplitUptoRow : OpenClaim := { program := "ytijfabahpplimaa", sum := "b53eeafcaf5659aec42cdc143ac1ab87394fd67d7048347eadb27dc0cd6060c1", func := "given.example/pub-rondel/laws.FnReplaceSplit", spec := "fnReplaceSplit", unfollowed := true, recurses := true, plainKeys := false, apart := false, narrowed := true }
def FnReplaceSplitUptoSaid : Prop := fnReplaceSplitUptoRow.holds Try.pinned (OpenSpec.upto fnReplaceSplitSpec)

/-- 'laws.FnSubstrExact', WHERE WHAT IT READS IS OF BULK AT MOST 1048576: true; the input reads as it did. -/
def fnSubstrExactUptoRow : OpenClaim := { program := "ytijfabahpplimaa", sum := "b53eeafcaf5659aec42cdc143ac1ab87394fd67d7048347eadb27dc0cd6060c1", func := "given.example/pub-rondel/laws.FnSubstrExact", spec := "fnSubstrExact", inPlace := ["math.Float64bits", "math.Float64frombits"], unfollowed := true, recurses := true, plainKeys := false, apart := false, narrowed := true }
def FnSubstrExactUptoSaid : Prop := fnSubstrExactUptoRow.holds Try.pinned (OpenSpec.upto fnSubstrExactSpec)

end Rows
end Go.Proofs.Ytijfabahpplimaa
