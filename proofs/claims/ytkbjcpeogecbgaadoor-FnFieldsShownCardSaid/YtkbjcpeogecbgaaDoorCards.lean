/-
  DERIVED. GIVEN WITH THE SEED: THE CARDS: each row of YtkbjcpeogecbgaaDoorRows.lean that lists a variable, with what it lists TIED to the program's text (the seventh form; the later family's looks); each row that meets fmt, with fmt's text TOLD by the authors' own Lean function (tested against real Go, not proved from fmt's source: count such statements apart). THE CARD IS WHAT COUNTS. Prove the row's statement (the work); the ties are given (YtkbjcpeogecbgaaDoorTie.lean); close each card by the builder's one call (the guide's Derived/Test/ToyasCard.lean, 'card_holds'). Laid BY PROGRAM, IN A SANDBOX (cutbox-door.mjs). By AI agents, Wed Nov 11 2026. No macro, syntax, notation, axiom, sorry.
-/
import Derived.Test.YtkbjcpeogecbgaaDoorRows
import GoSem.ClaimSeven
namespace Go.Proofs.YtkbjcpeogecbgaaDoor
namespace Rows

/-- THE TIED CARD OF 'laws.FnFound'. -/
def fnFoundCard : Claim7 := { stood := { row := fnFoundRow, standIns := [], harness := (true, "b296d58f6aef9804d81a7f71fa65eaf275675942e913097b2da5431b5ffc06f5"), looks := true }, kinds := [], alts := [], laidByText := true, laidKinds := [.data, .pinned], laidTests := true, laidLooks := .later }
def FnFoundCardSaid : Prop := Claim7.holds Tryd.pinned (.plain (OpenSpec.ofChange fnFoundSpec)) fnFoundCard

/-- THE TIED CARD OF 'laws.FnFieldsShown'. -/
def fnFieldsShownCard : Claim7 := { stood := { row := fnFieldsShownRow, standIns := [], harness := (true, "b296d58f6aef9804d81a7f71fa65eaf275675942e913097b2da5431b5ffc06f5"), looks := true }, kinds := [], alts := [], laidByText := true, laidKinds := [.data, .pinned], laidTests := true, laidLooks := .later }
def FnFieldsShownCardSaid : Prop := Claim7.holds Tryd.pinned (.plain (OpenSpec.ofChange fnFieldsShownSpec)) fnFieldsShownCard

/-- THE SECOND FORM's CARD OF 'laws.FnFound'. -/
def fnFoundUptoCard : Claim7 := { stood := { row := fnFoundUptoRow, standIns := [], harness := (true, "b296d58f6aef9804d81a7f71fa65eaf275675942e913097b2da5431b5ffc06f5"), looks := true }, kinds := [], alts := [], laidByText := true, laidKinds := [.data, .pinned], laidTests := true, laidLooks := .later }
def FnFoundUptoCardSaid : Prop := Claim7.holds Tryd.pinned (.plain (OpenSpec.upto fnFoundSpec)) fnFoundUptoCard

/-- THE SECOND FORM's CARD OF 'laws.FnFieldsShown'. -/
def fnFieldsShownUptoCard : Claim7 := { stood := { row := fnFieldsShownUptoRow, standIns := [], harness := (true, "b296d58f6aef9804d81a7f71fa65eaf275675942e913097b2da5431b5ffc06f5"), looks := true }, kinds := [], alts := [], laidByText := true, laidKinds := [.data, .pinned], laidTests := true, laidLooks := .later }
def FnFieldsShownUptoCardSaid : Prop := Claim7.holds Tryd.pinned (.plain (OpenSpec.upto fnFieldsShownSpec)) fnFieldsShownUptoCard
end Rows
end Go.Proofs.YtkbjcpeogecbgaaDoor
