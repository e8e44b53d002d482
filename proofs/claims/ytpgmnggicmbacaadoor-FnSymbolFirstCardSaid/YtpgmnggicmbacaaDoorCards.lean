/-
  DERIVED. GIVEN WITH THE SEED: THE CARDS: each row of YtpgmnggicmbacaaDoorRows.lean that lists a variable, with what it lists TIED to the program's text (the seventh form; the later family's looks); each row that meets fmt, with fmt's text TOLD by the authors' own Lean function (tested against real Go, not proved from fmt's source: count such statements apart). THE CARD IS WHAT COUNTS. Prove the row's statement (the work); the ties are given (YtpgmnggicmbacaaDoorTie.lean); close each card by the builder's one call (the guide's Derived/Test/ToyasCard.lean, 'card_holds'). Laid BY PROGRAM, IN A SANDBOX (cutbox-door.mjs). By AI agents, Wed Nov 11 2026. No macro, syntax, notation, axiom, sorry.
-/
import Derived.Test.YtpgmnggicmbacaaDoorRows
import GoSem.ClaimSeven
namespace Go.Proofs.YtpgmnggicmbacaaDoor
namespace Rows

/-- THE TIED CARD OF 'laws.FnSpaceRead'. -/
def fnSpaceReadCard : Claim7 := { stood := { row := fnSpaceReadRow, standIns := [], harness := (true, "9e340758f732f7cfa4c4a8b31f080a6803e1b58d207168f2ca4aab26df691c12"), looks := false }, kinds := [], alts := [], laidByText := true, laidKinds := [.data, .sentinel, .pinned], laidTests := true, laidLooks := .later }
def FnSpaceReadCardSaid : Prop := Claim7.holds Tryd.pinned (.plain (OpenSpec.ofChange fnSpaceReadSpec)) fnSpaceReadCard

/-- THE TIED CARD OF 'laws.FnEscapeBack'. -/
def fnEscapeBackCard : Claim7 := { stood := { row := fnEscapeBackRow, standIns := [], harness := (true, "9e340758f732f7cfa4c4a8b31f080a6803e1b58d207168f2ca4aab26df691c12"), looks := false }, kinds := [], alts := [], laidByText := true, laidKinds := [.data, .data, .data, .data, .sentinel, .sentinel, .pinned], laidTests := true, laidLooks := .later }
def FnEscapeBackCardSaid : Prop := Claim7.holds Tryd.pinned (.plain (OpenSpec.ofChange fnEscapeBackSpec)) fnEscapeBackCard

/-- THE TIED CARD OF 'laws.FnSymbolFirst'. -/
def fnSymbolFirstCard : Claim7 := { stood := { row := fnSymbolFirstRow, standIns := [], harness := (true, "9e340758f732f7cfa4c4a8b31f080a6803e1b58d207168f2ca4aab26df691c12"), looks := false }, kinds := [], alts := [], laidByText := true, laidKinds := [.data, .sentinel, .pinned], laidTests := true, laidLooks := .later }
def FnSymbolFirstCardSaid : Prop := Claim7.holds Tryd.pinned (.plain (OpenSpec.ofChange fnSymbolFirstSpec)) fnSymbolFirstCard

/-- THE SECOND FORM's CARD OF 'laws.FnSpaceRead'. -/
def fnSpaceReadUptoCard : Claim7 := { stood := { row := fnSpaceReadUptoRow, standIns := [], harness := (true, "9e340758f732f7cfa4c4a8b31f080a6803e1b58d207168f2ca4aab26df691c12"), looks := false }, kinds := [], alts := [], laidByText := true, laidKinds := [.data, .sentinel, .pinned], laidTests := true, laidLooks := .later }
def FnSpaceReadUptoCardSaid : Prop := Claim7.holds Tryd.pinned (.plain (OpenSpec.upto fnSpaceReadSpec)) fnSpaceReadUptoCard

/-- THE SECOND FORM's CARD OF 'laws.FnEscapeBack'. -/
def fnEscapeBackUptoCard : Claim7 := { stood := { row := fnEscapeBackUptoRow, standIns := [], harness := (true, "9e340758f732f7cfa4c4a8b31f080a6803e1b58d207168f2ca4aab26df691c12"), looks := false }, kinds := [], alts := [], laidByText := true, laidKinds := [.data, .data, .data, .data, .sentinel, .sentinel, .pinned], laidTests := true, laidLooks := .later }
def FnEscapeBackUptoCardSaid : Prop := Claim7.holds Tryd.pinned (.plain (OpenSpec.upto fnEscapeBackSpec)) fnEscapeBackUptoCard

/-- THE SECOND FORM's CARD OF 'laws.FnSymbolFirst'. -/
def fnSymbolFirstUptoCard : Claim7 := { stood := { row := fnSymbolFirstUptoRow, standIns := [], harness := (true, "9e340758f732f7cfa4c4a8b31f080a6803e1b58d207168f2ca4aab26df691c12"), looks := false }, kinds := [], alts := [], laidByText := true, laidKinds := [.data, .sentinel, .pinned], laidTests := true, laidLooks := .later }
def FnSymbolFirstUptoCardSaid : Prop := Claim7.holds Tryd.pinned (.plain (OpenSpec.upto fnSymbolFirstSpec)) fnSymbolFirstUptoCard
end Rows
end Go.Proofs.YtpgmnggicmbacaaDoor
