/-
  DERIVED. GIVEN WITH THE SEED: THE CARDS: each row of YtpgmnggicmbacaaGreatDoorRows.lean that lists a variable, with what it lists TIED to the program's text (the seventh form; the later family's looks); each row that meets fmt, with fmt's text TOLD by the authors' own Lean function (tested against real Go, not proved from fmt's source: count such statements apart). THE CARD IS WHAT COUNTS. Prove the row's statement (the work); the ties are given (YtpgmnggicmbacaaGreatDoorTie.lean); close each card by the builder's one call (the guide's Derived/Test/ToyasCard.lean, 'card_holds'). Laid BY PROGRAM, IN A SANDBOX (cutbox-door.mjs). By AI agents, Wed Nov 11 2026. No macro, syntax, notation, axiom, sorry.
-/
import Derived.Test.YtpgmnggicmbacaaGreatDoorRows
import GoSem.ClaimSeven
namespace Go.Proofs.YtpgmnggicmbacaaGreatDoor
namespace Rows

/-- THE TIED CARD OF 'laws.FnStyleString'. -/
def fnStyleStringCard : Claim7 := { stood := { row := fnStyleStringRow, standIns := [], harness := (true, "a514f1d1ef78472ea6c50e28a1321d096fe3366c346352d04f377b4f682da061"), looks := false }, kinds := [], alts := [], laidByText := true, laidKinds := [.data, .data, .data, .data, .sentinel, .sentinel, .pinned], laidTests := true, laidLooks := .later }
def FnStyleStringCardSaid : Prop := Claim7.holds Tryz.pinned (.plain (OpenSpec.ofChange fnStyleStringSpec)) fnStyleStringCard

/-- THE SECOND FORM's CARD OF 'laws.FnStyleString'. -/
def fnStyleStringUptoCard : Claim7 := { stood := { row := fnStyleStringUptoRow, standIns := [], harness := (true, "a514f1d1ef78472ea6c50e28a1321d096fe3366c346352d04f377b4f682da061"), looks := false }, kinds := [], alts := [], laidByText := true, laidKinds := [.data, .data, .data, .data, .sentinel, .sentinel, .pinned], laidTests := true, laidLooks := .later }
def FnStyleStringUptoCardSaid : Prop := Claim7.holds Tryz.pinned (.plain (OpenSpec.upto fnStyleStringSpec)) fnStyleStringUptoCard
end Rows
end Go.Proofs.YtpgmnggicmbacaaGreatDoor
