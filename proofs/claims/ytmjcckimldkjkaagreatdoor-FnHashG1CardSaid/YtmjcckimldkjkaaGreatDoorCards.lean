/-
  DERIVED. GIVEN WITH THE SEED: THE CARDS: each row of YtmjcckimldkjkaaGreatDoorRows.lean that lists a variable, with what it lists TIED to the program's text (the seventh form; the later family's looks); each row that meets fmt, with fmt's text TOLD by the authors' own Lean function (tested against real Go, not proved from fmt's source: count such statements apart). THE CARD IS WHAT COUNTS. Prove the row's statement (the work); the ties are given (YtmjcckimldkjkaaGreatDoorTie.lean); close each card by the builder's one call (the guide's Derived/Test/ToyasCard.lean, 'card_holds'). Laid BY PROGRAM, IN A SANDBOX (cutbox-door.mjs). By AI agents, Wed Nov 11 2026. No macro, syntax, notation, axiom, sorry.
-/
import Derived.Test.YtmjcckimldkjkaaGreatDoorRows
import GoSem.ClaimSeven
namespace Go.Proofs.YtmjcckimldkjkaaGreatDoor
namespace Rows

/-- THE TIED CARD OF 'laws.FnEncodeG1'. -/
def fnEncodeG1Card : Claim7 := { stood := { row := fnEncodeG1Row, standIns := [], harness := (true, "3ab755af3ec8d11c1f3127e4ec919e927d005ad2136d2a596c9207e856116a11"), looks := false }, kinds := [], alts := [], laidByText := true, laidKinds := [.data, .sentinel], laidTests := true, laidLooks := .later }
def FnEncodeG1CardSaid : Prop := Claim7.holds Tryz.pinned (.plain (OpenSpec.ofChange fnEncodeG1Spec)) fnEncodeG1Card

/-- THE TIED CARD OF 'laws.FnHashG1'. -/
def fnHashG1Card : Claim7 := { stood := { row := fnHashG1Row, standIns := [], harness := (true, "3ab755af3ec8d11c1f3127e4ec919e927d005ad2136d2a596c9207e856116a11"), looks := false }, kinds := [], alts := [], laidByText := true, laidKinds := [.data, .sentinel], laidTests := true, laidLooks := .later }
def FnHashG1CardSaid : Prop := Claim7.holds Tryz.pinned (.plain (OpenSpec.ofChange fnHashG1Spec)) fnHashG1Card

/-- THE SECOND FORM's CARD OF 'laws.FnEncodeG1'. -/
def fnEncodeG1UptoCard : Claim7 := { stood := { row := fnEncodeG1UptoRow, standIns := [], harness := (true, "3ab755af3ec8d11c1f3127e4ec919e927d005ad2136d2a596c9207e856116a11"), looks := false }, kinds := [], alts := [], laidByText := true, laidKinds := [.data, .sentinel], laidTests := true, laidLooks := .later }
def FnEncodeG1UptoCardSaid : Prop := Claim7.holds Tryz.pinned (.plain (OpenSpec.upto fnEncodeG1Spec)) fnEncodeG1UptoCard

/-- THE SECOND FORM's CARD OF 'laws.FnHashG1'. -/
def fnHashG1UptoCard : Claim7 := { stood := { row := fnHashG1UptoRow, standIns := [], harness := (true, "3ab755af3ec8d11c1f3127e4ec919e927d005ad2136d2a596c9207e856116a11"), looks := false }, kinds := [], alts := [], laidByText := true, laidKinds := [.data, .sentinel], laidTests := true, laidLooks := .later }
def FnHashG1UptoCardSaid : Prop := Claim7.holds Tryz.pinned (.plain (OpenSpec.upto fnHashG1Spec)) fnHashG1UptoCard
end Rows
end Go.Proofs.YtmjcckimldkjkaaGreatDoor
