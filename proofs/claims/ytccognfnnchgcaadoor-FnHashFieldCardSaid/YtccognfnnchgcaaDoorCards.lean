/-
  DERIVED. GIVEN WITH THE SEED: THE CARDS: each row of YtccognfnnchgcaaDoorRows.lean that lists a variable, with what it lists TIED to the program's text (the seventh form; the later family's looks); each row that meets fmt, with fmt's text TOLD by the authors' own Lean function (tested against real Go, not proved from fmt's source: count such statements apart). THE CARD IS WHAT COUNTS. Prove the row's statement (the work); the ties are given (YtccognfnnchgcaaDoorTie.lean); close each card by the builder's one call (the guide's Derived/Test/ToyasCard.lean, 'card_holds'). Laid BY PROGRAM, IN A SANDBOX (cutbox-door.mjs). By AI agents, Wed Nov 11 2026. No macro, syntax, notation, axiom, sorry.
-/
import Derived.Test.YtccognfnnchgcaaDoorRows
import GoSem.ClaimSeven
namespace Go.Proofs.YtccognfnnchgcaaDoor
namespace Rows

/-- THE TIED CARD OF 'laws.FnHashField'. -/
def fnHashFieldCard : Claim7 := { stood := { row := fnHashFieldRow, standIns := [], harness := (true, "b24c5f5de29b0d2a78a171d83811d586116774591103ee28c2e767890d41174f"), looks := false }, kinds := [], alts := [], laidByText := true, laidKinds := [.data, .sentinel], laidTests := true, laidLooks := .later }
def FnHashFieldCardSaid : Prop := Claim7.holds Tryd.pinned (.plain (OpenSpec.ofChange fnHashFieldSpec)) fnHashFieldCard

/-- THE SECOND FORM's CARD OF 'laws.FnHashField'. -/
def fnHashFieldUptoCard : Claim7 := { stood := { row := fnHashFieldUptoRow, standIns := [], harness := (true, "b24c5f5de29b0d2a78a171d83811d586116774591103ee28c2e767890d41174f"), looks := false }, kinds := [], alts := [], laidByText := true, laidKinds := [.data, .sentinel], laidTests := true, laidLooks := .later }
def FnHashFieldUptoCardSaid : Prop := Claim7.holds Tryd.pinned (.plain (OpenSpec.upto fnHashFieldSpec)) fnHashFieldUptoCard
end Rows
end Go.Proofs.YtccognfnnchgcaaDoor
