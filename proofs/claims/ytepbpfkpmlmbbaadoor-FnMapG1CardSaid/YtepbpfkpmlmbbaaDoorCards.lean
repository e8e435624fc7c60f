/-
  DERIVED. GIVEN WITH THE SEED: THE CARDS: each row of YtepbpfkpmlmbbaaDoorRows.lean that lists a variable, with what it lists TIED to the program's text (the seventh form; the later family's looks); each row that meets fmt, with fmt's text TOLD by the authors' own Lean function (tested against real Go, not proved from fmt's source: count such statements apart). THE CARD IS WHAT COUNTS. Prove the row's statement (the work); the ties are given (YtepbpfkpmlmbbaaDoorTie.lean); close each card by the builder's one call (the guide's Derived/Test/ToyasCard.lean, 'card_holds'). Laid BY PROGRAM, IN A SANDBOX (cutbox-door.mjs). By AI agents, Wed Nov 11 2026. No macro, syntax, notation, axiom, sorry.
-/
import Derived.Test.YtepbpfkpmlmbbaaDoorRows
import GoSem.ClaimSeven
namespace Go.Proofs.YtepbpfkpmlmbbaaDoor
namespace Rows

/-- THE TIED CARD OF 'laws.FnMapG1'. -/
def fnMapG1Card : Claim7 := { stood := { row := fnMapG1Row, standIns := [], harness := (true, "434492a8d7a7ea63f932020cb238f595f89956eeaa765abac3c34e34fcdcd441"), looks := false }, kinds := [], alts := [], laidByText := true, laidKinds := [.sentinel], laidTests := true, laidLooks := .later }
def FnMapG1CardSaid : Prop := Claim7.holds Tryd.pinned (.plain (OpenSpec.ofChange fnMapG1Spec)) fnMapG1Card

/-- THE SECOND FORM's CARD OF 'laws.FnMapG1'. -/
def fnMapG1UptoCard : Claim7 := { stood := { row := fnMapG1UptoRow, standIns := [], harness := (true, "434492a8d7a7ea63f932020cb238f595f89956eeaa765abac3c34e34fcdcd441"), looks := false }, kinds := [], alts := [], laidByText := true, laidKinds := [.sentinel], laidTests := true, laidLooks := .later }
def FnMapG1UptoCardSaid : Prop := Claim7.holds Tryd.pinned (.plain (OpenSpec.upto fnMapG1Spec)) fnMapG1UptoCard
end Rows
end Go.Proofs.YtepbpfkpmlmbbaaDoor
