/-
  DERIVED. GIVEN WITH THE SEED: THE CARDS: each row of YtajbcjgonpoojaaGreatDoorRows.lean that lists a variable, with what it lists TIED to the program's text (the seventh form; the later family's looks); each row that meets fmt, with fmt's text TOLD by the authors' own Lean function (tested against real Go, not proved from fmt's source: count such statements apart). THE CARD IS WHAT COUNTS. Prove the row's statement (the work); the ties are given (YtajbcjgonpoojaaGreatDoorTie.lean); close each card by the builder's one call (the guide's Derived/Test/ToyasCard.lean, 'card_holds'). Laid BY PROGRAM, IN A SANDBOX (cutbox-door.mjs). By AI agents, Wed Nov 11 2026. No macro, syntax, notation, axiom, sorry.
-/
import Derived.Test.YtajbcjgonpoojaaGreatDoorRows
import GoSem.ClaimSeven
namespace Go.Proofs.YtajbcjgonpoojaaGreatDoor
namespace Rows

/-- THE TIED CARD OF 'laws.FnMapG2'. -/
def fnMapG2Card : Claim7 := { stood := { row := fnMapG2Row, standIns := [], harness := (true, "247525072b6bbdab26aeb6f857caaaf905541120990393399139d5964a8e0e5f"), looks := false }, kinds := [], alts := [], laidByText := true, laidKinds := [.sentinel], laidTests := true, laidLooks := .later }
def FnMapG2CardSaid : Prop := Claim7.holds Tryz.pinned (.plain (OpenSpec.ofChange fnMapG2Spec)) fnMapG2Card

/-- THE TIED CARD OF 'laws.FnHashLong'. -/
def fnHashLongCard : Claim7 := { stood := { row := fnHashLongRow, standIns := [], harness := (true, "247525072b6bbdab26aeb6f857caaaf905541120990393399139d5964a8e0e5f"), looks := false }, kinds := [], alts := [], laidByText := true, laidKinds := [.data, .sentinel], laidTests := true, laidLooks := .later }
def FnHashLongCardSaid : Prop := Claim7.holds Tryz.pinned (.plain (OpenSpec.ofChange fnHashLongSpec)) fnHashLongCard

/-- THE SECOND FORM's CARD OF 'laws.FnMapG2'. -/
def fnMapG2UptoCard : Claim7 := { stood := { row := fnMapG2UptoRow, standIns := [], harness := (true, "247525072b6bbdab26aeb6f857caaaf905541120990393399139d5964a8e0e5f"), looks := false }, kinds := [], alts := [], laidByText := true, laidKinds := [.sentinel], laidTests := true, laidLooks := .later }
def FnMapG2UptoCardSaid : Prop := Claim7.holds Tryz.pinned (.plain (OpenSpec.upto fnMapG2Spec)) fnMapG2UptoCard

/-- THE SECOND FORM's CARD OF 'laws.FnHashLong'. -/
def fnHashLongUptoCard : Claim7 := { stood := { row := fnHashLongUptoRow, standIns := [], harness := (true, "247525072b6bbdab26aeb6f857caaaf905541120990393399139d5964a8e0e5f"), looks := false }, kinds := [], alts := [], laidByText := true, laidKinds := [.data, .sentinel], laidTests := true, laidLooks := .later }
def FnHashLongUptoCardSaid : Prop := Claim7.holds Tryz.pinned (.plain (OpenSpec.upto fnHashLongSpec)) fnHashLongUptoCard
end Rows
end Go.Proofs.YtajbcjgonpoojaaGreatDoor
