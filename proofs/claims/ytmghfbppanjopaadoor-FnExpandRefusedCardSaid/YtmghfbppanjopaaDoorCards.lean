/-
  DERIVED. GIVEN WITH THE SEED: THE CARDS: each row of YtmghfbppanjopaaDoorRows.lean that lists a variable, with what it lists TIED to the program's text (the seventh form; the later family's looks); each row that meets fmt, with fmt's text TOLD by the authors' own Lean function (tested against real Go, not proved from fmt's source: count such statements apart). THE CARD IS WHAT COUNTS. Prove the row's statement (the work); the ties are given (YtmghfbppanjopaaDoorTie.lean); close each card by the builder's one call (the guide's Derived/Test/ToyasCard.lean, 'card_holds'). Laid BY PROGRAM, IN A SANDBOX (cutbox-door.mjs). By AI agents, Wed Nov 11 2026. No macro, syntax, notation, axiom, sorry.
-/
import Derived.Test.YtmghfbppanjopaaDoorRows
import GoSem.ClaimSeven
namespace Go.Proofs.YtmghfbppanjopaaDoor
namespace Rows

/-- THE TIED CARD OF 'laws.FnExpand'. -/
def fnExpandCard : Claim7 := { stood := { row := fnExpandRow, standIns := [], harness := (true, "6fa6262414605f00fd1ccea2b0046058da8f59e34f610e56da727e9ccdbd4875"), looks := false }, kinds := [], alts := [], laidByText := true, laidKinds := [.data], laidTests := true, laidLooks := .later }
def FnExpandCardSaid : Prop := Claim7.holds Tryd.pinned (.plain (OpenSpec.ofChange fnExpandSpec)) fnExpandCard

/-- THE TIED CARD OF 'laws.FnExpandRefused'. -/
def fnExpandRefusedCard : Claim7 := { stood := { row := fnExpandRefusedRow, standIns := [], harness := (true, "6fa6262414605f00fd1ccea2b0046058da8f59e34f610e56da727e9ccdbd4875"), looks := false }, kinds := [], alts := [], laidByText := true, laidKinds := [.data], laidTests := true, laidLooks := .later }
def FnExpandRefusedCardSaid : Prop := Claim7.holds Tryd.pinned (.plain (OpenSpec.ofChange fnExpandRefusedSpec)) fnExpandRefusedCard

/-- THE SECOND FORM's CARD OF 'laws.FnExpand'. -/
def fnExpandUptoCard : Claim7 := { stood := { row := fnExpandUptoRow, standIns := [], harness := (true, "6fa6262414605f00fd1ccea2b0046058da8f59e34f610e56da727e9ccdbd4875"), looks := false }, kinds := [], alts := [], laidByText := true, laidKinds := [.data], laidTests := true, laidLooks := .later }
def FnExpandUptoCardSaid : Prop := Claim7.holds Tryd.pinned (.plain (OpenSpec.upto fnExpandSpec)) fnExpandUptoCard

/-- THE SECOND FORM's CARD OF 'laws.FnExpandRefused'. -/
def fnExpandRefusedUptoCard : Claim7 := { stood := { row := fnExpandRefusedUptoRow, standIns := [], harness := (true, "6fa6262414605f00fd1ccea2b0046058da8f59e34f610e56da727e9ccdbd4875"), looks := false }, kinds := [], alts := [], laidByText := true, laidKinds := [.data], laidTests := true, laidLooks := .later }
def FnExpandRefusedUptoCardSaid : Prop := Claim7.holds Tryd.pinned (.plain (OpenSpec.upto fnExpandRefusedSpec)) fnExpandRefusedUptoCard
end Rows
end Go.Proofs.YtmghfbppanjopaaDoor
