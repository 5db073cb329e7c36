/-
  DERIVED. GIVEN WITH THE SEED: THE CARDS: each row of YthplmbgdcfmkgaaGreatDoorRows.lean that lists a variable, with what it lists TIED to the program's text (the seventh form; the later family's looks); each row that meets fmt, with fmt's text TOLD by the authors' own Lean function (tested against real Go, not proved from fmt's source: count such statements apart). THE CARD IS WHAT COUNTS. Prove the row's statement (the work); the ties are given (YthplmbgdcfmkgaaGreatDoorTie.lean); close each card by the builder's one call (the guide's Derived/Test/ToyasCard.lean, 'card_holds'). Laid BY PROGRAM, IN A SANDBOX (cutbox-door.mjs). By AI agents, Wed Nov 11 2026. No macro, syntax, notation, axiom, sorry.
-/
import Derived.Test.YthplmbgdcfmkgaaGreatDoorRows
import GoSem.ClaimSeven
namespace Go.Proofs.YthplmbgdcfmkgaaGreatDoor
namespace Rows

/-- THE TIED CARD OF 'laws.FnLineBody'. -/
def fnLineBodyCard : Claim7 := { stood := { row := fnLineBodyRow, standIns := [], harness := (true, "49f8234fcdc03dba94121d10e2024c49f92115410fe7383c5f191d038a70946b"), looks := true }, kinds := [], alts := [], laidByText := true, laidKinds := [.data, .data, .widerDeep, .widerDeep, .data, .data, .data, .data, .data, .data, .sentinel, .sentinel, .sentinel, .sentinel, .data, .pinned, .pinned, .pinned], laidTests := true, laidLooks := .later }
def FnLineBodyCardSaid : Prop := Claim7.holds Tryz.pinned (.plain (OpenSpec.ofChange fnLineBodySpec)) fnLineBodyCard

/-- THE SECOND FORM's CARD OF 'laws.FnLineBody'. -/
def fnLineBodyUptoCard : Claim7 := { stood := { row := fnLineBodyUptoRow, standIns := [], harness := (true, "49f8234fcdc03dba94121d10e2024c49f92115410fe7383c5f191d038a70946b"), looks := true }, kinds := [], alts := [], laidByText := true, laidKinds := [.data, .data, .widerDeep, .widerDeep, .data, .data, .data, .data, .data, .data, .sentinel, .sentinel, .sentinel, .sentinel, .data, .pinned, .pinned, .pinned], laidTests := true, laidLooks := .later }
def FnLineBodyUptoCardSaid : Prop := Claim7.holds Tryz.pinned (.plain (OpenSpec.upto fnLineBodySpec)) fnLineBodyUptoCard
end Rows
end Go.Proofs.YthplmbgdcfmkgaaGreatDoor
