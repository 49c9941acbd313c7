/-
  DERIVED. GIVEN WITH THE SEED: THE CARDS: each row of YtdgbmbjkbmpcbaaGreatDoorRows.lean that lists a variable, with what it lists TIED to the program's text (the seventh form; the later family's looks); each row that meets fmt, with fmt's text TOLD by the authors' own Lean function (tested against real Go, not proved from fmt's source: count such statements apart). THE CARD IS WHAT COUNTS. Prove the row's statement (the work); the ties are given (YtdgbmbjkbmpcbaaGreatDoorTie.lean); close each card by the builder's one call (the guide's Derived/Test/ToyasCard.lean, 'card_holds'). Laid BY PROGRAM, IN A SANDBOX (cutbox-door.mjs). By AI agents, Wed Nov 11 2026. No macro, syntax, notation, axiom, sorry.
-/
import Derived.Test.YtdgbmbjkbmpcbaaGreatDoorRows
import GoSem.ClaimSeven
namespace Go.Proofs.YtdgbmbjkbmpcbaaGreatDoor
namespace Rows

/-- THE TIED CARD OF 'laws.FnReadTarget'. -/
def fnReadTargetCard : Claim7 := { stood := { row := fnReadTargetRow, standIns := [], harness := (true, "6f139b31290e7107c1bdc2c50f53b9a4722e63fc43c167518a225bbc2a1fc151"), looks := true }, kinds := [], alts := [], laidByText := true, laidKinds := [.data, .sentinel, .pinned], laidTests := true, laidLooks := .later }
def FnReadTargetCardSaid : Prop := Claim7.holds Tryz.pinned (.plain (OpenSpec.ofChange fnReadTargetSpec)) fnReadTargetCard

/-- THE TIED CARD OF 'laws.FnReadTransfer'. -/
def fnReadTransferCard : Claim7 := { stood := { row := fnReadTransferRow, standIns := [], harness := (true, "6f139b31290e7107c1bdc2c50f53b9a4722e63fc43c167518a225bbc2a1fc151"), looks := true }, kinds := [], alts := [], laidByText := true, laidKinds := [.data, .sentinel, .pinned], laidTests := true, laidLooks := .later }
def FnReadTransferCardSaid : Prop := Claim7.holds Tryz.pinned (.plain (OpenSpec.ofChange fnReadTransferSpec)) fnReadTransferCard

/-- THE TIED CARD OF 'laws.FnReadEnd'. -/
def fnReadEndCard : Claim7 := { stood := { row := fnReadEndRow, standIns := [], harness := (true, "6f139b31290e7107c1bdc2c50f53b9a4722e63fc43c167518a225bbc2a1fc151"), looks := true }, kinds := [], alts := [], laidByText := true, laidKinds := [.data, .sentinel, .pinned], laidTests := true, laidLooks := .later }
def FnReadEndCardSaid : Prop := Claim7.holds Tryz.pinned (.plain (OpenSpec.ofChange fnReadEndSpec)) fnReadEndCard

/-- THE SECOND FORM's CARD OF 'laws.FnReadTarget'. -/
def fnReadTargetUptoCard : Claim7 := { stood := { row := fnReadTargetUptoRow, standIns := [], harness := (true, "6f139b31290e7107c1bdc2c50f53b9a4722e63fc43c167518a225bbc2a1fc151"), looks := true }, kinds := [], alts := [], laidByText := true, laidKinds := [.data, .sentinel, .pinned], laidTests := true, laidLooks := .later }
def FnReadTargetUptoCardSaid : Prop := Claim7.holds Tryz.pinned (.plain (OpenSpec.upto fnReadTargetSpec)) fnReadTargetUptoCard

/-- THE SECOND FORM's CARD OF 'laws.FnReadTransfer'. -/
def fnReadTransferUptoCard : Claim7 := { stood := { row := fnReadTransferUptoRow, standIns := [], harness := (true, "6f139b31290e7107c1bdc2c50f53b9a4722e63fc43c167518a225bbc2a1fc151"), looks := true }, kinds := [], alts := [], laidByText := true, laidKinds := [.data, .sentinel, .pinned], laidTests := true, laidLooks := .later }
def FnReadTransferUptoCardSaid : Prop := Claim7.holds Tryz.pinned (.plain (OpenSpec.upto fnReadTransferSpec)) fnReadTransferUptoCard

/-- THE SECOND FORM's CARD OF 'laws.FnReadEnd'. -/
def fnReadEndUptoCard : Claim7 := { stood := { row := fnReadEndUptoRow, standIns := [], harness := (true, "6f139b31290e7107c1bdc2c50f53b9a4722e63fc43c167518a225bbc2a1fc151"), looks := true }, kinds := [], alts := [], laidByText := true, laidKinds := [.data, .sentinel, .pinned], laidTests := true, laidLooks := .later }
def FnReadEndUptoCardSaid : Prop := Claim7.holds Tryz.pinned (.plain (OpenSpec.upto fnReadEndSpec)) fnReadEndUptoCard
end Rows
end Go.Proofs.YtdgbmbjkbmpcbaaGreatDoor
