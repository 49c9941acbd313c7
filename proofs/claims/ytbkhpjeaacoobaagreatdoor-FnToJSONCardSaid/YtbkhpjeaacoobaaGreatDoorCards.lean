/-
  DERIVED. GIVEN WITH THE SEED: THE CARDS: each row of YtbkhpjeaacoobaaGreatDoorRows.lean that lists a variable, with what it lists TIED to the program's text (the seventh form; the later family's looks); each row that meets fmt, with fmt's text TOLD by the authors' own Lean function (tested against real Go, not proved from fmt's source: count such statements apart). THE CARD IS WHAT COUNTS. Prove the row's statement (the work); the ties are given (YtbkhpjeaacoobaaGreatDoorTie.lean); close each card by the builder's one call (the guide's Derived/Test/ToyasCard.lean, 'card_holds'). Laid BY PROGRAM, IN A SANDBOX (cutbox-door.mjs). By AI agents, Wed Nov 11 2026. No macro, syntax, notation, axiom, sorry.
-/
import Derived.Test.YtbkhpjeaacoobaaGreatDoorRows
import GoSem.ClaimSeven
namespace Go.Proofs.YtbkhpjeaacoobaaGreatDoor
namespace Rows

/-- THE TIED CARD OF 'laws.FnToJSON'. -/
def fnToJSONCard : Claim7 := { stood := { row := fnToJSONRow, standIns := [], harness := (true, "e3eb78f4265b536b8f407744c61299c32c8047f216c4569a7993e400976b55e0"), looks := true }, kinds := [], alts := [], laidByText := true, laidKinds := [.data, .data, .data, .data, .data, .wider, .wider, .pinned, .pinned, .pinned], laidTests := true, laidLooks := .later }
def FnToJSONCardSaid : Prop := Claim7.holds Tryz.pinned (.plain (OpenSpec.ofChange fnToJSONSpec)) fnToJSONCard

/-- THE SECOND FORM's CARD OF 'laws.FnToJSON'. -/
def fnToJSONUptoCard : Claim7 := { stood := { row := fnToJSONUptoRow, standIns := [], harness := (true, "e3eb78f4265b536b8f407744c61299c32c8047f216c4569a7993e400976b55e0"), looks := true }, kinds := [], alts := [], laidByText := true, laidKinds := [.data, .data, .data, .data, .data, .wider, .wider, .pinned, .pinned, .pinned], laidTests := true, laidLooks := .later }
def FnToJSONUptoCardSaid : Prop := Claim7.holds Tryz.pinned (.plain (OpenSpec.upto fnToJSONSpec)) fnToJSONUptoCard
end Rows
end Go.Proofs.YtbkhpjeaacoobaaGreatDoor
