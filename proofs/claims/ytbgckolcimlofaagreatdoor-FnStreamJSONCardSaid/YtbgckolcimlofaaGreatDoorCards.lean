/-
  DERIVED. GIVEN WITH THE SEED: THE CARDS: each row of YtbgckolcimlofaaGreatDoorRows.lean that lists a variable, with what it lists TIED to the program's text (the seventh form; the later family's looks); each row that meets fmt, with fmt's text TOLD by the authors' own Lean function (tested against real Go, not proved from fmt's source: count such statements apart). THE CARD IS WHAT COUNTS. Prove the row's statement (the work); the ties are given (YtbgckolcimlofaaGreatDoorTie.lean); close each card by the builder's one call (the guide's Derived/Test/ToyasCard.lean, 'card_holds'). Laid BY PROGRAM, IN A SANDBOX (cutbox-door.mjs). By AI agents, Wed Nov 11 2026. No macro, syntax, notation, axiom, sorry.
-/
import Derived.Test.YtbgckolcimlofaaGreatDoorRows
import GoSem.ClaimSeven
namespace Go.Proofs.YtbgckolcimlofaaGreatDoor
namespace Rows

/-- THE TIED CARD OF 'laws.FnStreamJSON'. -/
def fnStreamJSONCard : Claim7 := { stood := { row := fnStreamJSONRow, standIns := [], harness := (true, "a228cedf400521a3ef4f7b60eb26452225bb668fe46be814e6bd8c20ee40577a"), looks := true }, kinds := [], alts := [], laidByText := true, laidKinds := [.data, .data, .data, .data, .data, .sentinel, .sentinel, .wider, .wider, .wider, .pinned, .pinned, .pinned], laidTests := true, laidLooks := .later }
def FnStreamJSONCardSaid : Prop := Claim7.holds Tryz.pinned (.plain (OpenSpec.ofChange fnStreamJSONSpec)) fnStreamJSONCard

/-- THE SECOND FORM's CARD OF 'laws.FnStreamJSON'. -/
def fnStreamJSONUptoCard : Claim7 := { stood := { row := fnStreamJSONUptoRow, standIns := [], harness := (true, "a228cedf400521a3ef4f7b60eb26452225bb668fe46be814e6bd8c20ee40577a"), looks := true }, kinds := [], alts := [], laidByText := true, laidKinds := [.data, .data, .data, .data, .data, .sentinel, .sentinel, .wider, .wider, .wider, .pinned, .pinned, .pinned], laidTests := true, laidLooks := .later }
def FnStreamJSONUptoCardSaid : Prop := Claim7.holds Tryz.pinned (.plain (OpenSpec.upto fnStreamJSONSpec)) fnStreamJSONUptoCard
end Rows
end Go.Proofs.YtbgckolcimlofaaGreatDoor
