/-
  DERIVED. GIVEN WITH THE SEED: THE CARDS: each row of YtnpkgjoiencbiaaGreatDoorRows.lean that lists a variable, with what it lists TIED to the program's text (the seventh form; the later family's looks); each row that meets fmt, with fmt's text TOLD by the authors' own Lean function (tested against real Go, not proved from fmt's source: count such statements apart). THE CARD IS WHAT COUNTS. Prove the row's statement (the work); the ties are given (YtnpkgjoiencbiaaGreatDoorTie.lean); close each card by the builder's one call (the guide's Derived/Test/ToyasCard.lean, 'card_holds'). Laid BY PROGRAM, IN A SANDBOX (cutbox-door.mjs). By AI agents, Wed Nov 11 2026. No macro, syntax, notation, axiom, sorry.
-/
import Derived.Test.YtnpkgjoiencbiaaGreatDoorRows
import GoSem.ClaimSeven
namespace Go.Proofs.YtnpkgjoiencbiaaGreatDoor
namespace Rows

/-- THE TIED CARD OF 'laws.FnGjObjectPath'. -/
def fnGjObjectPathCard : Claim7 := { stood := { row := fnGjObjectPathRow, standIns := [], harness := (true, "07a8420eccc149c111ba79b0b6149aa8a90cf4ca2af47a99a73676cb240751bf"), looks := true }, kinds := [], alts := [], laidByText := true, laidKinds := [.data, .data, .widerDeep, .widerDeep, .data, .data, .data, .data, .data, .data, .sentinel, .sentinel, .data, .data, .pinned, .pinned, .pinned], laidTests := true, laidLooks := .later }
def FnGjObjectPathCardSaid : Prop := Claim7.holds Tryz.pinned (.plain (OpenSpec.ofChange fnGjObjectPathSpec)) fnGjObjectPathCard

/-- THE SECOND FORM's CARD OF 'laws.FnGjObjectPath'. -/
def fnGjObjectPathUptoCard : Claim7 := { stood := { row := fnGjObjectPathUptoRow, standIns := [], harness := (true, "07a8420eccc149c111ba79b0b6149aa8a90cf4ca2af47a99a73676cb240751bf"), looks := true }, kinds := [], alts := [], laidByText := true, laidKinds := [.data, .data, .widerDeep, .widerDeep, .data, .data, .data, .data, .data, .data, .sentinel, .sentinel, .data, .data, .pinned, .pinned, .pinned], laidTests := true, laidLooks := .later }
def FnGjObjectPathUptoCardSaid : Prop := Claim7.holds Tryz.pinned (.plain (OpenSpec.upto fnGjObjectPathSpec)) fnGjObjectPathUptoCard
end Rows
end Go.Proofs.YtnpkgjoiencbiaaGreatDoor
