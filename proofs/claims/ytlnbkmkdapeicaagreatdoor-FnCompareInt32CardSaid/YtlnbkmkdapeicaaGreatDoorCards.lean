/-
  DERIVED. GIVEN WITH THE SEED: THE CARDS: each row of YtlnbkmkdapeicaaGreatDoorRows.lean that lists a variable, with what it lists TIED to the program's text (the seventh form; the later family's looks); each row that meets fmt, with fmt's text TOLD by the authors' own Lean function (tested against real Go, not proved from fmt's source: count such statements apart). THE CARD IS WHAT COUNTS. Prove the row's statement (the work); the ties are given (YtlnbkmkdapeicaaGreatDoorTie.lean); close each card by the builder's one call (the guide's Derived/Test/ToyasCard.lean, 'card_holds'). Laid BY PROGRAM, IN A SANDBOX (cutbox-door.mjs). By AI agents, Wed Nov 11 2026. No macro, syntax, notation, axiom, sorry.
-/
import Derived.Test.YtlnbkmkdapeicaaGreatDoorRows
import GoSem.ClaimSeven
namespace Go.Proofs.YtlnbkmkdapeicaaGreatDoor
namespace Rows

/-- THE TIED CARD OF 'laws.FnCompareInt32'. -/
def fnCompareInt32Card : Claim7 := { stood := { row := fnCompareInt32Row, standIns := [], harness := (true, "7826663a7cc0c2083c785704bbc470248da857fb8997ecfa58a514cdf26057b7"), looks := true }, kinds := [], alts := [], laidByText := true, laidKinds := [.data, .data], laidTests := true, laidLooks := .later }
def FnCompareInt32CardSaid : Prop := Claim7.holds Tryz.pinned (.plain (OpenSpec.ofChange fnCompareInt32Spec)) fnCompareInt32Card

/-- THE SECOND FORM's CARD OF 'laws.FnCompareInt32'. -/
def fnCompareInt32UptoCard : Claim7 := { stood := { row := fnCompareInt32UptoRow, standIns := [], harness := (true, "7826663a7cc0c2083c785704bbc470248da857fb8997ecfa58a514cdf26057b7"), looks := true }, kinds := [], alts := [], laidByText := true, laidKinds := [.data, .data], laidTests := true, laidLooks := .later }
def FnCompareInt32UptoCardSaid : Prop := Claim7.holds Tryz.pinned (.plain (OpenSpec.upto fnCompareInt32Spec)) fnCompareInt32UptoCard
end Rows
end Go.Proofs.YtlnbkmkdapeicaaGreatDoor
