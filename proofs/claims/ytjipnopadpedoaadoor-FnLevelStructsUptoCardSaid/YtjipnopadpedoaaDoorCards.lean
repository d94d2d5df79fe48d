/-
  DERIVED. GIVEN WITH THE SEED: THE CARDS: each row of YtjipnopadpedoaaDoorRows.lean that lists a variable, with what it lists TIED to the program's text (the seventh form; the later family's looks); each row that meets fmt, with fmt's text TOLD by the authors' own Lean function (tested against real Go, not proved from fmt's source: count such statements apart). THE CARD IS WHAT COUNTS. Prove the row's statement (the work); the ties are given (YtjipnopadpedoaaDoorTie.lean); close each card by the builder's one call (the guide's Derived/Test/ToyasCard.lean, 'card_holds'). Laid BY PROGRAM, IN A SANDBOX (cutbox-door.mjs). By AI agents, Wed Nov 11 2026. No macro, syntax, notation, axiom, sorry.
-/
import Derived.Test.YtjipnopadpedoaaDoorRows
import GoSem.ClaimSeven
namespace Go.Proofs.YtjipnopadpedoaaDoor
namespace Rows

/-- THE TIED CARD OF 'laws.FnLevelStructs'. -/
def fnLevelStructsCard : Claim7 := { stood := { row := fnLevelStructsRow, standIns := [], harness := (true, "0c8a070b82d1413eba764bc7d19b11e9da28cc0c326a60c444eeba49b4bd167b"), looks := true }, kinds := [], alts := [], laidByText := true, laidKinds := [.data, .data], laidTests := true, laidLooks := .later }
def FnLevelStructsCardSaid : Prop := Claim7.holds Tryd.pinned (.plain (OpenSpec.ofChange fnLevelStructsSpec)) fnLevelStructsCard

/-- THE SECOND FORM's CARD OF 'laws.FnLevelStructs'. -/
def fnLevelStructsUptoCard : Claim7 := { stood := { row := fnLevelStructsUptoRow, standIns := [], harness := (true, "0c8a070b82d1413eba764bc7d19b11e9da28cc0c326a60c444eeba49b4bd167b"), looks := true }, kinds := [], alts := [], laidByText := true, laidKinds := [.data, .data], laidTests := true, laidLooks := .later }
def FnLevelStructsUptoCardSaid : Prop := Claim7.holds Tryd.pinned (.plain (OpenSpec.upto fnLevelStructsSpec)) fnLevelStructsUptoCard
end Rows
end Go.Proofs.YtjipnopadpedoaaDoor
