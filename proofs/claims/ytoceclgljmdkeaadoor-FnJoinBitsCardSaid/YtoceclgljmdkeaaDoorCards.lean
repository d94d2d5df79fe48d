/-
  DERIVED. GIVEN WITH THE SEED: THE CARDS: each row of YtoceclgljmdkeaaDoorRows.lean that lists a variable, with what it lists TIED to the program's text (the seventh form; the later family's looks); each row that meets fmt, with fmt's text TOLD by the authors' own Lean function (tested against real Go, not proved from fmt's source: count such statements apart). THE CARD IS WHAT COUNTS. Prove the row's statement (the work); the ties are given (YtoceclgljmdkeaaDoorTie.lean); close each card by the builder's one call (the guide's Derived/Test/ToyasCard.lean, 'card_holds'). Laid BY PROGRAM, IN A SANDBOX (cutbox-door.mjs). By AI agents, Wed Nov 11 2026. No macro, syntax, notation, axiom, sorry.
-/
import Derived.Test.YtoceclgljmdkeaaDoorRows
import GoSem.ClaimSeven
namespace Go.Proofs.YtoceclgljmdkeaaDoor
namespace Rows

/-- THE TIED CARD OF 'laws.FnJoinBits'. -/
def fnJoinBitsCard : Claim7 := { stood := { row := fnJoinBitsRow, standIns := [], harness := (true, "a097b151f2f9fa122b6b0c1b5c6c3177fb0fcf4e036aeb4a2dcb7c7e9e9ebb56"), looks := false }, kinds := [], alts := [], laidByText := true, laidKinds := [.data, .data, .data], laidTests := true, laidLooks := .later }
def FnJoinBitsCardSaid : Prop := Claim7.holds Tryd.pinned (.plain (OpenSpec.ofChange fnJoinBitsSpec)) fnJoinBitsCard

/-- THE SECOND FORM's CARD OF 'laws.FnJoinBits'. -/
def fnJoinBitsUptoCard : Claim7 := { stood := { row := fnJoinBitsUptoRow, standIns := [], harness := (true, "a097b151f2f9fa122b6b0c1b5c6c3177fb0fcf4e036aeb4a2dcb7c7e9e9ebb56"), looks := false }, kinds := [], alts := [], laidByText := true, laidKinds := [.data, .data, .data], laidTests := true, laidLooks := .later }
def FnJoinBitsUptoCardSaid : Prop := Claim7.holds Tryd.pinned (.plain (OpenSpec.upto fnJoinBitsSpec)) fnJoinBitsUptoCard
end Rows
end Go.Proofs.YtoceclgljmdkeaaDoor
