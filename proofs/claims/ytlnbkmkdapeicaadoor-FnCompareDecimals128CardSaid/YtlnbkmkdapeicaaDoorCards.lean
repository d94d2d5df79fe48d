/-
  DERIVED. GIVEN WITH THE SEED: THE CARDS: each row of YtlnbkmkdapeicaaDoorRows.lean that lists a variable, with what it lists TIED to the program's text (the seventh form; the later family's looks); each row that meets fmt, with fmt's text TOLD by the authors' own Lean function (tested against real Go, not proved from fmt's source: count such statements apart). THE CARD IS WHAT COUNTS. Prove the row's statement (the work); the ties are given (YtlnbkmkdapeicaaDoorTie.lean); close each card by the builder's one call (the guide's Derived/Test/ToyasCard.lean, 'card_holds'). Laid BY PROGRAM, IN A SANDBOX (cutbox-door.mjs). By AI agents, Wed Nov 11 2026. No macro, syntax, notation, axiom, sorry.
-/
import Derived.Test.YtlnbkmkdapeicaaDoorRows
import GoSem.ClaimSeven
namespace Go.Proofs.YtlnbkmkdapeicaaDoor
namespace Rows

/-- THE TIED CARD OF 'laws.FnCompareDecimals128'. -/
def fnCompareDecimals128Card : Claim7 := { stood := { row := fnCompareDecimals128Row, standIns := [], harness := (true, "e4ba78f7343de08f4e0bad24a0ee6d7ff175dd427d48db2c8091a9d4485304a2"), looks := true }, kinds := [], alts := [], laidByText := true, laidKinds := [.data, .data], laidTests := true, laidLooks := .later }
def FnCompareDecimals128CardSaid : Prop := Claim7.holds Tryd.pinned (.plain (OpenSpec.ofChange fnCompareDecimals128Spec)) fnCompareDecimals128Card

/-- THE SECOND FORM's CARD OF 'laws.FnCompareDecimals128'. -/
def fnCompareDecimals128UptoCard : Claim7 := { stood := { row := fnCompareDecimals128UptoRow, standIns := [], harness := (true, "e4ba78f7343de08f4e0bad24a0ee6d7ff175dd427d48db2c8091a9d4485304a2"), looks := true }, kinds := [], alts := [], laidByText := true, laidKinds := [.data, .data], laidTests := true, laidLooks := .later }
def FnCompareDecimals128UptoCardSaid : Prop := Claim7.holds Tryd.pinned (.plain (OpenSpec.upto fnCompareDecimals128Spec)) fnCompareDecimals128UptoCard
end Rows
end Go.Proofs.YtlnbkmkdapeicaaDoor
