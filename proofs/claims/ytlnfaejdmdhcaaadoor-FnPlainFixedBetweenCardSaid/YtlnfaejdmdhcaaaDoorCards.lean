/-
  DERIVED. GIVEN WITH THE SEED: THE CARDS: each row of YtlnfaejdmdhcaaaDoorRows.lean that lists a variable, with what it lists TIED to the program's text (the seventh form; the later family's looks); each row that meets fmt, with fmt's text TOLD by the authors' own Lean function (tested against real Go, not proved from fmt's source: count such statements apart). THE CARD IS WHAT COUNTS. Prove the row's statement (the work); the ties are given (YtlnfaejdmdhcaaaDoorTie.lean); close each card by the builder's one call (the guide's Derived/Test/ToyasCard.lean, 'card_holds'). Laid BY PROGRAM, IN A SANDBOX (cutbox-door.mjs). By AI agents, Wed Nov 11 2026. No macro, syntax, notation, axiom, sorry.
-/
import Derived.Test.YtlnfaejdmdhcaaaDoorRows
import GoSem.ClaimSeven
namespace Go.Proofs.YtlnfaejdmdhcaaaDoor
namespace Rows

/-- THE TIED CARD OF 'laws.FnPlainFixedBetween'. -/
def fnPlainFixedBetweenCard : Claim7 := { stood := { row := fnPlainFixedBetweenRow, standIns := [], harness := (true, "4de51e2696fe0ce37af53a3e488f79dd105473e86aea44783981a0bb0ed315bb"), looks := false }, kinds := [], alts := [], laidByText := true, laidKinds := [.data], laidTests := true, laidLooks := .later }
def FnPlainFixedBetweenCardSaid : Prop := Claim7.holds Tryd.pinned (.plain (OpenSpec.ofChange fnPlainFixedBetweenSpec)) fnPlainFixedBetweenCard

/-- THE TIED CARD OF 'laws.FnPlainTextBetween'. -/
def fnPlainTextBetweenCard : Claim7 := { stood := { row := fnPlainTextBetweenRow, standIns := [], harness := (true, "4de51e2696fe0ce37af53a3e488f79dd105473e86aea44783981a0bb0ed315bb"), looks := false }, kinds := [], alts := [], laidByText := true, laidKinds := [.data], laidTests := true, laidLooks := .later }
def FnPlainTextBetweenCardSaid : Prop := Claim7.holds Tryd.pinned (.plain (OpenSpec.ofChange fnPlainTextBetweenSpec)) fnPlainTextBetweenCard

/-- THE SECOND FORM's CARD OF 'laws.FnPlainFixedBetween'. -/
def fnPlainFixedBetweenUptoCard : Claim7 := { stood := { row := fnPlainFixedBetweenUptoRow, standIns := [], harness := (true, "4de51e2696fe0ce37af53a3e488f79dd105473e86aea44783981a0bb0ed315bb"), looks := false }, kinds := [], alts := [], laidByText := true, laidKinds := [.data], laidTests := true, laidLooks := .later }
def FnPlainFixedBetweenUptoCardSaid : Prop := Claim7.holds Tryd.pinned (.plain (OpenSpec.upto fnPlainFixedBetweenSpec)) fnPlainFixedBetweenUptoCard

/-- THE SECOND FORM's CARD OF 'laws.FnPlainTextBetween'. -/
def fnPlainTextBetweenUptoCard : Claim7 := { stood := { row := fnPlainTextBetweenUptoRow, standIns := [], harness := (true, "4de51e2696fe0ce37af53a3e488f79dd105473e86aea44783981a0bb0ed315bb"), looks := false }, kinds := [], alts := [], laidByText := true, laidKinds := [.data], laidTests := true, laidLooks := .later }
def FnPlainTextBetweenUptoCardSaid : Prop := Claim7.holds Tryd.pinned (.plain (OpenSpec.upto fnPlainTextBetweenSpec)) fnPlainTextBetweenUptoCard
end Rows
end Go.Proofs.YtlnfaejdmdhcaaaDoor
