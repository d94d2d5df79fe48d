/-
  DERIVED. GIVEN WITH THE SEED: THE CARDS: each row of YtblmpfhjghcddaaDoorRows.lean that lists a variable, with what it lists TIED to the program's text (the seventh form; the later family's looks); each row that meets fmt, with fmt's text TOLD by the authors' own Lean function (tested against real Go, not proved from fmt's source: count such statements apart). THE CARD IS WHAT COUNTS. Prove the row's statement (the work); the ties are given (YtblmpfhjghcddaaDoorTie.lean); close each card by the builder's one call (the guide's Derived/Test/ToyasCard.lean, 'card_holds'). Laid BY PROGRAM, IN A SANDBOX (cutbox-door.mjs). By AI agents, Wed Nov 11 2026. No macro, syntax, notation, axiom, sorry.
-/
import Derived.Test.YtblmpfhjghcddaaDoorRows
import GoSem.ClaimSeven
namespace Go.Proofs.YtblmpfhjghcddaaDoor
namespace Rows

/-- THE TIED CARD OF 'laws.FnUnpack3'. -/
def fnUnpack3Card : Claim7 := { stood := { row := fnUnpack3Row, standIns := [], harness := (true, "72b128d09d61a50afbcd2fa8e210b7bfd458acee8469958151153024cbe27eea"), looks := true }, kinds := [], alts := [], laidByText := true, laidKinds := [.sentinel, .sentinel, .sentinel], laidTests := true, laidLooks := .later }
def FnUnpack3CardSaid : Prop := Claim7.holds Tryd.pinned (.plain (OpenSpec.ofChange fnUnpack3Spec)) fnUnpack3Card

/-- THE TIED CARD OF 'laws.FnUnpack7'. -/
def fnUnpack7Card : Claim7 := { stood := { row := fnUnpack7Row, standIns := [], harness := (true, "72b128d09d61a50afbcd2fa8e210b7bfd458acee8469958151153024cbe27eea"), looks := true }, kinds := [], alts := [], laidByText := true, laidKinds := [.sentinel, .sentinel, .sentinel], laidTests := true, laidLooks := .later }
def FnUnpack7CardSaid : Prop := Claim7.holds Tryd.pinned (.plain (OpenSpec.ofChange fnUnpack7Spec)) fnUnpack7Card

/-- THE TIED CARD OF 'laws.FnUnpack11'. -/
def fnUnpack11Card : Claim7 := { stood := { row := fnUnpack11Row, standIns := [], harness := (true, "72b128d09d61a50afbcd2fa8e210b7bfd458acee8469958151153024cbe27eea"), looks := true }, kinds := [], alts := [], laidByText := true, laidKinds := [.sentinel, .sentinel, .sentinel], laidTests := true, laidLooks := .later }
def FnUnpack11CardSaid : Prop := Claim7.holds Tryd.pinned (.plain (OpenSpec.ofChange fnUnpack11Spec)) fnUnpack11Card

/-- THE TIED CARD OF 'laws.FnUnpack15'. -/
def fnUnpack15Card : Claim7 := { stood := { row := fnUnpack15Row, standIns := [], harness := (true, "72b128d09d61a50afbcd2fa8e210b7bfd458acee8469958151153024cbe27eea"), looks := true }, kinds := [], alts := [], laidByText := true, laidKinds := [.sentinel, .sentinel, .sentinel], laidTests := true, laidLooks := .later }
def FnUnpack15CardSaid : Prop := Claim7.holds Tryd.pinned (.plain (OpenSpec.ofChange fnUnpack15Spec)) fnUnpack15Card

/-- THE TIED CARD OF 'laws.FnUnpack19'. -/
def fnUnpack19Card : Claim7 := { stood := { row := fnUnpack19Row, standIns := [], harness := (true, "72b128d09d61a50afbcd2fa8e210b7bfd458acee8469958151153024cbe27eea"), looks := true }, kinds := [], alts := [], laidByText := true, laidKinds := [.sentinel, .sentinel, .sentinel], laidTests := true, laidLooks := .later }
def FnUnpack19CardSaid : Prop := Claim7.holds Tryd.pinned (.plain (OpenSpec.ofChange fnUnpack19Spec)) fnUnpack19Card

/-- THE TIED CARD OF 'laws.FnUnpack23'. -/
def fnUnpack23Card : Claim7 := { stood := { row := fnUnpack23Row, standIns := [], harness := (true, "72b128d09d61a50afbcd2fa8e210b7bfd458acee8469958151153024cbe27eea"), looks := true }, kinds := [], alts := [], laidByText := true, laidKinds := [.sentinel, .sentinel, .sentinel], laidTests := true, laidLooks := .later }
def FnUnpack23CardSaid : Prop := Claim7.holds Tryd.pinned (.plain (OpenSpec.ofChange fnUnpack23Spec)) fnUnpack23Card

/-- THE TIED CARD OF 'laws.FnUnpack27'. -/
def fnUnpack27Card : Claim7 := { stood := { row := fnUnpack27Row, standIns := [], harness := (true, "72b128d09d61a50afbcd2fa8e210b7bfd458acee8469958151153024cbe27eea"), looks := true }, kinds := [], alts := [], laidByText := true, laidKinds := [.sentinel, .sentinel, .sentinel], laidTests := true, laidLooks := .later }
def FnUnpack27CardSaid : Prop := Claim7.holds Tryd.pinned (.plain (OpenSpec.ofChange fnUnpack27Spec)) fnUnpack27Card

/-- THE TIED CARD OF 'laws.FnUnpack31'. -/
def fnUnpack31Card : Claim7 := { stood := { row := fnUnpack31Row, standIns := [], harness := (true, "72b128d09d61a50afbcd2fa8e210b7bfd458acee8469958151153024cbe27eea"), looks := true }, kinds := [], alts := [], laidByText := true, laidKinds := [.sentinel, .sentinel, .sentinel], laidTests := true, laidLooks := .later }
def FnUnpack31CardSaid : Prop := Claim7.holds Tryd.pinned (.plain (OpenSpec.ofChange fnUnpack31Spec)) fnUnpack31Card

/-- THE SECOND FORM's CARD OF 'laws.FnUnpack3'. -/
def fnUnpack3UptoCard : Claim7 := { stood := { row := fnUnpack3UptoRow, standIns := [], harness := (true, "72b128d09d61a50afbcd2fa8e210b7bfd458acee8469958151153024cbe27eea"), looks := true }, kinds := [], alts := [], laidByText := true, laidKinds := [.sentinel, .sentinel, .sentinel], laidTests := true, laidLooks := .later }
def FnUnpack3UptoCardSaid : Prop := Claim7.holds Tryd.pinned (.plain (OpenSpec.upto fnUnpack3Spec)) fnUnpack3UptoCard

/-- THE SECOND FORM's CARD OF 'laws.FnUnpack7'. -/
def fnUnpack7UptoCard : Claim7 := { stood := { row := fnUnpack7UptoRow, standIns := [], harness := (true, "72b128d09d61a50afbcd2fa8e210b7bfd458acee8469958151153024cbe27eea"), looks := true }, kinds := [], alts := [], laidByText := true, laidKinds := [.sentinel, .sentinel, .sentinel], laidTests := true, laidLooks := .later }
def FnUnpack7UptoCardSaid : Prop := Claim7.holds Tryd.pinned (.plain (OpenSpec.upto fnUnpack7Spec)) fnUnpack7UptoCard

/-- THE SECOND FORM's CARD OF 'laws.FnUnpack11'. -/
def fnUnpack11UptoCard : Claim7 := { stood := { row := fnUnpack11UptoRow, standIns := [], harness := (true, "72b128d09d61a50afbcd2fa8e210b7bfd458acee8469958151153024cbe27eea"), looks := true }, kinds := [], alts := [], laidByText := true, laidKinds := [.sentinel, .sentinel, .sentinel], laidTests := true, laidLooks := .later }
def FnUnpack11UptoCardSaid : Prop := Claim7.holds Tryd.pinned (.plain (OpenSpec.upto fnUnpack11Spec)) fnUnpack11UptoCard

/-- THE SECOND FORM's CARD OF 'laws.FnUnpack15'. -/
def fnUnpack15UptoCard : Claim7 := { stood := { row := fnUnpack15UptoRow, standIns := [], harness := (true, "72b128d09d61a50afbcd2fa8e210b7bfd458acee8469958151153024cbe27eea"), looks := true }, kinds := [], alts := [], laidByText := true, laidKinds := [.sentinel, .sentinel, .sentinel], laidTests := true, laidLooks := .later }
def FnUnpack15UptoCardSaid : Prop := Claim7.holds Tryd.pinned (.plain (OpenSpec.upto fnUnpack15Spec)) fnUnpack15UptoCard

/-- THE SECOND FORM's CARD OF 'laws.FnUnpack19'. -/
def fnUnpack19UptoCard : Claim7 := { stood := { row := fnUnpack19UptoRow, standIns := [], harness := (true, "72b128d09d61a50afbcd2fa8e210b7bfd458acee8469958151153024cbe27eea"), looks := true }, kinds := [], alts := [], laidByText := true, laidKinds := [.sentinel, .sentinel, .sentinel], laidTests := true, laidLooks := .later }
def FnUnpack19UptoCardSaid : Prop := Claim7.holds Tryd.pinned (.plain (OpenSpec.upto fnUnpack19Spec)) fnUnpack19UptoCard

/-- THE SECOND FORM's CARD OF 'laws.FnUnpack23'. -/
def fnUnpack23UptoCard : Claim7 := { stood := { row := fnUnpack23UptoRow, standIns := [], harness := (true, "72b128d09d61a50afbcd2fa8e210b7bfd458acee8469958151153024cbe27eea"), looks := true }, kinds := [], alts := [], laidByText := true, laidKinds := [.sentinel, .sentinel, .sentinel], laidTests := true, laidLooks := .later }
def FnUnpack23UptoCardSaid : Prop := Claim7.holds Tryd.pinned (.plain (OpenSpec.upto fnUnpack23Spec)) fnUnpack23UptoCard

/-- THE SECOND FORM's CARD OF 'laws.FnUnpack27'. -/
def fnUnpack27UptoCard : Claim7 := { stood := { row := fnUnpack27UptoRow, standIns := [], harness := (true, "72b128d09d61a50afbcd2fa8e210b7bfd458acee8469958151153024cbe27eea"), looks := true }, kinds := [], alts := [], laidByText := true, laidKinds := [.sentinel, .sentinel, .sentinel], laidTests := true, laidLooks := .later }
def FnUnpack27UptoCardSaid : Prop := Claim7.holds Tryd.pinned (.plain (OpenSpec.upto fnUnpack27Spec)) fnUnpack27UptoCard

/-- THE SECOND FORM's CARD OF 'laws.FnUnpack31'. -/
def fnUnpack31UptoCard : Claim7 := { stood := { row := fnUnpack31UptoRow, standIns := [], harness := (true, "72b128d09d61a50afbcd2fa8e210b7bfd458acee8469958151153024cbe27eea"), looks := true }, kinds := [], alts := [], laidByText := true, laidKinds := [.sentinel, .sentinel, .sentinel], laidTests := true, laidLooks := .later }
def FnUnpack31UptoCardSaid : Prop := Claim7.holds Tryd.pinned (.plain (OpenSpec.upto fnUnpack31Spec)) fnUnpack31UptoCard
end Rows
end Go.Proofs.YtblmpfhjghcddaaDoor
