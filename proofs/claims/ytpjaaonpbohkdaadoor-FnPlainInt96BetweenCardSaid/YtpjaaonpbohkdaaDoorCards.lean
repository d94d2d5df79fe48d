/-
  DERIVED. GIVEN WITH THE SEED: THE CARDS: each row of YtpjaaonpbohkdaaDoorRows.lean that lists a variable, with what it lists TIED to the program's text (the seventh form; the later family's looks); each row that meets fmt, with fmt's text TOLD by the authors' own Lean function (tested against real Go, not proved from fmt's source: count such statements apart). THE CARD IS WHAT COUNTS. Prove the row's statement (the work); the ties are given (YtpjaaonpbohkdaaDoorTie.lean); close each card by the builder's one call (the guide's Derived/Test/ToyasCard.lean, 'card_holds'). Laid BY PROGRAM, IN A SANDBOX (cutbox-door.mjs). By AI agents, Wed Nov 11 2026. No macro, syntax, notation, axiom, sorry.
-/
import Derived.Test.YtpjaaonpbohkdaaDoorRows
import GoSem.ClaimSeven
namespace Go.Proofs.YtpjaaonpbohkdaaDoor
namespace Rows

/-- THE TIED CARD OF 'laws.FnPlainFloat64Between'. -/
def fnPlainFloat64BetweenCard : Claim7 := { stood := { row := fnPlainFloat64BetweenRow, standIns := [], harness := (true, "e4568fa3766ebd63daf8180901fa7fa0f5a1461f08aa054267803422a4bbdd80"), looks := true }, kinds := [], alts := [], laidByText := true, laidKinds := [.data], laidTests := true, laidLooks := .later }
def FnPlainFloat64BetweenCardSaid : Prop := Claim7.holds Tryd.pinned (.plain (OpenSpec.ofChange fnPlainFloat64BetweenSpec)) fnPlainFloat64BetweenCard

/-- THE TIED CARD OF 'laws.FnPlainInt32Between'. -/
def fnPlainInt32BetweenCard : Claim7 := { stood := { row := fnPlainInt32BetweenRow, standIns := [], harness := (true, "e4568fa3766ebd63daf8180901fa7fa0f5a1461f08aa054267803422a4bbdd80"), looks := true }, kinds := [], alts := [], laidByText := true, laidKinds := [.data], laidTests := true, laidLooks := .later }
def FnPlainInt32BetweenCardSaid : Prop := Claim7.holds Tryd.pinned (.plain (OpenSpec.ofChange fnPlainInt32BetweenSpec)) fnPlainInt32BetweenCard

/-- THE TIED CARD OF 'laws.FnPlainInt64Between'. -/
def fnPlainInt64BetweenCard : Claim7 := { stood := { row := fnPlainInt64BetweenRow, standIns := [], harness := (true, "e4568fa3766ebd63daf8180901fa7fa0f5a1461f08aa054267803422a4bbdd80"), looks := true }, kinds := [], alts := [], laidByText := true, laidKinds := [.data], laidTests := true, laidLooks := .later }
def FnPlainInt64BetweenCardSaid : Prop := Claim7.holds Tryd.pinned (.plain (OpenSpec.ofChange fnPlainInt64BetweenSpec)) fnPlainInt64BetweenCard

/-- THE TIED CARD OF 'laws.FnPlainInt96Between'. -/
def fnPlainInt96BetweenCard : Claim7 := { stood := { row := fnPlainInt96BetweenRow, standIns := [], harness := (true, "e4568fa3766ebd63daf8180901fa7fa0f5a1461f08aa054267803422a4bbdd80"), looks := true }, kinds := [], alts := [], laidByText := true, laidKinds := [.data], laidTests := true, laidLooks := .later }
def FnPlainInt96BetweenCardSaid : Prop := Claim7.holds Tryd.pinned (.plain (OpenSpec.ofChange fnPlainInt96BetweenSpec)) fnPlainInt96BetweenCard

/-- THE TIED CARD OF 'laws.FnPlainFloat32Between'. -/
def fnPlainFloat32BetweenCard : Claim7 := { stood := { row := fnPlainFloat32BetweenRow, standIns := [], harness := (true, "e4568fa3766ebd63daf8180901fa7fa0f5a1461f08aa054267803422a4bbdd80"), looks := true }, kinds := [], alts := [], laidByText := true, laidKinds := [.data], laidTests := true, laidLooks := .later }
def FnPlainFloat32BetweenCardSaid : Prop := Claim7.holds Tryd.pinned (.plain (OpenSpec.ofChange fnPlainFloat32BetweenSpec)) fnPlainFloat32BetweenCard

/-- THE SECOND FORM's CARD OF 'laws.FnPlainFloat64Between'. -/
def fnPlainFloat64BetweenUptoCard : Claim7 := { stood := { row := fnPlainFloat64BetweenUptoRow, standIns := [], harness := (true, "e4568fa3766ebd63daf8180901fa7fa0f5a1461f08aa054267803422a4bbdd80"), looks := true }, kinds := [], alts := [], laidByText := true, laidKinds := [.data], laidTests := true, laidLooks := .later }
def FnPlainFloat64BetweenUptoCardSaid : Prop := Claim7.holds Tryd.pinned (.plain (OpenSpec.upto fnPlainFloat64BetweenSpec)) fnPlainFloat64BetweenUptoCard

/-- THE SECOND FORM's CARD OF 'laws.FnPlainInt32Between'. -/
def fnPlainInt32BetweenUptoCard : Claim7 := { stood := { row := fnPlainInt32BetweenUptoRow, standIns := [], harness := (true, "e4568fa3766ebd63daf8180901fa7fa0f5a1461f08aa054267803422a4bbdd80"), looks := true }, kinds := [], alts := [], laidByText := true, laidKinds := [.data], laidTests := true, laidLooks := .later }
def FnPlainInt32BetweenUptoCardSaid : Prop := Claim7.holds Tryd.pinned (.plain (OpenSpec.upto fnPlainInt32BetweenSpec)) fnPlainInt32BetweenUptoCard

/-- THE SECOND FORM's CARD OF 'laws.FnPlainInt64Between'. -/
def fnPlainInt64BetweenUptoCard : Claim7 := { stood := { row := fnPlainInt64BetweenUptoRow, standIns := [], harness := (true, "e4568fa3766ebd63daf8180901fa7fa0f5a1461f08aa054267803422a4bbdd80"), looks := true }, kinds := [], alts := [], laidByText := true, laidKinds := [.data], laidTests := true, laidLooks := .later }
def FnPlainInt64BetweenUptoCardSaid : Prop := Claim7.holds Tryd.pinned (.plain (OpenSpec.upto fnPlainInt64BetweenSpec)) fnPlainInt64BetweenUptoCard

/-- THE SECOND FORM's CARD OF 'laws.FnPlainInt96Between'. -/
def fnPlainInt96BetweenUptoCard : Claim7 := { stood := { row := fnPlainInt96BetweenUptoRow, standIns := [], harness := (true, "e4568fa3766ebd63daf8180901fa7fa0f5a1461f08aa054267803422a4bbdd80"), looks := true }, kinds := [], alts := [], laidByText := true, laidKinds := [.data], laidTests := true, laidLooks := .later }
def FnPlainInt96BetweenUptoCardSaid : Prop := Claim7.holds Tryd.pinned (.plain (OpenSpec.upto fnPlainInt96BetweenSpec)) fnPlainInt96BetweenUptoCard

/-- THE SECOND FORM's CARD OF 'laws.FnPlainFloat32Between'. -/
def fnPlainFloat32BetweenUptoCard : Claim7 := { stood := { row := fnPlainFloat32BetweenUptoRow, standIns := [], harness := (true, "e4568fa3766ebd63daf8180901fa7fa0f5a1461f08aa054267803422a4bbdd80"), looks := true }, kinds := [], alts := [], laidByText := true, laidKinds := [.data], laidTests := true, laidLooks := .later }
def FnPlainFloat32BetweenUptoCardSaid : Prop := Claim7.holds Tryd.pinned (.plain (OpenSpec.upto fnPlainFloat32BetweenSpec)) fnPlainFloat32BetweenUptoCard
end Rows
end Go.Proofs.YtpjaaonpbohkdaaDoor
