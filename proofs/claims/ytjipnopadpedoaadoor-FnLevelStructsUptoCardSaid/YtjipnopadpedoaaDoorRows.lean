/-
  NARROWER THAN 'FOR EVERY INPUT', by the rows' own cells (each row's printed sentence says how): FnLevelStructs: loops, laid.
  DERIVED. THE GIVEN ROWS OF THIS SEAT. 1 by the template 'for every input the law returns true; each argument reads behind the call as it read before'; 0 by the template 'total and deterministic' (their statements: YtjipnopadpedoaaDoorTotals.lean).
  GIVEN WITH THE SEED: the statements are not yours to turn. If you find one false, say at which input.
  Laid BY PROGRAM, IN A SANDBOX (cutbox-rows.mjs): the forced cells as the released guide's own fill.sh prints them over the translation 128e98a79781b568… (all of the seat's roots in one cut). By AI agents, Wed Nov 11 2026. No macro, syntax, notation, axiom, sorry.
-/
import Derived.Test.YtjipnopadpedoaaDoorChecked
import GoSem.Claim
import GoSem.ClaimJoined
import GoSem.ClaimMapViews
import Derived.JoinedTies
import Derived.KernelRfl
namespace Go.Proofs.YtjipnopadpedoaaDoor
/- THE CELL 'sum', in the pinned program and in every row, IS THE sha256 OF THE DUMP (.gsa) THAT YtjipnopadpedoaaDoorProg.lean LOADS. Nothing in Lean hashes anything: it is a label: what it is worth is what the hold of that sum in a sandbox is worth. -/
noncomputable def Tryd.pinned : Pinned := { name := "ytjipnopadpedoaadoor", sum := "128e98a79781b568866a977592bbef90b580dad703a20fdc3744f18639d2e4f3", checked := Tryd.checked }
namespace Rows
def none {H : Type} : Left H := { results := [], args := [] }

/- WHAT THE LISTED PACKAGE-LEVEL VARIABLES READ AS WHEN THE CALL BEGINS. Each datum BY PROGRAM (the guide's laid-datum.mjs) off the statement by which the dump's own 'gosem.cut.vars' lays the variable. In a bare row this is a premise. The card (YtjipnopadpedoaaDoorCards.lean) ties it to the program's text. -/
def laid_given_example_pub_arrowroot_pub_arrow_arrow_bitutil_BitMask {H : Type} : DataW H := .agg [.lit (.int .u8 1), .lit (.int .u8 2), .lit (.int .u8 4), .lit (.int .u8 8), .lit (.int .u8 16), .lit (.int .u8 32), .lit (.int .u8 64), .lit (.int .u8 128)]
def laid_given_example_pub_arrowroot_pub_arrow_arrow_bitutil_PrecedingBitmask {H : Type} : DataW H := .agg [.lit (.int .u8 0), .lit (.int .u8 1), .lit (.int .u8 3), .lit (.int .u8 7), .lit (.int .u8 15), .lit (.int .u8 31), .lit (.int .u8 63), .lit (.int .u8 127)]

/-- 'laws.FnLevelStructs': WHATEVER THE INPUT: true; the input reads as it did. -/
def fnLevelStructsSpec : ChangeSpec := { name := "fnLevelStructs", vars := ["given.example/pub-arrowroot/pub/arrow/arrow/bitutil.BitMask", "given.example/pub-arrowroot/pub/arrow/arrow/bitutil.PrecedingBitmask"], fn := fun _ => fun
  | [d1, d2, d3, g1, g2] => { results := [.lit (.bool true)], args := [d1, d2, d3], vars := [g1, g2] }
  | _ => none }
def fnLevelStructsRow : OpenClaim := { program := "ytjipnopadpedoaadoor", sum := "128e98a79781b568866a977592bbef90b580dad703a20fdc3744f18639d2e4f3", func := "given.example/pub-arrowroot/laws.FnLevelStructs", spec := "fnLevelStructs", unfollowed := true, recurses := true, named := ["given.example/pub-arrowroot/pub/arrow/arrow/bitutil.BitMask", "given.example/pub-arrowroot/pub/arrow/arrow/bitutil.PrecedingBitmask"], loops := true, apart := false, laid := [("given.example/pub-arrowroot/pub/arrow/arrow/bitutil.BitMask", laid_given_example_pub_arrowroot_pub_arrow_arrow_bitutil_BitMask), ("given.example/pub-arrowroot/pub/arrow/arrow/bitutil.PrecedingBitmask", laid_given_example_pub_arrowroot_pub_arrow_arrow_bitutil_PrecedingBitmask)] }
def FnLevelStructsSaid : Prop := fnLevelStructsRow.holds Tryd.pinned (OpenSpec.ofChange fnLevelStructsSpec)

/-- ITS FALSE NEIGHBOUR: 'it returns false'. Refute it at one input. -/
def fnLevelStructsWrong : ChangeSpec := { name := "fnLevelStructs", vars := ["given.example/pub-arrowroot/pub/arrow/arrow/bitutil.BitMask", "given.example/pub-arrowroot/pub/arrow/arrow/bitutil.PrecedingBitmask"], fn := fun _ => fun
  | [d1, d2, d3, g1, g2] => { results := [.lit (.bool false)], args := [d1, d2, d3], vars := [g1, g2] }
  | _ => none }
def FnLevelStructsWrongFalsely : Prop := fnLevelStructsRow.holds Tryd.pinned (OpenSpec.ofChange fnLevelStructsWrong)

/- THE SECOND FORM. 'bulk': how many values and letters a reading holds, each counted each time it is reached (what is shared counts as often as it is met; a slice's spare places count too). A statement '..UptoSaid' is the law's where the arguments, and the package variables that the reading takes, are together of bulk at most 1048576: NARROWER than '..Said'. Prove '..Said' where nothing that the law and all that it calls make is longer than what came in: it says more and counts as full. Else prove '..UptoSaid'. A law counts once. -/
mutual
def uptoBulk {H : Type} : DataW H → Nat
  | .lit (.string bytes) => bytes.length + 1
  | .lit _ => 1
  | .nil => 1
  | .ptr d => uptoBulk d + 1
  | .slice elems spare => uptoBulkAll elems + uptoBulkAll spare + 1
  | .agg parts => uptoBulkAll parts + 1
  | .iface _ d => uptoBulk d + 1
  | .map entries => uptoBulkEntries entries + 1
  | .held _ => 1
def uptoBulkAll {H : Type} : List (DataW H) → Nat
  | [] => 0
  | d :: r => uptoBulk d + uptoBulkAll r
def uptoBulkEntries {H : Type} : List (Lit × DataW H) → Nat
  | [] => 0
  | x :: r => uptoBulkEntry x + uptoBulkEntries r
def uptoBulkEntry {H : Type} : Lit × DataW H → Nat
  | (.string bytes, d) => bytes.length + uptoBulk d + 1
  | (_, d) => uptoBulk d + 1
 end
def uptoSmall : (H : Type) → List (DataW H) → Bool := fun _ ds => decide (uptoBulkAll ds ≤ 1048576)
def OpenSpec.upto (s : _root_.Go.ChangeSpec) : _root_.Go.OpenSpec := { _root_.Go.OpenSpec.ofChange s with cond := some uptoSmall }

/-- 'laws.FnLevelStructs', WHERE WHAT IT READS IS OF BULK AT MOST 1048576: true; the input reads as it did. -/
def fnLevelStructsUptoRow : OpenClaim := { program := "ytjipnopadpedoaadoor", sum := "128e98a79781b568866a977592bbef90b580dad703a20fdc3744f18639d2e4f3", func := "given.example/pub-arrowroot/laws.FnLevelStructs", spec := "fnLevelStructs", unfollowed := true, recurses := true, named := ["given.example/pub-arrowroot/pub/arrow/arrow/bitutil.BitMask", "given.example/pub-arrowroot/pub/arrow/arrow/bitutil.PrecedingBitmask"], loops := true, apart := false, laid := [("given.example/pub-arrowroot/pub/arrow/arrow/bitutil.BitMask", laid_given_example_pub_arrowroot_pub_arrow_arrow_bitutil_BitMask), ("given.example/pub-arrowroot/pub/arrow/arrow/bitutil.PrecedingBitmask", laid_given_example_pub_arrowroot_pub_arrow_arrow_bitutil_PrecedingBitmask)], narrowed := true }
def FnLevelStructsUptoSaid : Prop := fnLevelStructsUptoRow.holds Tryd.pinned (OpenSpec.upto fnLevelStructsSpec)

end Rows
end Go.Proofs.YtjipnopadpedoaaDoor
