/-
  NARROWER THAN 'FOR EVERY INPUT', by the rows' own cells (each row's printed sentence says how): FnPlainFloat64Between: loops, laid · FnPlainInt32Between: loops, laid · FnPlainInt64Between: loops, laid · FnPlainInt96Between: loops, laid · FnPlainFloat32Between: loops, laid.
  DERIVED. THE GIVEN ROWS OF THIS SEAT. 5 by the template 'for every input the law returns true; each argument reads behind the call as it read before'; 0 by the template 'total and deterministic' (their statements: YtpjaaonpbohkdaaDoorTotals.lean).
  GIVEN WITH THE SEED: the statements are not yours to turn. If you find one false, say at which input.
  Laid BY PROGRAM, IN A SANDBOX (cutbox-rows.mjs): the forced cells as the released guide's own fill.sh prints them over the translation 51c5ca6323dd0a47… (all of the seat's roots in one cut). By AI agents, Wed Nov 11 2026. No macro, syntax, notation, axiom, sorry.
-/
import Derived.Test.YtpjaaonpbohkdaaDoorChecked
import GoSem.Claim
import GoSem.ClaimJoined
import GoSem.ClaimMapViews
import Derived.JoinedTies
import Derived.KernelRfl
namespace Go.Proofs.YtpjaaonpbohkdaaDoor
/- THE CELL 'sum', in the pinned program and in every row, IS THE sha256 OF THE DUMP (.gsa) THAT YtpjaaonpbohkdaaDoorProg.lean LOADS. Nothing in Lean hashes anything: it is a label: what it is worth is what the hold of that sum in a sandbox is worth. -/
noncomputable def Tryd.pinned : Pinned := { name := "ytpjaaonpbohkdaadoor", sum := "51c5ca6323dd0a473121ce3fac98b93a8c20102c02452b22323a8c7a83b2c1c4", checked := Tryd.checked }
namespace Rows
def none {H : Type} : Left H := { results := [], args := [] }

/- WHAT THE LISTED PACKAGE-LEVEL VARIABLES READ AS WHEN THE CALL BEGINS. Each datum BY PROGRAM (the guide's laid-datum.mjs) off the statement by which the dump's own 'gosem.cut.vars' lays the variable. In a bare row this is a premise. The card (YtpjaaonpbohkdaaDoorCards.lean) ties it to the program's text. -/
def laid_given_example_pub_arrowroot_pub_arrow_arrow_bitutil_BitMask {H : Type} : DataW H := .agg [.lit (.int .u8 1), .lit (.int .u8 2), .lit (.int .u8 4), .lit (.int .u8 8), .lit (.int .u8 16), .lit (.int .u8 32), .lit (.int .u8 64), .lit (.int .u8 128)]

/-- 'laws.FnPlainFloat64Between': WHATEVER THE INPUT: true; the input reads as it did. -/
def fnPlainFloat64BetweenSpec : ChangeSpec := { name := "fnPlainFloat64Between", vars := ["given.example/pub-arrowroot/pub/arrow/arrow/bitutil.BitMask"], fn := fun _ => fun
  | [d1, d2, d3, d4, g1] => { results := [.lit (.bool true)], args := [d1, d2, d3, d4], vars := [g1] }
  | _ => none }
def fnPlainFloat64BetweenRow : OpenClaim := { program := "ytpjaaonpbohkdaadoor", sum := "51c5ca6323dd0a473121ce3fac98b93a8c20102c02452b22323a8c7a83b2c1c4", func := "given.example/pub-arrowroot/laws.FnPlainFloat64Between", spec := "fnPlainFloat64Between", inPlace := ["math.Float32frombits", "math.Float64frombits", "math.Float64bits"], unfollowed := true, recurses := true, named := ["encoding/binary.LittleEndian", "given.example/pub-arrowroot/pub/arrow/arrow/bitutil.BitMask"], loops := true, apart := false, laid := [("given.example/pub-arrowroot/pub/arrow/arrow/bitutil.BitMask", laid_given_example_pub_arrowroot_pub_arrow_arrow_bitutil_BitMask)] }
def FnPlainFloat64BetweenSaid : Prop := fnPlainFloat64BetweenRow.holds Tryd.pinned (OpenSpec.ofChange fnPlainFloat64BetweenSpec)

/-- ITS FALSE NEIGHBOUR: 'it returns false'. Refute it at one input. -/
def fnPlainFloat64BetweenWrong : ChangeSpec := { name := "fnPlainFloat64Between", vars := ["given.example/pub-arrowroot/pub/arrow/arrow/bitutil.BitMask"], fn := fun _ => fun
  | [d1, d2, d3, d4, g1] => { results := [.lit (.bool false)], args := [d1, d2, d3, d4], vars := [g1] }
  | _ => none }
def FnPlainFloat64BetweenWrongFalsely : Prop := fnPlainFloat64BetweenRow.holds Tryd.pinned (OpenSpec.ofChange fnPlainFloat64BetweenWrong)

/-- 'laws.FnPlainInt32Between': WHATEVER THE INPUT: true; the input reads as it did. -/
def fnPlainInt32BetweenSpec : ChangeSpec := { name := "fnPlainInt32Between", vars := ["given.example/pub-arrowroot/pub/arrow/arrow/bitutil.BitMask"], fn := fun _ => fun
  | [d1, d2, d3, d4, g1] => { results := [.lit (.bool true)], args := [d1, d2, d3, d4], vars := [g1] }
  | _ => none }
def fnPlainInt32BetweenRow : OpenClaim := { program := "ytpjaaonpbohkdaadoor", sum := "51c5ca6323dd0a473121ce3fac98b93a8c20102c02452b22323a8c7a83b2c1c4", func := "given.example/pub-arrowroot/laws.FnPlainInt32Between", spec := "fnPlainInt32Between", inPlace := ["math.Float32frombits", "math.Float64frombits"], unfollowed := true, recurses := true, named := ["encoding/binary.LittleEndian", "given.example/pub-arrowroot/pub/arrow/arrow/bitutil.BitMask"], loops := true, apart := false, laid := [("given.example/pub-arrowroot/pub/arrow/arrow/bitutil.BitMask", laid_given_example_pub_arrowroot_pub_arrow_arrow_bitutil_BitMask)] }
def FnPlainInt32BetweenSaid : Prop := fnPlainInt32BetweenRow.holds Tryd.pinned (OpenSpec.ofChange fnPlainInt32BetweenSpec)

/-- ITS FALSE NEIGHBOUR: 'it returns false'. Refute it at one input. -/
def fnPlainInt32BetweenWrong : ChangeSpec := { name := "fnPlainInt32Between", vars := ["given.example/pub-arrowroot/pub/arrow/arrow/bitutil.BitMask"], fn := fun _ => fun
  | [d1, d2, d3, d4, g1] => { results := [.lit (.bool false)], args := [d1, d2, d3, d4], vars := [g1] }
  | _ => none }
def FnPlainInt32BetweenWrongFalsely : Prop := fnPlainInt32BetweenRow.holds Tryd.pinned (OpenSpec.ofChange fnPlainInt32BetweenWrong)

/-- 'laws.FnPlainInt64Between': WHATEVER THE INPUT: true; the input reads as it did. -/
def fnPlainInt64BetweenSpec : ChangeSpec := { name := "fnPlainInt64Between", vars := ["given.example/pub-arrowroot/pub/arrow/arrow/bitutil.BitMask"], fn := fun _ => fun
  | [d1, d2, d3, d4, g1] => { results := [.lit (.bool true)], args := [d1, d2, d3, d4], vars := [g1] }
  | _ => none }
def fnPlainInt64BetweenRow : OpenClaim := { program := "ytpjaaonpbohkdaadoor", sum := "51c5ca6323dd0a473121ce3fac98b93a8c20102c02452b22323a8c7a83b2c1c4", func := "given.example/pub-arrowroot/laws.FnPlainInt64Between", spec := "fnPlainInt64Between", inPlace := ["math.Float32frombits", "math.Float64frombits"], unfollowed := true, recurses := true, named := ["encoding/binary.LittleEndian", "given.example/pub-arrowroot/pub/arrow/arrow/bitutil.BitMask"], loops := true, apart := false, laid := [("given.example/pub-arrowroot/pub/arrow/arrow/bitutil.BitMask", laid_given_example_pub_arrowroot_pub_arrow_arrow_bitutil_BitMask)] }
def FnPlainInt64BetweenSaid : Prop := fnPlainInt64BetweenRow.holds Tryd.pinned (OpenSpec.ofChange fnPlainInt64BetweenSpec)

/-- ITS FALSE NEIGHBOUR: 'it returns false'. Refute it at one input. -/
def fnPlainInt64BetweenWrong : ChangeSpec := { name := "fnPlainInt64Between", vars := ["given.example/pub-arrowroot/pub/arrow/arrow/bitutil.BitMask"], fn := fun _ => fun
  | [d1, d2, d3, d4, g1] => { results := [.lit (.bool false)], args := [d1, d2, d3, d4], vars := [g1] }
  | _ => none }
def FnPlainInt64BetweenWrongFalsely : Prop := fnPlainInt64BetweenRow.holds Tryd.pinned (OpenSpec.ofChange fnPlainInt64BetweenWrong)

/-- 'laws.FnPlainInt96Between': WHATEVER THE INPUT: true; the input reads as it did. -/
def fnPlainInt96BetweenSpec : ChangeSpec := { name := "fnPlainInt96Between", vars := ["given.example/pub-arrowroot/pub/arrow/arrow/bitutil.BitMask"], fn := fun _ => fun
  | [d1, d2, d3, d4, g1] => { results := [.lit (.bool true)], args := [d1, d2, d3, d4], vars := [g1] }
  | _ => none }
def fnPlainInt96BetweenRow : OpenClaim := { program := "ytpjaaonpbohkdaadoor", sum := "51c5ca6323dd0a473121ce3fac98b93a8c20102c02452b22323a8c7a83b2c1c4", func := "given.example/pub-arrowroot/laws.FnPlainInt96Between", spec := "fnPlainInt96Between", inPlace := ["math.Float32frombits", "math.Float64frombits"], unfollowed := true, recurses := true, named := ["encoding/binary.LittleEndian", "given.example/pub-arrowroot/pub/arrow/arrow/bitutil.BitMask"], loops := true, apart := false, laid := [("given.example/pub-arrowroot/pub/arrow/arrow/bitutil.BitMask", laid_given_example_pub_arrowroot_pub_arrow_arrow_bitutil_BitMask)] }
def FnPlainInt96BetweenSaid : Prop := fnPlainInt96BetweenRow.holds Tryd.pinned (OpenSpec.ofChange fnPlainInt96BetweenSpec)

/-- ITS FALSE NEIGHBOUR: 'it returns false'. Refute it at one input. -/
def fnPlainInt96BetweenWrong : ChangeSpec := { name := "fnPlainInt96Between", vars := ["given.example/pub-arrowroot/pub/arrow/arrow/bitutil.BitMask"], fn := fun _ => fun
  | [d1, d2, d3, d4, g1] => { results := [.lit (.bool false)], args := [d1, d2, d3, d4], vars := [g1] }
  | _ => none }
def FnPlainInt96BetweenWrongFalsely : Prop := fnPlainInt96BetweenRow.holds Tryd.pinned (OpenSpec.ofChange fnPlainInt96BetweenWrong)

/-- 'laws.FnPlainFloat32Between': WHATEVER THE INPUT: true; the input reads as it did. -/
def fnPlainFloat32BetweenSpec : ChangeSpec := { name := "fnPlainFloat32Between", vars := ["given.example/pub-arrowroot/pub/arrow/arrow/bitutil.BitMask"], fn := fun _ => fun
  | [d1, d2, d3, d4, g1] => { results := [.lit (.bool true)], args := [d1, d2, d3, d4], vars := [g1] }
  | _ => none }
def fnPlainFloat32BetweenRow : OpenClaim := { program := "ytpjaaonpbohkdaadoor", sum := "51c5ca6323dd0a473121ce3fac98b93a8c20102c02452b22323a8c7a83b2c1c4", func := "given.example/pub-arrowroot/laws.FnPlainFloat32Between", spec := "fnPlainFloat32Between", inPlace := ["math.Float32frombits", "math.Float64frombits", "math.Float32bits"], unfollowed := true, recurses := true, named := ["encoding/binary.LittleEndian", "given.example/pub-arrowroot/pub/arrow/arrow/bitutil.BitMask"], loops := true, apart := false, laid := [("given.example/pub-arrowroot/pub/arrow/arrow/bitutil.BitMask", laid_given_example_pub_arrowroot_pub_arrow_arrow_bitutil_BitMask)] }
def FnPlainFloat32BetweenSaid : Prop := fnPlainFloat32BetweenRow.holds Tryd.pinned (OpenSpec.ofChange fnPlainFloat32BetweenSpec)

/-- ITS FALSE NEIGHBOUR: 'it returns false'. Refute it at one input. -/
def fnPlainFloat32BetweenWrong : ChangeSpec := { name := "fnPlainFloat32Between", vars := ["given.example/pub-arrowroot/pub/arrow/arrow/bitutil.BitMask"], fn := fun _ => fun
  | [d1, d2, d3, d4, g1] => { results := [.lit (.bool false)], args := [d1, d2, d3, d4], vars := [g1] }
  | _ => none }
def FnPlainFloat32BetweenWrongFalsely : Prop := fnPlainFloat32BetweenRow.holds Tryd.pinned (OpenSpec.ofChange fnPlainFloat32BetweenWrong)

/- THE SECOND FORM. 'bulk': how many values and letters a reading holds, each counted each time it is reached (what is shared counts as often as it is met; a slice's spare places count too). A statement '..UptoSaid' is the law's where the arguments, and the package variables that the reading takes, are together of bulk at most 1048576: NARROWER than '..Said'. Prove '..Said' where nothing that the law and all that it calls make is longer than what came in: it says more and counts as full. Else prove '..UptoSaid'. A law counts once. -/
mutual
def uptoBulk {H : Type} : DataW H → Nat
  | .lit (.string bytes) => bytes.length + 1
  | .lit _ => 1
  | .nil => 1
  | .ptr d => uptoBulk d + 1
  | .slice elems spare => uptoBulkAll elems + uptoBulkAll spare + 1
  | .agg parts => uptoBulkAll parts + 1
  | .iface _ d => uptoBulk d + 1
  | .map entries => uptoBulkEntries entries + 1
  | .held _ => 1
def uptoBulkAll {H : Type} : List (DataW H) → Nat
  | [] => 0
  | d :: r => uptoBulk d + uptoBulkAll r
def uptoBulkEntries {H : Type} : List (Lit × DataW H) → Nat
  | [] => 0
  | x :: r => uptoBulkEntry x + uptoBulkEntries r
def uptoBulkEntry {H : Type} : Lit × DataW H → Nat
  | (.string bytes, d) => bytes.length + uptoBulk d + 1
  | (_, d) => uptoBulk d + 1
 end
def uptoSmall : (H : Type) → List (DataW H) → Bool := fun _ ds => decide (uptoBulkAll ds ≤ 1048576)
def OpenSpec.upto (s : _root_.Go.ChangeSpec) : _root_.Go.OpenSpec := { _root_.Go.OpenSpec.ofChange s with cond := some uptoSmall }

/-- 'laws.FnPlainFloat64Between', WHERE WHAT IT READS IS OF BULK AT MOST 1048576: true; the input reads as it did. -/
def fnPlainFloat64BetweenUptoRow : OpenClaim := { program := "ytpjaaonpbohkdaadoor", sum := "51c5ca6323dd0a473121ce3fac98b93a8c20102c02452b22323a8c7a83b2c1c4", func := "given.example/pub-arrowroot/laws.FnPlainFloat64Between", spec := "fnPlainFloat64Between", inPlace := ["math.Float32frombits", "math.Float64frombits", "math.Float64bits"], unfollowed := true, recurses := true, named := ["encoding/binary.LittleEndian", "given.example/pub-arrowroot/pub/arrow/arrow/bitutil.BitMask"], loops := true, apart := false, laid := [("given.example/pub-arrowroot/pub/arrow/arrow/bitutil.BitMask", laid_given_example_pub_arrowroot_pub_arrow_arrow_bitutil_BitMask)], narrowed := true }
def FnPlainFloat64BetweenUptoSaid : Prop := fnPlainFloat64BetweenUptoRow.holds Tryd.pinned (OpenSpec.upto fnPlainFloat64BetweenSpec)

/-- 'laws.FnPlainInt32Between', WHERE WHAT IT READS IS OF BULK AT MOST 1048576: true; the input reads as it did. -/
def fnPlainInt32BetweenUptoRow : OpenClaim := { program := "ytpjaaonpbohkdaadoor", sum := "51c5ca6323dd0a473121ce3fac98b93a8c20102c02452b22323a8c7a83b2c1c4", func := "given.example/pub-arrowroot/laws.FnPlainInt32Between", spec := "fnPlainInt32Between", inPlace := ["math.Float32frombits", "math.Float64frombits"], unfollowed := true, recurses := true, named := ["encoding/binary.LittleEndian", "given.example/pub-arrowroot/pub/arrow/arrow/bitutil.BitMask"], loops := true, apart := false, laid := [("given.example/pub-arrowroot/pub/arrow/arrow/bitutil.BitMask", laid_given_example_pub_arrowroot_pub_arrow_arrow_bitutil_BitMask)], narrowed := true }
def FnPlainInt32BetweenUptoSaid : Prop := fnPlainInt32BetweenUptoRow.holds Tryd.pinned (OpenSpec.upto fnPlainInt32BetweenSpec)

/-- 'laws.FnPlainInt64Between', WHERE WHAT IT READS IS OF BULK AT MOST 1048576: true; the input reads as it did. -/
def fnPlainInt64BetweenUptoRow : OpenClaim := { program := "ytpjaaonpbohkdaadoor", sum := "51c5ca6323dd0a473121ce3fac98b93a8c20102c02452b22323a8c7a83b2c1c4", func := "given.example/pub-arrowroot/laws.FnPlainInt64Between", spec := "fnPlainInt64Between", inPlace := ["math.Float32frombits", "math.Float64frombits"], unfollowed := true, recurses := true, named := ["encoding/binary.LittleEndian", "given.example/pub-arrowroot/pub/arrow/arrow/bitutil.BitMask"], loops := true, apart := false, laid := [("given.example/pub-arrowroot/pub/arrow/arrow/bitutil.BitMask", laid_given_example_pub_arrowroot_pub_arrow_arrow_bitutil_BitMask)], narrowed := true }
def FnPlainInt64BetweenUptoSaid : Prop := fnPlainInt64BetweenUptoRow.holds Tryd.pinned (OpenSpec.upto fnPlainInt64BetweenSpec)

/-- 'laws.FnPlainInt96Between', WHERE WHAT IT READS IS OF BULK AT MOST 1048576: true; the input reads as it did. -/
def fnPlainInt96BetweenUptoRow : OpenClaim := { program := "ytpjaaonpbohkdaadoor", sum := "51c5ca6323dd0a473121ce3fac98b93a8c20102c02452b22323a8c7a83b2c1c4", func := "given.example/pub-arrowroot/laws.FnPlainInt96Between", spec := "fnPlainInt96Between", inPlace := ["math.Float32frombits", "math.Float64frombits"], unfollowed := true, recurses := true, named := ["encoding/binary.LittleEndian", "given.example/pub-arrowroot/pub/arrow/arrow/bitutil.BitMask"], loops := true, apart := false, laid := [("given.example/pub-arrowroot/pub/arrow/arrow/bitutil.BitMask", laid_given_example_pub_arrowroot_pub_arrow_arrow_bitutil_BitMask)], narrowed := true }
def FnPlainInt96BetweenUptoSaid : Prop := fnPlainInt96BetweenUptoRow.holds Tryd.pinned (OpenSpec.upto fnPlainInt96BetweenSpec)

/-- 'laws.FnPlainFloat32Between', WHERE WHAT IT READS IS OF BULK AT MOST 1048576: true; the input reads as it did. -/
def fnPlainFloat32BetweenUptoRow : OpenClaim := { program := "ytpjaaonpbohkdaadoor", sum := "51c5ca6323dd0a473121ce3fac98b93a8c20102c02452b22323a8c7a83b2c1c4", func := "given.example/pub-arrowroot/laws.FnPlainFloat32Between", spec := "fnPlainFloat32Between", inPlace := ["math.Float32frombits", "math.Float64frombits", "math.Float32bits"], unfollowed := true, recurses := true, named := ["encoding/binary.LittleEndian", "given.example/pub-arrowroot/pub/arrow/arrow/bitutil.BitMask"], loops := true, apart := false, laid := [("given.example/pub-arrowroot/pub/arrow/arrow/bitutil.BitMask", laid_given_example_pub_arrowroot_pub_arrow_arrow_bitutil_BitMask)], narrowed := true }
def FnPlainFloat32BetweenUptoSaid : Prop := fnPlainFloat32BetweenUptoRow.holds Tryd.pinned (OpenSpec.upto fnPlainFloat32BetweenSpec)

end Rows
end Go.Proofs.YtpjaaonpbohkdaaDoor
