/-
  NARROWER THAN 'FOR EVERY INPUT', by the rows' own cells (each row's printed sentence says how): FnUnpack3: laid · FnUnpack7: laid · FnUnpack11: laid · FnUnpack15: laid · FnUnpack19: laid · FnUnpack23: laid · FnUnpack27: laid · FnUnpack31: laid.
  DERIVED. THE GIVEN ROWS OF THIS SEAT. 8 by the template 'for every input the law returns true; each argument reads behind the call as it read before'; 0 by the template 'total and deterministic' (their statements: YtblmpfhjghcddaaDoorTotals.lean).
  GIVEN WITH THE SEED: the statements are not yours to turn. If you find one false, say at which input.
  Laid BY PROGRAM, IN A SANDBOX (cutbox-rows.mjs): the forced cells as the released guide's own fill.sh prints them over the translation 60829aed0939800b… (all of the seat's roots in one cut). By AI agents, Wed Nov 11 2026. No macro, syntax, notation, axiom, sorry.
-/
import Derived.Test.YtblmpfhjghcddaaDoorChecked
import GoSem.Claim
import GoSem.ClaimJoined
import GoSem.ClaimMapViews
import Derived.JoinedTies
import Derived.KernelRfl
namespace Go.Proofs.YtblmpfhjghcddaaDoor
/- THE CELL 'sum', in the pinned program and in every row, IS THE sha256 OF THE DUMP (.gsa) THAT YtblmpfhjghcddaaDoorProg.lean LOADS. Nothing in Lean hashes anything: it is a label: what it is worth is what the hold of that sum in a sandbox is worth. -/
noncomputable def Tryd.pinned : Pinned := { name := "ytblmpfhjghcddaadoor", sum := "60829aed0939800bf3fe4853cd05358ae294ba46c8c2533a4e2312ea1293ffb4", checked := Tryd.checked }
namespace Rows
def none {H : Type} : Left H := { results := [], args := [] }

/- WHAT THE LISTED PACKAGE-LEVEL VARIABLES READ AS WHEN THE CALL BEGINS. Each datum BY PROGRAM (the guide's laid-datum.mjs) off the statement by which the dump's own 'gosem.cut.vars' lays the variable. In a bare row this is a premise. The card (YtblmpfhjghcddaaDoorCards.lean) ties it to the program's text. -/
def laid_io_ErrShortBuffer {H : Type} : DataW H := .iface "*errors.errorString" (.ptr (.agg [.lit (.string [115, 104, 111, 114, 116, 32, 98, 117, 102, 102, 101, 114])]))
def laid_io_EOF {H : Type} : DataW H := .iface "*errors.errorString" (.ptr (.agg [.lit (.string [69, 79, 70])]))
def laid_io_ErrUnexpectedEOF {H : Type} : DataW H := .iface "*errors.errorString" (.ptr (.agg [.lit (.string [117, 110, 101, 120, 112, 101, 99, 116, 101, 100, 32, 69, 79, 70])]))

/-- 'laws.FnUnpack3': WHATEVER THE INPUT: true; the input reads as it did. -/
def fnUnpack3Spec : ChangeSpec := { name := "fnUnpack3", fn := fun _ => fun
  | [d] => { results := [.lit (.bool true)], args := [d] }
  | _ => none }
def fnUnpack3Row : OpenClaim := { program := "ytblmpfhjghcddaadoor", sum := "60829aed0939800bf3fe4853cd05358ae294ba46c8c2533a4e2312ea1293ffb4", func := "given.example/pub-arrowroot/laws.FnUnpack3", spec := "fnUnpack3", unfollowed := true, recurses := true, named := ["encoding/binary.LittleEndian", "io.ErrShortBuffer", "io.EOF", "io.ErrUnexpectedEOF"], apart := false, laid := [("io.ErrShortBuffer", laid_io_ErrShortBuffer), ("io.EOF", laid_io_EOF), ("io.ErrUnexpectedEOF", laid_io_ErrUnexpectedEOF)] }
def FnUnpack3Said : Prop := fnUnpack3Row.holds Tryd.pinned (OpenSpec.ofChange fnUnpack3Spec)

/-- ITS FALSE NEIGHBOUR: 'it returns false'. Refute it at one input. -/
def fnUnpack3Wrong : ChangeSpec := { name := "fnUnpack3", fn := fun _ => fun
  | [d] => { results := [.lit (.bool false)], args := [d] }
  | _ => none }
def FnUnpack3WrongFalsely : Prop := fnUnpack3Row.holds Tryd.pinned (OpenSpec.ofChange fnUnpack3Wrong)

/-- 'laws.FnUnpack7': WHATEVER THE INPUT: true; the input reads as it did. -/
def fnUnpack7Spec : ChangeSpec := { name := "fnUnpack7", fn := fun _ => fun
  | [d] => { results := [.lit (.bool true)], args := [d] }
  | _ => none }
def fnUnpack7Row : OpenClaim := { program := "ytblmpfhjghcddaadoor", sum := "60829aed0939800bf3fe4853cd05358ae294ba46c8c2533a4e2312ea1293ffb4", func := "given.example/pub-arrowroot/laws.FnUnpack7", spec := "fnUnpack7", unfollowed := true, recurses := true, named := ["encoding/binary.LittleEndian", "io.ErrShortBuffer", "io.EOF", "io.ErrUnexpectedEOF"], apart := false, laid := [("io.ErrShortBuffer", laid_io_ErrShortBuffer), ("io.EOF", laid_io_EOF), ("io.ErrUnexpectedEOF", laid_io_ErrUnexpectedEOF)] }
def FnUnpack7Said : Prop := fnUnpack7Row.holds Tryd.pinned (OpenSpec.ofChange fnUnpack7Spec)

/-- ITS FALSE NEIGHBOUR: 'it returns false'. Refute it at one input. -/
def fnUnpack7Wrong : ChangeSpec := { name := "fnUnpack7", fn := fun _ => fun
  | [d] => { results := [.lit (.bool false)], args := [d] }
  | _ => none }
def FnUnpack7WrongFalsely : Prop := fnUnpack7Row.holds Tryd.pinned (OpenSpec.ofChange fnUnpack7Wrong)

/-- 'laws.FnUnpack11': WHATEVER THE INPUT: true; the input reads as it did. -/
def fnUnpack11Spec : ChangeSpec := { name := "fnUnpack11", fn := fun _ => fun
  | [d] => { results := [.lit (.bool true)], args := [d] }
  | _ => none }
def fnUnpack11Row : OpenClaim := { program := "ytblmpfhjghcddaadoor", sum := "60829aed0939800bf3fe4853cd05358ae294ba46c8c2533a4e2312ea1293ffb4", func := "given.example/pub-arrowroot/laws.FnUnpack11", spec := "fnUnpack11", unfollowed := true, recurses := true, named := ["encoding/binary.LittleEndian", "io.ErrShortBuffer", "io.EOF", "io.ErrUnexpectedEOF"], apart := false, laid := [("io.ErrShortBuffer", laid_io_ErrShortBuffer), ("io.EOF", laid_io_EOF), ("io.ErrUnexpectedEOF", laid_io_ErrUnexpectedEOF)] }
def FnUnpack11Said : Prop := fnUnpack11Row.holds Tryd.pinned (OpenSpec.ofChange fnUnpack11Spec)

/-- ITS FALSE NEIGHBOUR: 'it returns false'. Refute it at one input. -/
def fnUnpack11Wrong : ChangeSpec := { name := "fnUnpack11", fn := fun _ => fun
  | [d] => { results := [.lit (.bool false)], args := [d] }
  | _ => none }
def FnUnpack11WrongFalsely : Prop := fnUnpack11Row.holds Tryd.pinned (OpenSpec.ofChange fnUnpack11Wrong)

/-- 'laws.FnUnpack15': WHATEVER THE INPUT: true; the input reads as it did. -/
def fnUnpack15Spec : ChangeSpec := { name := "fnUnpack15", fn := fun _ => fun
  | [d] => { results := [.lit (.bool true)], args := [d] }
  | _ => none }
def fnUnpack15Row : OpenClaim := { program := "ytblmpfhjghcddaadoor", sum := "60829aed0939800bf3fe4853cd05358ae294ba46c8c2533a4e2312ea1293ffb4", func := "given.example/pub-arrowroot/laws.FnUnpack15", spec := "fnUnpack15", unfollowed := true, recurses := true, named := ["encoding/binary.LittleEndian", "io.ErrShortBuffer", "io.EOF", "io.ErrUnexpectedEOF"], apart := false, laid := [("io.ErrShortBuffer", laid_io_ErrShortBuffer), ("io.EOF", laid_io_EOF), ("io.ErrUnexpectedEOF", laid_io_ErrUnexpectedEOF)] }
def FnUnpack15Said : Prop := fnUnpack15Row.holds Tryd.pinned (OpenSpec.ofChange fnUnpack15Spec)

/-- ITS FALSE NEIGHBOUR: 'it returns false'. Refute it at one input. -/
def fnUnpack15Wrong : ChangeSpec := { name := "fnUnpack15", fn := fun _ => fun
  | [d] => { results := [.lit (.bool false)], args := [d] }
  | _ => none }
def FnUnpack15WrongFalsely : Prop := fnUnpack15Row.holds Tryd.pinned (OpenSpec.ofChange fnUnpack15Wrong)

/-- 'laws.FnUnpack19': WHATEVER THE INPUT: true; the input reads as it did. -/
def fnUnpack19Spec : ChangeSpec := { name := "fnUnpack19", fn := fun _ => fun
  | [d] => { results := [.lit (.bool true)], args := [d] }
  | _ => none }
def fnUnpack19Row : OpenClaim := { program := "ytblmpfhjghcddaadoor", sum := "60829aed0939800bf3fe4853cd05358ae294ba46c8c2533a4e2312ea1293ffb4", func := "given.example/pub-arrowroot/laws.FnUnpack19", spec := "fnUnpack19", unfollowed := true, recurses := true, named := ["encoding/binary.LittleEndian", "io.ErrShortBuffer", "io.EOF", "io.ErrUnexpectedEOF"], apart := false, laid := [("io.ErrShortBuffer", laid_io_ErrShortBuffer), ("io.EOF", laid_io_EOF), ("io.ErrUnexpectedEOF", laid_io_ErrUnexpectedEOF)] }
def FnUnpack19Said : Prop := fnUnpack19Row.holds Tryd.pinned (OpenSpec.ofChange fnUnpack19Spec)

/-- ITS FALSE NEIGHBOUR: 'it returns false'. Refute it at one input. -/
def fnUnpack19Wrong : ChangeSpec := { name := "fnUnpack19", fn := fun _ => fun
  | [d] => { results := [.lit (.bool false)], args := [d] }
  | _ => none }
def FnUnpack19WrongFalsely : Prop := fnUnpack19Row.holds Tryd.pinned (OpenSpec.ofChange fnUnpack19Wrong)

/-- 'laws.FnUnpack23': WHATEVER THE INPUT: true; the input reads as it did. -/
def fnUnpack23Spec : ChangeSpec := { name := "fnUnpack23", fn := fun _ => fun
  | [d] => { results := [.lit (.bool true)], args := [d] }
  | _ => none }
def fnUnpack23Row : OpenClaim := { program := "ytblmpfhjghcddaadoor", sum := "60829aed0939800bf3fe4853cd05358ae294ba46c8c2533a4e2312ea1293ffb4", func := "given.example/pub-arrowroot/laws.FnUnpack23", spec := "fnUnpack23", unfollowed := true, recurses := true, named := ["encoding/binary.LittleEndian", "io.ErrShortBuffer", "io.EOF", "io.ErrUnexpectedEOF"], apart := false, laid := [("io.ErrShortBuffer", laid_io_ErrShortBuffer), ("io.EOF", laid_io_EOF), ("io.ErrUnexpectedEOF", laid_io_ErrUnexpectedEOF)] }
def FnUnpack23Said : Prop := fnUnpack23Row.holds Tryd.pinned (OpenSpec.ofChange fnUnpack23Spec)

/-- ITS FALSE NEIGHBOUR: 'it returns false'. Refute it at one input. -/
def fnUnpack23Wrong : ChangeSpec := { name := "fnUnpack23", fn := fun _ => fun
  | [d] => { results := [.lit (.bool false)], args := [d] }
  | _ => none }
def FnUnpack23WrongFalsely : Prop := fnUnpack23Row.holds Tryd.pinned (OpenSpec.ofChange fnUnpack23Wrong)

/-- 'laws.FnUnpack27': WHATEVER THE INPUT: true; the input reads as it did. -/
def fnUnpack27Spec : ChangeSpec := { name := "fnUnpack27", fn := fun _ => fun
  | [d] => { results := [.lit (.bool true)], args := [d] }
  | _ => none }
def fnUnpack27Row : OpenClaim := { program := "ytblmpfhjghcddaadoor", sum := "60829aed0939800bf3fe4853cd05358ae294ba46c8c2533a4e2312ea1293ffb4", func := "given.example/pub-arrowroot/laws.FnUnpack27", spec := "fnUnpack27", unfollowed := true, recurses := true, named := ["encoding/binary.LittleEndian", "io.ErrShortBuffer", "io.EOF", "io.ErrUnexpectedEOF"], apart := false, laid := [("io.ErrShortBuffer", laid_io_ErrShortBuffer), ("io.EOF", laid_io_EOF), ("io.ErrUnexpectedEOF", laid_io_ErrUnexpectedEOF)] }
def FnUnpack27Said : Prop := fnUnpack27Row.holds Tryd.pinned (OpenSpec.ofChange fnUnpack27Spec)

/-- ITS FALSE NEIGHBOUR: 'it returns false'. Refute it at one input. -/
def fnUnpack27Wrong : ChangeSpec := { name := "fnUnpack27", fn := fun _ => fun
  | [d] => { results := [.lit (.bool false)], args := [d] }
  | _ => none }
def FnUnpack27WrongFalsely : Prop := fnUnpack27Row.holds Tryd.pinned (OpenSpec.ofChange fnUnpack27Wrong)

/-- 'laws.FnUnpack31': WHATEVER THE INPUT: true; the input reads as it did. -/
def fnUnpack31Spec : ChangeSpec := { name := "fnUnpack31", fn := fun _ => fun
  | [d] => { results := [.lit (.bool true)], args := [d] }
  | _ => none }
def fnUnpack31Row : OpenClaim := { program := "ytblmpfhjghcddaadoor", sum := "60829aed0939800bf3fe4853cd05358ae294ba46c8c2533a4e2312ea1293ffb4", func := "given.example/pub-arrowroot/laws.FnUnpack31", spec := "fnUnpack31", unfollowed := true, recurses := true, named := ["encoding/binary.LittleEndian", "io.ErrShortBuffer", "io.EOF", "io.ErrUnexpectedEOF"], apart := false, laid := [("io.ErrShortBuffer", laid_io_ErrShortBuffer), ("io.EOF", laid_io_EOF), ("io.ErrUnexpectedEOF", laid_io_ErrUnexpectedEOF)] }
def FnUnpack31Said : Prop := fnUnpack31Row.holds Tryd.pinned (OpenSpec.ofChange fnUnpack31Spec)

/-- ITS FALSE NEIGHBOUR: 'it returns false'. Refute it at one input. -/
def fnUnpack31Wrong : ChangeSpec := { name := "fnUnpack31", fn := fun _ => fun
  | [d] => { results := [.lit (.bool false)], args := [d] }
  | _ => none }
def FnUnpack31WrongFalsely : Prop := fnUnpack31Row.holds Tryd.pinned (OpenSpec.ofChange fnUnpack31Wrong)

/- THE SECOND FORM. 'bulk': how many values and letters a reading holds, each counted each time it is reached (what is shared counts as often as it is met; a slice's spare places count too). A statement '..UptoSaid' is the law's where the arguments, and the package variables that the reading takes, are together of bulk at most 1048576: NARROWER than '..Said'. Prove '..Said' where nothing that the law and all that it calls make is longer than what came in: it says more and counts as full. Else prove '..UptoSaid'. A law counts once. -/
mutual
def uptoBulk {H : Type} : DataW H → Nat
  | .lit (.string bytes) => bytes.length + 1
  | .lit _ => 1
  | .nil => 1
  | .ptr d => uptoBulk d + 1
  | .slice elems spare => uptoBulkAll elems + uptoBulkAll spare + 1
  | .agg parts => uptoBulkAll parts + 1
  | .iface _ d => uptoBulk d + 1
  | .map entries => uptoBulkEntries entries + 1
  | .held _ => 1
def uptoBulkAll {H : Type} : List (DataW H) → Nat
  | [] => 0
  | d :: r => uptoBulk d + uptoBulkAll r
def uptoBulkEntries {H : Type} : List (Lit × DataW H) → Nat
  | [] => 0
  | x :: r => uptoBulkEntry x + uptoBulkEntries r
def uptoBulkEntry {H : Type} : Lit × DataW H → Nat
  | (.string bytes, d) => bytes.length + uptoBulk d + 1
  | (_, d) => uptoBulk d + 1
 end
def uptoSmall : (H : Type) → List (DataW H) → Bool := fun _ ds => decide (uptoBulkAll ds ≤ 1048576)
def OpenSpec.upto (s : _root_.Go.ChangeSpec) : _root_.Go.OpenSpec := { _root_.Go.OpenSpec.ofChange s with cond := some uptoSmall }

/-- 'laws.FnUnpack3', WHERE WHAT IT READS IS OF BULK AT MOST 1048576: true; the input reads as it did. -/
def fnUnpack3UptoRow : OpenClaim := { program := "ytblmpfhjghcddaadoor", sum := "60829aed0939800bf3fe4853cd05358ae294ba46c8c2533a4e2312ea1293ffb4", func := "given.example/pub-arrowroot/laws.FnUnpack3", spec := "fnUnpack3", unfollowed := true, recurses := true, named := ["encoding/binary.LittleEndian", "io.ErrShortBuffer", "io.EOF", "io.ErrUnexpectedEOF"], apart := false, laid := [("io.ErrShortBuffer", laid_io_ErrShortBuffer), ("io.EOF", laid_io_EOF), ("io.ErrUnexpectedEOF", laid_io_ErrUnexpectedEOF)], narrowed := true }
def FnUnpack3UptoSaid : Prop := fnUnpack3UptoRow.holds Tryd.pinned (OpenSpec.upto fnUnpack3Spec)

/-- 'laws.FnUnpack7', WHERE WHAT IT READS IS OF BULK AT MOST 1048576: true; the input reads as it did. -/
def fnUnpack7UptoRow : OpenClaim := { program := "ytblmpfhjghcddaadoor", sum := "60829aed0939800bf3fe4853cd05358ae294ba46c8c2533a4e2312ea1293ffb4", func := "given.example/pub-arrowroot/laws.FnUnpack7", spec := "fnUnpack7", unfollowed := true, recurses := true, named := ["encoding/binary.LittleEndian", "io.ErrShortBuffer", "io.EOF", "io.ErrUnexpectedEOF"], apart := false, laid := [("io.ErrShortBuffer", laid_io_ErrShortBuffer), ("io.EOF", laid_io_EOF), ("io.ErrUnexpectedEOF", laid_io_ErrUnexpectedEOF)], narrowed := true }
def FnUnpack7UptoSaid : Prop := fnUnpack7UptoRow.holds Tryd.pinned (OpenSpec.upto fnUnpack7Spec)

/-- 'laws.FnUnpack11', WHERE WHAT IT READS IS OF BULK AT MOST 1048576: true; the input reads as it did. -/
def fnUnpack11UptoRow : OpenClaim := { program := "ytblmpfhjghcddaadoor", sum := "60829aed0939800bf3fe4853cd05358ae294ba46c8c2533a4e2312ea1293ffb4", func := "given.example/pub-arrowroot/laws.FnUnpack11", spec := "fnUnpack11", unfollowed := true, recurses := true, named := ["encoding/binary.LittleEndian", "io.ErrShortBuffer", "io.EOF", "io.ErrUnexpectedEOF"], apart := false, laid := [("io.ErrShortBuffer", laid_io_ErrShortBuffer), ("io.EOF", laid_io_EOF), ("io.ErrUnexpectedEOF", laid_io_ErrUnexpectedEOF)], narrowed := true }
def FnUnpack11UptoSaid : Prop := fnUnpack11UptoRow.holds Tryd.pinned (OpenSpec.upto fnUnpack11Spec)

/-- 'laws.FnUnpack15', WHERE WHAT IT READS IS OF BULK AT MOST 1048576: true; the input reads as it did. -/
def fnUnpack15UptoRow : OpenClaim := { program := "ytblmpfhjghcddaadoor", sum := "60829aed0939800bf3fe4853cd05358ae294ba46c8c2533a4e2312ea1293ffb4", func := "given.example/pub-arrowroot/laws.FnUnpack15", spec := "fnUnpack15", unfollowed := true, recurses := true, named := ["encoding/binary.LittleEndian", "io.ErrShortBuffer", "io.EOF", "io.ErrUnexpectedEOF"], apart := false, laid := [("io.ErrShortBuffer", laid_io_ErrShortBuffer), ("io.EOF", laid_io_EOF), ("io.ErrUnexpectedEOF", laid_io_ErrUnexpectedEOF)], narrowed := true }
def FnUnpack15UptoSaid : Prop := fnUnpack15UptoRow.holds Tryd.pinned (OpenSpec.upto fnUnpack15Spec)

/-- 'laws.FnUnpack19', WHERE WHAT IT READS IS OF BULK AT MOST 1048576: true; the input reads as it did. -/
def fnUnpack19UptoRow : OpenClaim := { program := "ytblmpfhjghcddaadoor", sum := "60829aed0939800bf3fe4853cd05358ae294ba46c8c2533a4e2312ea1293ffb4", func := "given.example/pub-arrowroot/laws.FnUnpack19", spec := "fnUnpack19", unfollowed := true, recurses := true, named := ["encoding/binary.LittleEndian", "io.ErrShortBuffer", "io.EOF", "io.ErrUnexpectedEOF"], apart := false, laid := [("io.ErrShortBuffer", laid_io_ErrShortBuffer), ("io.EOF", laid_io_EOF), ("io.ErrUnexpectedEOF", laid_io_ErrUnexpectedEOF)], narrowed := true }
def FnUnpack19UptoSaid : Prop := fnUnpack19UptoRow.holds Tryd.pinned (OpenSpec.upto fnUnpack19Spec)

/-- 'laws.FnUnpack23', WHERE WHAT IT READS IS OF BULK AT MOST 1048576: true; the input reads as it did. -/
def fnUnpack23UptoRow : OpenClaim := { program := "ytblmpfhjghcddaadoor", sum := "60829aed0939800bf3fe4853cd05358ae294ba46c8c2533a4e2312ea1293ffb4", func := "given.example/pub-arrowroot/laws.FnUnpack23", spec := "fnUnpack23", unfollowed := true, recurses := true, named := ["encoding/binary.LittleEndian", "io.ErrShortBuffer", "io.EOF", "io.ErrUnexpectedEOF"], apart := false, laid := [("io.ErrShortBuffer", laid_io_ErrShortBuffer), ("io.EOF", laid_io_EOF), ("io.ErrUnexpectedEOF", laid_io_ErrUnexpectedEOF)], narrowed := true }
def FnUnpack23UptoSaid : Prop := fnUnpack23UptoRow.holds Tryd.pinned (OpenSpec.upto fnUnpack23Spec)

/-- 'laws.FnUnpack27', WHERE WHAT IT READS IS OF BULK AT MOST 1048576: true; the input reads as it did. -/
def fnUnpack27UptoRow : OpenClaim := { program := "ytblmpfhjghcddaadoor", sum := "60829aed0939800bf3fe4853cd05358ae294ba46c8c2533a4e2312ea1293ffb4", func := "given.example/pub-arrowroot/laws.FnUnpack27", spec := "fnUnpack27", unfollowed := true, recurses := true, named := ["encoding/binary.LittleEndian", "io.ErrShortBuffer", "io.EOF", "io.ErrUnexpectedEOF"], apart := false, laid := [("io.ErrShortBuffer", laid_io_ErrShortBuffer), ("io.EOF", laid_io_EOF), ("io.ErrUnexpectedEOF", laid_io_ErrUnexpectedEOF)], narrowed := true }
def FnUnpack27UptoSaid : Prop := fnUnpack27UptoRow.holds Tryd.pinned (OpenSpec.upto fnUnpack27Spec)

/-- 'laws.FnUnpack31', WHERE WHAT IT READS IS OF BULK AT MOST 1048576: true; the input reads as it did. -/
def fnUnpack31UptoRow : OpenClaim := { program := "ytblmpfhjghcddaadoor", sum := "60829aed0939800bf3fe4853cd05358ae294ba46c8c2533a4e2312ea1293ffb4", func := "given.example/pub-arrowroot/laws.FnUnpack31", spec := "fnUnpack31", unfollowed := true, recurses := true, named := ["encoding/binary.LittleEndian", "io.ErrShortBuffer", "io.EOF", "io.ErrUnexpectedEOF"], apart := false, laid := [("io.ErrShortBuffer", laid_io_ErrShortBuffer), ("io.EOF", laid_io_EOF), ("io.ErrUnexpectedEOF", laid_io_ErrUnexpectedEOF)], narrowed := true }
def FnUnpack31UptoSaid : Prop := fnUnpack31UptoRow.holds Tryd.pinned (OpenSpec.upto fnUnpack31Spec)

end Rows
end Go.Proofs.YtblmpfhjghcddaaDoor
