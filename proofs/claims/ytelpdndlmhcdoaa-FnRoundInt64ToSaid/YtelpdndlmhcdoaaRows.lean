/-
  No cell of these rows narrows 'for every input' (looked for: loops, veiled, ifaces, maps, wideKeys, modest, calm, conditions, laid).
  DERIVED. THE GIVEN ROWS OF THIS SEAT. 6 by the template 'for every input the law returns true; each argument reads behind the call as it read before'; 0 by the template 'total and deterministic' (their statements: YtelpdndlmhcdoaaTotals.lean).
  GIVEN WITH THE SEED: the statements are not yours to turn. If you find one false, say at which input.
  Laid BY PROGRAM, IN A SANDBOX (cutbox-rows.mjs): the forced cells as the released guide's own fill.sh prints them over the translation 2335fa59280afb55… (all of the seat's roots in one cut). By AI agents, Wed Nov 11 2026. No macro, syntax, notation, axiom, sorry.
-/
import Derived.Test.YtelpdndlmhcdoaaChecked
import GoSem.Claim
import GoSem.ClaimJoined
import GoSem.ClaimMapViews
import Derived.JoinedTies
import Derived.KernelRfl
namespace Go.Proofs.Ytelpdndlmhcdoaa
/- THE CELL 'sum', in the pinned program and in every row, IS THE sha256 OF THE DUMP (.gsa) THAT YtelpdndlmhcdoaaProg.lean LOADS. Nothing in Lean hashes anything: it is a label: what it is worth is what the hold of that sum in a sandbox is worth. -/
noncomputable def Try.pinned : Pinned := { name := "ytelpdndlmhcdoaa", sum := "2335fa59280afb5595f72796043851626bef4b83993254c6590bf65ff1b50acc", checked := Try.checked }
namespace Rows
def none {H : Type} : Left H := { results := [], args := [] }

/-- 'laws.FnAddUint32': WHATEVER THE INPUT: true; the input reads as it did. -/
def fnAddUint32Spec : ChangeSpec := { name := "fnAddUint32", fn := fun _ => fun
  | [d1, d2] => { results := [.lit (.bool true)], args := [d1, d2] }
  | _ => none }
def fnAddUint32Row : OpenClaim := { program := "ytelpdndlmhcdoaa", sum := "2335fa59280afb5595f72796043851626bef4b83993254c6590bf65ff1b50acc", func := "given.example/pub-arrowroot/laws.FnAddUint32", spec := "fnAddUint32", apart := false }
def FnAddUint32Said : Prop := fnAddUint32Row.holds Try.pinned (OpenSpec.ofChange fnAddUint32Spec)

/-- ITS FALSE NEIGHBOUR: 'it returns false'. Refute it at one input. -/
def fnAddUint32Wrong : ChangeSpec := { name := "fnAddUint32", fn := fun _ => fun
  | [d1, d2] => { results := [.lit (.bool false)], args := [d1, d2] }
  | _ => none }
def FnAddUint32WrongFalsely : Prop := fnAddUint32Row.holds Try.pinned (OpenSpec.ofChange fnAddUint32Wrong)

/-- 'laws.FnAddUint8': WHATEVER THE INPUT: true; the input reads as it did. -/
def fnAddUint8Spec : ChangeSpec := { name := "fnAddUint8", fn := fun _ => fun
  | [d1, d2] => { results := [.lit (.bool true)], args := [d1, d2] }
  | _ => none }
def fnAddUint8Row : OpenClaim := { program := "ytelpdndlmhcdoaa", sum := "2335fa59280afb5595f72796043851626bef4b83993254c6590bf65ff1b50acc", func := "given.example/pub-arrowroot/laws.FnAddUint8", spec := "fnAddUint8", apart := false }
def FnAddUint8Said : Prop := fnAddUint8Row.holds Try.pinned (OpenSpec.ofChange fnAddUint8Spec)

/-- ITS FALSE NEIGHBOUR: 'it returns false'. Refute it at one input. -/
def fnAddUint8Wrong : ChangeSpec := { name := "fnAddUint8", fn := fun _ => fun
  | [d1, d2] => { results := [.lit (.bool false)], args := [d1, d2] }
  | _ => none }
def FnAddUint8WrongFalsely : Prop := fnAddUint8Row.holds Try.pinned (OpenSpec.ofChange fnAddUint8Wrong)

/-- 'laws.FnMulChecked': WHATEVER THE INPUT: true; the input reads as it did. -/
def fnMulCheckedSpec : ChangeSpec := { name := "fnMulChecked", fn := fun _ => fun
  | [d1, d2] => { results := [.lit (.bool true)], args := [d1, d2] }
  | _ => none }
def fnMulCheckedRow : OpenClaim := { program := "ytelpdndlmhcdoaa", sum := "2335fa59280afb5595f72796043851626bef4b83993254c6590bf65ff1b50acc", func := "given.example/pub-arrowroot/laws.FnMulChecked", spec := "fnMulChecked", apart := false }
def FnMulCheckedSaid : Prop := fnMulCheckedRow.holds Try.pinned (OpenSpec.ofChange fnMulCheckedSpec)

/-- ITS FALSE NEIGHBOUR: 'it returns false'. Refute it at one input. -/
def fnMulCheckedWrong : ChangeSpec := { name := "fnMulChecked", fn := fun _ => fun
  | [d1, d2] => { results := [.lit (.bool false)], args := [d1, d2] }
  | _ => none }
def FnMulCheckedWrongFalsely : Prop := fnMulCheckedRow.holds Try.pinned (OpenSpec.ofChange fnMulCheckedWrong)

/-- 'laws.FnMulInt32': WHATEVER THE INPUT: true; the input reads as it did. -/
def fnMulInt32Spec : ChangeSpec := { name := "fnMulInt32", fn := fun _ => fun
  | [d1, d2] => { results := [.lit (.bool true)], args := [d1, d2] }
  | _ => none }
def fnMulInt32Row : OpenClaim := { program := "ytelpdndlmhcdoaa", sum := "2335fa59280afb5595f72796043851626bef4b83993254c6590bf65ff1b50acc", func := "given.example/pub-arrowroot/laws.FnMulInt32", spec := "fnMulInt32", apart := false }
def FnMulInt32Said : Prop := fnMulInt32Row.holds Try.pinned (OpenSpec.ofChange fnMulInt32Spec)

/-- ITS FALSE NEIGHBOUR: 'it returns false'. Refute it at one input. -/
def fnMulInt32Wrong : ChangeSpec := { name := "fnMulInt32", fn := fun _ => fun
  | [d1, d2] => { results := [.lit (.bool false)], args := [d1, d2] }
  | _ => none }
def FnMulInt32WrongFalsely : Prop := fnMulInt32Row.holds Try.pinned (OpenSpec.ofChange fnMulInt32Wrong)

/-- 'laws.FnMulInt8': WHATEVER THE INPUT: true; the input reads as it did. -/
def fnMulInt8Spec : ChangeSpec := { name := "fnMulInt8", fn := fun _ => fun
  | [d1, d2] => { results := [.lit (.bool true)], args := [d1, d2] }
  | _ => none }
def fnMulInt8Row : OpenClaim := { program := "ytelpdndlmhcdoaa", sum := "2335fa59280afb5595f72796043851626bef4b83993254c6590bf65ff1b50acc", func := "given.example/pub-arrowroot/laws.FnMulInt8", spec := "fnMulInt8", apart := false }
def FnMulInt8Said : Prop := fnMulInt8Row.holds Try.pinned (OpenSpec.ofChange fnMulInt8Spec)

/-- ITS FALSE NEIGHBOUR: 'it returns false'. Refute it at one input. -/
def fnMulInt8Wrong : ChangeSpec := { name := "fnMulInt8", fn := fun _ => fun
  | [d1, d2] => { results := [.lit (.bool false)], args := [d1, d2] }
  | _ => none }
def FnMulInt8WrongFalsely : Prop := fnMulInt8Row.holds Try.pinned (OpenSpec.ofChange fnMulInt8Wrong)

/-- 'laws.FnRoundInt64To': WHATEVER THE INPUT: true; the input reads as it did. -/
def fnRoundInt64ToSpec : ChangeSpec := { name := "fnRoundInt64To", fn := fun _ => fun
  | [d1, d2, d3, d4] => { results := [.lit (.bool true)], args := [d1, d2, d3, d4] }
  | _ => none }
def fnRoundInt64ToRow : OpenClaim := { program := "ytelpdndlmhcdoaa", sum := "2335fa59280afb5595f72796043851626bef4b83993254c6590bf65ff1b50acc", func := "given.example/pub-arrowroot/laws.FnRoundInt64To", spec := "fnRoundInt64To", apart := false }
def FnRoundInt64ToSaid : Prop := fnRoundInt64ToRow.holds Try.pinned (OpenSpec.ofChange fnRoundInt64ToSpec)

/-- ITS FALSE NEIGHBOUR: 'it returns false'. Refute it at one input. -/
def fnRoundInt64ToWrong : ChangeSpec := { name := "fnRoundInt64To", fn := fun _ => fun
  | [d1, d2, d3, d4] => { results := [.lit (.bool false)], args := [d1, d2, d3, d4] }
  | _ => none }
def FnRoundInt64ToWrongFalsely : Prop := fnRoundInt64ToRow.holds Try.pinned (OpenSpec.ofChange fnRoundInt64ToWrong)

/- THE SECOND FORM. 'bulk': how many values and letters a reading holds, each counted each time it is reached (what is shared counts as often as it is met; a slice's spare places count too). A statement '..UptoSaid' is the law's where the arguments, and the package variables that the reading takes, are together of bulk at most 1048576: NARROWER than '..Said'. Prove '..Said' where nothing that the law and all that it calls make is longer than what came in: it says more and counts as full. Else prove '..UptoSaid'. A law counts once. -/
mutual
def uptoBulk {H : Type} : DataW H → Nat
  | .lit (.string bytes) => bytes.length + 1
  | .lit _ => 1
  | .nil => 1
  | .ptr d => uptoBulk d + 1
  | .slice elems spare => uptoBulkAll elems + uptoBulkAll spare + 1
  | .agg parts => uptoBulkAll parts + 1
  | .iface _ d => uptoBulk d + 1
  | .map entries => uptoBulkEntries entries + 1
  | .held _ => 1
def uptoBulkAll {H : Type} : List (DataW H) → Nat
  | [] => 0
  | d :: r => uptoBulk d + uptoBulkAll r
def uptoBulkEntries {H : Type} : List (Lit × DataW H) → Nat
  | [] => 0
  | x :: r => uptoBulkEntry x + uptoBulkEntries r
def uptoBulkEntry {H : Type} : Lit × DataW H → Nat
  | (.string bytes, d) => bytes.length + uptoBulk d + 1
  | (_, d) => uptoBulk d + 1
 end
def uptoSmall : (H : Type) → List (DataW H) → Bool := fun _ ds => decide (uptoBulkAll ds ≤ 1048576)
def OpenSpec.upto (s : _root_.Go.ChangeSpec) : _root_.Go.OpenSpec := { _root_.Go.OpenSpec.ofChange s with cond := some uptoSmall }

/-- 'laws.FnAddUint32', WHERE WHAT IT READS IS OF BULK AT MOST 1048576: true; the input reads as it did. -/
def fnAddUint32UptoRow : OpenClaim := { program := "ytelpdndlmhcdoaa", sum := "2335fa59280afb5595f72796043851626bef4b83993254c6590bf65ff1b50acc", func := "given.example/pub-arrowroot/laws.FnAddUint32", spec := "fnAddUint32", apart := false, narrowed := true }
def FnAddUint32UptoSaid : Prop := fnAddUint32UptoRow.holds Try.pinned (OpenSpec.upto fnAddUint32Spec)

/-- 'laws.FnAddUint8', WHERE WHAT IT READS IS OF BULK AT MOST 1048576: true; the input reads as it did. -/
def fnAddUint8UptoRow : OpenClaim := { program := "ytelpdndlmhcdoaa", sum := "2335fa59280afb5595f72796043851626bef4b83993254c6590bf65ff1b50acc", func := "given.example/pub-arrowroot/laws.FnAddUint8", spec := "fnAddUint8", apart := false, narrowed := true }
def FnAddUint8UptoSaid : Prop := fnAddUint8UptoRow.holds Try.pinned (OpenSpec.upto fnAddUint8Spec)

/-- 'laws.FnMulChecked', WHERE WHAT IT READS IS OF BULK AT MOST 1048576: true; the input reads as it did. -/
def fnMulCheckedUptoRow : OpenClaim := { program := "ytelpdndlmhcdoaa", sum := "2335fa59280afb5595f72796043851626bef4b83993254c6590bf65ff1b50acc", func := "given.example/pub-arrowroot/laws.FnMulChecked", spec := "fnMulChecked", apart := false, narrowed := true }
def FnMulCheckedUptoSaid : Prop := fnMulCheckedUptoRow.holds Try.pinned (OpenSpec.upto fnMulCheckedSpec)

/-- 'laws.FnMulInt32', WHERE WHAT IT READS IS OF BULK AT MOST 1048576: true; the input reads as it did. -/
def fnMulInt32UptoRow : OpenClaim := { program := "ytelpdndlmhcdoaa", sum := "2335fa59280afb5595f72796043851626bef4b83993254c6590bf65ff1b50acc", func := "given.example/pub-arrowroot/laws.FnMulInt32", spec := "fnMulInt32", apart := false, narrowed := true }
def FnMulInt32UptoSaid : Prop := fnMulInt32UptoRow.holds Try.pinned (OpenSpec.upto fnMulInt32Spec)

/-- 'laws.FnMulInt8', WHERE WHAT IT READS IS OF BULK AT MOST 1048576: true; the input reads as it did. -/
def fnMulInt8UptoRow : OpenClaim := { program := "ytelpdndlmhcdoaa", sum := "2335fa59280afb5595f72796043851626bef4b83993254c6590bf65ff1b50acc", func := "given.example/pub-arrowroot/laws.FnMulInt8", spec := "fnMulInt8", apart := false, narrowed := true }
def FnMulInt8UptoSaid : Prop := fnMulInt8UptoRow.holds Try.pinned (OpenSpec.upto fnMulInt8Spec)

/-- 'laws.FnRoundInt64To', WHERE WHAT IT READS IS OF BULK AT MOST 1048576: true; the input reads as it did. -/
def fnRoundInt64ToUptoRow : OpenClaim := { program := "ytelpdndlmhcdoaa", sum := "2335fa59280afb5595f72796043851626bef4b83993254c6590bf65ff1b50acc", func := "given.example/pub-arrowroot/laws.FnRoundInt64To", spec := "fnRoundInt64To", apart := false, narrowed := true }
def FnRoundInt64ToUptoSaid : Prop := fnRoundInt64ToUptoRow.holds Try.pinned (OpenSpec.upto fnRoundInt64ToSpec)

end Rows
end Go.Proofs.Ytelpdndlmhcdoaa
