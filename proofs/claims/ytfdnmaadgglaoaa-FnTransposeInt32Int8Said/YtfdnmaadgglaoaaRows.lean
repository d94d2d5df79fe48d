/-
  No cell of these rows narrows 'for every input' (looked for: loops, veiled, ifaces, maps, wideKeys, modest, calm, conditions, laid).
  DERIVED. THE GIVEN ROWS OF THIS SEAT. 5 by the template 'for every input the law returns true; each argument reads behind the call as it read before'; 0 by the template 'total and deterministic' (their statements: YtfdnmaadgglaoaaTotals.lean).
  GIVEN WITH THE SEED: the statements are not yours to turn. If you find one false, say at which input.
  Laid BY PROGRAM, IN A SANDBOX (cutbox-rows.mjs): the forced cells as the released guide's own fill.sh prints them over the translation da3dbdc9f2062bb0… (all of the seat's roots in one cut). By AI agents, Wed Nov 11 2026. No macro, syntax, notation, axiom, sorry.
-/
import Derived.Test.YtfdnmaadgglaoaaChecked
import GoSem.Claim
import GoSem.ClaimJoined
import GoSem.ClaimMapViews
import Derived.JoinedTies
import Derived.KernelRfl
namespace Go.Proofs.Ytfdnmaadgglaoaa
/- THE CELL 'sum', in the pinned program and in every row, IS THE sha256 OF THE DUMP (.gsa) THAT YtfdnmaadgglaoaaProg.lean LOADS. Nothing in Lean hashes anything: it is a label: what it is worth is what the hold of that sum in a sandbox is worth. -/
noncomputable def Try.pinned : Pinned := { name := "ytfdnmaadgglaoaa", sum := "da3dbdc9f2062bb01e7318f1a5b8f74fb0adf59dfa7f840bb680bf52fb847494", checked := Try.checked }
namespace Rows
def none {H : Type} : Left H := { results := [], args := [] }

/-- 'laws.FnTransposeInt32Int8': WHATEVER THE INPUT: true; the input reads as it did. -/
def fnTransposeInt32Int8Spec : ChangeSpec := { name := "fnTransposeInt32Int8", fn := fun _ => fun
  | [d1, d2] => { results := [.lit (.bool true)], args := [d1, d2] }
  | _ => none }
def fnTransposeInt32Int8Row : OpenClaim := { program := "ytfdnmaadgglaoaa", sum := "da3dbdc9f2062bb01e7318f1a5b8f74fb0adf59dfa7f840bb680bf52fb847494", func := "given.example/pub-arrowroot/laws.FnTransposeInt32Int8", spec := "fnTransposeInt32Int8", apart := false }
def FnTransposeInt32Int8Said : Prop := fnTransposeInt32Int8Row.holds Try.pinned (OpenSpec.ofChange fnTransposeInt32Int8Spec)

/-- ITS FALSE NEIGHBOUR: 'it returns false'. Refute it at one input. -/
def fnTransposeInt32Int8Wrong : ChangeSpec := { name := "fnTransposeInt32Int8", fn := fun _ => fun
  | [d1, d2] => { results := [.lit (.bool false)], args := [d1, d2] }
  | _ => none }
def FnTransposeInt32Int8WrongFalsely : Prop := fnTransposeInt32Int8Row.holds Try.pinned (OpenSpec.ofChange fnTransposeInt32Int8Wrong)

/-- 'laws.FnTransposeInt64Uint64': WHATEVER THE INPUT: true; the input reads as it did. -/
def fnTransposeInt64Uint64Spec : ChangeSpec := { name := "fnTransposeInt64Uint64", fn := fun _ => fun
  | [d1, d2] => { results := [.lit (.bool true)], args := [d1, d2] }
  | _ => none }
def fnTransposeInt64Uint64Row : OpenClaim := { program := "ytfdnmaadgglaoaa", sum := "da3dbdc9f2062bb01e7318f1a5b8f74fb0adf59dfa7f840bb680bf52fb847494", func := "given.example/pub-arrowroot/laws.FnTransposeInt64Uint64", spec := "fnTransposeInt64Uint64", apart := false }
def FnTransposeInt64Uint64Said : Prop := fnTransposeInt64Uint64Row.holds Try.pinned (OpenSpec.ofChange fnTransposeInt64Uint64Spec)

/-- ITS FALSE NEIGHBOUR: 'it returns false'. Refute it at one input. -/
def fnTransposeInt64Uint64Wrong : ChangeSpec := { name := "fnTransposeInt64Uint64", fn := fun _ => fun
  | [d1, d2] => { results := [.lit (.bool false)], args := [d1, d2] }
  | _ => none }
def FnTransposeInt64Uint64WrongFalsely : Prop := fnTransposeInt64Uint64Row.holds Try.pinned (OpenSpec.ofChange fnTransposeInt64Uint64Wrong)

/-- 'laws.FnTransposeInt8Int8': WHATEVER THE INPUT: true; the input reads as it did. -/
def fnTransposeInt8Int8Spec : ChangeSpec := { name := "fnTransposeInt8Int8", fn := fun _ => fun
  | [d1, d2] => { results := [.lit (.bool true)], args := [d1, d2] }
  | _ => none }
def fnTransposeInt8Int8Row : OpenClaim := { program := "ytfdnmaadgglaoaa", sum := "da3dbdc9f2062bb01e7318f1a5b8f74fb0adf59dfa7f840bb680bf52fb847494", func := "given.example/pub-arrowroot/laws.FnTransposeInt8Int8", spec := "fnTransposeInt8Int8", apart := false }
def FnTransposeInt8Int8Said : Prop := fnTransposeInt8Int8Row.holds Try.pinned (OpenSpec.ofChange fnTransposeInt8Int8Spec)

/-- ITS FALSE NEIGHBOUR: 'it returns false'. Refute it at one input. -/
def fnTransposeInt8Int8Wrong : ChangeSpec := { name := "fnTransposeInt8Int8", fn := fun _ => fun
  | [d1, d2] => { results := [.lit (.bool false)], args := [d1, d2] }
  | _ => none }
def FnTransposeInt8Int8WrongFalsely : Prop := fnTransposeInt8Int8Row.holds Try.pinned (OpenSpec.ofChange fnTransposeInt8Int8Wrong)

/-- 'laws.FnExtremesInt32': WHATEVER THE INPUT: true; the input reads as it did. -/
def fnExtremesInt32Spec : ChangeSpec := { name := "fnExtremesInt32", fn := fun _ => fun
  | [d] => { results := [.lit (.bool true)], args := [d] }
  | _ => none }
def fnExtremesInt32Row : OpenClaim := { program := "ytfdnmaadgglaoaa", sum := "da3dbdc9f2062bb01e7318f1a5b8f74fb0adf59dfa7f840bb680bf52fb847494", func := "given.example/pub-arrowroot/laws.FnExtremesInt32", spec := "fnExtremesInt32", apart := false }
def FnExtremesInt32Said : Prop := fnExtremesInt32Row.holds Try.pinned (OpenSpec.ofChange fnExtremesInt32Spec)

/-- ITS FALSE NEIGHBOUR: 'it returns false'. Refute it at one input. -/
def fnExtremesInt32Wrong : ChangeSpec := { name := "fnExtremesInt32", fn := fun _ => fun
  | [d] => { results := [.lit (.bool false)], args := [d] }
  | _ => none }
def FnExtremesInt32WrongFalsely : Prop := fnExtremesInt32Row.holds Try.pinned (OpenSpec.ofChange fnExtremesInt32Wrong)

/-- 'laws.FnExtremesInt8': WHATEVER THE INPUT: true; the input reads as it did. -/
def fnExtremesInt8Spec : ChangeSpec := { name := "fnExtremesInt8", fn := fun _ => fun
  | [d] => { results := [.lit (.bool true)], args := [d] }
  | _ => none }
def fnExtremesInt8Row : OpenClaim := { program := "ytfdnmaadgglaoaa", sum := "da3dbdc9f2062bb01e7318f1a5b8f74fb0adf59dfa7f840bb680bf52fb847494", func := "given.example/pub-arrowroot/laws.FnExtremesInt8", spec := "fnExtremesInt8", apart := false }
def FnExtremesInt8Said : Prop := fnExtremesInt8Row.holds Try.pinned (OpenSpec.ofChange fnExtremesInt8Spec)

/-- ITS FALSE NEIGHBOUR: 'it returns false'. Refute it at one input. -/
def fnExtremesInt8Wrong : ChangeSpec := { name := "fnExtremesInt8", fn := fun _ => fun
  | [d] => { results := [.lit (.bool false)], args := [d] }
  | _ => none }
def FnExtremesInt8WrongFalsely : Prop := fnExtremesInt8Row.holds Try.pinned (OpenSpec.ofChange fnExtremesInt8Wrong)

/- THE SECOND FORM. 'bulk': how many values and letters a reading holds, each counted each time it is reached (what is shared counts as often as it is met; a slice's spare places count too). A statement '..UptoSaid' is the law's where the arguments, and the package variables that the reading takes, are together of bulk at most 1048576: NARROWER than '..Said'. Prove '..Said' where nothing that the law and all that it calls make is longer than what came in: it says more and counts as full. Else prove '..UptoSaid'. A law counts once. -/
mutual
def uptoBulk {H : Type} : DataW H → Nat
  | .lit (.string bytes) => bytes.length + 1
  | .lit _ => 1
  | .nil => 1
  | .ptr d => uptoBulk d + 1
  | .slice elems spare => uptoBulkAll elems + uptoBulkAll spare + 1
  | .agg parts => uptoBulkAll parts + 1
  | .iface _ d => uptoBulk d + 1
  | .map entries => uptoBulkEntries entries + 1
  | .held _ => 1
def uptoBulkAll {H : Type} : List (DataW H) → Nat
  | [] => 0
  | d :: r => uptoBulk d + uptoBulkAll r
def uptoBulkEntries {H : Type} : List (Lit × DataW H) → Nat
  | [] => 0
  | x :: r => uptoBulkEntry x + uptoBulkEntries r
def uptoBulkEntry {H : Type} : Lit × DataW H → Nat
  | (.string bytes, d) => bytes.length + uptoBulk d + 1
  | (_, d) => uptoBulk d + 1
 end
def uptoSmall : (H : Type) → List (DataW H) → Bool := fun _ ds => decide (uptoBulkAll ds ≤ 1048576)
def OpenSpec.upto (s : _root_.Go.ChangeSpec) : _root_.Go.OpenSpec := { _root_.Go.OpenSpec.ofChange s with cond := some uptoSmall }

/-- 'laws.FnTransposeInt32Int8', WHERE WHAT IT READS IS OF BULK AT MOST 1048576: true; the input reads as it did. -/
def fnTransposeInt32Int8UptoRow : OpenClaim := { program := "ytfdnmaadgglaoaa", sum := "da3dbdc9f2062bb01e7318f1a5b8f74fb0adf59dfa7f840bb680bf52fb847494", func := "given.example/pub-arrowroot/laws.FnTransposeInt32Int8", spec := "fnTransposeInt32Int8", apart := false, narrowed := true }
def FnTransposeInt32Int8UptoSaid : Prop := fnTransposeInt32Int8UptoRow.holds Try.pinned (OpenSpec.upto fnTransposeInt32Int8Spec)

/-- 'laws.FnTransposeInt64Uint64', WHERE WHAT IT READS IS OF BULK AT MOST 1048576: true; the input reads as it did. -/
def fnTransposeInt64Uint64UptoRow : OpenClaim := { program := "ytfdnmaadgglaoaa", sum := "da3dbdc9f2062bb01e7318f1a5b8f74fb0adf59dfa7f840bb680bf52fb847494", func := "given.example/pub-arrowroot/laws.FnTransposeInt64Uint64", spec := "fnTransposeInt64Uint64", apart := false, narrowed := true }
def FnTransposeInt64Uint64UptoSaid : Prop := fnTransposeInt64Uint64UptoRow.holds Try.pinned (OpenSpec.upto fnTransposeInt64Uint64Spec)

/-- 'laws.FnTransposeInt8Int8', WHERE WHAT IT READS IS OF BULK AT MOST 1048576: true; the input reads as it did. -/
def fnTransposeInt8Int8UptoRow : OpenClaim := { program := "ytfdnmaadgglaoaa", sum := "da3dbdc9f2062bb01e7318f1a5b8f74fb0adf59dfa7f840bb680bf52fb847494", func := "given.example/pub-arrowroot/laws.FnTransposeInt8Int8", spec := "fnTransposeInt8Int8", apart := false, narrowed := true }
def FnTransposeInt8Int8UptoSaid : Prop := fnTransposeInt8Int8UptoRow.holds Try.pinned (OpenSpec.upto fnTransposeInt8Int8Spec)

/-- 'laws.FnExtremesInt32', WHERE WHAT IT READS IS OF BULK AT MOST 1048576: true; the input reads as it did. -/
def fnExtremesInt32UptoRow : OpenClaim := { program := "ytfdnmaadgglaoaa", sum := "da3dbdc9f2062bb01e7318f1a5b8f74fb0adf59dfa7f840bb680bf52fb847494", func := "given.example/pub-arrowroot/laws.FnExtremesInt32", spec := "fnExtremesInt32", apart := false, narrowed := true }
def FnExtremesInt32UptoSaid : Prop := fnExtremesInt32UptoRow.holds Try.pinned (OpenSpec.upto fnExtremesInt32Spec)

/-- 'laws.FnExtremesInt8', WHERE WHAT IT READS IS OF BULK AT MOST 1048576: true; the input reads as it did. -/
def fnExtremesInt8UptoRow : OpenClaim := { program := "ytfdnmaadgglaoaa", sum := "da3dbdc9f2062bb01e7318f1a5b8f74fb0adf59dfa7f840bb680bf52fb847494", func := "given.example/pub-arrowroot/laws.FnExtremesInt8", spec := "fnExtremesInt8", apart := false, narrowed := true }
def FnExtremesInt8UptoSaid : Prop := fnExtremesInt8UptoRow.holds Try.pinned (OpenSpec.upto fnExtremesInt8Spec)

end Rows
end Go.Proofs.Ytfdnmaadgglaoaa
