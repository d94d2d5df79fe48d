/- Printed by a program of this session (print2.py) over the kit's print: the functions that a law reaches, over contracts proved by hand. Lean checks it. -/
import Derived.Test.YtfdnmaadgglaoaaProg
import Derived.Below
import Derived.Deep.Draws
import Derived.Deep.AppendLies
import Derived.Maps.AppendAt
import Derived.OwnWalk
import Derived.Laws.BytesArg
import Derived.Laws.MakeOwn
import Derived.Laws.OwnMore
import Derived.Deep.OwnRows
import Derived.Tactics
import Derived.Lib.ConvBytes
import Derived.Laws.Slices
import Derived.WalkKit
import Derived.KernelRfl
import Derived.RowKit3
import Derived.Deep.LoopGhost
import Derived.Deep.QuietTactic
import Derived.BigQuiet
import Derived.WideLaws
import Derived.Deep.DeepCutAuto
import Derived.Deep.CutBlock
import Derived.Deep.RegionHeld3
import Derived.Laws.Rows
import Derived.Lib.AppendStr
import Derived.ArgAppend
import Derived.Laws.IdiomCopy
import Derived.OrdersHeld
import Derived.Laws.BitsLemmas
import Derived.RowKit
import Derived.Test.YtfdnmaadgglaoaaPFnTransposeInt64Uint64x0
import Derived.Test.YtfdnmaadgglaoaaPFnTransposeInt64Uint64x1
import Derived.Test.YtfdnmaadgglaoaaSFnTransposeInt64Uint64
import Derived.Test.YtfdnmaadgglaoaaWWords
import Derived.Test.YtfdnmaadgglaoaaWLast
import Derived.Test.YtfdnmaadgglaoaaWTab
import Derived.Test.YtfdnmaadgglaoaaWFour
import Derived.Test.YtfdnmaadgglaoaaWQPut
import Derived.Test.YtfdnmaadgglaoaaWApart
import Derived.Test.YtfdnmaadgglaoaaWArr
import Derived.Test.YtfdnmaadgglaoaaWZeros
import Derived.Test.YtfdnmaadgglaoaaWFoot
import Derived.Test.YtfdnmaadgglaoaaWKept
import Derived.Test.YtfdnmaadgglaoaaWShare
import Derived.Test.YtfdnmaadgglaoaaWN
import Derived.Test.YtfdnmaadgglaoaaWFootNe
import Derived.Test.YtfdnmaadgglaoaaWAt
import Derived.Test.YtfdnmaadgglaoaaWEqStruct
import Derived.Test.YtfdnmaadgglaoaaWRepsOne
import Derived.Test.YtfdnmaadgglaoaaWInv
import Derived.Test.YtfdnmaadgglaoaaWInvWords
import Derived.Test.YtfdnmaadgglaoaaWGuard
import Derived.Test.YtfdnmaadgglaoaaWNEv
import Derived.Test.YtfdnmaadgglaoaaWMore
namespace Go.Proofs.Ytfdnmaadgglaoaa.PFnTransposeInt64Uint64
open Go.RowKit Go.Proofs.YtfdnmaadgglaoaaW.PrintWords Go.Proofs.YtfdnmaadgglaoaaW.PrintLast Go.Proofs.YtfdnmaadgglaoaaW.PrintMore
attribute [local go_sem] max2_int min2_int max_two min_two max_three min_three max_four min_four   -- for this text's walks alone
set_option linter.unusedVariables false
set_option linter.unusedSimpArgs false



theorem info2 : (Try.prog.info? 2).map (fun i => (i.zero, i.size, i.bytes)) = some (some (.int .i64 0), 1, 8) := by kernel_rfl
theorem info21 : (Try.prog.info? 21).map (fun i => (i.zero, i.size, i.bytes)) = some (some (.int .i32 0), 1, 4) := by kernel_rfl
theorem info27 : (Try.prog.info? 27).map (fun i => (i.zero, i.size, i.bytes)) = some (some (.int .u64 0), 1, 8) := by kernel_rfl
-- the values' own types

end Go.Proofs.Ytfdnmaadgglaoaa.PFnTransposeInt64Uint64
