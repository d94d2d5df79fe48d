/- Printed by a program of this session (print2.py) over the kit's print: the functions that a law reaches, over contracts proved by hand. Lean checks it. -/
import Derived.Test.YtlnbkmkdapeicaaGreatDoorProg
import Derived.Below
import Derived.Deep.Draws
import Derived.Deep.AppendLies
import Derived.Maps.AppendAt
import Derived.OwnWalk
import Derived.Laws.BytesArg
import Derived.Laws.MakeOwn
import Derived.Laws.OwnMore
import Derived.Deep.OwnRows
import Derived.Tactics
import Derived.Lib.ConvBytes
import Derived.Laws.Slices
import Derived.WalkKit
import Derived.KernelRfl
import Derived.RowKit3
import Derived.Deep.LoopGhost
import Derived.Deep.QuietTactic
import Derived.BigQuiet
import Derived.WideLaws
import Derived.Deep.DeepCutAuto
import Derived.Deep.CutBlock
import Derived.Deep.RegionHeld3
import Derived.Laws.Rows
import Derived.Lib.AppendStr
import Derived.ArgAppend
import Derived.Laws.IdiomCopy
import Derived.OrdersHeld
import Derived.Laws.BitsLemmas
import Derived.RowKit
import Derived.Test.YtlnbkmkdapeicaaGreatDoorWWords
import Derived.Test.YtlnbkmkdapeicaaGreatDoorWLast
import Derived.Test.YtlnbkmkdapeicaaGreatDoorWTab
import Derived.Test.YtlnbkmkdapeicaaGreatDoorWFour
import Derived.Test.YtlnbkmkdapeicaaGreatDoorWQPut
import Derived.Test.YtlnbkmkdapeicaaGreatDoorWApart
import Derived.Test.YtlnbkmkdapeicaaGreatDoorWArr
import Derived.Test.YtlnbkmkdapeicaaGreatDoorWZeros
import Derived.Test.YtlnbkmkdapeicaaGreatDoorWFoot
import Derived.Test.YtlnbkmkdapeicaaGreatDoorWKept
import Derived.Test.YtlnbkmkdapeicaaGreatDoorWShare
import Derived.Test.YtlnbkmkdapeicaaGreatDoorWN
import Derived.Test.YtlnbkmkdapeicaaGreatDoorWFootNe
import Derived.Test.YtlnbkmkdapeicaaGreatDoorWAt
import Derived.Test.YtlnbkmkdapeicaaGreatDoorWEqStruct
import Derived.Test.YtlnbkmkdapeicaaGreatDoorWRepsOne
import Derived.Test.YtlnbkmkdapeicaaGreatDoorWInv
import Derived.Test.YtlnbkmkdapeicaaGreatDoorWInvWords
import Derived.Test.YtlnbkmkdapeicaaGreatDoorWGuard
import Derived.Test.YtlnbkmkdapeicaaGreatDoorWNEv
import Derived.Test.YtlnbkmkdapeicaaGreatDoorWMore
namespace Go.Proofs.YtlnbkmkdapeicaaGreatDoor.QT
open Go.RowKit Go.Proofs.YtlnbkmkdapeicaaGreatDoorW.PrintWords Go.Proofs.YtlnbkmkdapeicaaGreatDoorW.PrintLast Go.Proofs.YtlnbkmkdapeicaaGreatDoorW.PrintMore
attribute [local go_sem] max2_int min2_int max_two min_two max_three min_three max_four min_four   -- for this text's walks alone
set_option linter.unusedVariables false
set_option linter.unusedSimpArgs false



def errW : Option Int → Value
 | none => .nilIface
 | some c => .iface 0 (.int .i64 c)
theorem errW_none : errW none = .nilIface := rfl
theorem errW_some (c : Int) : errW (some c) = .iface 0 (.int .i64 c) := rfl

theorem info5 : (Tryz.prog.info? 5).map (fun i => (i.zero, i.size, i.bytes)) = some (some (.int .u8 0), 1, 1) := by kernel_rfl
theorem info49 : (Tryz.prog.info? 49).map (fun i => (i.zero, i.size, i.bytes)) = some (some (.int .i8 0), 1, 1) := by kernel_rfl
-- the values' own types

abbrev qbN := @blk_drewN
abbrev qbD := @blk_drew
abbrev qbA := @blk_alloc
abbrev qvA := @Kd.V_alloc
abbrev qvN := @Kd.V_drewN
abbrev qvD := @Kd.V_drew
abbrev qrA := @Kd.R_alloc
abbrev qrN := @Kd.R_drewN
abbrev qrD := @Kd.R_drew
abbrev qsA := @List.setIfInBounds_toArray
abbrev qsZ := @List.set_cons_zero
abbrev qsS := @List.set_cons_succ
abbrev qwN := @pw_below_drewN
abbrev qwD := @below_drew1
abbrev qwA := @below_alloc
abbrev qwS := @below_set
abbrev qaM := @Aside0.mk
abbrev qvM := @Kd.V_mono
abbrev qvB := @Kd.V_below
abbrev qvE := @Kd.V_elderB
abbrev qbB := @blk_below
abbrev qbC := @blk_cell
abbrev qoD := @of_decide_eq_true
abbrev qbS := @below_size
abbrev qbT := @below_step
abbrev qnG := @Nat.ne_of_gt
abbrev qnL := @Nat.ne_of_lt
abbrev qvL := @Kd.V_lower
abbrev qvF := @Kd.V_far
abbrev qfB := @Kd.freshB
abbrev qrV := @Kd.R_V
abbrev qvR := @Kd.V_reads'
abbrev qbP := @blk_put
abbrev qbF := @blk_far
abbrev qbL := @blk_lt
abbrev qrT := @Kd.R_types
abbrev qrM := @Kd.R_mono
abbrev qrF := @Kd.R_far
abbrev qrB := @Kd.R_below
abbrev qrR := @Kd.R_reads'
end Go.Proofs.YtlnbkmkdapeicaaGreatDoor.QT
