/- Printed by a program of this session (print2.py) over the kit's print: the functions that a law reaches, over contracts proved by hand. Lean checks it. -/
import Derived.Test.YtlnbkmkdapeicaaDoorProg
import Derived.Below
import Derived.Deep.Draws
import Derived.Deep.AppendLies
import Derived.Maps.AppendAt
import Derived.OwnWalk
import Derived.Laws.BytesArg
import Derived.Laws.MakeOwn
import Derived.Laws.OwnMore
import Derived.Deep.OwnRows
import Derived.Tactics
import Derived.Lib.ConvBytes
import Derived.Laws.Slices
import Derived.WalkKit
import Derived.KernelRfl
import Derived.RowKit3
import Derived.Deep.LoopGhost
import Derived.Deep.QuietTactic
import Derived.BigQuiet
import Derived.WideLaws
import Derived.Deep.DeepCutAuto
import Derived.Deep.CutBlock
import Derived.Deep.RegionHeld3
import Derived.Laws.Rows
import Derived.Lib.AppendStr
import Derived.ArgAppend
import Derived.Laws.IdiomCopy
import Derived.OrdersHeld
import Derived.Laws.BitsLemmas
import Derived.RowKit
import Derived.Test.YtlnbkmkdapeicaaDoorWWords
import Derived.Test.YtlnbkmkdapeicaaDoorWLast
import Derived.Test.YtlnbkmkdapeicaaDoorWTab
import Derived.Test.YtlnbkmkdapeicaaDoorWFour
import Derived.Test.YtlnbkmkdapeicaaDoorWQPut
import Derived.Test.YtlnbkmkdapeicaaDoorWApart
import Derived.Test.YtlnbkmkdapeicaaDoorWArr
import Derived.Test.YtlnbkmkdapeicaaDoorWZeros
import Derived.Test.YtlnbkmkdapeicaaDoorWFoot
import Derived.Test.YtlnbkmkdapeicaaDoorWKept
import Derived.Test.YtlnbkmkdapeicaaDoorWShare
import Derived.Test.YtlnbkmkdapeicaaDoorWN
import Derived.Test.YtlnbkmkdapeicaaDoorWFootNe
import Derived.Test.YtlnbkmkdapeicaaDoorWAt
import Derived.Test.YtlnbkmkdapeicaaDoorWEqStruct
import Derived.Test.YtlnbkmkdapeicaaDoorWRepsOne
import Derived.Test.YtlnbkmkdapeicaaDoorWInv
import Derived.Test.YtlnbkmkdapeicaaDoorWInvWords
import Derived.Test.YtlnbkmkdapeicaaDoorWGuard
import Derived.Test.YtlnbkmkdapeicaaDoorWNEv
import Derived.Test.YtlnbkmkdapeicaaDoorWMore
namespace Go.Proofs.YtlnbkmkdapeicaaDoor.QT
open Go.RowKit Go.Proofs.YtlnbkmkdapeicaaDoorW.PrintWords Go.Proofs.YtlnbkmkdapeicaaDoorW.PrintLast Go.Proofs.YtlnbkmkdapeicaaDoorW.PrintMore
attribute [local go_sem] max2_int min2_int max_two min_two max_three min_three max_four min_four   -- for this text's walks alone
set_option linter.unusedVariables false
set_option linter.unusedSimpArgs false



def errW : Option Int → Value
 | none => .nilIface
 | some c => .iface 0 (.int .i64 c)
theorem errW_none : errW none = .nilIface := rfl
theorem errW_some (c : Int) : errW (some c) = .iface 0 (.int .i64 c) := rfl

theorem info5 : (Tryd.prog.info? 5).map (fun i => (i.zero, i.size, i.bytes)) = some (some (.int .u8 0), 1, 1) := by kernel_rfl
theorem info54 : (Tryd.prog.info? 54).map (fun i => (i.zero, i.size, i.bytes)) = some (some (.int .i8 0), 1, 1) := by kernel_rfl
theorem info57 : (Tryd.prog.info? 57).map (fun i => (i.zero, i.size, i.bytes)) = some (some (.int .u32 0), 1, 4) := by kernel_rfl
-- the values' own types
def rd_L5 (xs : List (List Int)) (i : Int) : (List Int) := xs.getD i.toNat ([] : List Int)
theorem at_L5 {w : World} {A : Option Addr} {n : Nat} {xs : List (List Int)} (h : Kd.C (Kd.slice 27 (Kd.int .u64)) w A n xs) (i : Int) (h0 : 0 ≤ i) (h1 : i < n) : ∃ ad A0 c0, A = some ad ∧ w.cell? (ad.add i.toNat) = some (.slice A0 (rd_L5 xs i).length c0) ∧ (rd_L5 xs i).length ≤ c0 ∧ (Kd.int .u64).C w A0 (rd_L5 xs i).length (rd_L5 xs i) := by
 obtain ⟨ad, c, e, _, hK, hc0⟩ := Kd.C_get h ([] : List Int) i h0 h1
 have hc : ∀ j u, c[j]? = some u → w.cell? (ad.add (i.toNat * 1 + j)) = some u := hc0
 obtain ⟨A0, c0, rfl, l0, g0⟩ := hK
 exact ⟨ad, A0, c0, e, by have hq := hc 0 _ rfl; rwa [Nat.mul_one, Nat.add_zero] at hq, l0, g0⟩

abbrev qbN := @blk_drewN
abbrev qbD := @blk_drew
abbrev qbA := @blk_alloc
abbrev qvA := @Kd.V_alloc
abbrev qvN := @Kd.V_drewN
abbrev qvD := @Kd.V_drew
abbrev qrA := @Kd.R_alloc
abbrev qrN := @Kd.R_drewN
abbrev qrD := @Kd.R_drew
abbrev qsA := @List.setIfInBounds_toArray
abbrev qsZ := @List.set_cons_zero
abbrev qsS := @List.set_cons_succ
abbrev qwN := @pw_below_drewN
abbrev qwD := @below_drew1
abbrev qwA := @below_alloc
abbrev qwS := @below_set
abbrev qaM := @Aside0.mk
abbrev qvM := @Kd.V_mono
abbrev qvB := @Kd.V_below
abbrev qvE := @Kd.V_elderB
abbrev qbB := @blk_below
abbrev qbC := @blk_cell
abbrev qoD := @of_decide_eq_true
abbrev qbS := @below_size
abbrev qbT := @below_step
abbrev qnG := @Nat.ne_of_gt
abbrev qnL := @Nat.ne_of_lt
abbrev qvL := @Kd.V_lower
abbrev qvF := @Kd.V_far
abbrev qfB := @Kd.freshB
abbrev qrV := @Kd.R_V
abbrev qvR := @Kd.V_reads'
abbrev qbP := @blk_put
abbrev qbF := @blk_far
abbrev qbL := @blk_lt
abbrev qrT := @Kd.R_types
abbrev qrM := @Kd.R_mono
abbrev qrF := @Kd.R_far
abbrev qrB := @Kd.R_below
abbrev qrR := @Kd.R_reads'
end Go.Proofs.YtlnbkmkdapeicaaDoor.QT
