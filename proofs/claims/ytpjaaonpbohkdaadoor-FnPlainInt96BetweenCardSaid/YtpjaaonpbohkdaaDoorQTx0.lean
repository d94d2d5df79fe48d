/- Printed by a program of this session (print2.py) over the kit's print: the functions that a law reaches, over contracts proved by hand. Lean checks it. -/
import Derived.Test.YtpjaaonpbohkdaaDoorProg
import Derived.Below
import Derived.Deep.Draws
import Derived.Deep.AppendLies
import Derived.Maps.AppendAt
import Derived.OwnWalk
import Derived.Laws.BytesArg
import Derived.Laws.MakeOwn
import Derived.Laws.OwnMore
import Derived.Deep.OwnRows
import Derived.Tactics
import Derived.Lib.ConvBytes
import Derived.Laws.Slices
import Derived.WalkKit
import Derived.KernelRfl
import Derived.RowKit3
import Derived.Deep.LoopGhost
import Derived.Deep.QuietTactic
import Derived.BigQuiet
import Derived.WideLaws
import Derived.Deep.DeepCutAuto
import Derived.Deep.CutBlock
import Derived.Deep.RegionHeld3
import Derived.Laws.Rows
import Derived.Lib.AppendStr
import Derived.ArgAppend
import Derived.Laws.IdiomCopy
import Derived.OrdersHeld
import Derived.Laws.BitsLemmas
import Derived.RowKit
import Derived.Test.YtpjaaonpbohkdaaDoorWWords
import Derived.Test.YtpjaaonpbohkdaaDoorWLast
import Derived.Test.YtpjaaonpbohkdaaDoorWTab
import Derived.Test.YtpjaaonpbohkdaaDoorWFour
import Derived.Test.YtpjaaonpbohkdaaDoorWQPut
import Derived.Test.YtpjaaonpbohkdaaDoorWApart
import Derived.Test.YtpjaaonpbohkdaaDoorWArr
import Derived.Test.YtpjaaonpbohkdaaDoorWZeros
import Derived.Test.YtpjaaonpbohkdaaDoorWFoot
import Derived.Test.YtpjaaonpbohkdaaDoorWKept
import Derived.Test.YtpjaaonpbohkdaaDoorWShare
import Derived.Test.YtpjaaonpbohkdaaDoorWN
import Derived.Test.YtpjaaonpbohkdaaDoorWFootNe
import Derived.Test.YtpjaaonpbohkdaaDoorWAt
import Derived.Test.YtpjaaonpbohkdaaDoorWEqStruct
import Derived.Test.YtpjaaonpbohkdaaDoorWRepsOne
import Derived.Test.YtpjaaonpbohkdaaDoorWInv
import Derived.Test.YtpjaaonpbohkdaaDoorWInvWords
import Derived.Test.YtpjaaonpbohkdaaDoorWGuard
import Derived.Test.YtpjaaonpbohkdaaDoorWNEv
import Derived.Test.YtpjaaonpbohkdaaDoorWMore
namespace Go.Proofs.YtpjaaonpbohkdaaDoor.QT
open Go.RowKit Go.Proofs.YtpjaaonpbohkdaaDoorW.PrintWords Go.Proofs.YtpjaaonpbohkdaaDoorW.PrintLast Go.Proofs.YtpjaaonpbohkdaaDoorW.PrintMore
attribute [local go_sem] max2_int min2_int max_two min_two max_three min_three max_four min_four   -- for this text's walks alone
set_option linter.unusedVariables false
set_option linter.unusedSimpArgs false



def errW : Option Int → Value
 | none => .nilIface
 | some c => .iface 0 (.int .i64 c)
theorem errW_none : errW none = .nilIface := rfl
theorem errW_some (c : Int) : errW (some c) = .iface 0 (.int .i64 c) := rfl

theorem info4 : (Tryd.prog.info? 4).map (fun i => (i.zero, i.size, i.bytes)) = some (some (.bool false), 1, 1) := by kernel_rfl
theorem info5 : (Tryd.prog.info? 5).map (fun i => (i.zero, i.size, i.bytes)) = some (some (.int .u8 0), 1, 1) := by kernel_rfl
-- the values' own types
/-! #### struct type 33, nested in itself -/
structure S33 where
 f0 : Bool
 f1 : Int
 f2 : ByteArray
 f3 : (List S33)
def z33 : S33 := ⟨false, (0 : Int), (⟨#[]⟩ : ByteArray), ([] : List S33)⟩
def F33 (d : Kd S33) : Kd S33 := Kd.iso (Kd.pair Kd.bool (Kd.pair (Kd.int .u64) (Kd.pair Kd.string (Kd.slice 33 d)))) (fun x : S33 => (x.f0, x.f1, x.f2, x.f3))
theorem mono33 : Kd.Mono F33 := Kd.mono_iso _ (Kd.mono_pair (Kd.mono_const _) (Kd.mono_pair (Kd.mono_const _) (Kd.mono_pair (Kd.mono_const _) (Kd.mono_slice 33 Kd.mono_id))))
theorem sub33 : Kd.Sub F33 [33] := Kd.sub_iso _ (Kd.sub_pair (Kd.sub_const _ (by decide)) (Kd.sub_pair (Kd.sub_const _ (by decide)) (Kd.sub_pair (Kd.sub_const _ (by decide)) (Kd.sub_slice 33 (by decide) Kd.sub_id))))
theorem sz33 : ∀ n, (Kd.upto F33 4 [33] n).sz = 4 := Kd.upto_sz (fun _ => rfl)
def k33 : Kd S33 := Kd.fix F33 4 [33] sz33 (Kd.upto_E sub33)
theorem k33_open {w : World} {x : S33} {cs : List Value} (h : k33.K w x cs) : ∃ A3 c3, cs = [.bool x.f0, .int .u64 x.f1, .string x.f2, .slice A3 x.f3.length c3] ∧ x.f3.length ≤ c3 ∧ k33.C w A3 x.f3.length x.f3 := by
 obtain ⟨n, h⟩ := h
 cases n with
 | zero => exact h.elim
 | succ n =>
  obtain ⟨_, _, rfl, rfl, ⟨_, _, rfl, rfl, ⟨_, _, rfl, rfl, ⟨A3, c3, rfl, l3, g3⟩⟩⟩⟩ := h
  exact ⟨A3, c3, rfl, l3, Kd.fix_C g3⟩
theorem k33_openM {w : World} {base : Nat} {ok : Nat → Prop} {x : S33} {cs : List Value} (h : k33.M w base ok x cs) : ∃ v3, cs = [.bool x.f0, .int .u64 x.f1, .string x.f2, v3] ∧ k33.R 33 w base ok v3 x.f3 := by
 obtain ⟨n, h⟩ := h
 cases n with
 | zero => exact h.elim
 | succ n =>
  obtain ⟨_, _, rfl, rfl, ⟨_, _, rfl, rfl, ⟨_, _, rfl, rfl, ⟨v3, rfl, g3⟩⟩⟩⟩ := h
  exact ⟨v3, rfl, Kd.fix_R g3⟩
theorem k33_mk (w : World) (x : S33) {A3 : Option Addr} {c3 : Nat} (l3 : x.f3.length ≤ c3) (g3 : k33.C w A3 x.f3.length x.f3) : k33.K w x [.bool x.f0, .int .u64 x.f1, .string x.f2, .slice A3 x.f3.length c3] := by
 obtain ⟨n3, q3⟩ := Kd.fix_C_back mono33 g3
 have r3 := Kd.upto_C_le mono33 sz33 (show n3 ≤ n3 by omega) q3
 exact ⟨n3 + 1, ⟨[.bool x.f0], [.int .u64 x.f1, .string x.f2, .slice A3 x.f3.length c3], rfl, rfl, ⟨[.int .u64 x.f1], [.string x.f2, .slice A3 x.f3.length c3], rfl, rfl, ⟨[.string x.f2], [.slice A3 x.f3.length c3], rfl, rfl, ⟨A3, c3, rfl, l3, r3⟩⟩⟩⟩⟩
theorem k33_mkM (w : World) (base : Nat) (ok : Nat → Prop) (x : S33) {v3 : Value} (g3 : k33.R 33 w base ok v3 x.f3) : k33.M w base ok x [.bool x.f0, .int .u64 x.f1, .string x.f2, v3] := by
 obtain ⟨n3, q3⟩ := Kd.fix_R_back mono33 g3
 have r3 := Kd.upto_R_le mono33 sz33 (show n3 ≤ n3 by omega) q3
 exact ⟨n3 + 1, ⟨[.bool x.f0], [.int .u64 x.f1, .string x.f2, v3], rfl, rfl, ⟨[.int .u64 x.f1], [.string x.f2, v3], rfl, rfl, ⟨[.string x.f2], [v3], rfl, rfl, ⟨v3, rfl, r3⟩⟩⟩⟩⟩
theorem k33_openF {W : World} {ok : Nat → Prop} {x : S33} {cs : List Value} (h : Kd.FK k33 W ok x cs) : ∃ A3 c3, cs = [.bool x.f0, .int .u64 x.f1, .string x.f2, .slice A3 x.f3.length c3] ∧ x.f3.length ≤ c3 ∧ Kd.F k33 W ok A3 x.f3.length x.f3 := by
 obtain ⟨A3, c3, rfl, l3, _⟩ := k33_open (Kd.FK_now h)
 exact ⟨A3, c3, rfl, l3, (fun W' hW => by obtain ⟨A3_, c3_, he, l3_, g3_⟩ := k33_open (h W' hW); injection (Option.some.inj (show some (Value.slice A3 x.f3.length c3) = some (Value.slice A3_ x.f3.length c3_) from congrArg (fun l => l[3]?) he)) with ha_ _ _; rw [ha_]; exact g3_)⟩
theorem k33_mkF (W : World) (ok : Nat → Prop) (x : S33) {A3 : Option Addr} {c3 : Nat} (l3 : x.f3.length ≤ c3) (g3 : Kd.F k33 W ok A3 x.f3.length x.f3) : Kd.FK k33 W ok x [.bool x.f0, .int .u64 x.f1, .string x.f2, .slice A3 x.f3.length c3] := fun W2 hW => k33_mk W2 x l3 (g3 W2 hW)
def rd_T33 (xs : List S33) (i : Int) : S33 := xs.getD i.toNat z33
theorem at_T33 {w : World} {A : Option Addr} {n : Nat} {xs : List S33} (h : Kd.C k33 w A n xs) (i : Int) (h0 : 0 ≤ i) (h1 : i < n) : ∃ ad A3 c3, A = some ad ∧ w.cell? (ad.add (i.toNat * 4)) = some (.bool (rd_T33 xs i).f0) ∧ w.cell? ⟨(ad.add (i.toNat * 4)).block, (ad.add (i.toNat * 4)).off + 1, none⟩ = some (.int .u64 (rd_T33 xs i).f1) ∧ w.cell? ⟨(ad.add (i.toNat * 4)).block, (ad.add (i.toNat * 4)).off + 2, none⟩ = some (.string (rd_T33 xs i).f2) ∧ w.cell? ⟨(ad.add (i.toNat * 4)).block, (ad.add (i.toNat * 4)).off + 3, none⟩ = some (.slice A3 (rd_T33 xs i).f3.length c3) ∧ (rd_T33 xs i).f3.length ≤ c3 ∧ k33.C w A3 (rd_T33 xs i).f3.length (rd_T33 xs i).f3 := by
 obtain ⟨ad, c, e, _, hK, hc0⟩ := Kd.C_get h z33 i h0 h1
 have hc : ∀ j u, c[j]? = some u → w.cell? (ad.add (i.toNat * 4 + j)) = some u := hc0
 obtain ⟨A3, c3, rfl, l3, g3⟩ := k33_open hK
 exact ⟨ad, A3, c3, e, hc 0 _ rfl, by rw [← add_field _ _ 1 (by omega)]; exact hc 1 _ rfl, by rw [← add_field _ _ 2 (by omega)]; exact hc 2 _ rfl, by rw [← add_field _ _ 3 (by omega)]; exact hc 3 _ rfl, l3, g3⟩

abbrev qbN := @blk_drewN
abbrev qbD := @blk_drew
abbrev qbA := @blk_alloc
abbrev qvA := @Kd.V_alloc
abbrev qvN := @Kd.V_drewN
abbrev qvD := @Kd.V_drew
abbrev qrA := @Kd.R_alloc
abbrev qrN := @Kd.R_drewN
abbrev qrD := @Kd.R_drew
abbrev qsA := @List.setIfInBounds_toArray
abbrev qsZ := @List.set_cons_zero
abbrev qsS := @List.set_cons_succ
abbrev qwN := @pw_below_drewN
abbrev qwD := @below_drew1
abbrev qwA := @below_alloc
abbrev qwS := @below_set
abbrev qaM := @Aside0.mk
abbrev qvM := @Kd.V_mono
abbrev qvB := @Kd.V_below
abbrev qvE := @Kd.V_elderB
abbrev qbB := @blk_below
abbrev qbC := @blk_cell
abbrev qoD := @of_decide_eq_true
abbrev qbS := @below_size
abbrev qbT := @below_step
abbrev qnG := @Nat.ne_of_gt
abbrev qnL := @Nat.ne_of_lt
abbrev qvL := @Kd.V_lower
abbrev qvF := @Kd.V_far
abbrev qfB := @Kd.freshB
abbrev qrV := @Kd.R_V
abbrev qvR := @Kd.V_reads'
abbrev qbP := @blk_put
abbrev qbF := @blk_far
abbrev qbL := @blk_lt
abbrev qrT := @Kd.R_types
abbrev qrM := @Kd.R_mono
abbrev qrF := @Kd.R_far
abbrev qrB := @Kd.R_below
abbrev qrR := @Kd.R_reads'
end Go.Proofs.YtpjaaonpbohkdaaDoor.QT
