-- PRINTED BY print.sh 35421559b90ae4d0a3588c463048766b98c2df88dd9212a6774a882060cdf62d: not written by this session
import Derived.Test.YtoceclgljmdkeaaDoorProg
import Derived.Below
import Derived.Deep.Draws
import Derived.Deep.AppendLies
import Derived.Maps.AppendAt
import Derived.OwnWalk
import Derived.Laws.BytesArg
import Derived.Laws.MakeOwn
import Derived.Laws.OwnMore
import Derived.Deep.OwnRows
import Derived.Tactics
import Derived.Lib.ConvBytes
import Derived.Laws.Slices
import Derived.WalkKit
import Derived.KernelRfl
import Derived.RowKit3
import Derived.Deep.LoopGhost
import Derived.Deep.QuietTactic
import Derived.BigQuiet
import Derived.WideLaws
import Derived.Deep.DeepCutAuto
import Derived.Deep.CutBlock
import Derived.Deep.RegionHeld3
import Derived.Laws.Rows
import Derived.Lib.AppendStr
import Derived.ArgAppend
import Derived.Laws.IdiomCopy
import Derived.OrdersHeld
import Derived.Laws.BitsLemmas
import Derived.RowKit
import Derived.Test.YtoceclgljmdkeaaDoorWWords
import Derived.Test.YtoceclgljmdkeaaDoorWLast
import Derived.Test.YtoceclgljmdkeaaDoorWTab
import Derived.Test.YtoceclgljmdkeaaDoorWFour
import Derived.Test.YtoceclgljmdkeaaDoorWQPut
import Derived.Test.YtoceclgljmdkeaaDoorWApart
import Derived.Test.YtoceclgljmdkeaaDoorWArr
import Derived.Test.YtoceclgljmdkeaaDoorWZeros
import Derived.Test.YtoceclgljmdkeaaDoorWFoot
import Derived.Test.YtoceclgljmdkeaaDoorWKept
import Derived.Test.YtoceclgljmdkeaaDoorWShare
import Derived.Test.YtoceclgljmdkeaaDoorWN
import Derived.Test.YtoceclgljmdkeaaDoorWFootNe
import Derived.Test.YtoceclgljmdkeaaDoorWAt
import Derived.Test.YtoceclgljmdkeaaDoorWEqStruct
import Derived.Test.YtoceclgljmdkeaaDoorWRepsOne
import Derived.Test.YtoceclgljmdkeaaDoorWInv
import Derived.Test.YtoceclgljmdkeaaDoorWInvWords
import Derived.Test.YtoceclgljmdkeaaDoorWGuard
import Derived.Test.YtoceclgljmdkeaaDoorWNEv
import Derived.Test.YtoceclgljmdkeaaDoorWMore
namespace Go.Proofs.YtoceclgljmdkeaaDoor.PFnJoinBits
open Go.RowKit Go.Proofs.YtoceclgljmdkeaaDoorW.PrintWords Go.Proofs.YtoceclgljmdkeaaDoorW.PrintLast Go.Proofs.YtoceclgljmdkeaaDoorW.PrintMore
attribute [local go_sem] max2_int min2_int max_two min_two max_three min_three max_four min_four   -- for this text's walks alone
set_option linter.unusedVariables false
set_option linter.unusedSimpArgs false



def errW : Option Int → Value
  | none => .nilIface
  | some c => .iface 0 (.int .i64 c)
theorem errW_none : errW none = .nilIface := rfl
theorem errW_some (c : Int) : errW (some c) = .iface 0 (.int .i64 c) := rfl

theorem info4 : (Tryd.prog.info? 4).map (fun i => (i.zero, i.size, i.bytes)) = some (some (.bool false), 1, 1) := by kernel_rfl
theorem info5 : (Tryd.prog.info? 5).map (fun i => (i.zero, i.size, i.bytes)) = some (some (.int .u8 0), 1, 1) := by kernel_rfl
-- the values' own types
def rd_L2 (xs : List (List Int)) (i : Int) : (List Int) := xs.getD i.toNat ([] : List Int)
theorem at_L2 {w : World} {A : Option Addr} {n : Nat} {xs : List (List Int)} (h : Kd.C (Kd.slice 5 (Kd.int .u8)) w A n xs) (i : Int) (h0 : 0 ≤ i) (h1 : i < n) : ∃ ad A0 c0, A = some ad ∧ w.cell? (ad.add i.toNat) = some (.slice A0 (rd_L2 xs i).length c0) ∧ (rd_L2 xs i).length ≤ c0 ∧ (Kd.int .u8).C w A0 (rd_L2 xs i).length (rd_L2 xs i) := by
  obtain ⟨ad, c, e, _, hK, hc0⟩ := Kd.C_get h ([] : List Int) i h0 h1
  have hc : ∀ j u, c[j]? = some u → w.cell? (ad.add (i.toNat * 1 + j)) = some u := hc0
  obtain ⟨A0, c0, rfl, l0, g0⟩ := hK
  exact ⟨ad, A0, c0, e, by have hq := hc 0 _ rfl; rwa [Nat.mul_one, Nat.add_zero] at hq, l0, g0⟩

/-! #### struct type 28 -/
structure S28 where
  f0 : Bool
  f1 : (List Int)
  f2 : Int
  f3 : Int
def z28 : S28 := ⟨false, ([] : List Int), (0 : Int), (0 : Int)⟩
def k28 : Kd S28 := Kd.iso (Kd.pair Kd.bool (Kd.pair (Kd.slice 5 (Kd.int .u8)) (Kd.pair (Kd.int .i64) (Kd.int .i64)))) (fun x : S28 => (x.f0, x.f1, x.f2, x.f3))
theorem k28_open {w : World} {x : S28} {cs : List Value} (h : k28.K w x cs) : ∃ A1 c1, cs = [.bool x.f0, .slice A1 x.f1.length c1, .int .i64 x.f2, .int .i64 x.f3] ∧ x.f1.length ≤ c1 ∧ (Kd.int .u8).C w A1 x.f1.length x.f1 := by
  obtain ⟨_, _, rfl, rfl, ⟨_, _, rfl, ⟨A1, c1, rfl, l1, g1⟩, ⟨_, _, rfl, rfl, rfl⟩⟩⟩ := h
  exact ⟨A1, c1, rfl, l1, g1⟩
theorem k28_openM {w : World} {base : Nat} {ok : Nat → Prop} {x : S28} {cs : List Value} (h : k28.M w base ok x cs) : ∃ v1, cs = [.bool x.f0, v1, .int .i64 x.f2, .int .i64 x.f3] ∧ (Kd.int .u8).R 5 w base ok v1 x.f1 := by
  obtain ⟨_, _, rfl, rfl, ⟨_, _, rfl, ⟨v1, rfl, g1⟩, ⟨_, _, rfl, rfl, rfl⟩⟩⟩ := h
  exact ⟨v1, rfl, g1⟩
theorem k28_mk (w : World) (x : S28) {A1 : Option Addr} {c1 : Nat} (l1 : x.f1.length ≤ c1) (g1 : (Kd.int .u8).C w A1 x.f1.length x.f1) : k28.K w x [.bool x.f0, .slice A1 x.f1.length c1, .int .i64 x.f2, .int .i64 x.f3] := ⟨[.bool x.f0], [.slice A1 x.f1.length c1, .int .i64 x.f2, .int .i64 x.f3], rfl, rfl, ⟨[.slice A1 x.f1.length c1], [.int .i64 x.f2, .int .i64 x.f3], rfl, ⟨A1, c1, rfl, l1, g1⟩, ⟨[.int .i64 x.f2], [.int .i64 x.f3], rfl, rfl, rfl⟩⟩⟩
theorem k28_mkM (w : World) (base : Nat) (ok : Nat → Prop) (x : S28) {v1 : Value} (g1 : (Kd.int .u8).R 5 w base ok v1 x.f1) : k28.M w base ok x [.bool x.f0, v1, .int .i64 x.f2, .int .i64 x.f3] := ⟨[.bool x.f0], [v1, .int .i64 x.f2, .int .i64 x.f3], rfl, rfl, ⟨[v1], [.int .i64 x.f2, .int .i64 x.f3], rfl, ⟨v1, rfl, g1⟩, ⟨[.int .i64 x.f2], [.int .i64 x.f3], rfl, rfl, rfl⟩⟩⟩
def rd_T28 (xs : List S28) (i : Int) : S28 := xs.getD i.toNat z28
theorem at_T28 {w : World} {A : Option Addr} {n : Nat} {xs : List S28} (h : Kd.C k28 w A n xs) (i : Int) (h0 : 0 ≤ i) (h1 : i < n) : ∃ ad A1 c1, A = some ad ∧ w.cell? (ad.add (i.toNat * 4)) = some (.bool (rd_T28 xs i).f0) ∧ w.cell? ⟨(ad.add (i.toNat * 4)).block, (ad.add (i.toNat * 4)).off + 1, none⟩ = some (.slice A1 (rd_T28 xs i).f1.length c1) ∧ w.cell? ⟨(ad.add (i.toNat * 4)).block, (ad.add (i.toNat * 4)).off + 2, none⟩ = some (.int .i64 (rd_T28 xs i).f2) ∧ w.cell? ⟨(ad.add (i.toNat * 4)).block, (ad.add (i.toNat * 4)).off + 3, none⟩ = some (.int .i64 (rd_T28 xs i).f3) ∧ (rd_T28 xs i).f1.length ≤ c1 ∧ (Kd.int .u8).C w A1 (rd_T28 xs i).f1.length (rd_T28 xs i).f1 := by
  obtain ⟨ad, c, e, _, hK, hc0⟩ := Kd.C_get h z28 i h0 h1
  have hc : ∀ j u, c[j]? = some u → w.cell? (ad.add (i.toNat * 4 + j)) = some u := hc0
  obtain ⟨A1, c1, rfl, l1, g1⟩ := k28_open hK
  exact ⟨ad, A1, c1, e, hc 0 _ rfl, by rw [← add_field _ _ 1 (by omega)]; exact hc 1 _ rfl, by rw [← add_field _ _ 2 (by omega)]; exact hc 2 _ rfl, by rw [← add_field _ _ 3 (by omega)]; exact hc 3 _ rfl, l1, g1⟩

end Go.Proofs.YtoceclgljmdkeaaDoor.PFnJoinBits
