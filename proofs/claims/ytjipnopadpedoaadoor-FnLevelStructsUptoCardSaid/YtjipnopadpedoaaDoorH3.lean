/- The writer of bits from a place on. -/
import Derived.Test.YtjipnopadpedoaaDoorH2
namespace Go.Proofs.YtjipnopadpedoaaDoor.QR
open Go.RowKit Go.Proofs.YtjipnopadpedoaaDoorW.PrintWords Go.Proofs.YtjipnopadpedoaaDoorW.PrintLast Go.Proofs.YtjipnopadpedoaaDoorW.PrintMore
set_option linter.unusedVariables false
set_option linter.unusedSimpArgs false
/-- The masks of single bits and of those ahead of one stand in package-level variables. -/
def Gm (w : World) : Prop := 2 ≤ w.heap.size ∧ (∀ k, k < 8 → w.cell? ⟨0, k, none⟩ = some (.int .u8 ((2 ^ k : Nat) : Int))) ∧ (∀ k, k < 8 → w.cell? ⟨1, k, none⟩ = some (.int .u8 ((2 ^ k - 1 : Nat) : Int)))
theorem Gm.keep {w w' : World} (h : Gm w) (hs : w.heap.size ≤ w'.heap.size) (hk : ∀ g, g < 2 → w'.heap[g]? = w.heap[g]?) : Gm w' := by
  have key : ∀ g k, g < 2 → w'.cell? ⟨g, k, none⟩ = w.cell? ⟨g, k, none⟩ := fun g k hg => by
    unfold World.cell?
    rw [show (⟨g, k, none⟩ : Addr).block = g from rfl, hk g hg]
  exact ⟨Nat.le_trans h.1 hs, fun k hk => (key 0 k (by omega)).trans (h.2.1 k hk), fun k hk => (key 1 k (by omega)).trans (h.2.2 k hk)⟩
theorem Gm.below {w w' : World} (h : Gm w) {B : Nat} (hB : Below B w w') (h0 : 2 ≤ B) : Gm w' := h.keep hB.size (fun g hg => hB.block g (by omega))
theorem Gm.drew {w : World} (h : Gm w) : Gm w.drew := h
def wrC (gb n c pos len cur mask bo : Nat) : Array Value := #[.slice (some ⟨gb, 0, none⟩) n c, .int .i64 (pos : Int), .int .i64 (len : Int), .int .u8 (cur : Int), .int .u8 (mask : Int), .int .i64 (bo : Int), .int .u8 0, .int .u8 0, .int .u8 0, .int .u8 0, .int .u8 0, .int .u8 0, .int .u8 0, .int .u8 0]
theorem wr_cells {V : World} {gb n c pos len cur mask bo g : Nat} (h : V.heap[g]? = some (.cells (wrC gb n c pos len cur mask bo) 80 (0, 0))) : V.cell? ⟨g, 0, none⟩ = some (.slice (some ⟨gb, 0, none⟩) n c) ∧ V.cell? ⟨g, 1, none⟩ = some (.int .i64 (pos : Int)) ∧ V.cell? ⟨g, 2, none⟩ = some (.int .i64 (len : Int)) ∧ V.cell? ⟨g, 3, none⟩ = some (.int .u8 (cur : Int)) ∧ V.cell? ⟨g, 4, none⟩ = some (.int .u8 (mask : Int)) ∧ V.cell? ⟨g, 5, none⟩ = some (.int .i64 (bo : Int)) ∧ (∀ k, V.frozen? ⟨g, k, none⟩ = false) :=
  ⟨blk_cell h 0, blk_cell h 1, blk_cell h 2, blk_cell h 3, blk_cell h 4, blk_cell h 5, fun k => blk_frozen h k⟩
theorem pow8 {m : Nat} (hm : m < 8) : 2 ^ m < 256 := by have : 2 ^ m ≤ 2 ^ 7 := Nat.pow_le_pow_right (by omega) (by omega); omega
theorem pos_is (gb n c pos len cur m bo g : Nat) (w : World) (hg : w.heap[g]? = some (.cells (wrC gb n c pos len cur m bo) 80 (0, 0))) : Calls Tryd.prog 48 #[.pointer (some ⟨g, 0, none⟩)] w fun e w' => e = .returned (.int .i64 (pos : Int)) ∧ w' = w := by
  obtain ⟨c0, c1, c2, c3, c4, c5, zz⟩ := wr_cells hg
  clear hg zz
  go_enter Tryd.func48, Tryd.ntmps48
  go_wp2
  go_ret
  exact ⟨rfl, rfl⟩
theorem clear_is (v : Value) (w : World) : Calls Tryd.prog 45 #[v] w fun e w' => e = .returned (.tuple #[]) ∧ w' = w := by
  go_enter Tryd.func45, Tryd.ntmps45
  go_wp2
  go_end0
  exact ⟨rfl, rfl⟩
set_option maxHeartbeats 8000000 in
set_option maxRecDepth 100000 in
theorem set_is (gb n c pos len x m bo g : Nat) (w : World) (hg : w.heap[g]? = some (.cells (wrC gb n c pos len x (2 ^ m) bo) 80 (0, 0))) (hx : x < 256) (hm : m < 8) :
    Calls Tryd.prog 50 #[.pointer (some ⟨g, 0, none⟩)] w fun e w' => e = .returned (.tuple #[]) ∧ w'.heap[g]? = some (.cells (wrC gb n c pos len (x ||| 2 ^ m) (2 ^ m) bo) 80 (0, 0)) ∧ Fr w w' g g := by
  have hp := pow8 hm
  have eo : bits .or .u8 (x : Int) ((2 ^ m : Nat) : Int) = ((x ||| 2 ^ m : Nat) : Int) := u8_or_nat x _ hx hp
  have Qg := Aside0.mk hg
  obtain ⟨c0, c1, c2, c3, c4, c5, zz⟩ := wr_cells (V := w.drew) hg
  have z3 := zz 3
  generalize x ||| 2 ^ m = y at eo ⊢
  generalize 2 ^ m = mk at *
  clear hg zz hx hm hp
  go_enter Tryd.func50, Tryd.ntmps50
  refine wp_region_still_tail 11 (by kernel_rfl) (by kernel_rfl) ?_; simp only [List.take_succ_cons, List.take_zero, List.drop_succ_cons, List.drop_zero]; change wpStill _ _ (World.drew _) _ _ _; (repeat still_step); refine wpStill_nil ?_; change wpList _ _ _ _ _ (World.drew _); go_wp2
  go_end0
  exact ⟨rfl, blk_set Qg.out 3 (.int .u8 (y : Int)), ((Fr.refl w g g).set g 3 _ (.inl rfl)).drew⟩
set_option maxHeartbeats 8000000 in
set_option maxRecDepth 100000 in
theorem next0_is (gb n c pos len x m bo g : Nat) (w : World) (hg : w.heap[g]? = some (.cells (wrC gb n c pos len x (2 ^ m) bo) 80 (0, 0))) (hm : m < 7) (hpos : pos < 1000000) :
    Calls Tryd.prog 47 #[.pointer (some ⟨g, 0, none⟩)] w fun e w' => e = .returned (.tuple #[]) ∧ w'.heap[g]? = some (.cells (wrC gb n c (pos + 1) len x (2 ^ (m + 1)) bo) 80 (0, 0)) ∧ Fr w w' g g := by
  have hp := pow8 (m := m + 1) (by omega)
  have hp1 : 2 ^ (m + 1) = 2 * 2 ^ m := by rw [Nat.pow_succ, Nat.mul_comm]
  have hpp := Nat.two_pow_pos m
  have w1 : IntKind.i64.wrap ((pos : Int) + 1) = ((pos + 1 : Nat) : Int) := by rw [IntWalk.i64_in _ (by omega)]; rfl
  have eo : ((2 ^ m : Nat) : Int) * 2 % 256 = ((2 ^ (m + 1) : Nat) : Int) := by omega
  have Qg := Aside0.mk hg
  obtain ⟨c0, c1, c2, c3, c4, c5, zz⟩ := wr_cells hg
  generalize 2 ^ (m + 1) = y at *
  generalize 2 ^ m = mk at *
  have y0 : ((y : Int) == 0) = false := by simp; omega
  have y0' : ¬ (y : Int) = 0 := by omega
  have y0n : ¬ y = 0 := by omega
  have y0i : ¬ (mk : Int) * 2 % 256 = 0 := by omega
  clear hg hm hp hpp hp1
  go_enter Tryd.func47, Tryd.ntmps47
  go_wp2
  go_end0
  exact ⟨rfl, blk_set (blk_set Qg.out 4 (.int .u8 (y : Int))) 1 (.int .i64 ((pos + 1 : Nat) : Int)), ((Fr.refl w g g).set g 4 _ (.inl rfl)).set g 1 _ (.inl rfl)⟩
end Go.Proofs.YtjipnopadpedoaaDoor.QR
