/- What a reader over bytes does with four bytes: binary.LittleEndian.Uint32, (*bytes.Reader).Read. -/
import Derived.Test.YtblmpfhjghcddaaDoorWMore
import Derived.Test.YtblmpfhjghcddaaDoorProg
import Derived.Lib.Walk
import Derived.Lib.Endian
import Derived.Lib.EndianBits
import Derived.RegionTactic
import Derived.Deep.Draws
import Derived.WalkKit
import Derived.Shelf.RegionOpenPlain
import Derived.Stop.LaidErr
import Derived.Laws.IdiomCopy
import Derived.Deep.QuietTactic
import Derived.BigQuiet
import Derived.WideLaws
import Derived.KernelRfl
namespace Go.Proofs.YtblmpfhjghcddaaDoor.QU
open Go.RowKit Go.Proofs.YtblmpfhjghcddaaDoorW.PrintWords Go.Proofs.YtblmpfhjghcddaaDoorW.PrintLast Go.Proofs.YtblmpfhjghcddaaDoorW.PrintMore
set_option linter.unusedVariables false
set_option linter.unusedSimpArgs false
def le4 (b0 b1 b2 b3 : Int) : Int := b0 + b1 * 256 + b2 * 65536 + b3 * 16777216
set_option maxHeartbeats 8000000 in
set_option maxRecDepth 100000 in
theorem u32_is (g n c : Nat) (b0 b1 b2 b3 : Int) (w : World) (hn : 4 ≤ n) (h0 : 0 ≤ b0 ∧ b0 < 256) (h1 : 0 ≤ b1 ∧ b1 < 256) (h2 : 0 ≤ b2 ∧ b2 < 256) (h3 : 0 ≤ b3 ∧ b3 < 256)
    (c0 : w.cell? ⟨g, 0, none⟩ = some (.int .u8 b0)) (c1 : w.cell? ⟨g, 1, none⟩ = some (.int .u8 b1)) (c2 : w.cell? ⟨g, 2, none⟩ = some (.int .u8 b2)) (c3 : w.cell? ⟨g, 3, none⟩ = some (.int .u8 b3)) :
    Calls Tryd.prog 42 #[.agg #[], .slice (some ⟨g, 0, none⟩) n c] w fun e w' => e = .returned (.int .u32 (le4 b0 b1 b2 b3)) ∧ Below w.heap.size w w' := by
  have d0 := cell?_alloc_old (.cells #[] 53) c0
  have e0 : (w.alloc (.cells #[] 53)).drew.cell? ⟨g, 0, none⟩ = some (.int .u8 b0) := d0
  have d1 := cell?_alloc_old (.cells #[] 53) c1
  have e1 : (w.alloc (.cells #[] 53)).drew.cell? ⟨g, 1, none⟩ = some (.int .u8 b1) := d1
  have d2 := cell?_alloc_old (.cells #[] 53) c2
  have e2 : (w.alloc (.cells #[] 53)).drew.cell? ⟨g, 2, none⟩ = some (.int .u8 b2) := d2
  have d3 := cell?_alloc_old (.cells #[] 53) c3
  have e3 : (w.alloc (.cells #[] 53)).drew.cell? ⟨g, 3, none⟩ = some (.int .u8 b3) := d3
  have mixed : Tryd.prog.follows .mixedOrders = true := by kernel_rfl
  go_enter Tryd.func42, Tryd.ntmps42
  go_wp2
  go_region_o
  go_wp2
  go_ret
  refine ⟨?_, Below.drew ((Below.refl _ w).alloc (Nat.le_refl _) _)⟩
  simp (disch := omega) only [u32_or8, u32_or16, u32_or24]
  rfl
set_option maxHeartbeats 8000000 in
set_option maxRecDepth 100000 in
theorem read_is (g b n c : Nat) (A : Addr) (i : Int) (q x0 x1 x2 x3 : Value) (d0 d1 d2 d3 : Int) (w : World) (hi : 0 ≤ i) (hin : i + 4 ≤ n) (hnc : n ≤ c) (hbig : n ≤ 9223372036854775807) (hgb : g ≠ b) (hAg : A.block ≠ g) (hAb : A.block ≠ b)
    (g0 : w.cell? ⟨g, 0, none⟩ = some (.slice (some A) n c)) (g1 : w.cell? ⟨g, 1, none⟩ = some (.int .i64 i)) (g2 : w.cell? ⟨g, 2, none⟩ = some q) (gz1 : w.frozen? ⟨g, 1, none⟩ = false) (gz2 : w.frozen? ⟨g, 2, none⟩ = false)
    (b0 : w.cell? ⟨b, 0, none⟩ = some x0) (b1 : w.cell? ⟨b, 1, none⟩ = some x1) (b2 : w.cell? ⟨b, 2, none⟩ = some x2) (b3 : w.cell? ⟨b, 3, none⟩ = some x3)
    (bz0 : w.frozen? ⟨b, 0, none⟩ = false) (bz1 : w.frozen? ⟨b, 1, none⟩ = false) (bz2 : w.frozen? ⟨b, 2, none⟩ = false) (bz3 : w.frozen? ⟨b, 3, none⟩ = false)
    (k0 : w.cell? (A.add i.toNat) = some (.int .u8 d0)) (k1 : w.cell? (A.add (i.toNat + 1)) = some (.int .u8 d1)) (k2 : w.cell? (A.add (i.toNat + 2)) = some (.int .u8 d2)) (k3 : w.cell? (A.add (i.toNat + 3)) = some (.int .u8 d3)) :
    Calls Tryd.prog 60 #[.pointer (some ⟨g, 0, none⟩), .slice (some ⟨b, 0, none⟩) 4 4] w fun e w' => e = .returned (.tuple #[.int .i64 4, .nilIface]) ∧ w' = ((((((w.setCell ⟨g, 2, none⟩ (.int .i64 (-1))).setCell ⟨b, 0, none⟩ (.int .u8 d0)).setCell ⟨b, 1, none⟩ (.int .u8 d1)).setCell ⟨b, 2, none⟩ (.int .u8 d2)).setCell ⟨b, 3, none⟩ (.int .u8 d3)).setCell ⟨g, 1, none⟩ (.int .i64 (i + 4))).drewN 2 := by
  have mixed : Tryd.prog.follows .mixedOrders = true := by kernel_rfl
  have c1 : decide ((n : Int) ≤ i) = false := decide_eq_false (by omega)
  have hne : (⟨g, 2, none⟩ : Addr) ≠ ⟨b, 0, none⟩ := by simp [hgb]
  have hci : ¬ c = i.toNat := by omega
  obtain ⟨w1, hw1⟩ : ∃ w1, w1 = (((((w.setCell ⟨g, 2, none⟩ (.int .i64 (-1))).drew.drew.setCell ⟨b, 0, none⟩ (.int .u8 d0)).setCell ⟨b, 1, none⟩ (.int .u8 d1)).setCell ⟨b, 2, none⟩ (.int .u8 d2)).setCell ⟨b, 3, none⟩ (.int .u8 d3)) := ⟨_, rfl⟩
  have f1 : w1.cell? ⟨g, 1, none⟩ = some (.int .i64 i) := by
    rw [hw1, World.cell?_setCell_other _ _ _ _ (by simp [hgb, Ne.symm hgb]), World.cell?_setCell_other _ _ _ _ (by simp [hgb, Ne.symm hgb]), World.cell?_setCell_other _ _ _ _ (by simp [hgb, Ne.symm hgb]), World.cell?_setCell_other _ _ _ _ (by simp [hgb, Ne.symm hgb]), World.cell?_drew, World.cell?_drew, World.cell?_setCell_other _ _ _ _ (by simp)]; exact g1
  have z1 : w1.frozen? ⟨g, 1, none⟩ = false := by
    rw [hw1]; simp only [World.frozen?_setCell, World.frozen?_drew]; exact gz1
  have hcp : (Builtin.copy_ #[22, 22] 3 #[.slice (some ⟨b, 0, none⟩) 4 4, .slice (some (A.add i.toNat)) (n - i.toNat) (c - i.toNat)]).run Tryd.prog (w.setCell ⟨g, 2, none⟩ (.int .i64 (-1))).drew.drew = .ok (.int .i64 4) w1 := by
    rw [hw1]
    refine run_copy_cells (P := Tryd.prog) (w.setCell ⟨g, 2, none⟩ (.int .i64 (-1))).drew.drew 22 22 3 5 b 0 4 4 (A.add i.toNat) (n - i.toNat) (c - i.toNat) [.int .u8 d0, .int .u8 d1, .int .u8 d2, .int .u8 d3] Tryd.underlying22 (by kernel_rfl) (by show 4 = Nat.min _ _; simp only [Nat.min_def]; split <;> omega) ?_ ?_ ?_ ?_
    · intro j v hv
      have hj : j < 4 := by have := (List.getElem?_eq_some_iff.1 hv).1; simpa using this
      have hA : ∀ m : Nat, (A.add m).block = A.block := fun m => by unfold Addr.add; split <;> rfl
      rw [Addr.add_add, World.cell?_drew, World.cell?_drew, World.cell?_setCell_other _ _ _ _ (fun e => hAg (by rw [← hA (i.toNat + j), ← e]))]
      match j, hj with
      | 0, _ => simp at hv; rw [← hv]; exact k0
      | 1, _ => simp at hv; rw [← hv]; exact k1
      | 2, _ => simp at hv; rw [← hv]; exact k2
      | 3, _ => simp at hv; rw [← hv]; exact k3
    · intro j hj
      rw [World.cell?_drew, World.cell?_drew, World.cell?_setCell_other _ _ _ _ (by simp [hgb])]
      match j, hj with
      | 0, _ => exact Option.isSome_iff_exists.2 ⟨_, b0⟩
      | 1, _ => exact Option.isSome_iff_exists.2 ⟨_, b1⟩
      | 2, _ => exact Option.isSome_iff_exists.2 ⟨_, b2⟩
      | 3, _ => exact Option.isSome_iff_exists.2 ⟨_, b3⟩
    · intro j hj
      rw [World.frozen?_drew, World.frozen?_drew, World.frozen?_setCell]
      match j, hj with
      | 0, _ => exact bz0
      | 1, _ => exact bz1
      | 2, _ => exact bz2
      | 3, _ => exact bz3
    · intro v hv
      simp at hv
      rcases hv with rfl | rfl | rfl | rfl <;> rfl
  go_enter Tryd.func60, Tryd.ntmps60
  go_wp2
  go_region
  go_wp2
  go_region
  clear hcp
  go_wp2
  go_ret2
  refine ⟨rfl, ?_⟩
  rw [show ∀ W : World, W.drewN 2 = W.drew.drew from fun _ => rfl]
/-- What (*bytes.Reader).Read has done: the four bytes stand in the buffer, the reader is four bytes further. -/
def after (w : World) (g b : Nat) (i d0 d1 d2 d3 : Int) : World := ((((((w.setCell ⟨g, 2, none⟩ (.int .i64 (-1))).setCell ⟨b, 0, none⟩ (.int .u8 d0)).setCell ⟨b, 1, none⟩ (.int .u8 d1)).setCell ⟨b, 2, none⟩ (.int .u8 d2)).setCell ⟨b, 3, none⟩ (.int .u8 d3)).setCell ⟨g, 1, none⟩ (.int .i64 (i + 4)))
set_option maxHeartbeats 8000000 in
set_option maxRecDepth 100000 in
theorem atLeast_is (g b n c : Nat) (A : Addr) (i : Int) (q x0 x1 x2 x3 : Value) (d0 d1 d2 d3 : Int) (w : World) (hi : 0 ≤ i) (hin : i + 4 ≤ n) (hnc : n ≤ c) (hbig : n ≤ 9223372036854775807) (hgb : g ≠ b) (hAg : A.block ≠ g) (hAb : A.block ≠ b)
    (g0 : w.cell? ⟨g, 0, none⟩ = some (.slice (some A) n c)) (g1 : w.cell? ⟨g, 1, none⟩ = some (.int .i64 i)) (g2 : w.cell? ⟨g, 2, none⟩ = some q) (gz1 : w.frozen? ⟨g, 1, none⟩ = false) (gz2 : w.frozen? ⟨g, 2, none⟩ = false)
    (b0 : w.cell? ⟨b, 0, none⟩ = some x0) (b1 : w.cell? ⟨b, 1, none⟩ = some x1) (b2 : w.cell? ⟨b, 2, none⟩ = some x2) (b3 : w.cell? ⟨b, 3, none⟩ = some x3)
    (bz0 : w.frozen? ⟨b, 0, none⟩ = false) (bz1 : w.frozen? ⟨b, 1, none⟩ = false) (bz2 : w.frozen? ⟨b, 2, none⟩ = false) (bz3 : w.frozen? ⟨b, 3, none⟩ = false)
    (k0 : w.cell? (A.add i.toNat) = some (.int .u8 d0)) (k1 : w.cell? (A.add (i.toNat + 1)) = some (.int .u8 d1)) (k2 : w.cell? (A.add (i.toNat + 2)) = some (.int .u8 d2)) (k3 : w.cell? (A.add (i.toNat + 3)) = some (.int .u8 d3)) :
    Calls Tryd.prog 43 #[.iface 34 (.pointer (some ⟨g, 0, none⟩)), .slice (some ⟨b, 0, none⟩) 4 4, .int .i64 4] w fun e w' => e = .returned (.tuple #[.int .i64 4, .nilIface]) ∧ ∃ m, w' = (after w g b i d0 d1 d2 d3).drewN m := by
  have mixed : Tryd.prog.follows .mixedOrders = true := by kernel_rfl
  have hn : ∀ w, (nilAhead 177 34 (.pointer (some ⟨g, 0, none⟩)) "Read").run Tryd.prog w = .ok (some false) w := fun _ => by kernel_rfl
  have hm : ∀ w, (method 177 34 (.pointer (some ⟨g, 0, none⟩)) "Read").run Tryd.prog w = .ok (60, .pointer (some ⟨g, 0, none⟩)) w := fun _ => by kernel_rfl
  go_enter Tryd.func43, Tryd.ntmps43
  go_wp2
  refine wp_loop_rounds 2 ?_
  rw [rounds_succ]
  go_wp2
  go_region_with (go_at_call 60; (refine (read_is g b n c A i q x0 x1 x2 x3 d0 d1 d2 d3 w.drew hi hin hnc hbig hgb hAg hAb g0 g1 g2 gz1 gz2 b0 b1 b2 b3 bz0 bz1 bz2 bz3 k0 k1 k2 k3).mono ?_; rintro e w' ⟨rfl, rfl⟩))
  go_wp2
  rw [rounds_succ]
  go_wp2
  go_ret2
  exact ⟨rfl, 3, rfl⟩
set_option maxRecDepth 100000 in
theorem full_is (g b n c : Nat) (A : Addr) (i : Int) (q x0 x1 x2 x3 : Value) (d0 d1 d2 d3 : Int) (w : World) (hi : 0 ≤ i) (hin : i + 4 ≤ n) (hnc : n ≤ c) (hbig : n ≤ 9223372036854775807) (hgb : g ≠ b) (hAg : A.block ≠ g) (hAb : A.block ≠ b)
    (g0 : w.cell? ⟨g, 0, none⟩ = some (.slice (some A) n c)) (g1 : w.cell? ⟨g, 1, none⟩ = some (.int .i64 i)) (g2 : w.cell? ⟨g, 2, none⟩ = some q) (gz1 : w.frozen? ⟨g, 1, none⟩ = false) (gz2 : w.frozen? ⟨g, 2, none⟩ = false)
    (b0 : w.cell? ⟨b, 0, none⟩ = some x0) (b1 : w.cell? ⟨b, 1, none⟩ = some x1) (b2 : w.cell? ⟨b, 2, none⟩ = some x2) (b3 : w.cell? ⟨b, 3, none⟩ = some x3)
    (bz0 : w.frozen? ⟨b, 0, none⟩ = false) (bz1 : w.frozen? ⟨b, 1, none⟩ = false) (bz2 : w.frozen? ⟨b, 2, none⟩ = false) (bz3 : w.frozen? ⟨b, 3, none⟩ = false)
    (k0 : w.cell? (A.add i.toNat) = some (.int .u8 d0)) (k1 : w.cell? (A.add (i.toNat + 1)) = some (.int .u8 d1)) (k2 : w.cell? (A.add (i.toNat + 2)) = some (.int .u8 d2)) (k3 : w.cell? (A.add (i.toNat + 3)) = some (.int .u8 d3)) :
    Calls Tryd.prog 41 #[.iface 34 (.pointer (some ⟨g, 0, none⟩)), .slice (some ⟨b, 0, none⟩) 4 4] w fun e w' => e = .returned (.tuple #[.int .i64 4, .nilIface]) ∧ ∃ m, w' = (after w g b i d0 d1 d2 d3).drewN m := by
  go_enter Tryd.func41, Tryd.ntmps41
  go_wp2_with (go_at_call 43; refine (atLeast_is g b n c A i q x0 x1 x2 x3 d0 d1 d2 d3 w hi hin hnc hbig hgb hAg hAb g0 g1 g2 gz1 gz2 b0 b1 b2 b3 bz0 bz1 bz2 bz3 k0 k1 k2 k3).mono ?_; rintro e w' ⟨rfl, hw'⟩)
  go_ret2
  exact ⟨rfl, hw'⟩
end Go.Proofs.YtblmpfhjghcddaaDoor.QU
