/- One decimal is read from a row of bytes. -/
import Derived.Test.YtlnbkmkdapeicaaDoorF4b
import Derived.Deep.RegionHeld3
namespace Go.Proofs.YtlnbkmkdapeicaaDoor.QR
open Go.RowKit Go.Proofs.YtlnbkmkdapeicaaDoorW.PrintWords Go.Proofs.YtlnbkmkdapeicaaDoorW.PrintLast Go.Proofs.YtlnbkmkdapeicaaDoorW.PrintMore
set_option linter.unusedVariables false
set_option linter.unusedSimpArgs false
theorem cell_below {w w' : World} {B : Nat} (hb : Below B w w') {a : Addr} {v : Value} (hB : a.block < B) (h : w.cell? a = some v) : w'.cell? a = some v := by
  have e := hb.block a.block hB
  unfold World.cell? at h ⊢
  rw [e]; exact h
def le8f (y : Nat → Int) (o : Nat) : Int := QE.le8 (y o) (y (o + 1)) (y (o + 2)) (y (o + 3)) (y (o + 4)) (y (o + 5)) (y (o + 6)) (y (o + 7))
/-- What holds of each world of the region: what stood stays; the two new blocks have two cells each. -/
def SS (w w' : World) : Prop := Below w.heap.size w w' ∧ (∃ a b, w'.heap[w.heap.size]? = some (.cells #[a, b] 50 (0, 0))) ∧ ∃ a b, w'.heap[w.heap.size + 1]? = some (.cells #[a, b] 50 (0, 0))
theorem SS.below {w w1 : World} (h : SS w w1) : Below w.heap.size w w1 := h.1
theorem SS.cells {w w1 : World} (h : SS w w1) : ∃ a b, w1.cell? ⟨w.heap.size + 1, 0, none⟩ = some a ∧ w1.cell? ⟨w.heap.size + 1, 1, none⟩ = some b ∧ w1.frozen? ⟨w.heap.size + 1, 0, none⟩ = false ∧ w1.frozen? ⟨w.heap.size + 1, 1, none⟩ = false := by
  obtain ⟨_, _, c, d, h3⟩ := h
  exact ⟨c, d, blk_cell h3 0, blk_cell h3 1, blk_frozen h3 0, blk_frozen h3 1⟩
theorem SS.put {w w1 : World} (h : SS w w1) (u v : Value) : SS w ((w1.setCell ⟨w.heap.size + 1, 0, none⟩ u).setCell ⟨w.heap.size + 1, 1, none⟩ v) ∧ ((w1.setCell ⟨w.heap.size + 1, 0, none⟩ u).setCell ⟨w.heap.size + 1, 1, none⟩ v).heap[w.heap.size + 1]? = some (.cells #[u, v] 50 (0, 0)) := by
  obtain ⟨h1, ⟨a, b, h2⟩, c, d, h3⟩ := h
  have e := blk_set (blk_set h3 0 u) 1 v
  have e' : ((w1.setCell ⟨w.heap.size + 1, 0, none⟩ u).setCell ⟨w.heap.size + 1, 1, none⟩ v).heap[w.heap.size + 1]? = some (.cells #[u, v] 50 (0, 0)) := by simpa using e
  refine ⟨⟨(h1.setCell (by simp) _).setCell (by simp) _, ⟨a, b, ?_⟩, u, v, e'⟩, e'⟩
  rw [Below.heap_setCell _ _ _ _ (by simp), Below.heap_setCell _ _ _ _ (by simp)]
  exact h2
theorem SS.step {w w1 w2 : World} (h : SS w w1) (hb : Below w1.heap.size w1 w2) : SS w w2 := by
  obtain ⟨h1, ⟨a, b, h2⟩, c, d, h3⟩ := h
  exact ⟨h1.trans (hb.mono h1.size), ⟨a, b, (hb.block _ (blk_lt h2)).trans h2⟩, c, d, (hb.block _ (blk_lt h3)).trans h3⟩
set_option maxHeartbeats 8000000 in
set_option maxRecDepth 100000 in
theorem g1_is (A : Addr) (n c : Nat) (y : Nat → Int) (w : World) (hn : n = 16) (hc : 16 ≤ c) (hy : ∀ j, 0 ≤ y j ∧ y j < 256)
    (hcell : ∀ j, j < 16 → w.cell? (A.add j) = some (.int .u8 (y j))) :
    Calls Tryd.prog 74 #[.slice (some A) n c] w fun e w' => e = .returned (.agg #[.int .u64 (le8f y 0), .int .i64 (IntKind.i64.wrap (le8f y 8))]) ∧ Below w.heap.size w w' := by
  subst hn
  have ap80 : ∀ (p : Addr) (w : World), (Instr.typeAssert (.iface 79 (.pointer (some p))) 20 80 true).run Tryd.prog w = .ok (.tuple #[.pointer none, .bool false]) w := fun p w => by kernel_rfl
  have ap81 : ∀ (p : Addr) (w : World), (Instr.typeAssert (.iface 79 (.pointer (some p))) 20 81 true).run Tryd.prog w = .ok (.tuple #[.pointer none, .bool false]) w := fun p w => by kernel_rfl
  have ap82 : ∀ (p : Addr) (w : World), (Instr.typeAssert (.iface 79 (.pointer (some p))) 20 82 true).run Tryd.prog w = .ok (.tuple #[.pointer none, .bool false]) w := fun p w => by kernel_rfl
  have ap83 : ∀ (p : Addr) (w : World), (Instr.typeAssert (.iface 79 (.pointer (some p))) 20 83 true).run Tryd.prog w = .ok (.tuple #[.pointer none, .bool false]) w := fun p w => by kernel_rfl
  have ap84 : ∀ (p : Addr) (w : World), (Instr.typeAssert (.iface 79 (.pointer (some p))) 20 84 true).run Tryd.prog w = .ok (.tuple #[.pointer none, .bool false]) w := fun p w => by kernel_rfl
  have ap85 : ∀ (p : Addr) (w : World), (Instr.typeAssert (.iface 79 (.pointer (some p))) 20 85 true).run Tryd.prog w = .ok (.tuple #[.pointer none, .bool false]) w := fun p w => by kernel_rfl
  have ap86 : ∀ (p : Addr) (w : World), (Instr.typeAssert (.iface 79 (.pointer (some p))) 20 86 true).run Tryd.prog w = .ok (.tuple #[.pointer none, .bool false]) w := fun p w => by kernel_rfl
  have ap87 : ∀ (p : Addr) (w : World), (Instr.typeAssert (.iface 79 (.pointer (some p))) 20 87 true).run Tryd.prog w = .ok (.tuple #[.pointer none, .bool false]) w := fun p w => by kernel_rfl
  have ap88 : ∀ (p : Addr) (w : World), (Instr.typeAssert (.iface 79 (.pointer (some p))) 20 88 true).run Tryd.prog w = .ok (.tuple #[.pointer none, .bool false]) w := fun p w => by kernel_rfl
  have ap89 : ∀ (p : Addr) (w : World), (Instr.typeAssert (.iface 79 (.pointer (some p))) 20 89 true).run Tryd.prog w = .ok (.tuple #[.pointer none, .bool false]) w := fun p w => by kernel_rfl
  have ap90 : ∀ (p : Addr) (w : World), (Instr.typeAssert (.iface 79 (.pointer (some p))) 20 90 true).run Tryd.prog w = .ok (.tuple #[.pointer none, .bool false]) w := fun p w => by kernel_rfl
  have ap91 : ∀ (p : Addr) (w : World), (Instr.typeAssert (.iface 79 (.pointer (some p))) 20 91 true).run Tryd.prog w = .ok (.tuple #[.pointer none, .bool false]) w := fun p w => by kernel_rfl
  have ap92 : ∀ (p : Addr) (w : World), (Instr.typeAssert (.iface 79 (.pointer (some p))) 20 92 true).run Tryd.prog w = .ok (.tuple #[.pointer none, .bool false]) w := fun p w => by kernel_rfl
  have ap93 : ∀ (p : Addr) (w : World), (Instr.typeAssert (.iface 79 (.pointer (some p))) 20 93 true).run Tryd.prog w = .ok (.tuple #[.pointer none, .bool false]) w := fun p w => by kernel_rfl
  have ap94 : ∀ (p : Addr) (w : World), (Instr.typeAssert (.iface 79 (.pointer (some p))) 20 94 true).run Tryd.prog w = .ok (.tuple #[.pointer none, .bool false]) w := fun p w => by kernel_rfl
  have ap95 : ∀ (p : Addr) (w : World), (Instr.typeAssert (.iface 79 (.pointer (some p))) 20 95 true).run Tryd.prog w = .ok (.tuple #[.pointer none, .bool false]) w := fun p w => by kernel_rfl
  have ap96 : ∀ (p : Addr) (w : World), (Instr.typeAssert (.iface 79 (.pointer (some p))) 20 96 true).run Tryd.prog w = .ok (.tuple #[.pointer none, .bool false]) w := fun p w => by kernel_rfl
  have ap97 : ∀ (p : Addr) (w : World), (Instr.typeAssert (.iface 79 (.pointer (some p))) 20 97 true).run Tryd.prog w = .ok (.tuple #[.pointer none, .bool false]) w := fun p w => by kernel_rfl
  have ap98 : ∀ (p : Addr) (w : World), (Instr.typeAssert (.iface 79 (.pointer (some p))) 20 98 true).run Tryd.prog w = .ok (.tuple #[.pointer none, .bool false]) w := fun p w => by kernel_rfl
  have ap99 : ∀ (p : Addr) (w : World), (Instr.typeAssert (.iface 79 (.pointer (some p))) 20 99 true).run Tryd.prog w = .ok (.tuple #[.pointer none, .bool false]) w := fun p w => by kernel_rfl
  have ap100 : ∀ (p : Addr) (w : World), (Instr.typeAssert (.iface 79 (.pointer (some p))) 20 100 true).run Tryd.prog w = .ok (.tuple #[.pointer none, .bool false]) w := fun p w => by kernel_rfl
  have ap101 : ∀ (p : Addr) (w : World), (Instr.typeAssert (.iface 79 (.pointer (some p))) 20 101 true).run Tryd.prog w = .ok (.tuple #[.pointer none, .bool false]) w := fun p w => by kernel_rfl
  have ap125 : ∀ (p : Addr) (w : World), (Instr.typeAssert (.iface 79 (.pointer (some p))) 20 125 true).run Tryd.prog w = .ok (.tuple #[.pointer none, .bool false]) w := fun p w => by kernel_rfl
  have ap79 : ∀ (p : Addr) (w : World), (Instr.typeAssert (.iface 79 (.pointer (some p))) 20 79 true).run Tryd.prog w = .ok (.tuple #[.pointer (some p), .bool true]) w := fun p w => by kernel_rfl
  have ap132 : ∀ (p : Addr) (w : World), (Instr.typeAssert (.iface 79 (.pointer (some p))) 20 132 true).run Tryd.prog w = .ok (.tuple #[.pointer none, .bool false]) w := fun p w => by kernel_rfl
  have hA : A.block < w.heap.size := by
    have h := World.block_lt_of_cell? w _ (hcell 0 (by omega))
    rwa [add_block] at h
  have cw : ∀ w1, Below w.heap.size w w1 → ∀ j, j < 16 → w1.cell? (A.add j) = some (.int .u8 (y j)) := fun w1 hb j hj => cell_below hb (by rw [add_block]; exact hA) (hcell j hj)
  have QU0 := Aside0.mk (fun w1 (hb : Below w.heap.size w w1) => QE.u64_is A 16 c (y 0) (y 1) (y 2) (y 3) (y 4) (y 5) (y 6) (y 7) w1 (by omega) (hy _) (hy _) (hy _) (hy _) (hy _) (hy _) (hy _) (hy _) (cw w1 hb 0 (by omega)) (cw w1 hb 1 (by omega)) (cw w1 hb 2 (by omega)) (cw w1 hb 3 (by omega)) (cw w1 hb 4 (by omega)) (cw w1 hb 5 (by omega)) (cw w1 hb 6 (by omega)) (cw w1 hb 7 (by omega)))
  have QU1 := Aside0.mk (fun w1 (hb : Below w.heap.size w w1) => QE.u64_is (A.add 8) 8 (c - 8) (y 8) (y 9) (y 10) (y 11) (y 12) (y 13) (y 14) (y 15) w1 (by omega) (hy _) (hy _) (hy _) (hy _) (hy _) (hy _) (hy _) (hy _) (by rw [add_add]; exact cw w1 hb 8 (by omega)) (by rw [add_add]; exact cw w1 hb 9 (by omega)) (by rw [add_add]; exact cw w1 hb 10 (by omega)) (by rw [add_add]; exact cw w1 hb 11 (by omega)) (by rw [add_add]; exact cw w1 hb 12 (by omega)) (by rw [add_add]; exact cw w1 hb 13 (by omega)) (by rw [add_add]; exact cw w1 hb 14 (by omega)) (by rw [add_add]; exact cw w1 hb 15 (by omega)))
  have e0 : QE.le8 (y 0) (y 1) (y 2) (y 3) (y 4) (y 5) (y 6) (y 7) = le8f y 0 := rfl
  have e8 : QE.le8 (y 8) (y 9) (y 10) (y 11) (y 12) (y 13) (y 14) (y 15) = le8f y 8 := rfl
  rw [e0] at QU0
  rw [e8] at QU1
  generalize le8f y 0 = lo at QU0 ⊢
  generalize le8f y 8 = hi at QU1 ⊢
  have QN := Aside0.mk (fun w1 => QT.decimal128_New.calls (IntKind.i64.wrap hi) lo lo (IntKind.i64.wrap hi) w1 rfl)
  have hc8 : ¬(c - 8 = 0) := by omega
  have hc8b : ¬c = 8 := by omega
  have hc9 : 8 ≤ c := by omega
  have hww : wrap64 hi = IntKind.i64.wrap hi := by simp [IntKind.wrap_i64, wrap64]
  have ea : A.add 8 = ⟨A.block, A.off + 8, none⟩ := rfl
  rw [ea] at QU1
  clear e0 e8 hcell cw hy ea
  go_enter Tryd.func74, Tryd.ntmps74
  go_upto_region 71 with (fail)
  obtain ⟨W1, hW1⟩ : ∃ W1, W1 = (w.alloc (.cells #[.int .u64 0, .int .i64 0] 50)).alloc (.cells #[.int .u64 0, .int .i64 0] 50) := ⟨_, rfl⟩
  have hb0 := (b2 w (.cells #[.int .u64 0, .int .i64 0] 50)).alloc (b2 w (.cells #[.int .u64 0, .int .i64 0] 50)).size (.cells #[.int .u64 0, .int .i64 0] 50)
  have g2 : (w.alloc (.cells #[.int .u64 0, .int .i64 0] 50)).heap.size = w.heap.size + 1 := by unfold World.alloc; exact Array.size_push _
  have gn : W1.heap[w.heap.size + 1]? = some (.cells #[.int .u64 0, .int .i64 0] 50 (0, 0)) := by rw [hW1, ← g2]; exact blk_new _ _
  have gm : W1.heap[w.heap.size]? = some (.cells #[.int .u64 0, .int .i64 0] 50 (0, 0)) := by
    rw [hW1]; exact (((b2 (w.alloc (.cells #[.int .u64 0, .int .i64 0] 50)) (.cells #[.int .u64 0, .int .i64 0] 50)).block _ (by rw [g2]; omega))).trans (blk_new w _)
  rw [← hW1] at hb0
  have QS : SS w W1.drew := ⟨⟨hb0.os, hb0.tape, hb0.output, hb0.size, hb0.block⟩, ⟨_, _, gm⟩, _, _, gn⟩
  rw [← hW1]
  clear hW1 gn gm g2 hb0
  refine wp_noP ?_
  go_region_held3 (fun w' => SS w w') (first | assumption | exact SS.step (by assumption) (by assumption) | exact (SS.put (by assumption) _ _).1) (first | (go_at_call 79; (first | with_reducible refine Calls.mono (QU1.out _ (SS.below (by assumption))) ?_ | with_reducible refine Calls.mono (QU0.out _ (SS.below (by assumption))) ?_); rintro e w2 ⟨rfl, hb⟩) | (go_at_call 16; with_reducible refine Calls.mono (QN.out _) ?_; rintro e w2 ⟨rfl, hb⟩; obtain ⟨ca, cb, k0, k1, z0, z1⟩ := SS.cells (SS.step (by assumption) hb)))
  rename_i wa ha wb hb2 hH
  have hS2 : SS w w2 := by
    exact SS.step (SS.step (SS.step QS ha) hb2) hb
  obtain ⟨hS3, he3⟩ := SS.put hS2 (.int .u64 lo) (.int .i64 (IntKind.i64.wrap hi))
  generalize (w2.setCell ⟨w.heap.size + 1, 0, none⟩ (.int .u64 lo)).setCell ⟨w.heap.size + 1, 1, none⟩ (.int .i64 (IntKind.i64.wrap hi)) = W3 at hS3 he3 ⊢
  clear hH hS2 z0 z1 k0 k1 hb hb2 ha QS QU0 QU1 QN
  obtain ⟨hb3, ⟨a0, b0, hr⟩, -⟩ := hS3
  have k0 := blk_cell he3 0
  have k1 := blk_cell he3 1
  have c0 := blk_cell hr 0
  have c1 := blk_cell hr 1
  have z0 := blk_frozen hr 0
  have z1 := blk_frozen hr 1
  have QB := Aside0.mk hb3
  clear hb3 he3 hr
  refine noP_normal ?_
  go_wp2
  refine bodyPost_ret (v := .agg #[.int .u64 lo, .int .i64 (wrap64 hi)]) (by simp [results, Tryd.results74, go_sem, c0, c1]) rfl ?_
  exact ⟨congrArg (fun v => Ending.returned (Value.agg #[.int .u64 lo, .int .i64 v])) hww, (QB.out.setCell (Nat.le_refl _) _).setCell (Nat.le_refl _) _⟩
end Go.Proofs.YtlnbkmkdapeicaaDoor.QR
