/- One number of 32 bits is put to its place in a row of bytes, or taken from it. -/
import Derived.Test.YtlnbkmkdapeicaaGreatDoorF3
namespace Go.Proofs.YtlnbkmkdapeicaaGreatDoor.QR
open Go.RowKit Go.Proofs.YtlnbkmkdapeicaaGreatDoorW.PrintWords Go.Proofs.YtlnbkmkdapeicaaGreatDoorW.PrintLast Go.Proofs.YtlnbkmkdapeicaaGreatDoorW.PrintMore
set_option linter.unusedVariables false
set_option linter.unusedSimpArgs false
set_option maxHeartbeats 8000000 in
set_option maxRecDepth 100000 in
theorem so_is (w : World) : Calls Tryz.prog 22 #[] w fun e w' => e = .returned (.int .i64 4) ∧ Below w.heap.size w w' := by
  have ap79 : ∀ (p : Addr) (w : World), (Instr.typeAssert (.iface 78 (.pointer (some p))) 20 79 true).run Tryz.prog w = .ok (.tuple #[.pointer none, .bool false]) w := fun p w => by kernel_rfl
  have ap80 : ∀ (p : Addr) (w : World), (Instr.typeAssert (.iface 78 (.pointer (some p))) 20 80 true).run Tryz.prog w = .ok (.tuple #[.pointer none, .bool false]) w := fun p w => by kernel_rfl
  have ap81 : ∀ (p : Addr) (w : World), (Instr.typeAssert (.iface 78 (.pointer (some p))) 20 81 true).run Tryz.prog w = .ok (.tuple #[.pointer none, .bool false]) w := fun p w => by kernel_rfl
  have ap82 : ∀ (p : Addr) (w : World), (Instr.typeAssert (.iface 78 (.pointer (some p))) 20 82 true).run Tryz.prog w = .ok (.tuple #[.pointer none, .bool false]) w := fun p w => by kernel_rfl
  have ap83 : ∀ (p : Addr) (w : World), (Instr.typeAssert (.iface 78 (.pointer (some p))) 20 83 true).run Tryz.prog w = .ok (.tuple #[.pointer none, .bool false]) w := fun p w => by kernel_rfl
  have ap78 : ∀ (p : Addr) (w : World), (Instr.typeAssert (.iface 78 (.pointer (some p))) 20 78 true).run Tryz.prog w = .ok (.tuple #[.pointer (some p), .bool true]) w := fun p w => by kernel_rfl
  have ap84 : ∀ (p : Addr) (w : World), (Instr.typeAssert (.iface 78 (.pointer (some p))) 20 84 true).run Tryz.prog w = .ok (.tuple #[.pointer none, .bool false]) w := fun p w => by kernel_rfl
  have ap85 : ∀ (p : Addr) (w : World), (Instr.typeAssert (.iface 78 (.pointer (some p))) 20 85 true).run Tryz.prog w = .ok (.tuple #[.pointer none, .bool false]) w := fun p w => by kernel_rfl
  have ap86 : ∀ (p : Addr) (w : World), (Instr.typeAssert (.iface 78 (.pointer (some p))) 20 86 true).run Tryz.prog w = .ok (.tuple #[.pointer none, .bool false]) w := fun p w => by kernel_rfl
  have ap87 : ∀ (p : Addr) (w : World), (Instr.typeAssert (.iface 78 (.pointer (some p))) 20 87 true).run Tryz.prog w = .ok (.tuple #[.pointer none, .bool false]) w := fun p w => by kernel_rfl
  have ap88 : ∀ (p : Addr) (w : World), (Instr.typeAssert (.iface 78 (.pointer (some p))) 20 88 true).run Tryz.prog w = .ok (.tuple #[.pointer none, .bool false]) w := fun p w => by kernel_rfl
  have ap89 : ∀ (p : Addr) (w : World), (Instr.typeAssert (.iface 78 (.pointer (some p))) 20 89 true).run Tryz.prog w = .ok (.tuple #[.pointer none, .bool false]) w := fun p w => by kernel_rfl
  have ap90 : ∀ (p : Addr) (w : World), (Instr.typeAssert (.iface 78 (.pointer (some p))) 20 90 true).run Tryz.prog w = .ok (.tuple #[.pointer none, .bool false]) w := fun p w => by kernel_rfl
  have ap91 : ∀ (p : Addr) (w : World), (Instr.typeAssert (.iface 78 (.pointer (some p))) 20 91 true).run Tryz.prog w = .ok (.tuple #[.pointer none, .bool false]) w := fun p w => by kernel_rfl
  have ap92 : ∀ (p : Addr) (w : World), (Instr.typeAssert (.iface 78 (.pointer (some p))) 20 92 true).run Tryz.prog w = .ok (.tuple #[.pointer none, .bool false]) w := fun p w => by kernel_rfl
  have ap93 : ∀ (p : Addr) (w : World), (Instr.typeAssert (.iface 78 (.pointer (some p))) 20 93 true).run Tryz.prog w = .ok (.tuple #[.pointer none, .bool false]) w := fun p w => by kernel_rfl
  have ap94 : ∀ (p : Addr) (w : World), (Instr.typeAssert (.iface 78 (.pointer (some p))) 20 94 true).run Tryz.prog w = .ok (.tuple #[.pointer none, .bool false]) w := fun p w => by kernel_rfl
  have ap95 : ∀ (p : Addr) (w : World), (Instr.typeAssert (.iface 78 (.pointer (some p))) 20 95 true).run Tryz.prog w = .ok (.tuple #[.pointer none, .bool false]) w := fun p w => by kernel_rfl
  have ap96 : ∀ (p : Addr) (w : World), (Instr.typeAssert (.iface 78 (.pointer (some p))) 20 96 true).run Tryz.prog w = .ok (.tuple #[.pointer none, .bool false]) w := fun p w => by kernel_rfl
  have ap97 : ∀ (p : Addr) (w : World), (Instr.typeAssert (.iface 78 (.pointer (some p))) 20 97 true).run Tryz.prog w = .ok (.tuple #[.pointer none, .bool false]) w := fun p w => by kernel_rfl
  have ap98 : ∀ (p : Addr) (w : World), (Instr.typeAssert (.iface 78 (.pointer (some p))) 20 98 true).run Tryz.prog w = .ok (.tuple #[.pointer none, .bool false]) w := fun p w => by kernel_rfl
  have ap99 : ∀ (p : Addr) (w : World), (Instr.typeAssert (.iface 78 (.pointer (some p))) 20 99 true).run Tryz.prog w = .ok (.tuple #[.pointer none, .bool false]) w := fun p w => by kernel_rfl
  have ap123 : ∀ (p : Addr) (w : World), (Instr.typeAssert (.iface 78 (.pointer (some p))) 20 123 true).run Tryz.prog w = .ok (.tuple #[.pointer none, .bool false]) w := fun p w => by kernel_rfl
  have ap126 : ∀ (p : Addr) (w : World), (Instr.typeAssert (.iface 78 (.pointer (some p))) 20 126 true).run Tryz.prog w = .ok (.tuple #[.pointer none, .bool false]) w := fun p w => by kernel_rfl
  have ap131 : ∀ (p : Addr) (w : World), (Instr.typeAssert (.iface 78 (.pointer (some p))) 20 131 true).run Tryz.prog w = .ok (.tuple #[.pointer none, .bool false]) w := fun p w => by kernel_rfl
  go_enter Tryz.func22, Tryz.ntmps22
  go_wp2
  go_ret
  exact ⟨rfl, b2 w _⟩
set_option maxHeartbeats 8000000 in
set_option maxRecDepth 100000 in
theorem so2_is (w : World) : Calls Tryz.prog 12 #[] w fun e w' => e = .returned (.int .i64 4) ∧ Below w.heap.size w w' := by
  have Q := Aside0.mk (so_is w)
  go_enter Tryz.func12, Tryz.ntmps12
  go_wp2_with (go_at_call 22; refine Q.out.mono ?_; rintro e w' ⟨rfl, hb⟩; have QB := Aside0.mk hb; clear hb)
  go_ret
  exact ⟨rfl, QB.out⟩
theorem le_wrap (x : Int) : leB 4 (IntKind.u32.wrap x) = leB 4 x := by
  unfold leB
  apply List.map_congr_left
  intro j hj
  have hj4 : j < 4 := List.mem_range.1 hj
  have h : j = 0 ∨ j = 1 ∨ j = 2 ∨ j = 3 := by omega
  unfold byteN
  simp only [IntKind.wrap, IntKind.bits, IntKind.signed]
  rcases h with rfl | rfl | rfl | rfl <;> simp <;> omega
set_option maxHeartbeats 8000000 in
set_option maxRecDepth 100000 in
theorem p1_is (g o n c : Nat) (et : Nat) (us : List Value) (x : Int) (w : World) (hg : w.heap[g]? = some (.cells us.toArray et (0, 0))) (hn : 4 ≤ n) (ho : o + 4 ≤ us.length) (hb : ∃ y, us[o + 3]? = some (.int .u8 y)) :
    Calls Tryz.prog 23 #[.slice (some ⟨g, o, none⟩) n c, .int .i32 x] w fun e w' => e = .returned (.tuple #[]) ∧ w'.heap[g]? = some (.cells (put us o ((leB 4 x).map (.int .u8))).toArray et (0, 0)) ∧ Fr w w' g g := by
  have ap79 : ∀ (p : Addr) (w : World), (Instr.typeAssert (.iface 78 (.pointer (some p))) 20 79 true).run Tryz.prog w = .ok (.tuple #[.pointer none, .bool false]) w := fun p w => by kernel_rfl
  have ap80 : ∀ (p : Addr) (w : World), (Instr.typeAssert (.iface 78 (.pointer (some p))) 20 80 true).run Tryz.prog w = .ok (.tuple #[.pointer none, .bool false]) w := fun p w => by kernel_rfl
  have ap81 : ∀ (p : Addr) (w : World), (Instr.typeAssert (.iface 78 (.pointer (some p))) 20 81 true).run Tryz.prog w = .ok (.tuple #[.pointer none, .bool false]) w := fun p w => by kernel_rfl
  have ap82 : ∀ (p : Addr) (w : World), (Instr.typeAssert (.iface 78 (.pointer (some p))) 20 82 true).run Tryz.prog w = .ok (.tuple #[.pointer none, .bool false]) w := fun p w => by kernel_rfl
  have ap83 : ∀ (p : Addr) (w : World), (Instr.typeAssert (.iface 78 (.pointer (some p))) 20 83 true).run Tryz.prog w = .ok (.tuple #[.pointer none, .bool false]) w := fun p w => by kernel_rfl
  have ap78 : ∀ (p : Addr) (w : World), (Instr.typeAssert (.iface 78 (.pointer (some p))) 20 78 true).run Tryz.prog w = .ok (.tuple #[.pointer (some p), .bool true]) w := fun p w => by kernel_rfl
  have ap84 : ∀ (p : Addr) (w : World), (Instr.typeAssert (.iface 78 (.pointer (some p))) 20 84 true).run Tryz.prog w = .ok (.tuple #[.pointer none, .bool false]) w := fun p w => by kernel_rfl
  have ap85 : ∀ (p : Addr) (w : World), (Instr.typeAssert (.iface 78 (.pointer (some p))) 20 85 true).run Tryz.prog w = .ok (.tuple #[.pointer none, .bool false]) w := fun p w => by kernel_rfl
  have ap86 : ∀ (p : Addr) (w : World), (Instr.typeAssert (.iface 78 (.pointer (some p))) 20 86 true).run Tryz.prog w = .ok (.tuple #[.pointer none, .bool false]) w := fun p w => by kernel_rfl
  have ap87 : ∀ (p : Addr) (w : World), (Instr.typeAssert (.iface 78 (.pointer (some p))) 20 87 true).run Tryz.prog w = .ok (.tuple #[.pointer none, .bool false]) w := fun p w => by kernel_rfl
  have ap88 : ∀ (p : Addr) (w : World), (Instr.typeAssert (.iface 78 (.pointer (some p))) 20 88 true).run Tryz.prog w = .ok (.tuple #[.pointer none, .bool false]) w := fun p w => by kernel_rfl
  have ap89 : ∀ (p : Addr) (w : World), (Instr.typeAssert (.iface 78 (.pointer (some p))) 20 89 true).run Tryz.prog w = .ok (.tuple #[.pointer none, .bool false]) w := fun p w => by kernel_rfl
  have ap90 : ∀ (p : Addr) (w : World), (Instr.typeAssert (.iface 78 (.pointer (some p))) 20 90 true).run Tryz.prog w = .ok (.tuple #[.pointer none, .bool false]) w := fun p w => by kernel_rfl
  have ap91 : ∀ (p : Addr) (w : World), (Instr.typeAssert (.iface 78 (.pointer (some p))) 20 91 true).run Tryz.prog w = .ok (.tuple #[.pointer none, .bool false]) w := fun p w => by kernel_rfl
  have ap92 : ∀ (p : Addr) (w : World), (Instr.typeAssert (.iface 78 (.pointer (some p))) 20 92 true).run Tryz.prog w = .ok (.tuple #[.pointer none, .bool false]) w := fun p w => by kernel_rfl
  have ap93 : ∀ (p : Addr) (w : World), (Instr.typeAssert (.iface 78 (.pointer (some p))) 20 93 true).run Tryz.prog w = .ok (.tuple #[.pointer none, .bool false]) w := fun p w => by kernel_rfl
  have ap94 : ∀ (p : Addr) (w : World), (Instr.typeAssert (.iface 78 (.pointer (some p))) 20 94 true).run Tryz.prog w = .ok (.tuple #[.pointer none, .bool false]) w := fun p w => by kernel_rfl
  have ap95 : ∀ (p : Addr) (w : World), (Instr.typeAssert (.iface 78 (.pointer (some p))) 20 95 true).run Tryz.prog w = .ok (.tuple #[.pointer none, .bool false]) w := fun p w => by kernel_rfl
  have ap96 : ∀ (p : Addr) (w : World), (Instr.typeAssert (.iface 78 (.pointer (some p))) 20 96 true).run Tryz.prog w = .ok (.tuple #[.pointer none, .bool false]) w := fun p w => by kernel_rfl
  have ap97 : ∀ (p : Addr) (w : World), (Instr.typeAssert (.iface 78 (.pointer (some p))) 20 97 true).run Tryz.prog w = .ok (.tuple #[.pointer none, .bool false]) w := fun p w => by kernel_rfl
  have ap98 : ∀ (p : Addr) (w : World), (Instr.typeAssert (.iface 78 (.pointer (some p))) 20 98 true).run Tryz.prog w = .ok (.tuple #[.pointer none, .bool false]) w := fun p w => by kernel_rfl
  have ap99 : ∀ (p : Addr) (w : World), (Instr.typeAssert (.iface 78 (.pointer (some p))) 20 99 true).run Tryz.prog w = .ok (.tuple #[.pointer none, .bool false]) w := fun p w => by kernel_rfl
  have ap123 : ∀ (p : Addr) (w : World), (Instr.typeAssert (.iface 78 (.pointer (some p))) 20 123 true).run Tryz.prog w = .ok (.tuple #[.pointer none, .bool false]) w := fun p w => by kernel_rfl
  have ap126 : ∀ (p : Addr) (w : World), (Instr.typeAssert (.iface 78 (.pointer (some p))) 20 126 true).run Tryz.prog w = .ok (.tuple #[.pointer none, .bool false]) w := fun p w => by kernel_rfl
  have ap131 : ∀ (p : Addr) (w : World), (Instr.typeAssert (.iface 78 (.pointer (some p))) 20 131 true).run Tryz.prog w = .ok (.tuple #[.pointer none, .bool false]) w := fun p w => by kernel_rfl
  have Q := Aside0.mk (And.intro hg (And.intro hn (And.intro ho hb)))
  have QP := Aside0.mk (fun w1 (h1 : w1.heap[g]? = some (.cells us.toArray et (0, 0))) => pu32_is g o n c et us (IntKind.u32.wrap x) w1 (by simp only [IntKind.wrap, IntKind.bits, IntKind.signed]; simp; omega) h1 hn ho hb)
  clear hg hn ho hb
  go_enter Tryz.func23, Tryz.ntmps23
  go_upto_region 19 with (fail)
  have g1 : (w.alloc (.cells #[.int .i32 x] 21)).heap[g]? = some (.cells us.toArray et (0, 0)) := blk_alloc Q.out.1 _
  have k0 : (w.alloc (.cells #[.int .i32 x] 21)).cell? ⟨w.heap.size, 0, none⟩ = some (.int .i32 x) := blk_cell (blk_new w _) 0
  have hF : Fr w (w.alloc (.cells #[.int .i32 x] 21)) g g := Fr.of_below (b2 w _)
  generalize w.alloc (.cells #[.int .i32 x] 21) = W1 at g1 k0 hF ⊢
  have Q1 := Aside0.mk (And.intro g1 hF)
  clear g1 hF
  refine wp_region_still_tail 6 (by kernel_rfl) (by kernel_rfl) ?_
  simp only [List.take_succ_cons, List.take_zero, List.drop_succ_cons, List.drop_zero]
  change wpStill _ _ (World.drew W1) _ _ _
  repeat still_step
  refine wpStill_nil ?_
  change wpList _ _ _ _ _ (World.drew W1)
  go_wp2_with (go_at_call 35; refine (QP.out W1.drew Q1.out.1).mono ?_; rintro e w5 ⟨rfl, h1, h2⟩; have Q5 := Aside0.mk (And.intro h1 h2); clear h1 h2)
  go_end0
  rw [le_wrap] at Q5
  exact ⟨rfl, Q5.out.1, Q1.out.2.trans ⟨Q5.out.2.os, Q5.out.2.tape, Q5.out.2.output, Q5.out.2.size, Q5.out.2.far⟩⟩
set_option maxHeartbeats 8000000 in
set_option maxRecDepth 100000 in
theorem pa_is (g N c i : Nat) (et : Nat) (us : List Value) (x : Int) (w : World) (hg : w.heap[g]? = some (.cells us.toArray et (0, 0))) (hN : N ≤ c) (hi : 4 * i + 4 ≤ N) (ho : N ≤ us.length) (hl : N ≤ 1000000) (hb : ∃ y, us[4 * i + 3]? = some (.int .u8 y)) :
    Calls Tryz.prog 13 #[.slice (some ⟨g, 0, none⟩) N c, .int .i64 (i : Int), .int .i32 x] w fun e w' => e = .returned (.tuple #[]) ∧ w'.heap[g]? = some (.cells (put us (4 * i) ((leB 4 x).map (.int .u8))).toArray et (0, 0)) ∧ Fr w w' g g := by
  have Q := Aside0.mk (And.intro hg (And.intro ho hb))
  have QS := Aside0.mk (so_is w)
  obtain ⟨m, hm⟩ : ∃ m, m = 4 * i := ⟨_, rfl⟩
  have Qm := Aside0.mk hm
  have h1 : ((i : Int) * 4) = (m : Int) := by omega
  have h3 : IntKind.i64.wrap (m : Int) = (m : Int) := IntWalk.i64_in _ (by omega)
  have h3b : IntKind.i64.wrap ((m : Int) + 4) = (m : Int) + 4 := IntWalk.i64_in _ (by omega)
  have hii : (i : Int) ≤ 1000000 := by omega
  have h4 : (m : Int) + 4 ≤ (c : Int) := by omega
  have h4n : m + 4 ≤ c := by omega
  have h5 : (m : Int) ≤ (m : Int) + 4 := by omega
  have h6 : ¬ (c - m = 0) := by omega
  have h6b : ¬ c = m := by omega
  have h7 : ((m : Int) + 4).toNat = m + 4 := by omega
  have h8 : m + 4 - m = 4 := by omega
  have h9 : (0 : Int) ≤ (m : Int) + 4 := by omega
  have h10 : m ≤ m + 4 := by omega
  have h11 : m ≤ c := by omega
  have QP := Aside0.mk (fun w1 (hw1 : w1.heap[g]? = some (.cells us.toArray et (0, 0))) => p1_is g m 4 (c - m) et us x w1 hw1 (Nat.le_refl _) (by omega) (by rw [hm]; exact hb))
  clear hg hN hi ho hl hb hm
  go_enter Tryz.func13, Tryz.ntmps13
  go_wp2_with (first | (go_at_call 22; refine QS.out.mono ?_; rintro e w1 ⟨rfl, hb⟩; have Q1 := Aside0.mk hb; clear hb) | (go_at_call 23; go_must (refine (QP.out _ ((Q1.out.block g (blk_lt Q.out.1)).trans Q.out.1)).mono ?_); rintro e w5 ⟨rfl, h1', h2'⟩; have Q5 := Aside0.mk (And.intro h1' h2'); clear h1' h2'))
  go_end0
  rw [Qm.out] at Q5
  exact ⟨rfl, Q5.out.1, (Fr.of_below Q1.out).trans Q5.out.2⟩
end Go.Proofs.YtlnbkmkdapeicaaGreatDoor.QR
