/- One number of 32 bits is put to its place in a row of bytes, or taken from it. -/
import Derived.Test.YtlnbkmkdapeicaaDoorF3
import Derived.Test.YtlnbkmkdapeicaaDoorQTx5
namespace Go.Proofs.YtlnbkmkdapeicaaDoor.QR
open Go.RowKit Go.Proofs.YtlnbkmkdapeicaaDoorW.PrintWords Go.Proofs.YtlnbkmkdapeicaaDoorW.PrintLast Go.Proofs.YtlnbkmkdapeicaaDoorW.PrintMore
set_option linter.unusedVariables false
set_option linter.unusedSimpArgs false
set_option maxHeartbeats 8000000 in
set_option maxRecDepth 100000 in
theorem so_is (w : World) : Calls Tryd.prog 24 #[] w fun e w' => e = .returned (.int .i64 16) ∧ Below w.heap.size w w' := by
  have ap80 : ∀ (p : Addr) (w : World), (Instr.typeAssert (.iface 79 (.pointer (some p))) 20 80 true).run Tryd.prog w = .ok (.tuple #[.pointer none, .bool false]) w := fun p w => by kernel_rfl
  have ap81 : ∀ (p : Addr) (w : World), (Instr.typeAssert (.iface 79 (.pointer (some p))) 20 81 true).run Tryd.prog w = .ok (.tuple #[.pointer none, .bool false]) w := fun p w => by kernel_rfl
  have ap82 : ∀ (p : Addr) (w : World), (Instr.typeAssert (.iface 79 (.pointer (some p))) 20 82 true).run Tryd.prog w = .ok (.tuple #[.pointer none, .bool false]) w := fun p w => by kernel_rfl
  have ap83 : ∀ (p : Addr) (w : World), (Instr.typeAssert (.iface 79 (.pointer (some p))) 20 83 true).run Tryd.prog w = .ok (.tuple #[.pointer none, .bool false]) w := fun p w => by kernel_rfl
  have ap84 : ∀ (p : Addr) (w : World), (Instr.typeAssert (.iface 79 (.pointer (some p))) 20 84 true).run Tryd.prog w = .ok (.tuple #[.pointer none, .bool false]) w := fun p w => by kernel_rfl
  have ap85 : ∀ (p : Addr) (w : World), (Instr.typeAssert (.iface 79 (.pointer (some p))) 20 85 true).run Tryd.prog w = .ok (.tuple #[.pointer none, .bool false]) w := fun p w => by kernel_rfl
  have ap86 : ∀ (p : Addr) (w : World), (Instr.typeAssert (.iface 79 (.pointer (some p))) 20 86 true).run Tryd.prog w = .ok (.tuple #[.pointer none, .bool false]) w := fun p w => by kernel_rfl
  have ap87 : ∀ (p : Addr) (w : World), (Instr.typeAssert (.iface 79 (.pointer (some p))) 20 87 true).run Tryd.prog w = .ok (.tuple #[.pointer none, .bool false]) w := fun p w => by kernel_rfl
  have ap88 : ∀ (p : Addr) (w : World), (Instr.typeAssert (.iface 79 (.pointer (some p))) 20 88 true).run Tryd.prog w = .ok (.tuple #[.pointer none, .bool false]) w := fun p w => by kernel_rfl
  have ap89 : ∀ (p : Addr) (w : World), (Instr.typeAssert (.iface 79 (.pointer (some p))) 20 89 true).run Tryd.prog w = .ok (.tuple #[.pointer none, .bool false]) w := fun p w => by kernel_rfl
  have ap90 : ∀ (p : Addr) (w : World), (Instr.typeAssert (.iface 79 (.pointer (some p))) 20 90 true).run Tryd.prog w = .ok (.tuple #[.pointer none, .bool false]) w := fun p w => by kernel_rfl
  have ap91 : ∀ (p : Addr) (w : World), (Instr.typeAssert (.iface 79 (.pointer (some p))) 20 91 true).run Tryd.prog w = .ok (.tuple #[.pointer none, .bool false]) w := fun p w => by kernel_rfl
  have ap92 : ∀ (p : Addr) (w : World), (Instr.typeAssert (.iface 79 (.pointer (some p))) 20 92 true).run Tryd.prog w = .ok (.tuple #[.pointer none, .bool false]) w := fun p w => by kernel_rfl
  have ap93 : ∀ (p : Addr) (w : World), (Instr.typeAssert (.iface 79 (.pointer (some p))) 20 93 true).run Tryd.prog w = .ok (.tuple #[.pointer none, .bool false]) w := fun p w => by kernel_rfl
  have ap94 : ∀ (p : Addr) (w : World), (Instr.typeAssert (.iface 79 (.pointer (some p))) 20 94 true).run Tryd.prog w = .ok (.tuple #[.pointer none, .bool false]) w := fun p w => by kernel_rfl
  have ap95 : ∀ (p : Addr) (w : World), (Instr.typeAssert (.iface 79 (.pointer (some p))) 20 95 true).run Tryd.prog w = .ok (.tuple #[.pointer none, .bool false]) w := fun p w => by kernel_rfl
  have ap96 : ∀ (p : Addr) (w : World), (Instr.typeAssert (.iface 79 (.pointer (some p))) 20 96 true).run Tryd.prog w = .ok (.tuple #[.pointer none, .bool false]) w := fun p w => by kernel_rfl
  have ap97 : ∀ (p : Addr) (w : World), (Instr.typeAssert (.iface 79 (.pointer (some p))) 20 97 true).run Tryd.prog w = .ok (.tuple #[.pointer none, .bool false]) w := fun p w => by kernel_rfl
  have ap98 : ∀ (p : Addr) (w : World), (Instr.typeAssert (.iface 79 (.pointer (some p))) 20 98 true).run Tryd.prog w = .ok (.tuple #[.pointer none, .bool false]) w := fun p w => by kernel_rfl
  have ap99 : ∀ (p : Addr) (w : World), (Instr.typeAssert (.iface 79 (.pointer (some p))) 20 99 true).run Tryd.prog w = .ok (.tuple #[.pointer none, .bool false]) w := fun p w => by kernel_rfl
  have ap100 : ∀ (p : Addr) (w : World), (Instr.typeAssert (.iface 79 (.pointer (some p))) 20 100 true).run Tryd.prog w = .ok (.tuple #[.pointer none, .bool false]) w := fun p w => by kernel_rfl
  have ap101 : ∀ (p : Addr) (w : World), (Instr.typeAssert (.iface 79 (.pointer (some p))) 20 101 true).run Tryd.prog w = .ok (.tuple #[.pointer none, .bool false]) w := fun p w => by kernel_rfl
  have ap125 : ∀ (p : Addr) (w : World), (Instr.typeAssert (.iface 79 (.pointer (some p))) 20 125 true).run Tryd.prog w = .ok (.tuple #[.pointer none, .bool false]) w := fun p w => by kernel_rfl
  have ap79 : ∀ (p : Addr) (w : World), (Instr.typeAssert (.iface 79 (.pointer (some p))) 20 79 true).run Tryd.prog w = .ok (.tuple #[.pointer (some p), .bool true]) w := fun p w => by kernel_rfl
  have ap132 : ∀ (p : Addr) (w : World), (Instr.typeAssert (.iface 79 (.pointer (some p))) 20 132 true).run Tryd.prog w = .ok (.tuple #[.pointer none, .bool false]) w := fun p w => by kernel_rfl
  go_enter Tryd.func24, Tryd.ntmps24
  go_wp2
  go_ret
  exact ⟨rfl, b2 w _⟩
/-- A decimal: its low word, its high word. -/
abbrev Dc := Int × Int
def dv (x : Dc) : Value := .agg #[.int .u64 x.1, .int .i64 x.2]
def dB (x : Dc) : List Int := leB 8 x.1 ++ leB 8 x.2
theorem dB_len (x : Dc) : (dB x).length = 16 := by unfold dB; rw [List.length_append, leB_len, leB_len]
theorem le_wrap (x : Int) : leB 8 (IntKind.u64.wrap x) = leB 8 x := by
  unfold leB
  apply List.map_congr_left
  intro j hj
  have hj4 : j < 8 := List.mem_range.1 hj
  have h : j = 0 ∨ j = 1 ∨ j = 2 ∨ j = 3 ∨ j = 4 ∨ j = 5 ∨ j = 6 ∨ j = 7 := by omega
  unfold byteN
  simp only [IntKind.wrap, IntKind.bits, IntKind.signed]
  rcases h with rfl | rfl | rfl | rfl | rfl | rfl | rfl | rfl <;> simp <;> omega
theorem put_put {α : Type} {us a b : List α} {o : Nat} (h : o + a.length + b.length ≤ us.length) : put (put us o a) (o + a.length) b = put us o (a ++ b) := by
  apply List.ext_getElem?
  intro i
  have e1 := put_get (us := put us o a) (seg := b) (o := o + a.length) (by rw [put_len (by omega)]; omega) i
  have e2 := put_get (us := us) (seg := a ++ b) (o := o) (by rw [List.length_append]; omega) i
  have e3 := put_get (us := us) (seg := a) (o := o) (by omega) i
  rw [e1, e2, e3, List.length_append]
  by_cases h1 : o + a.length ≤ i ∧ i < o + a.length + b.length
  · rw [if_pos h1, if_pos (by omega), List.getElem?_append_right (by omega)]
    congr 1
    omega
  · rw [if_neg h1]
    by_cases h2 : o ≤ i ∧ i < o + a.length
    · rw [if_pos h2, if_pos (by omega), List.getElem?_append_left (by omega)]
    · rw [if_neg h2, if_neg (by omega)]
set_option maxHeartbeats 8000000 in
set_option maxRecDepth 100000 in
theorem lob_is (x : Dc) (w : World) : Calls Tryd.prog 39 #[dv x] w fun e w' => e = .returned (.int .u64 x.1) ∧ Below w.heap.size w w' := QT.decimal128_Num_LowBits.calls x.1 x.2 x.1 w rfl
set_option maxHeartbeats 8000000 in
set_option maxRecDepth 100000 in
theorem hib_is (x : Dc) (w : World) : Calls Tryd.prog 40 #[dv x] w fun e w' => e = .returned (.int .i64 x.2) ∧ Below w.heap.size w w' := QT.decimal128_Num_HighBits.calls x.1 x.2 x.2 w rfl
set_option maxHeartbeats 8000000 in
set_option maxRecDepth 100000 in
theorem p1_is (g o n c : Nat) (et : Nat) (us : List Value) (x : Dc) (hx : 0 ≤ x.1 ∧ x.1 < 18446744073709551616) (w : World) (hg : w.heap[g]? = some (.cells us.toArray et (0, 0))) (hn : n = 16) (hc : 16 ≤ c) (ho : o + 16 ≤ us.length) (hb : ∃ y, us[o + 7]? = some (.int .u8 y)) (hb2 : ∃ y, us[o + 15]? = some (.int .u8 y)) :
    Calls Tryd.prog 25 #[.slice (some ⟨g, o, none⟩) n c, .agg #[.int .u64 x.1, .int .i64 x.2]] w fun e w' => e = .returned (.tuple #[]) ∧ w'.heap[g]? = some (.cells (put us o ((dB x).map (.int .u8))).toArray et (0, 0)) ∧ Fr w w' g g := by
  subst hn
  have ap80 : ∀ (p : Addr) (w : World), (Instr.typeAssert (.iface 79 (.pointer (some p))) 20 80 true).run Tryd.prog w = .ok (.tuple #[.pointer none, .bool false]) w := fun p w => by kernel_rfl
  have ap81 : ∀ (p : Addr) (w : World), (Instr.typeAssert (.iface 79 (.pointer (some p))) 20 81 true).run Tryd.prog w = .ok (.tuple #[.pointer none, .bool false]) w := fun p w => by kernel_rfl
  have ap82 : ∀ (p : Addr) (w : World), (Instr.typeAssert (.iface 79 (.pointer (some p))) 20 82 true).run Tryd.prog w = .ok (.tuple #[.pointer none, .bool false]) w := fun p w => by kernel_rfl
  have ap83 : ∀ (p : Addr) (w : World), (Instr.typeAssert (.iface 79 (.pointer (some p))) 20 83 true).run Tryd.prog w = .ok (.tuple #[.pointer none, .bool false]) w := fun p w => by kernel_rfl
  have ap84 : ∀ (p : Addr) (w : World), (Instr.typeAssert (.iface 79 (.pointer (some p))) 20 84 true).run Tryd.prog w = .ok (.tuple #[.pointer none, .bool false]) w := fun p w => by kernel_rfl
  have ap85 : ∀ (p : Addr) (w : World), (Instr.typeAssert (.iface 79 (.pointer (some p))) 20 85 true).run Tryd.prog w = .ok (.tuple #[.pointer none, .bool false]) w := fun p w => by kernel_rfl
  have ap86 : ∀ (p : Addr) (w : World), (Instr.typeAssert (.iface 79 (.pointer (some p))) 20 86 true).run Tryd.prog w = .ok (.tuple #[.pointer none, .bool false]) w := fun p w => by kernel_rfl
  have ap87 : ∀ (p : Addr) (w : World), (Instr.typeAssert (.iface 79 (.pointer (some p))) 20 87 true).run Tryd.prog w = .ok (.tuple #[.pointer none, .bool false]) w := fun p w => by kernel_rfl
  have ap88 : ∀ (p : Addr) (w : World), (Instr.typeAssert (.iface 79 (.pointer (some p))) 20 88 true).run Tryd.prog w = .ok (.tuple #[.pointer none, .bool false]) w := fun p w => by kernel_rfl
  have ap89 : ∀ (p : Addr) (w : World), (Instr.typeAssert (.iface 79 (.pointer (some p))) 20 89 true).run Tryd.prog w = .ok (.tuple #[.pointer none, .bool false]) w := fun p w => by kernel_rfl
  have ap90 : ∀ (p : Addr) (w : World), (Instr.typeAssert (.iface 79 (.pointer (some p))) 20 90 true).run Tryd.prog w = .ok (.tuple #[.pointer none, .bool false]) w := fun p w => by kernel_rfl
  have ap91 : ∀ (p : Addr) (w : World), (Instr.typeAssert (.iface 79 (.pointer (some p))) 20 91 true).run Tryd.prog w = .ok (.tuple #[.pointer none, .bool false]) w := fun p w => by kernel_rfl
  have ap92 : ∀ (p : Addr) (w : World), (Instr.typeAssert (.iface 79 (.pointer (some p))) 20 92 true).run Tryd.prog w = .ok (.tuple #[.pointer none, .bool false]) w := fun p w => by kernel_rfl
  have ap93 : ∀ (p : Addr) (w : World), (Instr.typeAssert (.iface 79 (.pointer (some p))) 20 93 true).run Tryd.prog w = .ok (.tuple #[.pointer none, .bool false]) w := fun p w => by kernel_rfl
  have ap94 : ∀ (p : Addr) (w : World), (Instr.typeAssert (.iface 79 (.pointer (some p))) 20 94 true).run Tryd.prog w = .ok (.tuple #[.pointer none, .bool false]) w := fun p w => by kernel_rfl
  have ap95 : ∀ (p : Addr) (w : World), (Instr.typeAssert (.iface 79 (.pointer (some p))) 20 95 true).run Tryd.prog w = .ok (.tuple #[.pointer none, .bool false]) w := fun p w => by kernel_rfl
  have ap96 : ∀ (p : Addr) (w : World), (Instr.typeAssert (.iface 79 (.pointer (some p))) 20 96 true).run Tryd.prog w = .ok (.tuple #[.pointer none, .bool false]) w := fun p w => by kernel_rfl
  have ap97 : ∀ (p : Addr) (w : World), (Instr.typeAssert (.iface 79 (.pointer (some p))) 20 97 true).run Tryd.prog w = .ok (.tuple #[.pointer none, .bool false]) w := fun p w => by kernel_rfl
  have ap98 : ∀ (p : Addr) (w : World), (Instr.typeAssert (.iface 79 (.pointer (some p))) 20 98 true).run Tryd.prog w = .ok (.tuple #[.pointer none, .bool false]) w := fun p w => by kernel_rfl
  have ap99 : ∀ (p : Addr) (w : World), (Instr.typeAssert (.iface 79 (.pointer (some p))) 20 99 true).run Tryd.prog w = .ok (.tuple #[.pointer none, .bool false]) w := fun p w => by kernel_rfl
  have ap100 : ∀ (p : Addr) (w : World), (Instr.typeAssert (.iface 79 (.pointer (some p))) 20 100 true).run Tryd.prog w = .ok (.tuple #[.pointer none, .bool false]) w := fun p w => by kernel_rfl
  have ap101 : ∀ (p : Addr) (w : World), (Instr.typeAssert (.iface 79 (.pointer (some p))) 20 101 true).run Tryd.prog w = .ok (.tuple #[.pointer none, .bool false]) w := fun p w => by kernel_rfl
  have ap125 : ∀ (p : Addr) (w : World), (Instr.typeAssert (.iface 79 (.pointer (some p))) 20 125 true).run Tryd.prog w = .ok (.tuple #[.pointer none, .bool false]) w := fun p w => by kernel_rfl
  have ap79 : ∀ (p : Addr) (w : World), (Instr.typeAssert (.iface 79 (.pointer (some p))) 20 79 true).run Tryd.prog w = .ok (.tuple #[.pointer (some p), .bool true]) w := fun p w => by kernel_rfl
  have ap132 : ∀ (p : Addr) (w : World), (Instr.typeAssert (.iface 79 (.pointer (some p))) 20 132 true).run Tryd.prog w = .ok (.tuple #[.pointer none, .bool false]) w := fun p w => by kernel_rfl
  have Q := Aside0.mk (And.intro hg (And.intro ho (And.intro hb hb2)))
  have QP := Aside0.mk (fun w1 (h1 : w1.heap[g]? = some (.cells us.toArray et (0, 0))) => pu64_is g o 16 c et us x.1 w1 hx h1 (by omega) (by omega) hb)
  have QP2 := Aside0.mk (fun w1 (h1 : w1.heap[g]? = some (.cells (put us o ((leB 8 x.1).map (.int .u8))).toArray et (0, 0))) => pu64_is g (o + 8) 8 (c - 8) et _ (IntKind.u64.wrap x.2) w1 (by simp only [IntKind.wrap, IntKind.bits, IntKind.signed]; simp; omega) h1 (Nat.le_refl _) (by rw [put_len (by rw [List.length_map, leB_len]; omega)]; omega) (by
    obtain ⟨y, hy⟩ := hb2
    refine ⟨y, ?_⟩
    rw [put_get (by rw [List.length_map, leB_len]; omega), if_neg (by rw [List.length_map, leB_len]; omega)]
    exact hy))
  have QL := Aside0.mk (fun w1 => lob_is x w1)
  have QH := Aside0.mk (fun w1 => hib_is x w1)
  obtain ⟨lo, hi⟩ := x
  have hc8 : ¬ (c - 8 = 0) := by omega
  have hc8b : ¬ c = 8 := by omega
  have hc9 : 8 ≤ c := by omega
  clear hg ho hb hb2 hx
  go_enter Tryd.func25, Tryd.ntmps25
  go_upto_region 73 with (fail)
  obtain ⟨W1, hW1⟩ : ∃ W1, W1 = w.alloc (.cells #[.int .u64 lo, .int .i64 hi] 50) := ⟨_, rfl⟩
  have g1 : W1.heap[g]? = some (.cells us.toArray et (0, 0)) := by rw [hW1]; exact blk_alloc Q.out.1 _
  have gn : W1.heap[w.heap.size]? = some (.cells #[.int .u64 lo, .int .i64 hi] 50 (0, 0)) := by rw [hW1]; exact blk_new w _
  have k0 : W1.cell? ⟨w.heap.size, 0, none⟩ = some (.int .u64 lo) := blk_cell gn 0
  have k1 : W1.cell? ⟨w.heap.size, 1, none⟩ = some (.int .i64 hi) := blk_cell gn 1
  have hF : Fr w W1 g g := by rw [hW1]; exact Fr.of_below (b2 w _)
  rw [← hW1]
  have Q1 := Aside0.mk (And.intro g1 (And.intro gn hF))
  simp only at QP QP2 QL QH
  unfold dv at QL QH
  clear g1 gn hF hW1
  have hgs : w.heap.size ≠ g := by have := blk_lt Q.out.1; omega
  go_cut [] from 278 (fun wc => Aside0 (wc.heap[g]? = some (.cells (put us o ((leB 8 lo).map (.int .u8))).toArray et (0, 0)) ∧ wc.heap[w.heap.size]? = some (.cells #[.int .u64 lo, .int .i64 hi] 50 (0, 0)) ∧ Fr w wc g g))
  case first =>
    refine wp_noP ?_
    go_region_with (first | (go_at_call 39; go_must (refine (QL.out _).mono ?_; rintro e w2 ⟨rfl, hb⟩; have Q2 := Aside0.mk (show Below W1.heap.size W1 w2 from ⟨hb.os, hb.tape, hb.output, hb.size, hb.block⟩); clear hb)) | (go_at_call 37; go_must (refine (QP.out w2 ((Q2.out.block g (blk_lt Q1.out.1)).trans Q1.out.1)).mono ?_; rintro e w3 ⟨rfl, h1, h2⟩; have Q3 := Aside0.mk (And.intro h1 h2); clear h1 h2)))
    all_goals (refine noP_normal ?_; go_wp2; go_meet)
    all_goals (refine ⟨⟨Q3.out.1, ?_, ?_⟩⟩)
    all_goals first | exact (Q1.out.2.2.trans (Fr.of_below Q2.out)).trans Q3.out.2 | skip
    all_goals exact (Q3.out.2.far _ (by have := Q2.out.size; have := blk_lt Q1.out.2.1; omega) hgs hgs).trans ((Q2.out.block _ (blk_lt Q1.out.2.1)).trans Q1.out.2.1)
  case rest =>
    have R := hcut
    clear hcut k0 k1
    have k0 : wc.cell? ⟨w.heap.size, 0, none⟩ = some (.int .u64 lo) := blk_cell R.out.2.1 0
    have k1 : wc.cell? ⟨w.heap.size, 1, none⟩ = some (.int .i64 hi) := blk_cell R.out.2.1 1
    go_upto_region 74 with (fail)
    refine wp_noP ?_
    go_region_with (first | (go_at_call 40; go_must (refine (QH.out _).mono ?_; rintro e w2 ⟨rfl, hb⟩; have Q2 := Aside0.mk (show Below wc.heap.size wc w2 from ⟨hb.os, hb.tape, hb.output, hb.size, hb.block⟩); clear hb)) | (go_at_call 37; go_must (refine (QP2.out w2 ((Q2.out.block g (blk_lt R.out.1)).trans R.out.1)).mono ?_; rintro e w3 ⟨rfl, h1, h2⟩; have Q3 := Aside0.mk (And.intro h1 h2); clear h1 h2)))
    all_goals
      refine noP_normal ?_
      go_end0
      refine ⟨rfl, ?_, (R.out.2.2.trans (Fr.of_below Q2.out)).trans Q3.out.2⟩
      have h := Q3.out.1
      rw [le_wrap] at h
      have hp := put_put (us := us) (a := (leB 8 lo).map (Value.int .u8)) (b := (leB 8 hi).map (Value.int .u8)) (o := o) (by rw [List.length_map, List.length_map, leB_len, leB_len]; have := Q.out.2.1; omega)
      rw [List.length_map, leB_len] at hp
      rw [h, hp]
      unfold dB
      rw [List.map_append]
end Go.Proofs.YtlnbkmkdapeicaaDoor.QR
