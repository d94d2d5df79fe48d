/- One decimal is put to its place in a row of bytes. -/
import Derived.Test.YtlnbkmkdapeicaaDoorF4
namespace Go.Proofs.YtlnbkmkdapeicaaDoor.QR
open Go.RowKit Go.Proofs.YtlnbkmkdapeicaaDoorW.PrintWords Go.Proofs.YtlnbkmkdapeicaaDoorW.PrintLast Go.Proofs.YtlnbkmkdapeicaaDoorW.PrintMore
set_option linter.unusedVariables false
set_option linter.unusedSimpArgs false
set_option maxHeartbeats 8000000 in
set_option maxRecDepth 100000 in
theorem pa_is (g N c i : Nat) (et : Nat) (us : List Value) (x : Dc) (hx : 0 ≤ x.1 ∧ x.1 < 18446744073709551616) (w : World) (hg : w.heap[g]? = some (.cells us.toArray et (0, 0))) (hN : N ≤ c) (hi : 16 * i + 16 ≤ N) (ho : N ≤ us.length) (hl : N ≤ 1000000) (hb : ∃ y, us[16 * i + 7]? = some (.int .u8 y)) (hb2 : ∃ y, us[16 * i + 15]? = some (.int .u8 y)) :
    Calls Tryd.prog 15 #[.slice (some ⟨g, 0, none⟩) N c, .int .i64 (i : Int), .agg #[.int .u64 x.1, .int .i64 x.2]] w fun e w' => e = .returned (.tuple #[]) ∧ w'.heap[g]? = some (.cells (put us (16 * i) ((dB x).map (.int .u8))).toArray et (0, 0)) ∧ Fr w w' g g := by
  have Q := Aside0.mk (And.intro hg (And.intro ho (And.intro hb hb2)))
  have QS := Aside0.mk (fun w => so_is w)
  obtain ⟨m, hm⟩ : ∃ m, m = 16 * i := ⟨_, rfl⟩
  have Qm := Aside0.mk hm
  have h1 : ((i : Int) * 16) = (m : Int) := by omega
  have h3 : IntKind.i64.wrap (m : Int) = (m : Int) := IntWalk.i64_in _ (by omega)
  have h3b : IntKind.i64.wrap ((m : Int) + 16) = (m : Int) + 16 := IntWalk.i64_in _ (by omega)
  have hii : (i : Int) ≤ 1000000 := by omega
  have h4 : (m : Int) + 16 ≤ (c : Int) := by omega
  have h4n : m + 16 ≤ c := by omega
  have h5 : (m : Int) ≤ (m : Int) + 16 := by omega
  have h6 : ¬ (c - m = 0) := by omega
  have h6b : ¬ c = m := by omega
  have h7 : ((m : Int) + 16).toNat = m + 16 := by omega
  have h8 : m + 16 - m = 16 := by omega
  have h9 : (0 : Int) ≤ (m : Int) + 16 := by omega
  have h10 : m ≤ m + 16 := by omega
  have h11 : m ≤ c := by omega
  have QP := Aside0.mk (fun w1 (hw1 : w1.heap[g]? = some (.cells us.toArray et (0, 0))) => p1_is g m 16 (c - m) et us x hx w1 hw1 rfl (by omega) (by omega) (by rw [hm]; exact hb) (by rw [hm]; exact hb2))
  clear hg hN hi ho hl hb hb2 hm
  obtain ⟨lo, hh⟩ := x
  simp only at QP ⊢
  clear hx
  go_enter Tryd.func15, Tryd.ntmps15
  go_upto_region 1 with (fail)
  obtain ⟨W1, hW1⟩ : ∃ W1, W1 = w.alloc (.cells #[.int .u64 lo, .int .i64 hh] 50) := ⟨_, rfl⟩
  have g1 : W1.heap[g]? = some (.cells us.toArray et (0, 0)) := by rw [hW1]; exact blk_alloc Q.out.1 _
  have gn : W1.heap[w.heap.size]? = some (.cells #[.int .u64 lo, .int .i64 hh] 50 (0, 0)) := by rw [hW1]; exact blk_new w _
  have hF : Fr w W1 g g := by rw [hW1]; exact Fr.of_below (b2 w _)
  rw [← hW1]
  have Q1 := Aside0.mk (And.intro g1 (And.intro gn hF))
  clear g1 gn hF hW1
  go_upto_region 2 with (go_at_call 24; refine (QS.out _).mono ?_; rintro e w2 ⟨rfl, hb⟩; have g2 := (hb.block w.heap.size (blk_lt Q1.out.2.1)).trans Q1.out.2.1; have k0 := blk_cell g2 0; have k1 := blk_cell g2 1; have Q2 := Aside0.mk (And.intro ((hb.block g (blk_lt Q1.out.1)).trans Q1.out.1) (Q1.out.2.2.trans (Fr.of_below hb))); clear hb g2)
  simp only [List.getElem?_toArray, List.getElem?_cons_succ, List.getElem?_cons_zero] at k0 k1
  refine wp_region_still_tail 11 (by kernel_rfl) (by kernel_rfl) ?_
  simp only [List.take_succ_cons, List.take_zero, List.drop_succ_cons, List.drop_zero]
  change wpStill _ _ (World.drew w2) _ _ _
  repeat still_step
  refine wpStill_nil ?_
  change wpList _ _ _ _ _ (World.drew w2)
  go_wp2_with (go_at_call 25; refine (QP.out w2.drew Q2.out.1).mono ?_; rintro e w5 ⟨rfl, h1, h2⟩; have Q5 := Aside0.mk (And.intro h1 h2); clear h1 h2)
  go_end0
  rw [Qm.out] at Q5
  exact ⟨rfl, Q5.out.1, Q2.out.2.trans ⟨Q5.out.2.os, Q5.out.2.tape, Q5.out.2.output, Q5.out.2.size, Q5.out.2.far⟩⟩
end Go.Proofs.YtlnbkmkdapeicaaDoor.QR
