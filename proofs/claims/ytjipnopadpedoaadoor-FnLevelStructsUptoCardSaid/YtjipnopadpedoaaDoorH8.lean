/- DefRepLevelsToBitmap; what goes to the package and what comes of it. -/
import Derived.Test.YtjipnopadpedoaaDoorH7
namespace Go.Proofs.YtjipnopadpedoaaDoor.QR
open Go.RowKit Go.Proofs.YtjipnopadpedoaaDoorW.PrintWords Go.Proofs.YtjipnopadpedoaaDoorW.PrintLast Go.Proofs.YtjipnopadpedoaaDoorW.PrintMore
set_option linter.unusedVariables false
set_option linter.unusedSimpArgs false
set_option maxHeartbeats 8000000 in
set_option maxRecDepth 100000 in
theorem db_is {D R : List Int} {us : List Value} (A1 A2 : Option Addr) (c1 c2 N f n c go gb B : Nat) (w : World)
    (hD : ∀ V, Below B w V → Kd.C (Kd.int .i16) V A1 D.length D) (hR : ∀ V, Below B w V → Kd.C (Kd.int .i16) V A2 R.length R) (hl : R.length = D.length) (h20 : D.length ≤ 4000000)
    (hD0 : ∀ j, j < D.length → 0 ≤ rd D (j : Int)) (hR0 : ∀ j, j < D.length → 0 ≤ rd R (j : Int))
    (ho : w.heap[go]? = some (.cells (ioC N 0 0 gb n c f) 68 (0, 0))) (hb : w.heap[gb]? = some (.cells us.toArray 5 (0, 0))) (hok : OkN us n) (hn : (f + N) / 8 < n) (hf : f ≤ 1000) (hN : N = 0 → D.length = 0) (hN5 : N ≤ 1000) (hBo : B ≤ go) (hBb : B ≤ gb) (hB2 : 2 ≤ B) (hG : Gm w) (hst : (stB D R D.length).length = N) :
    Calls Tryd.prog 14 #[.slice A1 D.length c1, .slice A2 R.length c2, .agg #[.int .i32 1, .int .i16 1, .int .i16 0, .int .i16 0], .pointer (some ⟨go, 0, none⟩)] w fun e w' => e = .returned .nilIface ∧ w'.heap[go]? = some (.cells (ioC N N (nulls (stB D R D.length)) gb n c f) 68 (0, 0)) ∧ (∃ us' : List Value, w'.heap[gb]? = some (.cells us'.toArray 5 (0, 0)) ∧ OkN us' n ∧ ∀ k, k < f + N → btN us' k = if k < f then btN us k else (stB D R D.length).getD (k - f) false) ∧ Below B w w' := by
  have hBs : B ≤ w.heap.size := Nat.le_trans hBo (Nat.le_of_lt (blk_lt ho))
  have Q := Aside0.mk (fun (W : World) (hW : Below w.heap.size w W) => liA_is (D := D) (R := R) (us := us) A1 A2 c1 c2 N f n c go gb B W (fun V hV => hD V ((hW.mono hBs).trans hV)) (fun V hV => hR V ((hW.mono hBs).trans hV)) hl h20 hD0 hR0 ((hW.block _ (blk_lt ho)).trans ho) ((hW.block _ (blk_lt hb)).trans hb) hok hn hf hN hN5 hBo hBb hB2 (hG.below hW hG.1) hst)
  have QB := Aside0.mk hBs
  rw [hl] at Q ⊢
  clear hD hR hD0 hR0 ho hb hok hn hN hG hst hBs hl
  go_enter Tryd.func14, Tryd.ntmps14
  go_upto_region 3 with fail
  refine wp_as (fun V => V.heap[w.heap.size]? = some (.cells inC 58 (0, 0)) ∧ Below w.heap.size w V) ⟨blk_new w _, b2 w _⟩ ?_
  rintro V ⟨v1, v2⟩
  obtain ⟨i0, i1, i2, i3, zi⟩ := in_cells v1
  have QV := Aside0.mk v2
  have Q1 := Aside0.mk (Q.out V v2)
  clear v1 v2
  go_wp2_with (go_at_call 21; (with_reducible refine Calls.mono Q1.out ?_); rintro e w2 ⟨rfl, h1⟩; have Q2 := Aside0.mk h1; clear h1)
  go_ret
  exact ⟨rfl, Q2.out.1, Q2.out.2.1, (QV.out.mono QB.out).trans Q2.out.2.2⟩
set_option maxHeartbeats 8000000 in
set_option maxRecDepth 100000 in
theorem told_is (N r nl gb n c f go : Nat) (w : World) (h : w.heap[go]? = some (.cells (ioC N r nl gb n c f) 68 (0, 0))) :
    Calls Tryd.prog 16 #[.pointer (some ⟨go, 0, none⟩)] w fun e w' => e = .returned (.agg #[.int .i64 (r : Int), .int .i64 (nl : Int), .slice (some ⟨gb, 0, none⟩) n c]) ∧ Below w.heap.size w w' := by
  have hlt := blk_lt h
  have Qh := Aside0.mk h
  clear h
  go_enter Tryd.func16, Tryd.ntmps16
  go_upto_region 1 with fail
  refine wp_as (fun V => V.heap[go]? = some (.cells (ioC N r nl gb n c f) 68 (0, 0)) ∧ Below w.heap.size w V ∧ V.heap[w.heap.size]? = some (.cells #[.int .i64 0, .int .i64 0, .slice none 0 0] 35 (0, 0))) ⟨blk_alloc Qh.out _, b2 w _, blk_new w _⟩ ?_
  rintro V ⟨v1, v2, v3⟩
  obtain ⟨c0, c1, c2, c3, c4, zz⟩ := io_cells (V := V.drew) v1
  have k0 : V.drew.cell? ⟨w.heap.size, 0, none⟩ = some (.int .i64 0) := blk_cell v3 0
  have k0v : V.cell? ⟨w.heap.size, 0, none⟩ = some (.int .i64 0) := blk_cell v3 0
  have k1 : V.drew.cell? ⟨w.heap.size, 1, none⟩ = some (.int .i64 0) := blk_cell v3 1
  have k1v : V.cell? ⟨w.heap.size, 1, none⟩ = some (.int .i64 0) := blk_cell v3 1
  have k2 : V.drew.cell? ⟨w.heap.size, 2, none⟩ = some (.slice none 0 0) := blk_cell v3 2
  have k2v : V.cell? ⟨w.heap.size, 2, none⟩ = some (.slice none 0 0) := blk_cell v3 2
  have zk : ∀ k, V.drew.frozen? ⟨w.heap.size, k, none⟩ = false := fun k => blk_frozen v3 k
  have zkv : ∀ k, V.frozen? ⟨w.heap.size, k, none⟩ = false := fun k => blk_frozen v3 k
  have QV := Aside0.mk (And.intro v2 v3)
  clear v1 v2 v3
  refine wp_region_still_tail 13 (by kernel_rfl) (by kernel_rfl) ?_; simp only [List.take_succ_cons, List.take_zero, List.drop_succ_cons, List.drop_zero]; change wpStill _ _ (World.drew _) _ _ _; (repeat still_step); refine wpStill_nil ?_; change wpList _ _ _ _ _ (World.drew _); go_wp2
  have QW := Aside0.mk (blk_set (blk_set (blk_set QV.out.2 0 (.int .i64 (r : Int))) 1 (.int .i64 (nl : Int))) 2 (.slice (some ⟨gb, 0, none⟩) n c))
  refine bodyPost_ret (results_cell_row rfl _ _ w.heap.size 35 #[.int .i64 (r : Int), .int .i64 (nl : Int), .slice (some ⟨gb, 0, none⟩) n c] (0, 0) _ rfl QW.out Tryd.underlying35 rfl (by kernel_rfl)) rfl ?_
  exact ⟨rfl, ((((QV.out.1.setCell (p := ⟨w.heap.size, 0, none⟩) (Nat.le_refl _) _).setCell (p := ⟨w.heap.size, 1, none⟩) (Nat.le_refl _) _).setCell (p := ⟨w.heap.size, 2, none⟩) (Nat.le_refl _) _)).drew⟩
end Go.Proofs.YtjipnopadpedoaaDoor.QR
