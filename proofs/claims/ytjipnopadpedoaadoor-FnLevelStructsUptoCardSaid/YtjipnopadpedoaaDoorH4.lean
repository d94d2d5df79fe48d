/- The writer of bits from a place on: a byte is full; the end; the start. -/
import Derived.Test.YtjipnopadpedoaaDoorH3
import Derived.Stop.LaidErr
namespace Go.Proofs.YtjipnopadpedoaaDoor.QR
open Go.RowKit Go.Proofs.YtjipnopadpedoaaDoorW.PrintWords Go.Proofs.YtjipnopadpedoaaDoorW.PrintLast Go.Proofs.YtjipnopadpedoaaDoorW.PrintMore
set_option linter.unusedVariables false
set_option linter.unusedSimpArgs false
set_option maxHeartbeats 8000000 in
set_option maxRecDepth 100000 in
theorem next7_is (gb n c pos len x bo g : Nat) (us : List Value) (et : Nat) (w : World) (hg : w.heap[g]? = some (.cells (wrC gb n c pos len x 128 bo) 80 (0, 0))) (hs : w.heap[gb]? = some (.cells us.toArray et (0, 0))) (hne : gb ≠ g) (hpos : pos < 1000000) (hbo : bo < 1000000) (hb : bo < n) (hb2 : ∃ u, us[bo]? = some u) :
    Calls Tryd.prog 47 #[.pointer (some ⟨g, 0, none⟩)] w fun e w' => e = .returned (.tuple #[]) ∧ w'.heap[g]? = some (.cells (wrC gb n c (pos + 1) len 0 1 (bo + 1)) 80 (0, 0)) ∧ w'.heap[gb]? = some (.cells (us.set bo (.int .u8 (x : Int))).toArray et (0, 0)) ∧ Fr w w' g gb := by
  obtain ⟨u, hu⟩ := hb2
  have w1 : IntKind.i64.wrap ((pos : Int) + 1) = ((pos + 1 : Nat) : Int) := by rw [IntWalk.i64_in _ (by omega)]; rfl
  have w2 : IntKind.i64.wrap ((bo : Int) + 1) = ((bo + 1 : Nat) : Int) := by rw [IntWalk.i64_in _ (by omega)]; rfl
  have eo : (128 : Int) * 2 % 256 = 0 := by omega
  have Qg := Aside0.mk (And.intro hg (And.intro hs hne))
  obtain ⟨c0, c1, c2, c3, c4, c5, zz⟩ := wr_cells hg
  have hbi : (bo : Int) < (n : Int) := by omega
  clear hg hpos hbo hs hb
  go_enter Tryd.func47, Tryd.ntmps47
  go_upto_region 4 with fail
  refine wp_as (fun V => V.heap[g]? = some (.cells (wrC gb n c (pos + 1) len x 1 bo) 80 (0, 0)) ∧ V.heap[gb]? = some (.cells us.toArray et (0, 0)) ∧ Fr w V g gb) ⟨blk_set (blk_set (blk_set Qg.out.1 4 (.int .u8 0)) 1 (.int .i64 ((pos + 1 : Nat) : Int))) 4 (.int .u8 1), ((((Fr.refl w g g).set g 4 _ (.inl rfl)).set g 1 _ (.inl rfl)).set g 4 _ (.inl rfl)).far gb (blk_lt Qg.out.2.1) Qg.out.2.2 Qg.out.2.2 |>.trans Qg.out.2.1, (((Fr.refl w g gb).set g 4 _ (.inl rfl)).set g 1 _ (.inl rfl)).set g 4 _ (.inl rfl)⟩ ?_
  rintro V ⟨v1, v2, v3⟩
  clear c0 c1 c2 c3 c4 c5 zz
  obtain ⟨c0, c1, c2, c3, c4, c5, zz⟩ := wr_cells (V := V.drew) v1
  have k : V.drew.cell? ⟨gb, bo, none⟩ = _ := blk_cell v2 bo
  rw [List.getElem?_toArray, hu] at k
  have zk : V.drew.frozen? ⟨gb, bo, none⟩ = false := blk_frozen v2 bo
  have c5v : V.cell? ⟨g, 5, none⟩ = some (.int .i64 (bo : Int)) := blk_cell v1 5
  have c3v : V.cell? ⟨g, 3, none⟩ = some (.int .u8 (x : Int)) := blk_cell v1 3
  have zv : ∀ k, V.frozen? ⟨g, k, none⟩ = false := fun k => blk_frozen v1 k
  have Qv := Aside0.mk (And.intro v1 (And.intro v2 v3))
  clear v1 v2 v3
  refine wp_region_still_tail 13 (by kernel_rfl) (by kernel_rfl) ?_; simp only [List.take_succ_cons, List.take_zero, List.drop_succ_cons, List.drop_zero]; change wpStill _ _ (World.drew _) _ _ _; (repeat still_step); refine wpStill_nil ?_; change wpList _ _ _ _ _ (World.drew _); go_wp2
  go_end0
  have hne := Qg.out.2.2
  have s1 := blk_set (w := V.drew) Qv.out.2.1 bo (.int .u8 (x : Int))
  rw [List.setIfInBounds_toArray] at s1
  have s2 : (V.drew.setCell ⟨gb, bo, none⟩ (.int .u8 (x : Int))).heap[g]? = some (.cells (wrC gb n c (pos + 1) len x 1 bo) 80 (0, 0)) := (Below.heap_setCell V.drew ⟨gb, bo, none⟩ _ g (fun h => hne h.symm)).trans Qv.out.1
  refine ⟨rfl, blk_set (blk_set s2 5 (.int .i64 ((bo + 1 : Nat) : Int))) 3 (.int .u8 0), ?_, (((Qv.out.2.2.set gb bo _ (.inr rfl)).set g 5 _ (.inl rfl)).set g 3 _ (.inl rfl)).drew⟩
  exact (Below.heap_setCell _ _ _ gb hne).trans ((Below.heap_setCell _ _ _ gb hne).trans s1)
set_option maxHeartbeats 8000000 in
set_option maxRecDepth 100000 in
theorem fin1_is (gb n c len x m bo g : Nat) (us : List Value) (et : Nat) (um : FrameMode) (w : World) (hg : w.heap[g]? = some (.cells (wrC gb n c len len x m bo) 80 (0, 0))) (hs : w.heap[gb]? = some (.cells us.toArray et (0, 0))) (hne : gb ≠ g) (hm : m ≠ 1) (hl : 1 ≤ len) (hb : bo < n) (hb2 : ∃ u, us[bo]? = some u) :
    CallsD Tryd.prog 46 #[.pointer (some ⟨g, 0, none⟩)] um w fun e u2 w' => u2 = um ∧ e = .returned (.tuple #[]) ∧ w'.heap[gb]? = some (.cells (us.set bo (.int .u8 (x : Int))).toArray et (0, 0)) ∧ Fr w w' gb gb := by
  obtain ⟨u, hu⟩ := hb2
  have Qg := Aside0.mk (And.intro hg (And.intro hs hne))
  obtain ⟨c0, c1, c2, c3, c4, c5, zz⟩ := wr_cells hg
  have hbi : (bo : Int) < (n : Int) := by omega
  have hl0 : (0 : Int) < (len : Int) := by omega
  have hm1 : ((m : Int) != 1) = true := by simp; omega
  have hl0b : decide ((0 : Int) < (len : Int)) = true := decide_eq_true hl0
  have hl0n : decide (0 < len) = true := decide_eq_true (by omega)
  have hl0m : 0 < len := by omega
  clear hg zz hs hl hm
  go_enter_d Tryd.func46, Tryd.ntmps46
  go_upto_region 0 with fail
  go_quiet (fail)
  go_wp2
  refine wp_as (fun V => V.heap[g]? = some (.cells (wrC gb n c len len x m bo) 80 (0, 0)) ∧ V.heap[gb]? = some (.cells us.toArray et (0, 0)) ∧ Fr w V gb gb) ⟨Qg.out.1, Qg.out.2.1, (Fr.refl w gb gb).drewN _⟩ ?_
  rintro V ⟨v1, v2, v3⟩
  clear c0 c1 c2 c3 c4 c5
  obtain ⟨c0, c1, c2, c3, c4, c5, zz⟩ := wr_cells (V := V.drew) v1
  have k : V.drew.cell? ⟨gb, bo, none⟩ = _ := blk_cell v2 bo
  rw [List.getElem?_toArray, hu] at k
  have zk : V.drew.frozen? ⟨gb, bo, none⟩ = false := blk_frozen v2 bo
  have Qv := Aside0.mk (And.intro v1 (And.intro v2 v3))
  clear v1 v2 v3 zz
  refine wp_region_still_tail 13 (by kernel_rfl) (by kernel_rfl) ?_; simp only [List.take_succ_cons, List.take_zero, List.drop_succ_cons, List.drop_zero]; change wpStill _ _ (World.drew _) _ _ _; (repeat still_step); refine wpStill_nil ?_; change wpList _ _ _ _ _ (World.drew _); go_wp2
  go_end0
  exact ⟨rfl, (by have hh := blk_set (w := V.drew) Qv.out.2.1 bo (.int .u8 (x : Int)); rw [List.setIfInBounds_toArray] at hh; exact hh), (Qv.out.2.2.set gb bo _ (.inl rfl)).drew⟩
set_option maxHeartbeats 8000000 in
set_option maxRecDepth 100000 in
theorem fin0_is (gb n c len x bo g : Nat) (um : FrameMode) (w : World) (hg : w.heap[g]? = some (.cells (wrC gb n c len len x 1 bo) 80 (0, 0))) (hl : 1 ≤ len) :
    CallsD Tryd.prog 46 #[.pointer (some ⟨g, 0, none⟩)] um w fun e u2 w' => u2 = um ∧ e = .returned (.tuple #[]) ∧ Below w.heap.size w w' := by
  obtain ⟨c0, c1, c2, c3, c4, c5, zz⟩ := wr_cells hg
  have hl0 : (0 : Int) < (len : Int) := by omega
  have hl0b : decide ((0 : Int) < (len : Int)) = true := decide_eq_true hl0
  have hl0n : decide (0 < len) = true := decide_eq_true (by omega)
  have hl0m : 0 < len := by omega
  have hllb : decide ((len : Int) < (len : Int)) = false := decide_eq_false (by omega)
  clear hg zz hl
  go_enter_d Tryd.func46, Tryd.ntmps46
  go_upto_region 0 with fail
  go_quiet (fail)
  go_wp2
  go_end0
  exact ⟨rfl, pw_below_drewN (Below.refl _ w) _⟩
set_option maxHeartbeats 8000000 in
set_option maxRecDepth 100000 in
/-- Of no bits, the end writes nothing. -/
theorem finz_is (gb n c x m bo g : Nat) (um : FrameMode) (w : World) (hg : w.heap[g]? = some (.cells (wrC gb n c 0 0 x m bo) 80 (0, 0))) :
    CallsD Tryd.prog 46 #[.pointer (some ⟨g, 0, none⟩)] um w fun e u2 w' => u2 = um ∧ e = .returned (.tuple #[]) ∧ Below w.heap.size w w' := by
  obtain ⟨c0, c1, c2, c3, c4, c5, zz⟩ := wr_cells hg
  clear hg zz
  go_enter_d Tryd.func46, Tryd.ntmps46
  go_upto_region 0 with fail
  go_quiet (fail)
  go_wp2
  go_end0
  exact ⟨rfl, pw_below_drewN (Below.refl _ w) _⟩
theorem pre8 (x m : Nat) (hx : x < 256) : bits .and .u8 (x : Int) ((2 ^ m - 1 : Nat) : Int) = ((x % 2 ^ m : Nat) : Int) ∨ 256 ≤ 2 ^ m - 1 := by
  by_cases h : 2 ^ m - 1 < 256
  · refine .inl ?_
    rw [u8_and_nat x _ hx h, Nat.and_two_pow_sub_one_eq_mod]
  · exact .inr (by omega)
set_option maxHeartbeats 8000000 in
set_option maxRecDepth 100000 in
theorem ft_is {us : List Value} {L : Nat} (gb n c et f len : Nat) (w : World) (h : OkN us L) (hs : w.heap[gb]? = some (.cells us.toArray et (0, 0))) (hlen : 1 ≤ len) (hf : f < 1000000) (hn : f / 8 < n) (hq : f / 8 < L) (hG : Gm w) :
    Calls Tryd.prog 24 #[.slice (some ⟨gb, 0, none⟩) n c, .int .i64 (f : Int), .int .i64 (len : Int)] w fun e w' => e = .returned (.iface 77 (.pointer (some ⟨w.heap.size, 0, none⟩))) ∧ w'.heap[w.heap.size]? = some (.cells (wrC gb n c 0 len (byN us (f / 8) % 2 ^ (f % 8)) (2 ^ (f % 8)) (f / 8)) 80 (0, 0)) ∧ Below w.heap.size w w' := by
  have hm8 : f % 8 < 8 := Nat.mod_lt _ (by omega)
  have hx := (h.at hq).2
  have c0 := blk_cell hs (f / 8)
  rw [List.getElem?_toArray, (h.at hq).1] at c0
  have p8 := pow8 hm8
  have eo : bits .and .u8 (byN us (f / 8) : Int) ((2 ^ (f % 8) - 1 : Nat) : Int) = ((byN us (f / 8) % 2 ^ (f % 8) : Nat) : Int) := by
    rcases pre8 (byN us (f / 8)) (f % 8) hx with h | h
    · exact h
    · omega
  have k3 := hG.2.1 (f % 8) hm8
  have k4 := hG.2.2 (f % 8) hm8
  have d0 : (f : Int) / 8 = ((f / 8 : Nat) : Int) := by omega
  have m0 : (f : Int) % 8 = ((f % 8 : Nat) : Int) := by omega
  have m0t : Int.tmod (f : Int) 8 = ((f % 8 : Nat) : Int) := rfl
  generalize byN us (f / 8) % 2 ^ (f % 8) = y at eo ⊢
  generalize byN us (f / 8) = x at *
  generalize 2 ^ (f % 8) - 1 = mk1 at *
  generalize 2 ^ (f % 8) = mk at *
  generalize f / 8 = q at *
  generalize f % 8 = r at *
  have g1 : (0 : Int) < (len : Int) := by omega
  have g2 : (q : Int) < (n : Int) := by omega
  have g3 : (r : Int) < 8 := by omega
  have hgl := blk_lt hs
  have hg0 := hG.1
  have kv := cell?_alloc_old (.cells (wrC gb n c 0 len 0 mk q) 80) c0
  have kv4 := cell?_alloc_old (.cells (wrC gb n c 0 len 0 mk q) 80) k4
  clear h hs hlen hn hq hG
  go_enter Tryd.func24, Tryd.ntmps24
  go_upto_region 3 with fail
  refine wp_as (fun V => V.heap[w.heap.size]? = some (.cells (wrC gb n c 0 len 0 mk q) 80 (0, 0)) ∧ V.cell? ⟨gb, q, none⟩ = some (.int .u8 (x : Int)) ∧ V.cell? ⟨1, r, none⟩ = some (.int .u8 (mk1 : Int)) ∧ Below w.heap.size w V) ⟨blk_new w _, kv, kv4, b2 w _⟩ ?_
  rintro V ⟨v1, v2, v3, v4⟩
  clear c0 k3 k4 kv kv4
  obtain ⟨c0, c1, c2, c3, c4, c5, zz⟩ := wr_cells (V := V.drew) v1
  have u2 : V.drew.cell? ⟨gb, q, none⟩ = some (.int .u8 (x : Int)) := v2
  have u3 : V.drew.cell? ⟨1, r, none⟩ = some (.int .u8 (mk1 : Int)) := v3
  have Qv := Aside0.mk (And.intro v1 v4)
  clear v1 v2 v3 v4
  refine wp_region_still_tail 18 (by kernel_rfl) (by kernel_rfl) ?_; simp only [List.take_succ_cons, List.take_zero, List.drop_succ_cons, List.drop_zero]; change wpStill _ _ (World.drew _) _ _ _; (repeat still_step); refine wpStill_nil ?_; change wpList _ _ _ _ _ (World.drew _); go_wp2
  go_ret
  exact ⟨rfl, blk_set Qv.out.1 3 (.int .u8 (y : Int)), (Qv.out.2.setCell (Nat.le_refl _) _).drew⟩
end Go.Proofs.YtjipnopadpedoaaDoor.QR
