/- The writer of single bits. -/
import Derived.Test.YtoceclgljmdkeaaDoorA4
namespace Go.Proofs.YtoceclgljmdkeaaDoor.QR
open Go.RowKit Go.Proofs.YtoceclgljmdkeaaDoorW.PrintWords Go.Proofs.YtoceclgljmdkeaaDoorW.PrintLast Go.Proofs.YtoceclgljmdkeaaDoorW.PrintMore
set_option linter.unusedVariables false
set_option linter.unusedSimpArgs false
def bwC (gd q n c pos len cur mask bo : Nat) : Array Value := #[.slice (some ⟨gd, q, none⟩) n c, .int .i64 (pos : Int), .int .i64 (len : Int), .int .u8 (cur : Int), .int .u8 (mask : Int), .int .i64 (bo : Int)]
theorem bw_cells {V : World} {gd q n c pos len cur mask bo g : Nat} (h : V.heap[g]? = some (.cells (bwC gd q n c pos len cur mask bo) 129 (0, 0))) : V.cell? ⟨g, 0, none⟩ = some (.slice (some ⟨gd, q, none⟩) n c) ∧ V.cell? ⟨g, 1, none⟩ = some (.int .i64 (pos : Int)) ∧ V.cell? ⟨g, 2, none⟩ = some (.int .i64 (len : Int)) ∧ V.cell? ⟨g, 3, none⟩ = some (.int .u8 (cur : Int)) ∧ V.cell? ⟨g, 4, none⟩ = some (.int .u8 (mask : Int)) ∧ V.cell? ⟨g, 5, none⟩ = some (.int .i64 (bo : Int)) ∧ (∀ k, V.frozen? ⟨g, k, none⟩ = false) :=
  ⟨blk_cell h 0, blk_cell h 1, blk_cell h 2, blk_cell h 3, blk_cell h 4, blk_cell h 5, fun k => blk_frozen h k⟩
/-- One bit of a byte as told. -/
def setN (x m : Nat) (b : Bool) : Nat := if b then x ||| 2 ^ m else x &&& (255 - 2 ^ m)
theorem setN_all : ∀ (x : Fin 256) (m i : Fin 8) (b : Bool), (setN x.1 m.1 b).testBit i.1 = if i.1 = m.1 then b else x.1.testBit i.1 := by decide +kernel
theorem setN_bit {x m i : Nat} (b : Bool) (hx : x < 256) (hm : m < 8) (hi : i < 8) : (setN x m b).testBit i = if i = m then b else x.testBit i := setN_all ⟨x, hx⟩ ⟨m, hm⟩ ⟨i, hi⟩ b
theorem setN_lt {x m : Nat} (b : Bool) (hx : x < 256) (hm : m < 8) : setN x m b < 256 := by
  have : 2 ^ m ≤ 2 ^ 7 := Nat.pow_le_pow_right (by omega) (by omega)
  unfold setN
  cases b
  · simp only [Bool.false_eq_true, if_false]
    exact Nat.lt_of_le_of_lt Nat.and_le_left hx
  · simp only [if_true]
    exact Nat.or_lt_two_pow (n := 8) hx (by omega)
set_option maxHeartbeats 8000000 in
set_option maxRecDepth 100000 in
theorem bwset_is (gd q n c pos len x m bo g : Nat) (w : World) (hg : w.heap[g]? = some (.cells (bwC gd q n c pos len x (2 ^ m) bo) 129 (0, 0))) (hx : x < 256) (hm : m < 8) :
    Calls Tryd.prog 57 #[.pointer (some ⟨g, 0, none⟩)] w fun e w' => e = .returned (.tuple #[]) ∧ w'.heap[g]? = some (.cells (bwC gd q n c pos len (setN x m true) (2 ^ m) bo) 129 (0, 0)) ∧ Fr w w' g g := by
  have hp : 2 ^ m < 256 := by have : 2 ^ m ≤ 2 ^ 7 := Nat.pow_le_pow_right (by omega) (by omega); omega
  have eo : bits .or .u8 (x : Int) ((2 ^ m : Nat) : Int) = (setN x m true : Int) := u8_or_nat x _ hx hp
  have Qg := Aside0.mk hg
  obtain ⟨c0, c1, c2, c3, c4, c5, zz⟩ := bw_cells (V := w.drew) hg
  have z3 := zz 3
  generalize setN x m true = y at eo ⊢
  generalize 2 ^ m = mk at *
  clear hg zz hx hm hp
  go_enter Tryd.func57, Tryd.ntmps57
  refine wp_region_still_tail 11 (by kernel_rfl) (by kernel_rfl) ?_; simp only [List.take_succ_cons, List.take_zero, List.drop_succ_cons, List.drop_zero]; change wpStill _ _ (World.drew _) _ _ _; (repeat still_step); refine wpStill_nil ?_; change wpList _ _ _ _ _ (World.drew _); go_wp2
  go_end0
  exact ⟨rfl, blk_set Qg.out 3 (.int .u8 (y : Int)), ((Fr.refl w g g).set g 3 _ (.inl rfl)).drew⟩
set_option maxHeartbeats 8000000 in
set_option maxRecDepth 100000 in
theorem bwclr_is (gd q n c pos len x m bo g : Nat) (w : World) (hg : w.heap[g]? = some (.cells (bwC gd q n c pos len x (2 ^ m) bo) 129 (0, 0))) (hx : x < 256) (hm : m < 8) :
    Calls Tryd.prog 58 #[.pointer (some ⟨g, 0, none⟩)] w fun e w' => e = .returned (.tuple #[]) ∧ w'.heap[g]? = some (.cells (bwC gd q n c pos len (setN x m false) (2 ^ m) bo) 129 (0, 0)) ∧ Fr w w' g g := by
  have hp : 2 ^ m < 256 := by have : 2 ^ m ≤ 2 ^ 7 := Nat.pow_le_pow_right (by omega) (by omega); omega
  have ex : bits .xor .u8 IntKind.u8.max ((2 ^ m : Nat) : Int) = ((255 - 2 ^ m : Nat) : Int) := by
    rcases pw8 hm with rfl | rfl | rfl | rfl | rfl | rfl | rfl | rfl <;> decide
  have e255 : 255 - 2 ^ m < 256 := Nat.lt_of_le_of_lt (Nat.sub_le _ _) (by omega)
  have eo : bits .and .u8 (x : Int) (bits .xor .u8 IntKind.u8.max ((2 ^ m : Nat) : Int)) = (setN x m false : Int) := by
    rw [ex]
    exact u8_and_nat x _ hx e255
  have Qg := Aside0.mk hg
  obtain ⟨c0, c1, c2, c3, c4, c5, zz⟩ := bw_cells (V := w.drew) hg
  have z3 := zz 3
  generalize setN x m false = y at eo ⊢
  generalize 2 ^ m = mk at *
  clear hg zz hx hm hp ex e255
  go_enter Tryd.func58, Tryd.ntmps58
  refine wp_region_still_tail 12 (by kernel_rfl) (by kernel_rfl) ?_; simp only [List.take_succ_cons, List.take_zero, List.drop_succ_cons, List.drop_zero]; change wpStill _ _ (World.drew _) _ _ _; (repeat still_step); refine wpStill_nil ?_; change wpList _ _ _ _ _ (World.drew _)
  go_wp2
  go_end0
  exact ⟨rfl, blk_set Qg.out 3 (.int .u8 (y : Int)), ((Fr.refl w g g).set g 3 _ (.inl rfl)).drew⟩
end Go.Proofs.YtoceclgljmdkeaaDoor.QR
/- The writer of single bits: on to the next; the end. -/
namespace Go.Proofs.YtoceclgljmdkeaaDoor.QR
open Go.RowKit Go.Proofs.YtoceclgljmdkeaaDoorW.PrintWords Go.Proofs.YtoceclgljmdkeaaDoorW.PrintLast Go.Proofs.YtoceclgljmdkeaaDoorW.PrintMore
set_option linter.unusedVariables false
set_option linter.unusedSimpArgs false
set_option maxHeartbeats 8000000 in
set_option maxRecDepth 100000 in
theorem bwna_is (gd q n c pos len x m bo g : Nat) (w : World) (hg : w.heap[g]? = some (.cells (bwC gd q n c pos len x (2 ^ m) bo) 129 (0, 0))) (hm : m < 7) (hpos : pos < 10) :
    Calls Tryd.prog 59 #[.pointer (some ⟨g, 0, none⟩)] w fun e w' => e = .returned (.tuple #[]) ∧ w'.heap[g]? = some (.cells (bwC gd q n c (pos + 1) len x (2 ^ (m + 1)) bo) 129 (0, 0)) ∧ Fr w w' g g := by
  have em : IntKind.u8.wrap (((2 ^ m : Nat) : Int) * 2) = ((2 ^ (m + 1) : Nat) : Int) := by
    rcases pw8 (show m < 8 by omega) with rfl | rfl | rfl | rfl | rfl | rfl | rfl | rfl <;> first | decide | omega
  have e0 : ¬ ((2 ^ (m + 1) : Nat) : Int) = 0 := by have := Nat.two_pow_pos (m + 1); omega
  have w2 : IntKind.i64.wrap ((pos : Int) + 1) = ((pos + 1 : Nat) : Int) := by rw [IntWalk.i64_in _ (by omega)]; rfl
  have Qg := Aside0.mk hg
  obtain ⟨c0, c1, c2, c3, c4, c5, zz⟩ := bw_cells hg
  have z1 := zz 1
  have z4 := zz 4
  generalize 2 ^ (m + 1) = mk2 at *
  generalize 2 ^ m = mk at *
  clear hg zz hm
  go_enter Tryd.func59, Tryd.ntmps59
  go_wp2
  go_end0
  exact ⟨rfl, blk_set (blk_set Qg.out 4 (.int .u8 (mk2 : Int))) 1 (.int .i64 ((pos : Int) + 1)), ((Fr.refl w g g).set g 4 _ (.inl rfl)).set g 1 _ (.inl rfl)⟩
set_option maxHeartbeats 8000000 in
set_option maxRecDepth 100000 in
theorem bwnb_is {us : List Value} {L : Nat} (gd q n c pos len x bo g et : Nat) (w : World) (hg : w.heap[g]? = some (.cells (bwC gd q n c pos len x 128 bo) 129 (0, 0))) (h : OkN us L) (hs : w.heap[gd]? = some (.cells us.toArray et (0, 0))) (hne : gd ≠ g) (hpos : pos < 10) (hlen : len < 10) (hbo : bo < 10) (hb : bo < n) (hb2 : q + bo < L) (hb3 : pos + 1 < len → bo + 1 < n ∧ q + bo + 1 < L) :
    Calls Tryd.prog 59 #[.pointer (some ⟨g, 0, none⟩)] w fun e w' => e = .returned (.tuple #[]) ∧ w'.heap[g]? = some (.cells (bwC gd q n c (pos + 1) len (if pos + 1 < len then byN us (q + bo + 1) else x) 1 (bo + 1)) 129 (0, 0)) ∧ w'.heap[gd]? = some (.cells (us.set (q + bo) (.int .u8 (x : Int))).toArray et (0, 0)) ∧ Fr w w' g gd := by
  have w2 : IntKind.i64.wrap ((pos : Int) + 1) = ((pos + 1 : Nat) : Int) := by rw [IntWalk.i64_in _ (by omega)]; rfl
  have w3 : IntKind.i64.wrap ((bo : Int) + 1) = ((bo + 1 : Nat) : Int) := by rw [IntWalk.i64_in _ (by omega)]; rfl
  have Qg := Aside0.mk (And.intro hg (And.intro hs hne))
  obtain ⟨c0, c1, c2, c3, c4, c5, zz⟩ := bw_cells hg
  have z1 := zz 1
  have z4 := zz 4
  have hbi : (bo : Int) < (n : Int) := by omega
  clear hg zz
  have kx := (h.at hb2).1
  by_cases hp : pos + 1 < len
  · have h7 : ((pos + 1 : Nat) : Int) < (len : Int) := by omega
    obtain ⟨i1, i2⟩ := hb3 hp
    have hbi2 : (bo : Int) + 1 < (n : Int) := by omega
    have hb02 : (0 : Int) ≤ (bo : Int) + 1 := by omega
    rw [if_pos hp, show q + bo + 1 = q + (bo + 1) from rfl]
    have ky := (h.at (show q + (bo + 1) < L by omega)).1
    generalize byN us (q + (bo + 1)) = y at ky ⊢
    have ky2 : (us.set (q + bo) (.int .u8 (x : Int)))[q + (bo + 1)]? = some (.int .u8 (y : Int)) := by rw [List.getElem?_set_ne (by omega)]; exact ky
    clear h hb3 hb hb2 hpos hlen hbo hp
    go_enter Tryd.func59, Tryd.ntmps59
    go_wp2
    refine wp_as (fun V => V.heap[g]? = some (.cells (bwC gd q n c (pos + 1) len x 1 bo) 129 (0, 0)) ∧ V.heap[gd]? = some (.cells us.toArray et (0, 0)) ∧ Fr w V g gd) ⟨blk_set (blk_set (blk_set Qg.out.1 4 (.int .u8 0)) 1 (.int .i64 ((pos : Int) + 1))) 4 (.int .u8 1), ((Below.heap_setCell _ ⟨g, 4, none⟩ _ gd Qg.out.2.2).trans ((Below.heap_setCell _ ⟨g, 1, none⟩ _ gd Qg.out.2.2).trans (Below.heap_setCell _ ⟨g, 4, none⟩ _ gd Qg.out.2.2))).trans Qg.out.2.1, (((Fr.refl w g gd).set g 4 _ (.inl rfl)).set g 1 _ (.inl rfl)).set g 4 _ (.inl rfl)⟩ ?_
    rintro V ⟨v1, v2, v3⟩
    clear c0 c1 c2 c3 c4 c5 z1 z4
    obtain ⟨c0, c1, c2, c3, c4, c5, zz⟩ := bw_cells (V := V.drew) v1
    have k : V.drew.cell? ⟨gd, q + bo, none⟩ = _ := blk_cell v2 (q + bo)
    rw [List.getElem?_toArray, kx] at k
    have zk : V.drew.frozen? ⟨gd, q + bo, none⟩ = false := blk_frozen v2 (q + bo)
    have Qv := Aside0.mk (And.intro v1 (And.intro v2 v3))
    clear v1 v2 v3 zz
    refine wp_region_still_tail 13 (by kernel_rfl) (by kernel_rfl) ?_; simp only [List.take_succ_cons, List.take_zero, List.drop_succ_cons, List.drop_zero]; change wpStill _ _ (World.drew _) _ _ _; (repeat still_step); refine wpStill_nil ?_; change wpList _ _ _ _ _ (World.drew _)
    go_upto_region 5 with fail
    refine wp_as (fun V => V.heap[g]? = some (.cells (bwC gd q n c (pos + 1) len x 1 bo) 129 (0, 0)) ∧ V.heap[gd]? = some (.cells (us.set (q + bo) (.int .u8 (x : Int))).toArray et (0, 0)) ∧ Fr w V g gd) ⟨(Below.heap_setCell V.drew ⟨gd, q + bo, none⟩ _ g Qg.out.2.2.symm).trans Qv.out.1, (by have hh := blk_set (w := V.drew) Qv.out.2.1 (q + bo) (.int .u8 (x : Int)); rw [List.setIfInBounds_toArray] at hh; exact hh), (Qv.out.2.2.drew).set gd (q + bo) _ (.inr rfl)⟩ ?_
    rintro U ⟨v1, v2, v3⟩
    clear c0 c1 c2 c3 c4 c5 k zk
    obtain ⟨c0, c1, c2, c3, c4, c5, zz⟩ := bw_cells v1
    have z5 := zz 5
    have Qu := Aside0.mk (And.intro v1 (And.intro v2 v3))
    clear v1 v2 v3 zz
    go_wp2
    go_quiet (fail)
    go_wp2
    refine wp_as (fun V => V.heap[g]? = some (.cells (bwC gd q n c (pos + 1) len x 1 (bo + 1)) 129 (0, 0)) ∧ V.heap[gd]? = some (.cells (us.set (q + bo) (.int .u8 (x : Int))).toArray et (0, 0)) ∧ Fr w V g gd) ⟨blk_set Qu.out.1 5 (.int .i64 ((bo : Int) + 1)), (Below.heap_setCell _ ⟨g, 5, none⟩ _ gd Qg.out.2.2).trans Qu.out.2.1, ((Qu.out.2.2.set g 5 (.int .i64 ((bo : Int) + 1)) (.inl rfl)).drewN nq)⟩ ?_
    rintro X ⟨v1, v2, v3⟩
    clear c0 c1 c2 c3 c4 c5 z5
    obtain ⟨c0, c1, c2, c3, c4, c5, zz⟩ := bw_cells (V := X.drew) v1
    have z3 := zz 3
    have k : X.drew.cell? ⟨gd, q + (bo + 1), none⟩ = _ := blk_cell v2 (q + (bo + 1))
    rw [List.getElem?_toArray, ky2] at k
    have Qx := Aside0.mk (And.intro v1 (And.intro v2 v3))
    clear v1 v2 v3 zz
    refine wp_region_still_tail 13 (by kernel_rfl) (by kernel_rfl) ?_; simp only [List.take_succ_cons, List.take_zero, List.drop_succ_cons, List.drop_zero]; change wpStill _ _ (World.drew _) _ _ _; (repeat still_step); refine wpStill_nil ?_; change wpList _ _ _ _ _ (World.drew _); go_wp2
    go_end0
    exact ⟨rfl, blk_set (w := X.drew) Qx.out.1 3 (.int .u8 (y : Int)), (Below.heap_setCell X.drew ⟨g, 3, none⟩ _ gd Qg.out.2.2).trans Qx.out.2.1, (Qx.out.2.2.set g 3 _ (.inl rfl)).drew⟩
  · have h7 : ¬ ((pos + 1 : Nat) : Int) < (len : Int) := by omega
    rw [if_neg hp]
    clear h hb3 hb hb2 hpos hlen hbo hp
    go_enter Tryd.func59, Tryd.ntmps59
    go_wp2
    refine wp_as (fun V => V.heap[g]? = some (.cells (bwC gd q n c (pos + 1) len x 1 bo) 129 (0, 0)) ∧ V.heap[gd]? = some (.cells us.toArray et (0, 0)) ∧ Fr w V g gd) ⟨blk_set (blk_set (blk_set Qg.out.1 4 (.int .u8 0)) 1 (.int .i64 ((pos : Int) + 1))) 4 (.int .u8 1), ((Below.heap_setCell _ ⟨g, 4, none⟩ _ gd Qg.out.2.2).trans ((Below.heap_setCell _ ⟨g, 1, none⟩ _ gd Qg.out.2.2).trans (Below.heap_setCell _ ⟨g, 4, none⟩ _ gd Qg.out.2.2))).trans Qg.out.2.1, (((Fr.refl w g gd).set g 4 _ (.inl rfl)).set g 1 _ (.inl rfl)).set g 4 _ (.inl rfl)⟩ ?_
    rintro V ⟨v1, v2, v3⟩
    clear c0 c1 c2 c3 c4 c5 z1 z4
    obtain ⟨c0, c1, c2, c3, c4, c5, zz⟩ := bw_cells (V := V.drew) v1
    have k : V.drew.cell? ⟨gd, q + bo, none⟩ = _ := blk_cell v2 (q + bo)
    rw [List.getElem?_toArray, kx] at k
    have zk : V.drew.frozen? ⟨gd, q + bo, none⟩ = false := blk_frozen v2 (q + bo)
    have Qv := Aside0.mk (And.intro v1 (And.intro v2 v3))
    clear v1 v2 v3 zz
    refine wp_region_still_tail 13 (by kernel_rfl) (by kernel_rfl) ?_; simp only [List.take_succ_cons, List.take_zero, List.drop_succ_cons, List.drop_zero]; change wpStill _ _ (World.drew _) _ _ _; (repeat still_step); refine wpStill_nil ?_; change wpList _ _ _ _ _ (World.drew _)
    go_upto_region 5 with fail
    refine wp_as (fun V => V.heap[g]? = some (.cells (bwC gd q n c (pos + 1) len x 1 bo) 129 (0, 0)) ∧ V.heap[gd]? = some (.cells (us.set (q + bo) (.int .u8 (x : Int))).toArray et (0, 0)) ∧ Fr w V g gd) ⟨(Below.heap_setCell V.drew ⟨gd, q + bo, none⟩ _ g Qg.out.2.2.symm).trans Qv.out.1, (by have hh := blk_set (w := V.drew) Qv.out.2.1 (q + bo) (.int .u8 (x : Int)); rw [List.setIfInBounds_toArray] at hh; exact hh), (Qv.out.2.2.drew).set gd (q + bo) _ (.inr rfl)⟩ ?_
    rintro U ⟨v1, v2, v3⟩
    clear c0 c1 c2 c3 c4 c5 k zk
    obtain ⟨c0, c1, c2, c3, c4, c5, zz⟩ := bw_cells v1
    have z5 := zz 5
    have Qu := Aside0.mk (And.intro v1 (And.intro v2 v3))
    clear v1 v2 v3 zz
    go_wp2
    go_quiet (fail)
    go_wp2
    go_end0
    exact ⟨rfl, blk_set Qu.out.1 5 (.int .i64 ((bo : Int) + 1)), (Below.heap_setCell _ ⟨g, 5, none⟩ _ gd Qg.out.2.2).trans Qu.out.2.1, (Qu.out.2.2.set g 5 (.int .i64 ((bo : Int) + 1)) (.inl rfl)).drewN _⟩
end Go.Proofs.YtoceclgljmdkeaaDoor.QR
/- The writer of single bits: the end, the start. -/
namespace Go.Proofs.YtoceclgljmdkeaaDoor.QR
open Go.RowKit Go.Proofs.YtoceclgljmdkeaaDoorW.PrintWords Go.Proofs.YtoceclgljmdkeaaDoorW.PrintLast Go.Proofs.YtoceclgljmdkeaaDoorW.PrintMore
set_option linter.unusedVariables false
set_option linter.unusedSimpArgs false
/-- The masks of single bits, of those ahead of one and of those from it on stand in package-level variables. -/
def Gm (w : World) : Prop := 4 ≤ w.heap.size ∧ (∀ k, k < 8 → w.cell? ⟨3, k, none⟩ = some (.int .u8 ((2 ^ k : Nat) : Int))) ∧ (∀ k, k < 8 → w.cell? ⟨0, k, none⟩ = some (.int .u8 ((2 ^ k - 1 : Nat) : Int))) ∧ ∀ k, k < 8 → w.cell? ⟨1, k, none⟩ = some (.int .u8 ((256 - 2 ^ k : Nat) : Int))
theorem Gm.keep {w w' : World} (h : Gm w) (hs : w.heap.size ≤ w'.heap.size) (hk : ∀ g, g < 4 → w'.heap[g]? = w.heap[g]?) : Gm w' := by
  have key : ∀ g k, g < 4 → w'.cell? ⟨g, k, none⟩ = w.cell? ⟨g, k, none⟩ := fun g k hg => by
    unfold World.cell?
    rw [show (⟨g, k, none⟩ : Addr).block = g from rfl, hk g hg]
  exact ⟨Nat.le_trans h.1 hs, fun k hk => (key 3 k (by omega)).trans (h.2.1 k hk), fun k hk => (key 0 k (by omega)).trans (h.2.2.1 k hk), fun k hk => (key 1 k (by omega)).trans (h.2.2.2 k hk)⟩
theorem Gm.below {w w' : World} (h : Gm w) {B : Nat} (hB : Below B w w') (h0 : 4 ≤ B) : Gm w' := h.keep hB.size (fun g hg => hB.block g (by omega))
theorem Gm.fr {w w' : World} {a b : Nat} (h : Gm w) (hF : Fr w w' a b) (ha : 4 ≤ a) (hb : 4 ≤ b) : Gm w' := h.keep hF.size (fun g hg => hF.far g (by have := h.1; omega) (by omega) (by omega))
theorem Gm.drew {w : World} (h : Gm w) : Gm w.drew := h
set_option maxHeartbeats 8000000 in
set_option maxRecDepth 100000 in
theorem bwf1_is (gd q n c pos len x mk bo g et : Nat) (us : List Value) (w : World) (hg : w.heap[g]? = some (.cells (bwC gd q n c pos len x mk bo) 129 (0, 0))) (hs : w.heap[gd]? = some (.cells us.toArray et (0, 0))) (hne : gd ≠ g) (hm : mk ≠ 1) (hl : 1 ≤ len) (hb : bo < n) (hb2 : ∃ u, us[q + bo]? = some u) :
    Calls Tryd.prog 60 #[.pointer (some ⟨g, 0, none⟩)] w fun e w' => e = .returned (.tuple #[]) ∧ w'.heap[gd]? = some (.cells (us.set (q + bo) (.int .u8 (x : Int))).toArray et (0, 0)) ∧ Fr w w' gd gd := by
  obtain ⟨u, hu⟩ := hb2
  have Qg := Aside0.mk (And.intro hg (And.intro hs hne))
  obtain ⟨c0, c1, c2, c3, c4, c5, zz⟩ := bw_cells hg
  have hbi : (bo : Int) < (n : Int) := by omega
  have hl0 : (0 : Int) < (len : Int) := by omega
  have hm1 : ((mk : Int) != 1) = true := by simp; omega
  have hl0b : decide ((0 : Int) < (len : Int)) = true := decide_eq_true hl0
  have hl0n : decide (0 < len) = true := decide_eq_true (by omega)
  have hl0m : 0 < len := by omega
  clear hg zz hs hl hm
  go_enter Tryd.func60, Tryd.ntmps60
  go_upto_region 0 with fail
  go_quiet (fail)
  go_wp2
  refine wp_as (fun V => V.heap[g]? = some (.cells (bwC gd q n c pos len x mk bo) 129 (0, 0)) ∧ V.heap[gd]? = some (.cells us.toArray et (0, 0)) ∧ Fr w V gd gd) ⟨Qg.out.1, Qg.out.2.1, (Fr.refl w gd gd).drewN _⟩ ?_
  rintro V ⟨v1, v2, v3⟩
  clear c0 c1 c2 c3 c4 c5
  obtain ⟨c0, c1, c2, c3, c4, c5, zz⟩ := bw_cells (V := V.drew) v1
  have k : V.drew.cell? ⟨gd, q + bo, none⟩ = _ := blk_cell v2 (q + bo)
  rw [List.getElem?_toArray, hu] at k
  have zk : V.drew.frozen? ⟨gd, q + bo, none⟩ = false := blk_frozen v2 (q + bo)
  have Qv := Aside0.mk (And.intro v1 (And.intro v2 v3))
  clear v1 v2 v3 zz
  refine wp_region_still_tail 13 (by kernel_rfl) (by kernel_rfl) ?_; simp only [List.take_succ_cons, List.take_zero, List.drop_succ_cons, List.drop_zero]; change wpStill _ _ (World.drew _) _ _ _; (repeat still_step); refine wpStill_nil ?_; change wpList _ _ _ _ _ (World.drew _); go_wp2
  go_end0
  exact ⟨rfl, (by have hh := blk_set (w := V.drew) Qv.out.2.1 (q + bo) (.int .u8 (x : Int)); rw [List.setIfInBounds_toArray] at hh; exact hh), (Qv.out.2.2.set gd (q + bo) _ (.inl rfl)).drew⟩
set_option maxHeartbeats 8000000 in
set_option maxRecDepth 100000 in
theorem bwf0_is (gd q n c len x bo g : Nat) (w : World) (hg : w.heap[g]? = some (.cells (bwC gd q n c len len x 1 bo) 129 (0, 0))) (hl : 1 ≤ len) :
    Calls Tryd.prog 60 #[.pointer (some ⟨g, 0, none⟩)] w fun e w' => e = .returned (.tuple #[]) ∧ Below w.heap.size w w' := by
  obtain ⟨c0, c1, c2, c3, c4, c5, zz⟩ := bw_cells hg
  have hl0 : (0 : Int) < (len : Int) := by omega
  have hl0b : decide ((0 : Int) < (len : Int)) = true := decide_eq_true hl0
  have hl0n : decide (0 < len) = true := decide_eq_true (by omega)
  have hl0m : 0 < len := by omega
  have hllb : decide ((len : Int) < (len : Int)) = false := decide_eq_false (by omega)
  clear hg zz hl
  go_enter Tryd.func60, Tryd.ntmps60
  go_upto_region 0 with fail
  go_quiet (fail)
  go_wp2
  go_end0
  exact ⟨rfl, pw_below_drewN (Below.refl _ w) _⟩
set_option maxHeartbeats 8000000 in
set_option maxRecDepth 100000 in
theorem nbw_is {us : List Value} {L : Nat} (gd q n c et off len : Nat) (w : World) (h : OkN us L) (hs : w.heap[gd]? = some (.cells us.toArray et (0, 0))) (hoff : off < 8) (hlen : 1 ≤ len) (hl8 : len ≤ 8) (hn : 1 ≤ n) (hq : q < L) (hG : Gm w) :
    Calls Tryd.prog 56 #[.slice (some ⟨gd, q, none⟩) n c, .int .i64 (off : Int), .int .i64 (len : Int)] w fun e w' => e = .returned (.pointer (some ⟨w.heap.size, 0, none⟩)) ∧ w'.heap[w.heap.size]? = some (.cells (bwC gd q n c 0 len (byN us q) (2 ^ off) 0) 129 (0, 0)) ∧ Below w.heap.size w w' := by
  have c0 := blk_cell hs q
  rw [List.getElem?_toArray, (h.at hq).1] at c0
  generalize byN us q = x at c0 ⊢
  have k3 := hG.2.1 off hoff
  generalize 2 ^ off = mk at k3 ⊢
  have d0 : (off : Int) / 8 = 0 := by omega
  have m0 : (off : Int) % 8 = (off : Int) := by omega
  have m1 : off % 8 = off := by omega
  have e0 : off / 8 = 0 := by omega
  have g1 : (0 : Int) < (len : Int) := by omega
  have g2 : (0 : Int) < (n : Int) := by omega
  have g3 : (off : Int) < 8 := by omega
  have kv := fun v => cell?_alloc_old v c0
  have hgl := blk_lt hs
  have hgn : ¬ gd = w.heap.size := by omega
  clear h hs hlen hl8 hq hn hG
  go_enter Tryd.func56, Tryd.ntmps56
  go_wp2
  go_ret
  exact ⟨rfl, blk_new w _, b2 w _⟩
end Go.Proofs.YtoceclgljmdkeaaDoor.QR
