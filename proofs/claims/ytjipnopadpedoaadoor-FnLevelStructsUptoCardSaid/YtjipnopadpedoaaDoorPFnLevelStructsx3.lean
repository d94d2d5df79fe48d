-- PRINTED BY print.sh 35421559b90ae4d0a3588c463048766b98c2df88dd9212a6774a882060cdf62d: not written by this session
import Derived.Test.YtjipnopadpedoaaDoorPFnLevelStructsx0
namespace Go.Proofs.YtjipnopadpedoaaDoor.PFnLevelStructs
open Go.RowKit Go.Proofs.YtjipnopadpedoaaDoorW.PrintWords Go.Proofs.YtjipnopadpedoaaDoorW.PrintLast Go.Proofs.YtjipnopadpedoaaDoorW.PrintMore
attribute [local go_sem] max2_int min2_int max_two min_two max_three min_three max_four min_four   -- for this text's walks alone
set_option linter.unusedVariables false
set_option linter.unusedSimpArgs false

/-! ### spec_NullCount: function 20 -/
def spec_NullCount.l0 : Nat → Int → List (S25) → Int → Int → Option (Int)
  | 0, _, _, _, _ => none
  | k + 1, x3, x6, x7, x8 => if x8 < x7 then (if 0 ≤ x8 then (if x8 < (x6.length : Int) then (if (rd_T25 x6 x8).f0 = true then (spec_NullCount.l0 k (wrap64 (x3 + 1)) x6 x7 (wrap64 (x8 + 1))) else (spec_NullCount.l0 k x3 x6 x7 (wrap64 (x8 + 1)))) else (none)) else (none)) else (some x3)
def spec_NullCount.f (k : Nat) (l0 : List (S25)) : Option (Int) := spec_NullCount.l0 k 0 l0 (l0.length : Int) 0
theorem spec_NullCount.mono_l : ∀ k, (∀ y0 y1 y2 y3, LeO (spec_NullCount.l0 k y0 y1 y2 y3) (spec_NullCount.l0 (k + 1) y0 y1 y2 y3))
  | 0 => fun _ _ _ _ r h => by simp [spec_NullCount.l0] at h
  | k + 1 => by
    have ih0 := spec_NullCount.mono_l k
    · intro y0 y1 y2 y3
      unfold spec_NullCount.l0
      repeat' first
      | (with_reducible exact ih0 _ _ _ _)
      | (with_reducible exact LeO.refl _)
      | (with_reducible exact LeO.none _)
      | (with_reducible refine LeO.ite ?_ ?_)
      | (with_reducible refine LeO.bind ?_ (fun _ => ?_))
      | exact ih0 _ _ _ _
      | exact LeO.none _
      | refine LeO.ite ?_ ?_
      | refine LeO.bind ?_ (fun _ => ?_)
theorem spec_NullCount.mono : ∀ a0 k, LeO (spec_NullCount.f k a0) (spec_NullCount.f (k + 1) a0) := by
  intro a0 k
  have ih0 := spec_NullCount.mono_l k
  unfold spec_NullCount.f
  repeat' first
      | (with_reducible exact ih0 _ _ _ _)
      | (with_reducible exact LeO.refl _)
      | (with_reducible exact LeO.none _)
      | (with_reducible refine LeO.ite ?_ ?_)
      | (with_reducible refine LeO.bind ?_ (fun _ => ?_))
      | exact ih0 _ _ _ _
      | exact LeO.none _
      | refine LeO.ite ?_ ?_
      | refine LeO.bind ?_ (fun _ => ?_)
set_option maxHeartbeats 8000000 in
set_option maxRecDepth 100000 in
theorem spec_NullCount.calls (k : Nat) (A0 : Option Addr) (c0 : Nat) (l0 : List (S25)) (r : Int) (w : World) (hr0 : Kd.C k25 w A0 l0.length l0) (hc0 : l0.length ≤ c0) (h : spec_NullCount.f k l0 = some r) :
    Calls Tryd.prog 20 #[.slice A0 l0.length c0] w fun e w' => e = .returned (.int .i64 r) ∧ Below w.heap.size w w' := by
  have hu25 := Tryd.underlying25
  have HR0 := Aside0.mk hr0
  have HC0 := Aside0.mk hc0
  clear hr0 hc0
  have HB := Aside0.mk (Below.refl w.heap.size w)
  have H : (spec_NullCount.l0 k 0 l0 (l0.length : Int) 0) = some r := h
  clear h
  have H' := Aside0.mk H
  clear H
  go_enter Tryd.func20, Tryd.ntmps20
  go_wp2
  go_loopg [3, 8] k (fun kq v3 v8 w' => ∃ (x3_1 : Int) (x8_1 : Int), v3 = .int .i64 x3_1 ∧ v8 = .int .i64 x8_1 ∧ Aside0 (spec_NullCount.l0 kq x3_1 l0 (l0.length : Int) x8_1 = some r) ∧ Aside0 (kq ≤ k) ∧ Aside0 (Below w.heap.size w w'))
  case atStart => exact ⟨(0), (0), (by first | rfl | (simp; done) | (simp [*]; done)), (by first | rfl | (simp; done) | (simp [*]; done)), H', ⟨Nat.le_refl _⟩, ⟨by repeat (first | (with_reducible first | exact HB.out | apply below_alloc | apply pw_below_drewN | apply below_drew1) | exact HB.out)⟩⟩
  case round =>
    clear H'
    obtain ⟨x3_1, x8_1, rfl, rfl, HA, HK1, HB⟩ := hrel
    cases gk with
    | zero => exact absurd HA.out (by simp [spec_NullCount.l0])
    | succ k1 =>
      have H := HA.out
      clear HA
      simp only [spec_NullCount.l0] at H
      by_cases c2 : x8_1 < (l0.length : Int)
      · rw [if_pos c2] at H
        have c2b0 : decide (x8_1 < (l0.length : Int)) = true := decide_eq_true c2
        clear c2
        by_cases c3 : 0 ≤ x8_1
        · rw [if_pos c3] at H
          have c3b0 : decide (0 ≤ x8_1) = true := decide_eq_true c3
          clear c3
          by_cases c4 : x8_1 < (l0.length : Int)
          · rw [if_pos c4] at H
            have c4b0 : decide (x8_1 < (l0.length : Int)) = true := decide_eq_true c4
            clear c4
            obtain ⟨bq5, hbq5⟩ : ∃ b_ : Bool, b_ = ((rd_T25 l0 x8_1).f0) := ⟨_, rfl⟩
            replace H : (if bq5 = true then (spec_NullCount.l0 k1 (wrap64 (x3_1 + 1)) l0 (l0.length : Int) (wrap64 (x8_1 + 1))) else (spec_NullCount.l0 k1 x3_1 l0 (l0.length : Int) (wrap64 (x8_1 + 1)))) = some r := by rw [← hbq5] at H; exact H
            have Nbq5 := Aside0.mk hbq5
            clear hbq5
            by_cases c6 : bq5 = true
            · subst c6
              have H1 : (spec_NullCount.l0 k1 (wrap64 (x3_1 + 1)) l0 (l0.length : Int) (wrap64 (x8_1 + 1))) = some r := by rw [if_pos rfl] at H; exact H
              clear H
              have H := H1
              clear H1
              have H' := Aside0.mk H
              clear H
              have p156 : 0 ≤ (x8_1 : Int) := of_decide_eq_true (by first | (with_reducible assumption) | assumption)
              have q156 : x8_1 < (l0.length : Int) := of_decide_eq_true (by first | (with_reducible assumption) | assumption)
              obtain ⟨ad156, A156_3, c156_3, e156, hx156_0, hx156_1, hx156_2, hx156_3, hl156_3, hi156_3⟩ := at_T25 HR0.out x8_1 p156 q156
              (try rw [← Nbq5.out] at hx156_0)
              cases e156
              replace hx156_0 := (HB.out.cell (World.block_lt_of_cell? w _ hx156_0)).trans hx156_0
              replace hx156_1 := (HB.out.cell (World.block_lt_of_cell? w _ hx156_1)).trans hx156_1
              replace hx156_2 := (HB.out.cell (World.block_lt_of_cell? w _ hx156_2)).trans hx156_2
              replace hx156_3 := (HB.out.cell (World.block_lt_of_cell? w _ hx156_3)).trans hx156_3
              have HR156_3 := Aside0.mk hi156_3
              have HC156_3 := Aside0.mk hl156_3
              clear hi156_3 hl156_3
              replace p156 := eq_true p156
              replace q156 := eq_true q156
              go_wp2_with (first | ((with_reducible refine gate_dst (N := 5) rfl ?_); refine box_event ?hg (N := 5) ?hd (cs := #[.bool false, .int .u64 0, .string (⟨#[]⟩ : ByteArray), .slice none 0 0]) (t := 25) ?hr ?_; (case hd => rfl); (case hg => rfl); (case hr => first | (go_simp; done) | (go_simp; rfl)); intro gb157 hg w7 hbox hb; have n0_ := Aside0.mk (below_step (by repeat (first | (with_reducible first | exact HB.out | apply below_alloc | apply pw_below_drewN | apply below_drew1) | exact HB.out)) hb); have n1_ := Aside0.mk (hbox); have n2_ := Aside0.mk ((by rw [hg]; exact (below_size (by repeat (first | (with_reducible first | exact HB.out | apply below_alloc | apply pw_below_drewN | apply below_drew1) | exact HB.out))) : w.heap.size ≤ gb157)); have n3_ := Aside0.mk ((by rw [hg]; exact (below_size (by repeat (first | (with_reducible first | exact HB.out | apply below_alloc | apply pw_below_drewN | apply below_drew1) | exact HB.out))) : w.heap.size ≤ gb157)); clear HB; have HB := n0_; have BK157 := n1_; have GW157 := n2_; have GE157 := n3_; clear n0_ n1_ n2_ n3_; clear hb hbox hg; have hcz8_0 : w7.cell? ⟨gb157, 0, none⟩ = some (.bool false) := (blk_cell BK157.out 0).trans rfl; have hcz8_1 : w7.cell? ⟨gb157, 1, none⟩ = some (.int .u64 0) := (blk_cell BK157.out 1).trans rfl; have hcz8_2 : w7.cell? ⟨gb157, 2, none⟩ = some (.string (⟨#[]⟩ : ByteArray)) := (blk_cell BK157.out 2).trans rfl; have hcz8_3 : w7.cell? ⟨gb157, 3, none⟩ = some (.slice none 0 0) := (blk_cell BK157.out 3).trans rfl; have hfz8_0 := blk_frozen BK157.out 0; have hfz8_1 := blk_frozen BK157.out 1; have hfz8_2 := blk_frozen BK157.out 2; have hfz8_3 := blk_frozen BK157.out 3))
              go_roundg k1
              case measure => have := HK1.out; omega
              case rel => exact ⟨(wrap64 (x3_1 + 1)), (wrap64 (x8_1 + 1)), (by first | rfl | (simp; done) | (simp [*]; done)), (by first | rfl | (simp; done) | (simp [*]; done)), H', ⟨by have := HK1.out; omega⟩, ⟨by repeat (first | (with_reducible first | exact HB.out | apply below_alloc | apply pw_below_drewN | apply below_drew1 | refine below_set ?_ GE157.out) | exact HB.out)⟩⟩
            · replace c6 := Bool.eq_false_iff.mpr c6
              subst c6
              have H1 : (spec_NullCount.l0 k1 x3_1 l0 (l0.length : Int) (wrap64 (x8_1 + 1))) = some r := by rw [if_neg (show ¬ (false = true) by decide)] at H; exact H
              clear H
              have H := H1
              clear H1
              have H' := Aside0.mk H
              clear H
              have p156 : 0 ≤ (x8_1 : Int) := of_decide_eq_true (by first | (with_reducible assumption) | assumption)
              have q156 : x8_1 < (l0.length : Int) := of_decide_eq_true (by first | (with_reducible assumption) | assumption)
              obtain ⟨ad156, A156_3, c156_3, e156, hx156_0, hx156_1, hx156_2, hx156_3, hl156_3, hi156_3⟩ := at_T25 HR0.out x8_1 p156 q156
              (try rw [← Nbq5.out] at hx156_0)
              cases e156
              replace hx156_0 := (HB.out.cell (World.block_lt_of_cell? w _ hx156_0)).trans hx156_0
              replace hx156_1 := (HB.out.cell (World.block_lt_of_cell? w _ hx156_1)).trans hx156_1
              replace hx156_2 := (HB.out.cell (World.block_lt_of_cell? w _ hx156_2)).trans hx156_2
              replace hx156_3 := (HB.out.cell (World.block_lt_of_cell? w _ hx156_3)).trans hx156_3
              have HR156_3 := Aside0.mk hi156_3
              have HC156_3 := Aside0.mk hl156_3
              clear hi156_3 hl156_3
              replace p156 := eq_true p156
              replace q156 := eq_true q156
              go_wp2_with (first | ((with_reducible refine gate_dst (N := 5) rfl ?_); refine box_event ?hg (N := 5) ?hd (cs := #[.bool false, .int .u64 0, .string (⟨#[]⟩ : ByteArray), .slice none 0 0]) (t := 25) ?hr ?_; (case hd => rfl); (case hg => rfl); (case hr => first | (go_simp; done) | (go_simp; rfl)); intro gb157 hg w9 hbox hb; have n0_ := Aside0.mk (below_step (by repeat (first | (with_reducible first | exact HB.out | apply below_alloc | apply pw_below_drewN | apply below_drew1) | exact HB.out)) hb); have n1_ := Aside0.mk (hbox); have n2_ := Aside0.mk ((by rw [hg]; exact (below_size (by repeat (first | (with_reducible first | exact HB.out | apply below_alloc | apply pw_below_drewN | apply below_drew1) | exact HB.out))) : w.heap.size ≤ gb157)); have n3_ := Aside0.mk ((by rw [hg]; exact (below_size (by repeat (first | (with_reducible first | exact HB.out | apply below_alloc | apply pw_below_drewN | apply below_drew1) | exact HB.out))) : w.heap.size ≤ gb157)); clear HB; have HB := n0_; have BK157 := n1_; have GW157 := n2_; have GE157 := n3_; clear n0_ n1_ n2_ n3_; clear hb hbox hg; have hcz10_0 : w9.cell? ⟨gb157, 0, none⟩ = some (.bool false) := (blk_cell BK157.out 0).trans rfl; have hcz10_1 : w9.cell? ⟨gb157, 1, none⟩ = some (.int .u64 0) := (blk_cell BK157.out 1).trans rfl; have hcz10_2 : w9.cell? ⟨gb157, 2, none⟩ = some (.string (⟨#[]⟩ : ByteArray)) := (blk_cell BK157.out 2).trans rfl; have hcz10_3 : w9.cell? ⟨gb157, 3, none⟩ = some (.slice none 0 0) := (blk_cell BK157.out 3).trans rfl; have hfz10_0 := blk_frozen BK157.out 0; have hfz10_1 := blk_frozen BK157.out 1; have hfz10_2 := blk_frozen BK157.out 2; have hfz10_3 := blk_frozen BK157.out 3))
              go_roundg k1
              case measure => have := HK1.out; omega
              case rel => exact ⟨(x3_1), (wrap64 (x8_1 + 1)), (by first | rfl | (simp; done) | (simp [*]; done)), (by first | rfl | (simp; done) | (simp [*]; done)), H', ⟨by have := HK1.out; omega⟩, ⟨by repeat (first | (with_reducible first | exact HB.out | apply below_alloc | apply pw_below_drewN | apply below_drew1 | refine below_set ?_ GE157.out) | exact HB.out)⟩⟩
          · rw [if_neg c4] at H
            exact absurd H (by simp)
        · rw [if_neg c3] at H
          exact absurd H (by simp)
      · rw [if_neg c2] at H
        have c2b0 : decide (x8_1 < (l0.length : Int)) = false := decide_eq_false c2
        clear c2
        obtain rfl := Option.some.inj H
        go_wp2
        go_ret
        exact ⟨by first | rfl | (simp [errW_none, errW_some] <;> rfl) | (simp [*, errW_none, errW_some] <;> rfl), by repeat (first | (with_reducible first | exact HB.out | apply below_alloc | apply pw_below_drewN | apply below_drew1) | exact HB.out)⟩

end Go.Proofs.YtjipnopadpedoaaDoor.PFnLevelStructs
