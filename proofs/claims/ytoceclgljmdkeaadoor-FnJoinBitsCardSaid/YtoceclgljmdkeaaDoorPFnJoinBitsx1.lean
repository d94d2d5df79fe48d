-- PRINTED BY print.sh 35421559b90ae4d0a3588c463048766b98c2df88dd9212a6774a882060cdf62d: not written by this session
import Derived.Test.YtoceclgljmdkeaaDoorPFnJoinBitsx0
namespace Go.Proofs.YtoceclgljmdkeaaDoor.PFnJoinBits
open Go.RowKit Go.Proofs.YtoceclgljmdkeaaDoorW.PrintWords Go.Proofs.YtoceclgljmdkeaaDoorW.PrintLast Go.Proofs.YtoceclgljmdkeaaDoorW.PrintMore
attribute [local go_sem] max2_int min2_int max_two min_two max_three min_three max_four min_four   -- for this text's walks alone
set_option linter.unusedVariables false
set_option linter.unusedSimpArgs false

/-! ### laws_zzFits14: function 9 -/
def laws_zzFits14.f (a0_0 : Bool) (l0_1 : List Int) (a0_2 : Int) (a0_3 : Int) : Option (Bool) := if (l0_1.length : Int) > 2147483647 then (some false) else (some true)
set_option maxHeartbeats 8000000 in
set_option maxRecDepth 100000 in
theorem laws_zzFits14.calls (a0_0 : Bool) (A0_1 : Option Addr) (c0_1 : Nat) (l0_1 : List Int) (a0_2 : Int) (a0_3 : Int) (r : Bool) (w : World) (hr0_1 : Kd.C (Kd.int .u8) w A0_1 l0_1.length l0_1) (hc0_1 : l0_1.length ≤ c0_1) (h : laws_zzFits14.f a0_0 l0_1 a0_2 a0_3 = some r) :
    Calls Tryd.prog 9 #[.agg #[.bool a0_0, .slice A0_1 l0_1.length c0_1, .int .i64 a0_2, .int .i64 a0_3]] w fun e w' => e = .returned (.bool r) ∧ Below w.heap.size w w' := by
  have hu28 := Tryd.underlying28
  have HR0_1 := Aside0.mk hr0_1
  have HC0_1 := Aside0.mk hc0_1
  clear hr0_1 hc0_1
  have HB := Aside0.mk (Below.refl w.heap.size w)
  have H : (if (l0_1.length : Int) > 2147483647 then (some false) else (some true)) = some r := h
  clear h
  by_cases c2 : (l0_1.length : Int) > 2147483647
  · rw [if_pos c2] at H
    have c2b0 : decide (2147483647 < (l0_1.length : Int)) = true := decide_eq_true c2
    have c2b1 : decide (2147483647 < l0_1.length) = true := decide_eq_true (by omega)
    clear c2
    obtain rfl := Option.some.inj H
    go_enter Tryd.func9, Tryd.ntmps9
    go_wp2_with (first | ((with_reducible refine gate_dst (N := 1) rfl ?_); refine box_event ?hg (N := 1) ?hd (cs := #[.bool a0_0, .slice A0_1 l0_1.length c0_1, .int .i64 a0_2, .int .i64 a0_3]) (t := 28) ?hr ?_; (case hd => rfl); (case hg => rfl); (case hr => first | (go_simp; done) | (go_simp; rfl)); intro gb101 hg w3 hbox hb; have n0_ := Aside0.mk (below_step (by repeat (first | (with_reducible first | exact HB.out | apply below_alloc | apply pw_below_drewN | apply below_drew1) | exact HB.out)) hb); have n1_ := Aside0.mk (hbox); have n2_ := Aside0.mk ((by rw [hg]; exact (below_size (by repeat (first | (with_reducible first | exact HB.out | apply below_alloc | apply pw_below_drewN | apply below_drew1) | exact HB.out))) : w.heap.size ≤ gb101)); have n3_ := Aside0.mk ((by rw [hg]; exact (below_size (by repeat (first | (with_reducible first | exact HB.out | apply below_alloc | apply pw_below_drewN | apply below_drew1) | exact HB.out))) : w.heap.size ≤ gb101)); clear HB; have HB := n0_; have BK101 := n1_; have GW101 := n2_; have GE101 := n3_; clear n0_ n1_ n2_ n3_; clear hb hbox hg; have hcz4_0 : w3.cell? ⟨gb101, 0, none⟩ = some (.bool a0_0) := (blk_cell BK101.out 0).trans rfl; have hcz4_1 : w3.cell? ⟨gb101, 1, none⟩ = some (.slice A0_1 l0_1.length c0_1) := (blk_cell BK101.out 1).trans rfl; have hcz4_2 : w3.cell? ⟨gb101, 2, none⟩ = some (.int .i64 a0_2) := (blk_cell BK101.out 2).trans rfl; have hcz4_3 : w3.cell? ⟨gb101, 3, none⟩ = some (.int .i64 a0_3) := (blk_cell BK101.out 3).trans rfl; have hfz4_0 := blk_frozen BK101.out 0; have hfz4_1 := blk_frozen BK101.out 1; have hfz4_2 := blk_frozen BK101.out 2; have hfz4_3 := blk_frozen BK101.out 3))
    go_ret
    exact ⟨by first | rfl | (simp [errW_none, errW_some] <;> rfl) | (simp [*, errW_none, errW_some] <;> rfl), by repeat (first | (with_reducible first | exact HB.out | apply below_alloc | apply pw_below_drewN | apply below_drew1 | refine below_set ?_ GE101.out) | exact HB.out)⟩
  · rw [if_neg c2] at H
    have c2b0 : decide (2147483647 < (l0_1.length : Int)) = false := decide_eq_false c2
    have c2b1 : decide (2147483647 < l0_1.length) = false := decide_eq_false (by omega)
    clear c2
    obtain rfl := Option.some.inj H
    go_enter Tryd.func9, Tryd.ntmps9
    go_wp2_with (first | ((with_reducible refine gate_dst (N := 1) rfl ?_); refine box_event ?hg (N := 1) ?hd (cs := #[.bool a0_0, .slice A0_1 l0_1.length c0_1, .int .i64 a0_2, .int .i64 a0_3]) (t := 28) ?hr ?_; (case hd => rfl); (case hg => rfl); (case hr => first | (go_simp; done) | (go_simp; rfl)); intro gb101 hg w5 hbox hb; have n0_ := Aside0.mk (below_step (by repeat (first | (with_reducible first | exact HB.out | apply below_alloc | apply pw_below_drewN | apply below_drew1) | exact HB.out)) hb); have n1_ := Aside0.mk (hbox); have n2_ := Aside0.mk ((by rw [hg]; exact (below_size (by repeat (first | (with_reducible first | exact HB.out | apply below_alloc | apply pw_below_drewN | apply below_drew1) | exact HB.out))) : w.heap.size ≤ gb101)); have n3_ := Aside0.mk ((by rw [hg]; exact (below_size (by repeat (first | (with_reducible first | exact HB.out | apply below_alloc | apply pw_below_drewN | apply below_drew1) | exact HB.out))) : w.heap.size ≤ gb101)); clear HB; have HB := n0_; have BK101 := n1_; have GW101 := n2_; have GE101 := n3_; clear n0_ n1_ n2_ n3_; clear hb hbox hg; have hcz6_0 : w5.cell? ⟨gb101, 0, none⟩ = some (.bool a0_0) := (blk_cell BK101.out 0).trans rfl; have hcz6_1 : w5.cell? ⟨gb101, 1, none⟩ = some (.slice A0_1 l0_1.length c0_1) := (blk_cell BK101.out 1).trans rfl; have hcz6_2 : w5.cell? ⟨gb101, 2, none⟩ = some (.int .i64 a0_2) := (blk_cell BK101.out 2).trans rfl; have hcz6_3 : w5.cell? ⟨gb101, 3, none⟩ = some (.int .i64 a0_3) := (blk_cell BK101.out 3).trans rfl; have hfz6_0 := blk_frozen BK101.out 0; have hfz6_1 := blk_frozen BK101.out 1; have hfz6_2 := blk_frozen BK101.out 2; have hfz6_3 := blk_frozen BK101.out 3))
    go_ret
    exact ⟨by first | rfl | (simp [errW_none, errW_some] <;> rfl) | (simp [*, errW_none, errW_some] <;> rfl), by repeat (first | (with_reducible first | exact HB.out | apply below_alloc | apply pw_below_drewN | apply below_drew1 | refine below_set ?_ GE101.out) | exact HB.out)⟩

/-! ### laws_zzFits13: function 4 -/
def laws_zzFits13.l0 : Nat → List (S28) → Int → Int → Option (Bool)
  | 0, _, _, _ => none
  | k + 1, x8, x9, x10 => if x10 < x9 then (if 0 ≤ x10 then (if x10 < (x8.length : Int) then ((laws_zzFits14.f ((rd_T28 x8 x10).f0) ((rd_T28 x8 x10).f1) ((rd_T28 x8 x10).f2) ((rd_T28 x8 x10).f3)).bind fun t104 => (if t104 = true then (laws_zzFits13.l0 k x8 x9 (wrap64 (x10 + 1))) else (some false))) else (none)) else (none)) else (some true)
def laws_zzFits13.f (k : Nat) (l0 : List (S28)) : Option (Bool) := if (l0.length : Int) > 2147483647 then (some false) else (laws_zzFits13.l0 k l0 (l0.length : Int) 0)
theorem laws_zzFits13.mono_l : ∀ k, (∀ y0 y1 y2, LeO (laws_zzFits13.l0 k y0 y1 y2) (laws_zzFits13.l0 (k + 1) y0 y1 y2))
  | 0 => fun _ _ _ r h => by simp [laws_zzFits13.l0] at h
  | k + 1 => by
    have ih0 := laws_zzFits13.mono_l k
    · intro y0 y1 y2
      unfold laws_zzFits13.l0
      repeat' first
      | (with_reducible exact ih0 _ _ _)
      | (with_reducible exact LeO.refl _)
      | (with_reducible exact LeO.none _)
      | (with_reducible refine LeO.ite ?_ ?_)
      | (with_reducible refine LeO.bind ?_ (fun _ => ?_))
      | exact ih0 _ _ _
      | exact LeO.none _
      | refine LeO.ite ?_ ?_
      | refine LeO.bind ?_ (fun _ => ?_)
theorem laws_zzFits13.mono : ∀ a0 k, LeO (laws_zzFits13.f k a0) (laws_zzFits13.f (k + 1) a0) := by
  intro a0 k
  have ih0 := laws_zzFits13.mono_l k
  unfold laws_zzFits13.f
  repeat' first
      | (with_reducible exact ih0 _ _ _)
      | (with_reducible exact LeO.refl _)
      | (with_reducible exact LeO.none _)
      | (with_reducible refine LeO.ite ?_ ?_)
      | (with_reducible refine LeO.bind ?_ (fun _ => ?_))
      | exact ih0 _ _ _
      | exact LeO.none _
      | refine LeO.ite ?_ ?_
      | refine LeO.bind ?_ (fun _ => ?_)
set_option maxHeartbeats 8000000 in
set_option maxRecDepth 100000 in
theorem laws_zzFits13.calls (k : Nat) (A0 : Option Addr) (c0 : Nat) (l0 : List (S28)) (r : Bool) (w : World) (hr0 : Kd.C k28 w A0 l0.length l0) (hc0 : l0.length ≤ c0) (h : laws_zzFits13.f k l0 = some r) :
    Calls Tryd.prog 4 #[.slice A0 l0.length c0] w fun e w' => e = .returned (.bool r) ∧ Below w.heap.size w w' := by
  have hu28 := Tryd.underlying28
  have HR0 := Aside0.mk hr0
  have HC0 := Aside0.mk hc0
  clear hr0 hc0
  have HB := Aside0.mk (Below.refl w.heap.size w)
  have H : (if (l0.length : Int) > 2147483647 then (some false) else (laws_zzFits13.l0 k l0 (l0.length : Int) 0)) = some r := h
  clear h
  by_cases c2 : (l0.length : Int) > 2147483647
  · rw [if_pos c2] at H
    have c2b0 : decide (2147483647 < (l0.length : Int)) = true := decide_eq_true c2
    have c2b1 : decide (2147483647 < l0.length) = true := decide_eq_true (by omega)
    clear c2
    obtain rfl := Option.some.inj H
    go_enter Tryd.func4, Tryd.ntmps4
    go_wp2
    go_ret
    exact ⟨by first | rfl | (simp [errW_none, errW_some] <;> rfl) | (simp [*, errW_none, errW_some] <;> rfl), by repeat (first | (with_reducible first | exact HB.out | apply below_alloc | apply pw_below_drewN | apply below_drew1) | exact HB.out)⟩
  · rw [if_neg c2] at H
    have c2b0 : decide (2147483647 < (l0.length : Int)) = false := decide_eq_false c2
    have c2b1 : decide (2147483647 < l0.length) = false := decide_eq_false (by omega)
    clear c2
    have H' := Aside0.mk H
    clear H
    go_enter Tryd.func4, Tryd.ntmps4
    go_wp2
    go_loopg [10] k (fun kq v10 w' => ∃ (x10_1 : Int), v10 = .int .i64 x10_1 ∧ Aside0 (laws_zzFits13.l0 kq l0 (l0.length : Int) x10_1 = some r) ∧ Aside0 (kq ≤ k) ∧ Aside0 (Below w.heap.size w w'))
    case atStart => exact ⟨(0), (by first | rfl | (simp; done) | (simp [*]; done)), H', ⟨Nat.le_refl _⟩, ⟨by repeat (first | (with_reducible first | exact HB.out | apply below_alloc | apply pw_below_drewN | apply below_drew1) | exact HB.out)⟩⟩
    case round =>
      clear H'
      try clear c2
      try clear c2b0
      try clear c2b1
      try clear p2
      obtain ⟨x10_1, rfl, HA, HK1, HB⟩ := hrel
      cases gk with
      | zero => exact absurd HA.out (by simp [laws_zzFits13.l0])
      | succ k1 =>
        have H := HA.out
        clear HA
        simp only [laws_zzFits13.l0] at H
        by_cases c3 : x10_1 < (l0.length : Int)
        · rw [if_pos c3] at H
          have c3b0 : decide (x10_1 < (l0.length : Int)) = true := decide_eq_true c3
          clear c3
          by_cases c4 : 0 ≤ x10_1
          · rw [if_pos c4] at H
            have c4b0 : decide (0 ≤ x10_1) = true := decide_eq_true c4
            clear c4
            by_cases c5 : x10_1 < (l0.length : Int)
            · rw [if_pos c5] at H
              have c5b0 : decide (x10_1 < (l0.length : Int)) = true := decide_eq_true c5
              clear c5
              replace H := Option.bind_eq_some_iff.mp H
              obtain ⟨t104, A60, H⟩ := H
              replace H : (if t104 = true then (laws_zzFits13.l0 k1 l0 (l0.length : Int) (wrap64 (x10_1 + 1))) else (some false)) = some r := H
              have A6 := Aside0.mk A60
              clear A60
              by_cases c7 : t104 = true
              · subst c7
                have H1 : (laws_zzFits13.l0 k1 l0 (l0.length : Int) (wrap64 (x10_1 + 1))) = some r := by rw [if_pos rfl] at H; exact H
                clear H
                have H := H1
                clear H1
                have H' := Aside0.mk H
                clear H
                have p102 : 0 ≤ (x10_1 : Int) := of_decide_eq_true (by first | (with_reducible assumption) | assumption)
                have q102 : x10_1 < (l0.length : Int) := of_decide_eq_true (by first | (with_reducible assumption) | assumption)
                obtain ⟨ad102, A102_1, c102_1, e102, hx102_0, hx102_1, hx102_2, hx102_3, hl102_1, hi102_1⟩ := at_T28 HR0.out x10_1 p102 q102
                cases e102
                replace hx102_0 := (HB.out.cell (World.block_lt_of_cell? w _ hx102_0)).trans hx102_0
                replace hx102_1 := (HB.out.cell (World.block_lt_of_cell? w _ hx102_1)).trans hx102_1
                replace hx102_2 := (HB.out.cell (World.block_lt_of_cell? w _ hx102_2)).trans hx102_2
                replace hx102_3 := (HB.out.cell (World.block_lt_of_cell? w _ hx102_3)).trans hx102_3
                have HR102_1 := Aside0.mk hi102_1
                have HC102_1 := Aside0.mk hl102_1
                clear hi102_1 hl102_1
                replace p102 := eq_true p102
                replace q102 := eq_true q102
                go_wp2_with (first | ((with_reducible refine gate_dst (N := 4) rfl ?_); refine box_event ?hg (N := 4) ?hd (cs := #[.bool false, .slice none 0 0, .int .i64 0, .int .i64 0]) (t := 28) ?hr ?_; (case hd => rfl); (case hg => rfl); (case hr => first | (go_simp; done) | (go_simp; rfl)); intro gb103 hg w8 hbox hb; have n0_ := Aside0.mk (below_step (by repeat (first | (with_reducible first | exact HB.out | apply below_alloc | apply pw_below_drewN | apply below_drew1) | exact HB.out)) hb); have n1_ := Aside0.mk (hbox); have n2_ := Aside0.mk ((by rw [hg]; exact (below_size (by repeat (first | (with_reducible first | exact HB.out | apply below_alloc | apply pw_below_drewN | apply below_drew1) | exact HB.out))) : w.heap.size ≤ gb103)); have n3_ := Aside0.mk ((by rw [hg]; exact (below_size (by repeat (first | (with_reducible first | exact HB.out | apply below_alloc | apply pw_below_drewN | apply below_drew1) | exact HB.out))) : w.heap.size ≤ gb103)); clear HB; have HB := n0_; have BK103 := n1_; have GW103 := n2_; have GE103 := n3_; clear n0_ n1_ n2_ n3_; clear hb hbox hg; have hcz9_0 : w8.cell? ⟨gb103, 0, none⟩ = some (.bool false) := (blk_cell BK103.out 0).trans rfl; have hcz9_1 : w8.cell? ⟨gb103, 1, none⟩ = some (.slice none 0 0) := (blk_cell BK103.out 1).trans rfl; have hcz9_2 : w8.cell? ⟨gb103, 2, none⟩ = some (.int .i64 0) := (blk_cell BK103.out 2).trans rfl; have hcz9_3 : w8.cell? ⟨gb103, 3, none⟩ = some (.int .i64 0) := (blk_cell BK103.out 3).trans rfl; have hfz9_0 := blk_frozen BK103.out 0; have hfz9_1 := blk_frozen BK103.out 1; have hfz9_2 := blk_frozen BK103.out 2; have hfz9_3 := blk_frozen BK103.out 3) | ((with_reducible refine gate_callee (f := 9) rfl ?_); refine goesL_ (some 15) rfl rfl Tryd.func9 (by kernel_rfl) rfl #[.agg #[.bool ((rd_T28 l0 x10_1).f0), .slice A102_1 ((rd_T28 l0 x10_1).f1).length c102_1, .int .i64 ((rd_T28 l0 x10_1).f2), .int .i64 ((rd_T28 l0 x10_1).f3)]] rfl (by (try simp only [List.map_toArray, List.map_cons, List.map_nil]); first | done | rfl | (simp only [List.length_drop, List.length_take]; rfl)) ?_; (with_reducible refine (laws_zzFits14.calls ((rd_T28 l0 x10_1).f0) _ _ ((rd_T28 l0 x10_1).f1) ((rd_T28 l0 x10_1).f2) ((rd_T28 l0 x10_1).f3) true _ ?side1 ?side2 A6.out).mono ?_); (case side1 => exact Kd.C_below HR102_1.out (by repeat (first | (with_reducible first | exact HB.out | apply below_alloc | apply pw_below_drewN | apply below_drew1 | refine below_set ?_ GE103.out) | exact HB.out))); (case side2 => exact HC102_1.out); rintro e w10 ⟨rfl, hb⟩; refine ⟨_, rfl, ?_⟩; have n0_ := Aside0.mk (blk_below (g := gb103) (o := .cells #[.bool ((rd_T28 l0 x10_1).f0), .slice A102_1 ((rd_T28 l0 x10_1).f1).length c102_1, .int .i64 ((rd_T28 l0 x10_1).f2), .int .i64 ((rd_T28 l0 x10_1).f3)] 28 (0, 0)) (by (with_reducible repeat (first | refine blk_drewN ?_ _ | refine blk_drew ?_ | refine blk_alloc ?_ _)); refine blk_put (cs := #[.bool ((rd_T28 l0 x10_1).f0), .slice A102_1 ((rd_T28 l0 x10_1).f1).length c102_1, .int .i64 ((rd_T28 l0 x10_1).f2), .int .i64 0]) ?_ 3 _ rfl; (with_reducible repeat (first | refine blk_drewN ?_ _ | refine blk_drew ?_ | refine blk_alloc ?_ _)); refine blk_put (cs := #[.bool ((rd_T28 l0 x10_1).f0), .slice A102_1 ((rd_T28 l0 x10_1).f1).length c102_1, .int .i64 0, .int .i64 0]) ?_ 2 _ rfl; (with_reducible repeat (first | refine blk_drewN ?_ _ | refine blk_drew ?_ | refine blk_alloc ?_ _)); refine blk_put (cs := #[.bool ((rd_T28 l0 x10_1).f0), .slice none 0 0, .int .i64 0, .int .i64 0]) ?_ 1 _ rfl; (with_reducible repeat (first | refine blk_drewN ?_ _ | refine blk_drew ?_ | refine blk_alloc ?_ _)); refine blk_put (cs := #[.bool false, .slice none 0 0, .int .i64 0, .int .i64 0]) ?_ 0 _ rfl; (with_reducible repeat (first | refine blk_drewN ?_ _ | refine blk_drew ?_ | refine blk_alloc ?_ _)); exact BK103.out) hb); have n1_ := Aside0.mk (below_step (by repeat (first | (with_reducible first | exact HB.out | apply below_alloc | apply pw_below_drewN | apply below_drew1 | refine below_set ?_ GE103.out) | exact HB.out)) hb); clear BK103; clear HB; have BK103 := n0_; have HB := n1_; clear n0_ n1_; (try clear hb); (try clear hb2); (try clear hk); (try clear hi)))
                go_roundg k1
                case measure => have := HK1.out; omega
                case rel => exact ⟨(wrap64 (x10_1 + 1)), (by first | rfl | (simp; done) | (simp [*]; done)), H', ⟨by have := HK1.out; omega⟩, ⟨by repeat (first | (with_reducible first | exact HB.out | apply below_alloc | apply pw_below_drewN | apply below_drew1 | refine below_set ?_ GE103.out) | exact HB.out)⟩⟩
              · replace c7 := Bool.eq_false_iff.mpr c7
                subst c7
                have H1 : (some false) = some r := by rw [if_neg (show ¬ (false = true) by decide)] at H; exact H
                clear H
                have H := H1
                clear H1
                obtain rfl := Option.some.inj H
                have p102 : 0 ≤ (x10_1 : Int) := of_decide_eq_true (by first | (with_reducible assumption) | assumption)
                have q102 : x10_1 < (l0.length : Int) := of_decide_eq_true (by first | (with_reducible assumption) | assumption)
                obtain ⟨ad102, A102_1, c102_1, e102, hx102_0, hx102_1, hx102_2, hx102_3, hl102_1, hi102_1⟩ := at_T28 HR0.out x10_1 p102 q102
                cases e102
                replace hx102_0 := (HB.out.cell (World.block_lt_of_cell? w _ hx102_0)).trans hx102_0
                replace hx102_1 := (HB.out.cell (World.block_lt_of_cell? w _ hx102_1)).trans hx102_1
                replace hx102_2 := (HB.out.cell (World.block_lt_of_cell? w _ hx102_2)).trans hx102_2
                replace hx102_3 := (HB.out.cell (World.block_lt_of_cell? w _ hx102_3)).trans hx102_3
                have HR102_1 := Aside0.mk hi102_1
                have HC102_1 := Aside0.mk hl102_1
                clear hi102_1 hl102_1
                replace p102 := eq_true p102
                replace q102 := eq_true q102
                go_wp2_with (first | ((with_reducible refine gate_dst (N := 4) rfl ?_); refine box_event ?hg (N := 4) ?hd (cs := #[.bool false, .slice none 0 0, .int .i64 0, .int .i64 0]) (t := 28) ?hr ?_; (case hd => rfl); (case hg => rfl); (case hr => first | (go_simp; done) | (go_simp; rfl)); intro gb103 hg w11 hbox hb; have n0_ := Aside0.mk (below_step (by repeat (first | (with_reducible first | exact HB.out | apply below_alloc | apply pw_below_drewN | apply below_drew1) | exact HB.out)) hb); have n1_ := Aside0.mk (hbox); have n2_ := Aside0.mk ((by rw [hg]; exact (below_size (by repeat (first | (with_reducible first | exact HB.out | apply below_alloc | apply pw_below_drewN | apply below_drew1) | exact HB.out))) : w.heap.size ≤ gb103)); have n3_ := Aside0.mk ((by rw [hg]; exact (below_size (by repeat (first | (with_reducible first | exact HB.out | apply below_alloc | apply pw_below_drewN | apply below_drew1) | exact HB.out))) : w.heap.size ≤ gb103)); clear HB; have HB := n0_; have BK103 := n1_; have GW103 := n2_; have GE103 := n3_; clear n0_ n1_ n2_ n3_; clear hb hbox hg; have hcz12_0 : w11.cell? ⟨gb103, 0, none⟩ = some (.bool false) := (blk_cell BK103.out 0).trans rfl; have hcz12_1 : w11.cell? ⟨gb103, 1, none⟩ = some (.slice none 0 0) := (blk_cell BK103.out 1).trans rfl; have hcz12_2 : w11.cell? ⟨gb103, 2, none⟩ = some (.int .i64 0) := (blk_cell BK103.out 2).trans rfl; have hcz12_3 : w11.cell? ⟨gb103, 3, none⟩ = some (.int .i64 0) := (blk_cell BK103.out 3).trans rfl; have hfz12_0 := blk_frozen BK103.out 0; have hfz12_1 := blk_frozen BK103.out 1; have hfz12_2 := blk_frozen BK103.out 2; have hfz12_3 := blk_frozen BK103.out 3) | ((with_reducible refine gate_callee (f := 9) rfl ?_); refine goesL_ (some 15) rfl rfl Tryd.func9 (by kernel_rfl) rfl #[.agg #[.bool ((rd_T28 l0 x10_1).f0), .slice A102_1 ((rd_T28 l0 x10_1).f1).length c102_1, .int .i64 ((rd_T28 l0 x10_1).f2), .int .i64 ((rd_T28 l0 x10_1).f3)]] rfl (by (try simp only [List.map_toArray, List.map_cons, List.map_nil]); first | done | rfl | (simp only [List.length_drop, List.length_take]; rfl)) ?_; (with_reducible refine (laws_zzFits14.calls ((rd_T28 l0 x10_1).f0) _ _ ((rd_T28 l0 x10_1).f1) ((rd_T28 l0 x10_1).f2) ((rd_T28 l0 x10_1).f3) false _ ?side1 ?side2 A6.out).mono ?_); (case side1 => exact Kd.C_below HR102_1.out (by repeat (first | (with_reducible first | exact HB.out | apply below_alloc | apply pw_below_drewN | apply below_drew1 | refine below_set ?_ GE103.out) | exact HB.out))); (case side2 => exact HC102_1.out); rintro e w13 ⟨rfl, hb⟩; refine ⟨_, rfl, ?_⟩; have n0_ := Aside0.mk (blk_below (g := gb103) (o := .cells #[.bool ((rd_T28 l0 x10_1).f0), .slice A102_1 ((rd_T28 l0 x10_1).f1).length c102_1, .int .i64 ((rd_T28 l0 x10_1).f2), .int .i64 ((rd_T28 l0 x10_1).f3)] 28 (0, 0)) (by (with_reducible repeat (first | refine blk_drewN ?_ _ | refine blk_drew ?_ | refine blk_alloc ?_ _)); refine blk_put (cs := #[.bool ((rd_T28 l0 x10_1).f0), .slice A102_1 ((rd_T28 l0 x10_1).f1).length c102_1, .int .i64 ((rd_T28 l0 x10_1).f2), .int .i64 0]) ?_ 3 _ rfl; (with_reducible repeat (first | refine blk_drewN ?_ _ | refine blk_drew ?_ | refine blk_alloc ?_ _)); refine blk_put (cs := #[.bool ((rd_T28 l0 x10_1).f0), .slice A102_1 ((rd_T28 l0 x10_1).f1).length c102_1, .int .i64 0, .int .i64 0]) ?_ 2 _ rfl; (with_reducible repeat (first | refine blk_drewN ?_ _ | refine blk_drew ?_ | refine blk_alloc ?_ _)); refine blk_put (cs := #[.bool ((rd_T28 l0 x10_1).f0), .slice none 0 0, .int .i64 0, .int .i64 0]) ?_ 1 _ rfl; (with_reducible repeat (first | refine blk_drewN ?_ _ | refine blk_drew ?_ | refine blk_alloc ?_ _)); refine blk_put (cs := #[.bool false, .slice none 0 0, .int .i64 0, .int .i64 0]) ?_ 0 _ rfl; (with_reducible repeat (first | refine blk_drewN ?_ _ | refine blk_drew ?_ | refine blk_alloc ?_ _)); exact BK103.out) hb); have n1_ := Aside0.mk (below_step (by repeat (first | (with_reducible first | exact HB.out | apply below_alloc | apply pw_below_drewN | apply below_drew1 | refine below_set ?_ GE103.out) | exact HB.out)) hb); clear BK103; clear HB; have BK103 := n0_; have HB := n1_; clear n0_ n1_; (try clear hb); (try clear hb2); (try clear hk); (try clear hi)))
                go_ret
                exact ⟨by first | rfl | (simp [errW_none, errW_some] <;> rfl) | (simp [*, errW_none, errW_some] <;> rfl), by repeat (first | (with_reducible first | exact HB.out | apply below_alloc | apply pw_below_drewN | apply below_drew1 | refine below_set ?_ GE103.out) | exact HB.out)⟩
            · rw [if_neg c5] at H
              exact absurd H (by simp)
          · rw [if_neg c4] at H
            exact absurd H (by simp)
        · rw [if_neg c3] at H
          have c3b0 : decide (x10_1 < (l0.length : Int)) = false := decide_eq_false c3
          clear c3
          obtain rfl := Option.some.inj H
          go_wp2
          go_ret
          exact ⟨by first | rfl | (simp [errW_none, errW_some] <;> rfl) | (simp [*, errW_none, errW_some] <;> rfl), by repeat (first | (with_reducible first | exact HB.out | apply below_alloc | apply pw_below_drewN | apply below_drew1) | exact HB.out)⟩

-- NOT PRINTED: function 10 (impl_noBytes)

-- NOT PRINTED: function 14 (memory_Buffer_Bytes)

/-! ### array_addOvf: function 18 -/
def array_addOvf.f (a0 : Int) (a1 : Int) : Option (Int × Bool) := some (wrap64 (a0 + a1), (((Go.bits .or .i64 (Go.bits .and .i64 a0 a1) (Go.bits .andNot .i64 (Go.bits .or .i64 a0 a1) (wrap64 (a0 + a1)))) / 4611686018427387904) == 1))
set_option maxHeartbeats 8000000 in
set_option maxRecDepth 100000 in
theorem array_addOvf.calls (a0 : Int) (a1 : Int) (r1 : Int) (r2 : Bool) (w : World) (h : array_addOvf.f a0 a1 = some (r1, r2)) :
    Calls Tryd.prog 18 #[.int .i64 a0, .int .i64 a1] w fun e w' => e = .returned (.tuple #[.int .i64 r1, .bool r2]) ∧ Drawn0 w w' := by
  have H : (some (wrap64 (a0 + a1), (((Go.bits .or .i64 (Go.bits .and .i64 a0 a1) (Go.bits .andNot .i64 (Go.bits .or .i64 a0 a1) (wrap64 (a0 + a1)))) / 4611686018427387904) == 1))) = some (r1, r2) := h
  clear h
  simp only [Option.some.injEq, Prod.mk.injEq] at H
  obtain ⟨rfl, rfl⟩ := H
  go_enter Tryd.func18, Tryd.ntmps18
  go_wp2
  go_ret2
  exact ⟨by first | rfl | (simp; done) | (simp [*]; done), by repeat (first | exact Drawn0.refl _ | apply Drawn0.step)⟩

-- NOT PRINTED: function 19 (errors_New)

-- NOT PRINTED: function 34 (atomic_AddInt64)

-- NOT PRINTED: function 28 (atomic_Int64_Add)

-- NOT PRINTED: function 20 (memory_NewResizableBuffer)

/-! ### memory_roundToPowerOf2: function 47 -/
def memory_roundToPowerOf2.f (a0 : Int) (a1 : Int) : Option (Int) := some (Go.bits .and .i64 (wrap64 (a0 + (wrap64 (a1 - 1)))) (Go.bits .xor .i64 (-1) (wrap64 (a1 - 1))))
set_option maxHeartbeats 8000000 in
set_option maxRecDepth 100000 in
theorem memory_roundToPowerOf2.calls (a0 : Int) (a1 : Int) (r : Int) (w : World) (h : memory_roundToPowerOf2.f a0 a1 = some r) :
    Calls Tryd.prog 47 #[.int .i64 a0, .int .i64 a1] w fun e w' => e = .returned (.int .i64 r) ∧ Drawn0 w w' := by
  have H : (some (Go.bits .and .i64 (wrap64 (a0 + (wrap64 (a1 - 1)))) (Go.bits .xor .i64 (-1) (wrap64 (a1 - 1))))) = some r := h
  clear h
  obtain rfl := Option.some.inj H
  go_enter Tryd.func47, Tryd.ntmps47
  go_wp2
  go_ret
  exact ⟨by first | rfl | (simp; done) | (simp [*]; done), by repeat (first | exact Drawn0.refl _ | apply Drawn0.step)⟩

/-! ### memory_roundUpToMultipleOf64: function 37 -/
def memory_roundUpToMultipleOf64.f (a0 : Int) : Option (Int) := (memory_roundToPowerOf2.f a0 64).bind fun t106 => (some t106)
set_option maxHeartbeats 8000000 in
set_option maxRecDepth 100000 in
theorem memory_roundUpToMultipleOf64.calls (a0 : Int) (r : Int) (w : World) (h : memory_roundUpToMultipleOf64.f a0 = some r) :
    Calls Tryd.prog 37 #[.int .i64 a0] w fun e w' => e = .returned (.int .i64 r) ∧ Drawn0 w w' := by
  have H : ((memory_roundToPowerOf2.f a0 64).bind fun t106 => (some t106)) = some r := h
  clear h
  replace H := Option.bind_eq_some_iff.mp H
  obtain ⟨t106, A20, H⟩ := H
  replace H : (some t106) = some r := H
  have A2 := Aside0.mk A20
  clear A20
  obtain rfl := Option.some.inj H
  go_enter Tryd.func37, Tryd.ntmps37
  go_wp2_with (first | ((with_reducible refine gate_callee (f := 47) rfl ?_); refine goesL_ (some 4) rfl rfl Tryd.func47 (by kernel_rfl) rfl #[.int .i64 a0, .int .i64 64] rfl (by (try simp only [List.map_toArray, List.map_cons, List.map_nil]); first | done | rfl | (simp only [List.length_drop, List.length_take]; rfl)) ?_; (with_reducible refine (memory_roundToPowerOf2.calls a0 64 t106 _ A2.out).mono ?_); rintro e w' ⟨rfl, ⟨nd, rfl⟩⟩; refine ⟨_, rfl, ?_⟩))
  go_ret
  exact ⟨by first | rfl | (simp; done) | (simp [*]; done), by repeat (first | exact Drawn0.refl _ | apply Drawn0.step)⟩

-- NOT PRINTED: function 36 (memory_Buffer_Reserve)

-- NOT PRINTED: function 31 (memory_Buffer_resize)

-- NOT PRINTED: function 23 (memory_Buffer_Resize)

/-! ### bitutil_BytesForBits: function 24 -/
def bitutil_BytesForBits.f (a0 : Int) : Option (Int) := some ((wrap64 (a0 + 7)) / 8)
set_option maxHeartbeats 8000000 in
set_option maxRecDepth 100000 in
theorem bitutil_BytesForBits.calls (a0 : Int) (r : Int) (w : World) (h : bitutil_BytesForBits.f a0 = some r) :
    Calls Tryd.prog 24 #[.int .i64 a0] w fun e w' => e = .returned (.int .i64 r) ∧ Drawn0 w w' := by
  have H : (some ((wrap64 (a0 + 7)) / 8)) = some r := h
  clear h
  obtain rfl := Option.some.inj H
  go_enter Tryd.func24, Tryd.ntmps24
  go_wp2
  go_ret
  exact ⟨by first | rfl | (simp; done) | (simp [*]; done), by repeat (first | exact Drawn0.refl _ | apply Drawn0.step)⟩

/-! ### memory_memory_memset_go: function 38 -/
def memory_memory_memset_go.l0 : Nat → List Int → Int → Int → Option (List Int)
  | 0, _, _, _ => none
  | k + 1, x0, x1, x4 => if x4 < (x0.length : Int) then (if 0 ≤ x4 then (memory_memory_memset_go.l0 k (x0.set (x4 : Int).toNat x1) x1 (wrap64 (x4 + 1))) else (none)) else (some x0)
def memory_memory_memset_go.f (k : Nat) (l0 : List Int) (a1 : Int) : Option (List Int) := memory_memory_memset_go.l0 k l0 a1 0
theorem memory_memory_memset_go.mono_l : ∀ k, (∀ y0 y1 y2, LeO (memory_memory_memset_go.l0 k y0 y1 y2) (memory_memory_memset_go.l0 (k + 1) y0 y1 y2))
  | 0 => fun _ _ _ r h => by simp [memory_memory_memset_go.l0] at h
  | k + 1 => by
    have ih0 := memory_memory_memset_go.mono_l k
    · intro y0 y1 y2
      unfold memory_memory_memset_go.l0
      repeat' first
      | (with_reducible exact ih0 _ _ _)
      | (with_reducible exact LeO.refl _)
      | (with_reducible exact LeO.none _)
      | (with_reducible refine LeO.ite ?_ ?_)
      | (with_reducible refine LeO.bind ?_ (fun _ => ?_))
      | exact ih0 _ _ _
      | exact LeO.none _
      | refine LeO.ite ?_ ?_
      | refine LeO.bind ?_ (fun _ => ?_)
theorem memory_memory_memset_go.mono : ∀ a0 a1 k, LeO (memory_memory_memset_go.f k a0 a1) (memory_memory_memset_go.f (k + 1) a0 a1) := by
  intro a0 a1 k
  have ih0 := memory_memory_memset_go.mono_l k
  unfold memory_memory_memset_go.f
  repeat' first
      | (with_reducible exact ih0 _ _ _)
      | (with_reducible exact LeO.refl _)
      | (with_reducible exact LeO.none _)
      | (with_reducible refine LeO.ite ?_ ?_)
      | (with_reducible refine LeO.bind ?_ (fun _ => ?_))
      | exact ih0 _ _ _
      | exact LeO.none _
      | refine LeO.ite ?_ ?_
      | refine LeO.bind ?_ (fun _ => ?_)
set_option maxHeartbeats 8000000 in
set_option maxRecDepth 100000 in
theorem memory_memory_memset_go.calls (k : Nat) (P0_ : Nat → Prop) (u9000_ : Value) (l0 : List Int) (a1 : Int) (r : List Int) (w0 w : World) (hB : Below w0.heap.size w0 w) (ho0 : Kd.R (Kd.int .u8) 5 w w0.heap.size P0_ u9000_ l0) (h : memory_memory_memset_go.f k l0 a1 = some r) :
    Calls Tryd.prog 38 #[u9000_, .int .u8 a1] w fun e w' => e = .returned (.tuple #[]) ∧ Kd.R (Kd.int .u8) 5 w' w0.heap.size (fun k_ => (P0_ k_ ∨ w.heap.size ≤ k_)) u9000_ r ∧ Below w0.heap.size w0 w' ∧ Kept w w' (fun k_ => P0_ k_) := by
  have HO0 := Aside0.mk (show Kd.R (Kd.int .u8) 5 w w0.heap.size (fun k_ => (P0_ k_ ∨ w.heap.size ≤ k_)) u9000_ l0 from Kd.R_mono ho0 (fun k_ hk => (.inl hk)))
  have HK := Aside0.mk (Kept.refl w (fun k_ => P0_ k_))
  have HW0 := Aside0.mk hB.size
  have HB := Aside0.mk hB
  clear hB
  have H : (memory_memory_memset_go.l0 k l0 a1 0) = some r := h
  clear h
  have H' := Aside0.mk H
  clear H
  go_enter Tryd.func38, Tryd.ntmps38
  go_wp2
  go_loopg [4] k (fun kq v4 w' => ∃ (x0_1 : List Int) (x4_1 : Int), v4 = .int .i64 x4_1 ∧ Aside0 (memory_memory_memset_go.l0 kq x0_1 a1 x4_1 = some r) ∧ Aside0 (kq ≤ k) ∧ Aside0 (Kd.R (Kd.int .u8) 5 w' w0.heap.size (fun k_ => (P0_ k_ ∨ w.heap.size ≤ k_)) u9000_ x0_1) ∧ Aside0 (Kept w w' (fun k_ => P0_ k_)) ∧ Aside0 (Below w0.heap.size w0 w'))
  case atStart => exact ⟨(l0), (0), (by first | rfl | (simp; done) | (simp [*]; done)), H', ⟨Nat.le_refl _⟩, ⟨by (with_reducible repeat (first | apply Kd.R_alloc | apply Kd.R_drewN | apply Kd.R_drew)); exact HO0.out⟩, ⟨by repeat (first | (with_reducible first | exact HK.out | apply Kept.alloc | apply Kept.drewN | apply Kept.drew) | exact HK.out)⟩, ⟨by repeat (first | (with_reducible first | exact HB.out | apply below_alloc | apply pw_below_drewN | apply below_drew1) | exact HB.out)⟩⟩
  case round =>
    clear H'
    try clear p2
    obtain ⟨x0_1, x4_1, rfl, HA, HK1, HO_0, HK, HB⟩ := hrel
    cases gk with
    | zero => exact absurd HA.out (by simp [memory_memory_memset_go.l0])
    | succ k1 =>
      have H := HA.out
      clear HA
      simp only [memory_memory_memset_go.l0] at H
      by_cases c3 : x4_1 < (x0_1.length : Int)
      · rw [if_pos c3] at H
        have c3b0 : decide (x4_1 < (x0_1.length : Int)) = true := decide_eq_true c3
        clear c3
        by_cases c4 : 0 ≤ x4_1
        · rw [if_pos c4] at H
          have c4b0 : decide (0 ≤ x4_1) = true := decide_eq_true c4
          clear c4
          obtain ⟨y107, hy107⟩ : ∃ y_ : List Int, y_ = (x0_1.set (x4_1 : Int).toNat a1) := ⟨_, rfl⟩
          replace H : (memory_memory_memset_go.l0 k1 y107 a1 (wrap64 (x4_1 + 1))) = some r := by first | (rw [hy107]; with_reducible exact H) | (have H2_ := (Option.bind_some _ _).symm.trans H; rw [hy107]; with_reducible exact H2_) | (have H2_ := (Option.bind_some _ _).symm.trans H; with_reducible exact H2_) | with_reducible exact H | (rw [hy107]; exact H) | exact H
          have Ny107 := Aside0.mk hy107
          clear hy107
          have H' := Aside0.mk H
          clear H
          obtain ⟨Ao6, co6, eo6⟩ := Kd.R_slice HO_0.out
          subst eo6
          have p5 : 0 ≤ (x4_1 : Int) := of_decide_eq_true (by first | (with_reducible assumption) | assumption)
          have q5 : (x4_1 : Int) < ((x0_1.length : Int) : Int) := of_decide_eq_true (by first | (with_reducible assumption) | assumption)
          obtain ⟨go5, co5, eo5, gb5, gl5, cl5, HG5⟩ := Kd.R_form HO_0.out (by omega)
          (first | cases eo5 | (injection eo5 with ea_ en_ ec_; (first | subst ea_ | (injection ea_ with ea_; subst ea_)); subst ec_; clear en_))
          have GB5 := Aside0.mk gb5
          have GG5 := Aside0.mk HG5
          clear gb5 gl5 HG5
          have HMgo5 := Aside0.mk (show (P0_ go5 ∨ w.heap.size ≤ go5) from (HO_0.out.1 _ rfl))
          obtain ⟨hx5_0, hf5_0⟩ := Kd.R_celln 0 HO_0.out (x4_1 : Int) p5 q5
          replace p5 := eq_true p5
          replace q5 := eq_true q5
          have HP7 := Kd.R_putg HO_0.out (x4_1 : Int) a1
          go_wp2_with (first | ((with_reducible refine gate_store (t := 5) (p := 14) rfl ?_); refine store_event (t := 5) (p := 14) (v := ?vo_w8) (w1 := (wr.setCell ⟨go5, (x4_1 : Int).toNat, none⟩ (.int .u8 a1))) ?hg ?ho ?hn ?hr ?_; (case ho => rfl); (case hg => rfl); (case hn => rfl); (case hr => first | (go_simp; done) | (go_simp; rfl)); intro w8 hw; have hg : wr.grownBy w8 (some go5) := (by rw [hw]; exact HP7.2); have hp_ : Kd.R (Kd.int .u8) 5 w8 w0.heap.size (fun k_ => (P0_ k_ ∨ w.heap.size ≤ k_)) (.slice (some ⟨go5, 0, none⟩) x0_1.length co6) y107 := (by rw [hw, Ny107.out]; exact HP7.1); clear HP7; have n0_ := Aside0.mk (hp_); have n1_ := Aside0.mk ((by rw [hw]; exact below_set (HB.out) GB5.out : Below w0.heap.size w0 w8)); have n2_ := Aside0.mk (Kept.of_grown (S := (fun k_ => P0_ k_)) hg (by repeat (first | (with_reducible first | exact HK.out | apply Kept.alloc | apply Kept.drewN | apply Kept.drew) | exact HK.out)) (fun k_ e_ => (HO_0.out.1 k_ e_))); clear HO_0; clear HB; clear HK; have HO_0 := n0_; have HB := n1_; have HK := n2_; clear n0_ n1_ n2_; clear hg hw hp_))
          go_roundg k1
          case measure => have := HK1.out; omega
          case rel => exact ⟨(y107), (wrap64 (x4_1 + 1)), (by first | rfl | (simp; done) | (simp [*]; done)), H', ⟨by have := HK1.out; omega⟩, ⟨by (with_reducible repeat (first | apply Kd.R_alloc | apply Kd.R_drewN | apply Kd.R_drew)); exact HO_0.out⟩, ⟨by repeat (first | (with_reducible first | exact HK.out | apply Kept.alloc | apply Kept.drewN | apply Kept.drew) | exact HK.out)⟩, ⟨by repeat (first | (with_reducible first | exact HB.out | apply below_alloc | apply pw_below_drewN | apply below_drew1) | exact HB.out)⟩⟩
        · rw [if_neg c4] at H
          exact absurd H (by simp)
      · rw [if_neg c3] at H
        have c3b0 : decide (x4_1 < (x0_1.length : Int)) = false := decide_eq_false c3
        clear c3
        obtain rfl := Option.some.inj H
        obtain ⟨Ao9, co9, eo9⟩ := Kd.R_slice HO_0.out
        subst eo9
        go_wp2
        first | go_end0 | ((try simp only [Exit.inBlock, Exit.then]); refine bodyPost_ret (results_none rfl _ _ _) rfl ?_)
        exact ⟨by first | rfl | (simp [errW_none, errW_some] <;> rfl) | (simp [*, errW_none, errW_some] <;> rfl), by (with_reducible repeat (first | apply Kd.R_alloc | apply Kd.R_drewN | apply Kd.R_drew)); exact HO_0.out, by repeat (first | (with_reducible first | exact HB.out | apply below_alloc | apply pw_below_drewN | apply below_drew1) | exact HB.out), by repeat (first | (with_reducible first | exact HK.out | apply Kept.alloc | apply Kept.drewN | apply Kept.drew) | exact HK.out)⟩

/-! ### memory_Set: function 32 -/
def memory_Set.f (k : Nat) (l0 : List Int) (a1 : Int) : Option (List Int) := (memory_memory_memset_go.f k l0 a1).bind fun t108 => (some t108)
theorem memory_Set.mono : ∀ a0 a1 k, LeO (memory_Set.f k a0 a1) (memory_Set.f (k + 1) a0 a1) := by
  intro a0 a1 k
  unfold memory_Set.f
  repeat' first
      | (with_reducible exact memory_memory_memset_go.mono _ _ _)
      | (with_reducible exact LeO.refl _)
      | (with_reducible exact LeO.none _)
      | (with_reducible refine LeO.ite ?_ ?_)
      | (with_reducible refine LeO.bind ?_ (fun _ => ?_))
      | exact memory_memory_memset_go.mono _ _ _
      | exact LeO.none _
      | refine LeO.ite ?_ ?_
      | refine LeO.bind ?_ (fun _ => ?_)
set_option maxHeartbeats 8000000 in
set_option maxRecDepth 100000 in
theorem memory_Set.calls (k : Nat) (P0_ : Nat → Prop) (u9000_ : Value) (l0 : List Int) (a1 : Int) (r : List Int) (w0 w : World) (hB : Below w0.heap.size w0 w) (ho0 : Kd.R (Kd.int .u8) 5 w w0.heap.size P0_ u9000_ l0) (h : memory_Set.f k l0 a1 = some r) :
    Calls Tryd.prog 32 #[u9000_, .int .u8 a1] w fun e w' => e = .returned (.tuple #[]) ∧ Kd.R (Kd.int .u8) 5 w' w0.heap.size (fun k_ => (P0_ k_ ∨ w.heap.size ≤ k_)) u9000_ r ∧ Below w0.heap.size w0 w' ∧ Kept w w' (fun k_ => P0_ k_) := by
  have HO0 := Aside0.mk (show Kd.R (Kd.int .u8) 5 w w0.heap.size (fun k_ => (P0_ k_ ∨ w.heap.size ≤ k_)) u9000_ l0 from Kd.R_mono ho0 (fun k_ hk => (.inl hk)))
  have HK := Aside0.mk (Kept.refl w (fun k_ => P0_ k_))
  have HW0 := Aside0.mk hB.size
  have HB := Aside0.mk hB
  clear hB
  have H : ((memory_memory_memset_go.f k l0 a1).bind fun t108 => (some t108)) = some r := h
  clear h
  replace H := Option.bind_eq_some_iff.mp H
  obtain ⟨t108, A30, H⟩ := H
  replace H : (some t108) = some r := H
  have A3 := Aside0.mk A30
  clear A30
  obtain rfl := Option.some.inj H
  obtain ⟨Ao4, co4, eo4⟩ := Kd.R_slice HO0.out
  subst eo4
  go_enter Tryd.func32, Tryd.ntmps32
  go_wp2_with (first | ((with_reducible refine gate_callee (f := 38) rfl ?_); refine goesL_ (some 6) rfl rfl Tryd.func38 (by kernel_rfl) rfl #[.slice Ao4 l0.length co4, .int .u8 a1] rfl (by (try simp only [List.map_toArray, List.map_cons, List.map_nil]); first | done | rfl | (simp only [List.length_drop, List.length_take]; rfl)) ?_; (with_reducible refine (memory_memory_memset_go.calls k (fun k_ => some k_ = (.slice Ao4 l0.length co4 : Value).ownBlock) (.slice Ao4 l0.length co4) l0 a1 t108 w0 _ ?side1 ?side2 A3.out).mono ?_); (case side1 => repeat (first | (with_reducible first | exact HB.out | apply below_alloc | apply pw_below_drewN | apply below_drew1) | exact HB.out)); (case side2 => exact Kd.R_tight rfl HO0.out); rintro e w5 ⟨rfl, hy0, hb, hkp⟩; refine ⟨_, rfl, ?_⟩; have n0_ := Aside0.mk (Kd.R_reok rfl hy0 (fun k_ e_ => HO0.out.1 k_ e_)); have n1_ := Aside0.mk (Kept.then_ (S := (fun k_ => P0_ k_)) (by repeat (first | (with_reducible first | exact HK.out | apply Kept.alloc | apply Kept.drewN | apply Kept.drew) | exact HK.out)) hkp (fun k_ hs_ => (fun e_ => (HO0.out.1 k_ e_.symm)) hs_)); have n2_ := Aside0.mk (hb); clear HO0; clear HK; clear HB; have HO0 := n0_; have HK := n1_; have HB := n2_; clear n0_ n1_ n2_; (try clear hb); (try clear hkp); (try clear hy0)))
  first | go_end0 | ((try simp only [Exit.inBlock, Exit.then]); refine bodyPost_ret (results_none rfl _ _ _) rfl ?_)
  exact ⟨by first | rfl | (simp [errW_none, errW_some] <;> rfl) | (simp [*, errW_none, errW_some] <;> rfl), by (with_reducible repeat (first | apply Kd.R_alloc | apply Kd.R_drewN | apply Kd.R_drew)); exact HO0.out, by repeat (first | (with_reducible first | exact HB.out | apply below_alloc | apply pw_below_drewN | apply below_drew1) | exact HB.out), by repeat (first | (with_reducible first | exact HK.out | apply Kept.alloc | apply Kept.drewN | apply Kept.drew) | exact HK.out)⟩

-- NOT PRINTED: function 25 (bitutil_SetBitsTo)

/-! ### bitutil_toFromLEFunc: function 48 -/
def bitutil_toFromLEFunc.f (a0 : Int) : Option (Int) := some a0
set_option maxHeartbeats 8000000 in
set_option maxRecDepth 100000 in
theorem bitutil_toFromLEFunc.calls (a0 : Int) (r : Int) (w : World) (h : bitutil_toFromLEFunc.f a0 = some r) :
    Calls Tryd.prog 48 #[.int .u64 a0] w fun e w' => e = .returned (.int .u64 r) ∧ Drawn0 w w' := by
  have H : (some a0) = some r := h
  clear h
  obtain rfl := Option.some.inj H
  go_enter Tryd.func48, Tryd.ntmps48
  go_wp2
  go_ret
  exact ⟨by first | rfl | (simp; done) | (simp [*]; done), by repeat (first | exact Drawn0.refl _ | apply Drawn0.step)⟩

-- NOT PRINTED: function 49 (binary_littleEndian_Uint64)

-- NOT PRINTED: function 50 (bitutil_setLSB)

-- NOT PRINTED: function 39 (bitutil_NewBitmapWordReader)

-- NOT PRINTED: function 40 (bitutil_NewBitmapWordWriter)

/-- A state of type 111 at block g of W; what its slices lead to came in by w0. -/
def IsS111 (w0 W : World) (g : Nat) (f0 : List Int) (f1 : Int) (f2 : Int) (f3 : Int) (f4 : Int) (f5 : Int) : Prop := ∃ A0 c0, W.heap[g]? = some (.cells #[.slice A0 f0.length c0, .int .i64 f1, .int .i64 f2, .int .i64 f3, .int .i64 f4, .int .u64 f5] 111 (0, 0)) ∧ w0.heap.size ≤ g ∧ Kd.C (Kd.int .u8) w0 A0 f0.length f0
theorem IsS111.grown {w0 W : World} {g : Nat} {f0 : List Int} {f1 : Int} {f2 : Int} {f3 : Int} {f4 : Int} {f5 : Int} {W1 : World} {row : Option Nat} (h : IsS111 w0 W g f0 f1 f2 f3 f4 f5) (hw : W.grownBy W1 row) (hne : some g ≠ row) : IsS111 w0 W1 g f0 f1 f2 f3 f4 f5 := by
  obtain ⟨A0, c0, hb, hg, hr0⟩ := h
  exact ⟨A0, c0, blk_grown hb hw hne, hg, hr0⟩
theorem IsS111.own_neN {w0 W : World} {g : Nat} {f0 : List Int} {f1 : Int} {f2 : Int} {f3 : Int} {f4 : Int} {f5 : Int} {α : Type} {d : Kd α} {e : Nat} {base : Nat} {ok : Nat → Prop} {v : Value} {xs : List α} (h : IsS111 w0 W g f0 f1 f2 f3 f4 f5) (ho : Kd.N d e W base ok v xs) (ht : e ≠ 111) : some g ≠ v.ownBlock := by
  obtain ⟨A0, c0, hb, hg, hr0⟩ := h
  exact Kd.N_ne ho hb ht
theorem IsS111.fresh {w0 W : World} {g : Nat} {f0 : List Int} {f1 : Int} {f2 : Int} {f3 : Int} {f4 : Int} {f5 : Int} (h : IsS111 w0 W g f0 f1 f2 f3 f4 f5) : ∀ k, W.heap.size ≤ k → k ≠ g := by
  obtain ⟨A0, c0, hb, hg, hr0⟩ := h
  exact Kd.freshB hb
theorem IsS111.kept {w0 W : World} {g : Nat} {f0 : List Int} {f1 : Int} {f2 : Int} {f3 : Int} {f4 : Int} {f5 : Int} {W1 : World} {S : Nat → Prop} (h : IsS111 w0 W g f0 f1 f2 f3 f4 f5) (hk : Kept W W1 S) (hne : ¬ S g) : IsS111 w0 W1 g f0 f1 f2 f3 f4 f5 := by
  obtain ⟨A0, c0, hb, hg, hr0⟩ := h
  exact ⟨A0, c0, blk_kept hb hk hne, hg, hr0⟩
theorem IsS111.below {w0 W : World} {g : Nat} {f0 : List Int} {f1 : Int} {f2 : Int} {f3 : Int} {f4 : Int} {f5 : Int} {W1 : World} (h : IsS111 w0 W g f0 f1 f2 f3 f4 f5) (hw : Below W.heap.size W W1) : IsS111 w0 W1 g f0 f1 f2 f3 f4 f5 := h.grown (grown_of_below hw none) (by simp)
theorem IsS111.alloc {w0 W : World} {g : Nat} {f0 : List Int} {f1 : Int} {f2 : Int} {f3 : Int} {f4 : Int} {f5 : Int} (h : IsS111 w0 W g f0 f1 f2 f3 f4 f5) (o : Obj) : IsS111 w0 (W.alloc o) g f0 f1 f2 f3 f4 f5 := h.below (below_alloc (Below.refl _ _) o)
theorem IsS111.drewN {w0 W : World} {g : Nat} {f0 : List Int} {f1 : Int} {f2 : Int} {f3 : Int} {f4 : Int} {f5 : Int} (h : IsS111 w0 W g f0 f1 f2 f3 f4 f5) (m : Nat) : IsS111 w0 (W.drewN m) g f0 f1 f2 f3 f4 f5 := h
theorem IsS111.drew {w0 W : World} {g : Nat} {f0 : List Int} {f1 : Int} {f2 : Int} {f3 : Int} {f4 : Int} {f5 : Int} (h : IsS111 w0 W g f0 f1 f2 f3 f4 f5) : IsS111 w0 W.drew g f0 f1 f2 f3 f4 f5 := h
theorem IsS111.at_ {w0 W : World} {g : Nat} {f0 : List Int} {f1 : Int} {f2 : Int} {f3 : Int} {f4 : Int} {f5 : Int} {w' : World} {m : Nat} (hq : W.drewN m = w') (h : IsS111 w0 W g f0 f1 f2 f3 f4 f5) : IsS111 w0 w' g f0 f1 f2 f3 f4 f5 := by subst hq; exact IsS111.drewN h m
theorem IsS111.apart {w0 W : World} {g : Nat} {f0 : List Int} {f1 : Int} {f2 : Int} {f3 : Int} {f4 : Int} {f5 : Int} {α : Type} {d : Kd α} {e : Nat} {base : Nat} {ok : Nat → Prop} {v : Value} {xs : List α} (h : IsS111 w0 W g f0 f1 f2 f3 f4 f5) (ho : d.R e W base ok v xs) (ht : ∀ q, q ∈ e :: d.E → q ≠ 111) : d.R e W base (fun k => ok k ∧ k ≠ g) v xs := by
  obtain ⟨A0, c0, hb, hg, hr0⟩ := h
  exact Kd.R_types ho hb ht
theorem IsS111.own_ne {w0 W : World} {g : Nat} {f0 : List Int} {f1 : Int} {f2 : Int} {f3 : Int} {f4 : Int} {f5 : Int} {α : Type} {d : Kd α} {e : Nat} {base : Nat} {ok : Nat → Prop} {v : Value} {xs : List α} (h : IsS111 w0 W g f0 f1 f2 f3 f4 f5) (ho : d.R e W base ok v xs) (ht : e ≠ 111) : some g ≠ v.ownBlock := by
  obtain ⟨A0, c0, hb, hg, hr0⟩ := h
  exact Kd.R_ne ho hb ht
theorem IsS111.apartQ {w0 W : World} {g : Nat} {f0 : List Int} {f1 : Int} {f2 : Int} {f3 : Int} {f4 : Int} {f5 : Int} {α : Type} {d : Kd α} {e : Nat} {base : Nat} {ok : Nat → Prop} {v : Value} {xs : List α} (h : IsS111 w0 W g f0 f1 f2 f3 f4 f5) (ho : d.Q e W base ok v xs) (ht : ∀ q, q ∈ e :: d.E → q ≠ 111) : d.Q e W base (fun k => ok k ∧ k ≠ g) v xs := by
  obtain ⟨A0, c0, hb, hg, hr0⟩ := h
  exact Kd.Q_types ho hb ht
theorem IsS111.own_neQ {w0 W : World} {g : Nat} {f0 : List Int} {f1 : Int} {f2 : Int} {f3 : Int} {f4 : Int} {f5 : Int} {α : Type} {d : Kd α} {e : Nat} {base : Nat} {ok : Nat → Prop} {v : Value} {xs : List α} (h : IsS111 w0 W g f0 f1 f2 f3 f4 f5) (ho : d.Q e W base ok v xs) (ht : e ≠ 111) : some g ≠ v.ownBlock := by
  obtain ⟨A0, c0, hb, hg, hr0⟩ := h
  exact Kd.Q_ne ho hb ht
theorem IsS111.apartS {w0 W : World} {g : Nat} {f0 : List Int} {f1 : Int} {f2 : Int} {f3 : Int} {f4 : Int} {f5 : Int} {α : Type} {d : Kd α} {e : Nat} {base : Nat} {ok : Nat → Prop} {v : Value} {xs : List α} (h : IsS111 w0 W g f0 f1 f2 f3 f4 f5) (ho : d.S e W base ok v xs) (ht : ∀ q, q ∈ e :: d.E → q ≠ 111) : d.S e W base (fun k => ok k ∧ k ≠ g) v xs := by
  obtain ⟨A0, c0, hb, hg, hr0⟩ := h
  exact Kd.S_types ho hb ht
theorem IsS111.own_neS {w0 W : World} {g : Nat} {f0 : List Int} {f1 : Int} {f2 : Int} {f3 : Int} {f4 : Int} {f5 : Int} {α : Type} {d : Kd α} {e : Nat} {base : Nat} {ok : Nat → Prop} {v : Value} {xs : List α} (h : IsS111 w0 W g f0 f1 f2 f3 f4 f5) (ho : d.S e W base ok v xs) (ht : e ≠ 111) : some g ≠ v.ownBlock := by
  obtain ⟨A0, c0, hb, hg, hr0⟩ := h
  exact Kd.S_ne ho hb ht
theorem IsS111.lt {w0 W : World} {g : Nat} {f0 : List Int} {f1 : Int} {f2 : Int} {f3 : Int} {f4 : Int} {f5 : Int} (h : IsS111 w0 W g f0 f1 f2 f3 f4 f5) : g < W.heap.size := by
  obtain ⟨A0, c0, hb, hg, hr0⟩ := h
  exact blk_lt hb
theorem IsS111.ge {w0 W : World} {g : Nat} {f0 : List Int} {f1 : Int} {f2 : Int} {f3 : Int} {f4 : Int} {f5 : Int} (h : IsS111 w0 W g f0 f1 f2 f3 f4 f5) : w0.heap.size ≤ g := by
  obtain ⟨A0, c0, hb, hg, hr0⟩ := h
  exact hg
theorem IsS111.ne_blk {w0 W : World} {g : Nat} {f0 : List Int} {f1 : Int} {f2 : Int} {f3 : Int} {f4 : Int} {f5 : Int} {a : Nat} {cs : Array Value} {t : TypeId} {fr : Nat × Nat} (h : IsS111 w0 W g f0 f1 f2 f3 f4 f5) (hb2 : W.heap[a]? = some (.cells cs t fr)) (ht : t ≠ 111) : g ≠ a := by
  obtain ⟨A0, c0, hb, hg, hr0⟩ := h
  rintro rfl
  rw [hb] at hb2
  injection hb2 with hb2
  injection hb2 with _ ht2
  exact ht ht2.symm
theorem IsS111.far {w0 W : World} {g : Nat} {f0 : List Int} {f1 : Int} {f2 : Int} {f3 : Int} {f4 : Int} {f5 : Int} {p : Addr} (h : IsS111 w0 W g f0 f1 f2 f3 f4 f5) (hne : g ≠ p.block) (u : Value) : IsS111 w0 (W.setCell p u) g f0 f1 f2 f3 f4 f5 := by
  obtain ⟨A0, c0, hb, hg, hr0⟩ := h
  exact ⟨A0, c0, blk_far hb hne u, hg, hr0⟩
theorem cellS111_0 {W : World} {g : Nat} {A0 : Option Addr} {c0 : Nat} {f0 : List Int} {f1 : Int} {f2 : Int} {f3 : Int} {f4 : Int} {f5 : Int} (h : W.heap[g]? = some (.cells #[.slice A0 f0.length c0, .int .i64 f1, .int .i64 f2, .int .i64 f3, .int .i64 f4, .int .u64 f5] 111 (0, 0))) : W.cell? ⟨g, 0, none⟩ = some (.slice A0 f0.length c0) := (blk_cell h 0).trans rfl
theorem cellS111_1 {W : World} {g : Nat} {A0 : Option Addr} {c0 : Nat} {f0 : List Int} {f1 : Int} {f2 : Int} {f3 : Int} {f4 : Int} {f5 : Int} (h : W.heap[g]? = some (.cells #[.slice A0 f0.length c0, .int .i64 f1, .int .i64 f2, .int .i64 f3, .int .i64 f4, .int .u64 f5] 111 (0, 0))) : W.cell? ⟨g, 1, none⟩ = some (.int .i64 f1) := (blk_cell h 1).trans rfl
theorem IsS111.set_1 {w0 W : World} {g : Nat} {f0 : List Int} {f1 : Int} {f2 : Int} {f3 : Int} {f4 : Int} {f5 : Int} (h : IsS111 w0 W g f0 f1 f2 f3 f4 f5) (x : Int) : IsS111 w0 (W.setCell ⟨g, 1, none⟩ (.int .i64 x)) g f0 x f2 f3 f4 f5 := by
  obtain ⟨A0, c0, hb, hg, hr0⟩ := h
  exact ⟨A0, c0, by simpa using blk_set hb 1 (.int .i64 x), hg, hr0⟩
theorem cellS111_2 {W : World} {g : Nat} {A0 : Option Addr} {c0 : Nat} {f0 : List Int} {f1 : Int} {f2 : Int} {f3 : Int} {f4 : Int} {f5 : Int} (h : W.heap[g]? = some (.cells #[.slice A0 f0.length c0, .int .i64 f1, .int .i64 f2, .int .i64 f3, .int .i64 f4, .int .u64 f5] 111 (0, 0))) : W.cell? ⟨g, 2, none⟩ = some (.int .i64 f2) := (blk_cell h 2).trans rfl
theorem IsS111.set_2 {w0 W : World} {g : Nat} {f0 : List Int} {f1 : Int} {f2 : Int} {f3 : Int} {f4 : Int} {f5 : Int} (h : IsS111 w0 W g f0 f1 f2 f3 f4 f5) (x : Int) : IsS111 w0 (W.setCell ⟨g, 2, none⟩ (.int .i64 x)) g f0 f1 x f3 f4 f5 := by
  obtain ⟨A0, c0, hb, hg, hr0⟩ := h
  exact ⟨A0, c0, by simpa using blk_set hb 2 (.int .i64 x), hg, hr0⟩
theorem cellS111_3 {W : World} {g : Nat} {A0 : Option Addr} {c0 : Nat} {f0 : List Int} {f1 : Int} {f2 : Int} {f3 : Int} {f4 : Int} {f5 : Int} (h : W.heap[g]? = some (.cells #[.slice A0 f0.length c0, .int .i64 f1, .int .i64 f2, .int .i64 f3, .int .i64 f4, .int .u64 f5] 111 (0, 0))) : W.cell? ⟨g, 3, none⟩ = some (.int .i64 f3) := (blk_cell h 3).trans rfl
theorem IsS111.set_3 {w0 W : World} {g : Nat} {f0 : List Int} {f1 : Int} {f2 : Int} {f3 : Int} {f4 : Int} {f5 : Int} (h : IsS111 w0 W g f0 f1 f2 f3 f4 f5) (x : Int) : IsS111 w0 (W.setCell ⟨g, 3, none⟩ (.int .i64 x)) g f0 f1 f2 x f4 f5 := by
  obtain ⟨A0, c0, hb, hg, hr0⟩ := h
  exact ⟨A0, c0, by simpa using blk_set hb 3 (.int .i64 x), hg, hr0⟩
theorem cellS111_4 {W : World} {g : Nat} {A0 : Option Addr} {c0 : Nat} {f0 : List Int} {f1 : Int} {f2 : Int} {f3 : Int} {f4 : Int} {f5 : Int} (h : W.heap[g]? = some (.cells #[.slice A0 f0.length c0, .int .i64 f1, .int .i64 f2, .int .i64 f3, .int .i64 f4, .int .u64 f5] 111 (0, 0))) : W.cell? ⟨g, 4, none⟩ = some (.int .i64 f4) := (blk_cell h 4).trans rfl
theorem IsS111.set_4 {w0 W : World} {g : Nat} {f0 : List Int} {f1 : Int} {f2 : Int} {f3 : Int} {f4 : Int} {f5 : Int} (h : IsS111 w0 W g f0 f1 f2 f3 f4 f5) (x : Int) : IsS111 w0 (W.setCell ⟨g, 4, none⟩ (.int .i64 x)) g f0 f1 f2 f3 x f5 := by
  obtain ⟨A0, c0, hb, hg, hr0⟩ := h
  exact ⟨A0, c0, by simpa using blk_set hb 4 (.int .i64 x), hg, hr0⟩
theorem cellS111_5 {W : World} {g : Nat} {A0 : Option Addr} {c0 : Nat} {f0 : List Int} {f1 : Int} {f2 : Int} {f3 : Int} {f4 : Int} {f5 : Int} (h : W.heap[g]? = some (.cells #[.slice A0 f0.length c0, .int .i64 f1, .int .i64 f2, .int .i64 f3, .int .i64 f4, .int .u64 f5] 111 (0, 0))) : W.cell? ⟨g, 5, none⟩ = some (.int .u64 f5) := (blk_cell h 5).trans rfl
theorem IsS111.set_5 {w0 W : World} {g : Nat} {f0 : List Int} {f1 : Int} {f2 : Int} {f3 : Int} {f4 : Int} {f5 : Int} (h : IsS111 w0 W g f0 f1 f2 f3 f4 f5) (x : Int) : IsS111 w0 (W.setCell ⟨g, 5, none⟩ (.int .u64 x)) g f0 f1 f2 f3 f4 x := by
  obtain ⟨A0, c0, hb, hg, hr0⟩ := h
  exact ⟨A0, c0, by simpa using blk_set hb 5 (.int .u64 x), hg, hr0⟩
theorem IsS111.new (w0 W : World) (A0 : Option Addr) (c0 : Nat) (f0 : List Int) (f1 : Int) (f2 : Int) (f3 : Int) (f4 : Int) (f5 : Int) (hB : Below w0.heap.size w0 W) (hr0 : Kd.C (Kd.int .u8) w0 A0 f0.length f0) : IsS111 w0 (W.alloc (.cells #[.slice A0 f0.length c0, .int .i64 f1, .int .i64 f2, .int .i64 f3, .int .i64 f4, .int .u64 f5] 111)) W.heap.size f0 f1 f2 f3 f4 f5 := ⟨A0, c0, by simpa using heap_alloc_new W _, hB.size, hr0⟩

/-! ### bitutil_BitmapWordReader_Words: function 41 -/
def bitutil_BitmapWordReader_Words.f (s0_0 : List Int) (s0_1 : Int) (s0_2 : Int) (s0_3 : Int) (s0_4 : Int) (s0_5 : Int) : Option (Int × Int × Int × Int × Int × Int) := some (s0_2, s0_1, s0_2, s0_3, s0_4, s0_5)
set_option maxHeartbeats 8000000 in
set_option maxRecDepth 100000 in
theorem bitutil_BitmapWordReader_Words.calls (g : Nat) (s0_0 : List Int) (s0_1 : Int) (s0_2 : Int) (s0_3 : Int) (s0_4 : Int) (s0_5 : Int) (r1 : Int) (r2 : Int) (r3 : Int) (r4 : Int) (r5 : Int) (r6 : Int) (w0 w : World) (hI : IsS111 w0 w g s0_0 s0_1 s0_2 s0_3 s0_4 s0_5) (hB : Below w0.heap.size w0 w) (h : bitutil_BitmapWordReader_Words.f s0_0 s0_1 s0_2 s0_3 s0_4 s0_5 = some (r1, r2, r3, r4, r5, r6)) :
    Calls Tryd.prog 41 #[.pointer (some ⟨g, 0, none⟩)] w fun e w' => e = .returned (.int .i64 r1) ∧ IsS111 w0 w' g s0_0 r2 r3 r4 r5 r6 ∧ Below w0.heap.size w0 w' ∧ KeepBut w w' g none := by
  have HI0 := Aside0.mk hI
  have HK := Aside0.mk (KeepBut.refl w g none)
  have HL := Aside0.mk hB.size
  clear hI
  have HW0 := Aside0.mk hB.size
  have HB := Aside0.mk hB
  clear hB
  have H : (some (s0_2, s0_1, s0_2, s0_3, s0_4, s0_5)) = some (r1, r2, r3, r4, r5, r6) := h
  clear h
  simp only [Option.some.injEq, Prod.mk.injEq] at H
  obtain ⟨rfl, rfl, rfl, rfl, rfl, rfl⟩ := H
  obtain ⟨ASz2_0, cSz2_0, HGz2, hgz2, HSz2_0⟩ := HI0.out
  have hcz2_0 := cellS111_0 HGz2
  have hcz2_1 := cellS111_1 HGz2
  have hcz2_2 := cellS111_2 HGz2
  have hcz2_3 := cellS111_3 HGz2
  have hcz2_4 := cellS111_4 HGz2
  have hcz2_5 := cellS111_5 HGz2
  have hfz2_1 := blk_frozen HGz2 1
  have hfz2_2 := blk_frozen HGz2 2
  have hfz2_3 := blk_frozen HGz2 3
  have hfz2_4 := blk_frozen HGz2 4
  have hfz2_5 := blk_frozen HGz2 5
  clear HGz2 hgz2
  go_enter Tryd.func41, Tryd.ntmps41
  go_wp2
  go_ret
  exact ⟨by first | rfl | (simp [errW_none, errW_some] <;> rfl) | (simp [*, errW_none, errW_some] <;> rfl), by repeat (first | (with_reducible first | exact HI0.out | apply IsS111.alloc | apply IsS111.drewN | apply IsS111.drew | apply IsS111.set_1 | apply IsS111.set_2 | apply IsS111.set_3 | apply IsS111.set_4 | apply IsS111.set_5) | exact HI0.out), by repeat (first | (with_reducible first | exact HB.out | apply below_alloc | apply pw_below_drewN | apply below_drew1 | refine below_set ?_ (IsS111.ge HI0.out)) | exact HB.out), by repeat (first | (with_reducible first | exact HK.out | apply KeepBut.set_ | apply keep_drewN | apply keep_drew | apply keep_alloc) | exact HK.out)⟩

-- NOT PRINTED: function 51 (binary_littleEndian_PutUint64)

-- NOT PRINTED: function 42 (bitutil_BitmapWordWriter_PutNextWord)

-- NOT PRINTED: function 43 (bitutil_BitmapWordReader_NextWord)

/-! ### bitutil_BitmapWordReader_TrailingBytes: function 44 -/
def bitutil_BitmapWordReader_TrailingBytes.f (s0_0 : List Int) (s0_1 : Int) (s0_2 : Int) (s0_3 : Int) (s0_4 : Int) (s0_5 : Int) : Option (Int × Int × Int × Int × Int × Int) := some (s0_4, s0_1, s0_2, s0_3, s0_4, s0_5)
set_option maxHeartbeats 8000000 in
set_option maxRecDepth 100000 in
theorem bitutil_BitmapWordReader_TrailingBytes.calls (g : Nat) (s0_0 : List Int) (s0_1 : Int) (s0_2 : Int) (s0_3 : Int) (s0_4 : Int) (s0_5 : Int) (r1 : Int) (r2 : Int) (r3 : Int) (r4 : Int) (r5 : Int) (r6 : Int) (w0 w : World) (hI : IsS111 w0 w g s0_0 s0_1 s0_2 s0_3 s0_4 s0_5) (hB : Below w0.heap.size w0 w) (h : bitutil_BitmapWordReader_TrailingBytes.f s0_0 s0_1 s0_2 s0_3 s0_4 s0_5 = some (r1, r2, r3, r4, r5, r6)) :
    Calls Tryd.prog 44 #[.pointer (some ⟨g, 0, none⟩)] w fun e w' => e = .returned (.int .i64 r1) ∧ IsS111 w0 w' g s0_0 r2 r3 r4 r5 r6 ∧ Below w0.heap.size w0 w' ∧ KeepBut w w' g none := by
  have HI0 := Aside0.mk hI
  have HK := Aside0.mk (KeepBut.refl w g none)
  have HL := Aside0.mk hB.size
  clear hI
  have HW0 := Aside0.mk hB.size
  have HB := Aside0.mk hB
  clear hB
  have H : (some (s0_4, s0_1, s0_2, s0_3, s0_4, s0_5)) = some (r1, r2, r3, r4, r5, r6) := h
  clear h
  simp only [Option.some.injEq, Prod.mk.injEq] at H
  obtain ⟨rfl, rfl, rfl, rfl, rfl, rfl⟩ := H
  obtain ⟨ASz2_0, cSz2_0, HGz2, hgz2, HSz2_0⟩ := HI0.out
  have hcz2_0 := cellS111_0 HGz2
  have hcz2_1 := cellS111_1 HGz2
  have hcz2_2 := cellS111_2 HGz2
  have hcz2_3 := cellS111_3 HGz2
  have hcz2_4 := cellS111_4 HGz2
  have hcz2_5 := cellS111_5 HGz2
  have hfz2_1 := blk_frozen HGz2 1
  have hfz2_2 := blk_frozen HGz2 2
  have hfz2_3 := blk_frozen HGz2 3
  have hfz2_4 := blk_frozen HGz2 4
  have hfz2_5 := blk_frozen HGz2 5
  clear HGz2 hgz2
  go_enter Tryd.func44, Tryd.ntmps44
  go_wp2
  go_ret
  exact ⟨by first | rfl | (simp [errW_none, errW_some] <;> rfl) | (simp [*, errW_none, errW_some] <;> rfl), by repeat (first | (with_reducible first | exact HI0.out | apply IsS111.alloc | apply IsS111.drewN | apply IsS111.drew | apply IsS111.set_1 | apply IsS111.set_2 | apply IsS111.set_3 | apply IsS111.set_4 | apply IsS111.set_5) | exact HI0.out), by repeat (first | (with_reducible first | exact HB.out | apply below_alloc | apply pw_below_drewN | apply below_drew1 | refine below_set ?_ (IsS111.ge HI0.out)) | exact HB.out), by repeat (first | (with_reducible first | exact HK.out | apply KeepBut.set_ | apply keep_drewN | apply keep_drew | apply keep_alloc) | exact HK.out)⟩

-- NOT PRINTED: function 29 (debug_Assert)

-- NOT PRINTED: function 52 (bitutil_NewBitmapReader)

/-- A state of type 127 at block g of W; what its slices lead to came in by w0. -/
def IsS127 (w0 W : World) (g : Nat) (f0 : List Int) (f1 : Int) (f2 : Int) (f3 : Int) (f4 : Int) (f5 : Int) : Prop := ∃ A0 c0, W.heap[g]? = some (.cells #[.slice A0 f0.length c0, .int .i64 f1, .int .i64 f2, .int .u8 f3, .int .i64 f4, .int .i64 f5] 127 (0, 0)) ∧ w0.heap.size ≤ g ∧ Kd.C (Kd.int .u8) w0 A0 f0.length f0
theorem IsS127.grown {w0 W : World} {g : Nat} {f0 : List Int} {f1 : Int} {f2 : Int} {f3 : Int} {f4 : Int} {f5 : Int} {W1 : World} {row : Option Nat} (h : IsS127 w0 W g f0 f1 f2 f3 f4 f5) (hw : W.grownBy W1 row) (hne : some g ≠ row) : IsS127 w0 W1 g f0 f1 f2 f3 f4 f5 := by
  obtain ⟨A0, c0, hb, hg, hr0⟩ := h
  exact ⟨A0, c0, blk_grown hb hw hne, hg, hr0⟩
theorem IsS127.own_neN {w0 W : World} {g : Nat} {f0 : List Int} {f1 : Int} {f2 : Int} {f3 : Int} {f4 : Int} {f5 : Int} {α : Type} {d : Kd α} {e : Nat} {base : Nat} {ok : Nat → Prop} {v : Value} {xs : List α} (h : IsS127 w0 W g f0 f1 f2 f3 f4 f5) (ho : Kd.N d e W base ok v xs) (ht : e ≠ 127) : some g ≠ v.ownBlock := by
  obtain ⟨A0, c0, hb, hg, hr0⟩ := h
  exact Kd.N_ne ho hb ht
theorem IsS127.fresh {w0 W : World} {g : Nat} {f0 : List Int} {f1 : Int} {f2 : Int} {f3 : Int} {f4 : Int} {f5 : Int} (h : IsS127 w0 W g f0 f1 f2 f3 f4 f5) : ∀ k, W.heap.size ≤ k → k ≠ g := by
  obtain ⟨A0, c0, hb, hg, hr0⟩ := h
  exact Kd.freshB hb
theorem IsS127.kept {w0 W : World} {g : Nat} {f0 : List Int} {f1 : Int} {f2 : Int} {f3 : Int} {f4 : Int} {f5 : Int} {W1 : World} {S : Nat → Prop} (h : IsS127 w0 W g f0 f1 f2 f3 f4 f5) (hk : Kept W W1 S) (hne : ¬ S g) : IsS127 w0 W1 g f0 f1 f2 f3 f4 f5 := by
  obtain ⟨A0, c0, hb, hg, hr0⟩ := h
  exact ⟨A0, c0, blk_kept hb hk hne, hg, hr0⟩
theorem IsS127.below {w0 W : World} {g : Nat} {f0 : List Int} {f1 : Int} {f2 : Int} {f3 : Int} {f4 : Int} {f5 : Int} {W1 : World} (h : IsS127 w0 W g f0 f1 f2 f3 f4 f5) (hw : Below W.heap.size W W1) : IsS127 w0 W1 g f0 f1 f2 f3 f4 f5 := h.grown (grown_of_below hw none) (by simp)
theorem IsS127.alloc {w0 W : World} {g : Nat} {f0 : List Int} {f1 : Int} {f2 : Int} {f3 : Int} {f4 : Int} {f5 : Int} (h : IsS127 w0 W g f0 f1 f2 f3 f4 f5) (o : Obj) : IsS127 w0 (W.alloc o) g f0 f1 f2 f3 f4 f5 := h.below (below_alloc (Below.refl _ _) o)
theorem IsS127.drewN {w0 W : World} {g : Nat} {f0 : List Int} {f1 : Int} {f2 : Int} {f3 : Int} {f4 : Int} {f5 : Int} (h : IsS127 w0 W g f0 f1 f2 f3 f4 f5) (m : Nat) : IsS127 w0 (W.drewN m) g f0 f1 f2 f3 f4 f5 := h
theorem IsS127.drew {w0 W : World} {g : Nat} {f0 : List Int} {f1 : Int} {f2 : Int} {f3 : Int} {f4 : Int} {f5 : Int} (h : IsS127 w0 W g f0 f1 f2 f3 f4 f5) : IsS127 w0 W.drew g f0 f1 f2 f3 f4 f5 := h
theorem IsS127.at_ {w0 W : World} {g : Nat} {f0 : List Int} {f1 : Int} {f2 : Int} {f3 : Int} {f4 : Int} {f5 : Int} {w' : World} {m : Nat} (hq : W.drewN m = w') (h : IsS127 w0 W g f0 f1 f2 f3 f4 f5) : IsS127 w0 w' g f0 f1 f2 f3 f4 f5 := by subst hq; exact IsS127.drewN h m
theorem IsS127.apart {w0 W : World} {g : Nat} {f0 : List Int} {f1 : Int} {f2 : Int} {f3 : Int} {f4 : Int} {f5 : Int} {α : Type} {d : Kd α} {e : Nat} {base : Nat} {ok : Nat → Prop} {v : Value} {xs : List α} (h : IsS127 w0 W g f0 f1 f2 f3 f4 f5) (ho : d.R e W base ok v xs) (ht : ∀ q, q ∈ e :: d.E → q ≠ 127) : d.R e W base (fun k => ok k ∧ k ≠ g) v xs := by
  obtain ⟨A0, c0, hb, hg, hr0⟩ := h
  exact Kd.R_types ho hb ht
theorem IsS127.own_ne {w0 W : World} {g : Nat} {f0 : List Int} {f1 : Int} {f2 : Int} {f3 : Int} {f4 : Int} {f5 : Int} {α : Type} {d : Kd α} {e : Nat} {base : Nat} {ok : Nat → Prop} {v : Value} {xs : List α} (h : IsS127 w0 W g f0 f1 f2 f3 f4 f5) (ho : d.R e W base ok v xs) (ht : e ≠ 127) : some g ≠ v.ownBlock := by
  obtain ⟨A0, c0, hb, hg, hr0⟩ := h
  exact Kd.R_ne ho hb ht
theorem IsS127.apartQ {w0 W : World} {g : Nat} {f0 : List Int} {f1 : Int} {f2 : Int} {f3 : Int} {f4 : Int} {f5 : Int} {α : Type} {d : Kd α} {e : Nat} {base : Nat} {ok : Nat → Prop} {v : Value} {xs : List α} (h : IsS127 w0 W g f0 f1 f2 f3 f4 f5) (ho : d.Q e W base ok v xs) (ht : ∀ q, q ∈ e :: d.E → q ≠ 127) : d.Q e W base (fun k => ok k ∧ k ≠ g) v xs := by
  obtain ⟨A0, c0, hb, hg, hr0⟩ := h
  exact Kd.Q_types ho hb ht
theorem IsS127.own_neQ {w0 W : World} {g : Nat} {f0 : List Int} {f1 : Int} {f2 : Int} {f3 : Int} {f4 : Int} {f5 : Int} {α : Type} {d : Kd α} {e : Nat} {base : Nat} {ok : Nat → Prop} {v : Value} {xs : List α} (h : IsS127 w0 W g f0 f1 f2 f3 f4 f5) (ho : d.Q e W base ok v xs) (ht : e ≠ 127) : some g ≠ v.ownBlock := by
  obtain ⟨A0, c0, hb, hg, hr0⟩ := h
  exact Kd.Q_ne ho hb ht
theorem IsS127.apartS {w0 W : World} {g : Nat} {f0 : List Int} {f1 : Int} {f2 : Int} {f3 : Int} {f4 : Int} {f5 : Int} {α : Type} {d : Kd α} {e : Nat} {base : Nat} {ok : Nat → Prop} {v : Value} {xs : List α} (h : IsS127 w0 W g f0 f1 f2 f3 f4 f5) (ho : d.S e W base ok v xs) (ht : ∀ q, q ∈ e :: d.E → q ≠ 127) : d.S e W base (fun k => ok k ∧ k ≠ g) v xs := by
  obtain ⟨A0, c0, hb, hg, hr0⟩ := h
  exact Kd.S_types ho hb ht
theorem IsS127.own_neS {w0 W : World} {g : Nat} {f0 : List Int} {f1 : Int} {f2 : Int} {f3 : Int} {f4 : Int} {f5 : Int} {α : Type} {d : Kd α} {e : Nat} {base : Nat} {ok : Nat → Prop} {v : Value} {xs : List α} (h : IsS127 w0 W g f0 f1 f2 f3 f4 f5) (ho : d.S e W base ok v xs) (ht : e ≠ 127) : some g ≠ v.ownBlock := by
  obtain ⟨A0, c0, hb, hg, hr0⟩ := h
  exact Kd.S_ne ho hb ht
theorem IsS127.lt {w0 W : World} {g : Nat} {f0 : List Int} {f1 : Int} {f2 : Int} {f3 : Int} {f4 : Int} {f5 : Int} (h : IsS127 w0 W g f0 f1 f2 f3 f4 f5) : g < W.heap.size := by
  obtain ⟨A0, c0, hb, hg, hr0⟩ := h
  exact blk_lt hb
theorem IsS127.ge {w0 W : World} {g : Nat} {f0 : List Int} {f1 : Int} {f2 : Int} {f3 : Int} {f4 : Int} {f5 : Int} (h : IsS127 w0 W g f0 f1 f2 f3 f4 f5) : w0.heap.size ≤ g := by
  obtain ⟨A0, c0, hb, hg, hr0⟩ := h
  exact hg
theorem IsS127.ne_blk {w0 W : World} {g : Nat} {f0 : List Int} {f1 : Int} {f2 : Int} {f3 : Int} {f4 : Int} {f5 : Int} {a : Nat} {cs : Array Value} {t : TypeId} {fr : Nat × Nat} (h : IsS127 w0 W g f0 f1 f2 f3 f4 f5) (hb2 : W.heap[a]? = some (.cells cs t fr)) (ht : t ≠ 127) : g ≠ a := by
  obtain ⟨A0, c0, hb, hg, hr0⟩ := h
  rintro rfl
  rw [hb] at hb2
  injection hb2 with hb2
  injection hb2 with _ ht2
  exact ht ht2.symm
theorem IsS127.far {w0 W : World} {g : Nat} {f0 : List Int} {f1 : Int} {f2 : Int} {f3 : Int} {f4 : Int} {f5 : Int} {p : Addr} (h : IsS127 w0 W g f0 f1 f2 f3 f4 f5) (hne : g ≠ p.block) (u : Value) : IsS127 w0 (W.setCell p u) g f0 f1 f2 f3 f4 f5 := by
  obtain ⟨A0, c0, hb, hg, hr0⟩ := h
  exact ⟨A0, c0, blk_far hb hne u, hg, hr0⟩
theorem cellS127_0 {W : World} {g : Nat} {A0 : Option Addr} {c0 : Nat} {f0 : List Int} {f1 : Int} {f2 : Int} {f3 : Int} {f4 : Int} {f5 : Int} (h : W.heap[g]? = some (.cells #[.slice A0 f0.length c0, .int .i64 f1, .int .i64 f2, .int .u8 f3, .int .i64 f4, .int .i64 f5] 127 (0, 0))) : W.cell? ⟨g, 0, none⟩ = some (.slice A0 f0.length c0) := (blk_cell h 0).trans rfl
theorem cellS127_1 {W : World} {g : Nat} {A0 : Option Addr} {c0 : Nat} {f0 : List Int} {f1 : Int} {f2 : Int} {f3 : Int} {f4 : Int} {f5 : Int} (h : W.heap[g]? = some (.cells #[.slice A0 f0.length c0, .int .i64 f1, .int .i64 f2, .int .u8 f3, .int .i64 f4, .int .i64 f5] 127 (0, 0))) : W.cell? ⟨g, 1, none⟩ = some (.int .i64 f1) := (blk_cell h 1).trans rfl
theorem IsS127.set_1 {w0 W : World} {g : Nat} {f0 : List Int} {f1 : Int} {f2 : Int} {f3 : Int} {f4 : Int} {f5 : Int} (h : IsS127 w0 W g f0 f1 f2 f3 f4 f5) (x : Int) : IsS127 w0 (W.setCell ⟨g, 1, none⟩ (.int .i64 x)) g f0 x f2 f3 f4 f5 := by
  obtain ⟨A0, c0, hb, hg, hr0⟩ := h
  exact ⟨A0, c0, by simpa using blk_set hb 1 (.int .i64 x), hg, hr0⟩
theorem cellS127_2 {W : World} {g : Nat} {A0 : Option Addr} {c0 : Nat} {f0 : List Int} {f1 : Int} {f2 : Int} {f3 : Int} {f4 : Int} {f5 : Int} (h : W.heap[g]? = some (.cells #[.slice A0 f0.length c0, .int .i64 f1, .int .i64 f2, .int .u8 f3, .int .i64 f4, .int .i64 f5] 127 (0, 0))) : W.cell? ⟨g, 2, none⟩ = some (.int .i64 f2) := (blk_cell h 2).trans rfl
theorem IsS127.set_2 {w0 W : World} {g : Nat} {f0 : List Int} {f1 : Int} {f2 : Int} {f3 : Int} {f4 : Int} {f5 : Int} (h : IsS127 w0 W g f0 f1 f2 f3 f4 f5) (x : Int) : IsS127 w0 (W.setCell ⟨g, 2, none⟩ (.int .i64 x)) g f0 f1 x f3 f4 f5 := by
  obtain ⟨A0, c0, hb, hg, hr0⟩ := h
  exact ⟨A0, c0, by simpa using blk_set hb 2 (.int .i64 x), hg, hr0⟩
theorem cellS127_3 {W : World} {g : Nat} {A0 : Option Addr} {c0 : Nat} {f0 : List Int} {f1 : Int} {f2 : Int} {f3 : Int} {f4 : Int} {f5 : Int} (h : W.heap[g]? = some (.cells #[.slice A0 f0.length c0, .int .i64 f1, .int .i64 f2, .int .u8 f3, .int .i64 f4, .int .i64 f5] 127 (0, 0))) : W.cell? ⟨g, 3, none⟩ = some (.int .u8 f3) := (blk_cell h 3).trans rfl
theorem IsS127.set_3 {w0 W : World} {g : Nat} {f0 : List Int} {f1 : Int} {f2 : Int} {f3 : Int} {f4 : Int} {f5 : Int} (h : IsS127 w0 W g f0 f1 f2 f3 f4 f5) (x : Int) : IsS127 w0 (W.setCell ⟨g, 3, none⟩ (.int .u8 x)) g f0 f1 f2 x f4 f5 := by
  obtain ⟨A0, c0, hb, hg, hr0⟩ := h
  exact ⟨A0, c0, by simpa using blk_set hb 3 (.int .u8 x), hg, hr0⟩
theorem cellS127_4 {W : World} {g : Nat} {A0 : Option Addr} {c0 : Nat} {f0 : List Int} {f1 : Int} {f2 : Int} {f3 : Int} {f4 : Int} {f5 : Int} (h : W.heap[g]? = some (.cells #[.slice A0 f0.length c0, .int .i64 f1, .int .i64 f2, .int .u8 f3, .int .i64 f4, .int .i64 f5] 127 (0, 0))) : W.cell? ⟨g, 4, none⟩ = some (.int .i64 f4) := (blk_cell h 4).trans rfl
theorem IsS127.set_4 {w0 W : World} {g : Nat} {f0 : List Int} {f1 : Int} {f2 : Int} {f3 : Int} {f4 : Int} {f5 : Int} (h : IsS127 w0 W g f0 f1 f2 f3 f4 f5) (x : Int) : IsS127 w0 (W.setCell ⟨g, 4, none⟩ (.int .i64 x)) g f0 f1 f2 f3 x f5 := by
  obtain ⟨A0, c0, hb, hg, hr0⟩ := h
  exact ⟨A0, c0, by simpa using blk_set hb 4 (.int .i64 x), hg, hr0⟩
theorem cellS127_5 {W : World} {g : Nat} {A0 : Option Addr} {c0 : Nat} {f0 : List Int} {f1 : Int} {f2 : Int} {f3 : Int} {f4 : Int} {f5 : Int} (h : W.heap[g]? = some (.cells #[.slice A0 f0.length c0, .int .i64 f1, .int .i64 f2, .int .u8 f3, .int .i64 f4, .int .i64 f5] 127 (0, 0))) : W.cell? ⟨g, 5, none⟩ = some (.int .i64 f5) := (blk_cell h 5).trans rfl
theorem IsS127.set_5 {w0 W : World} {g : Nat} {f0 : List Int} {f1 : Int} {f2 : Int} {f3 : Int} {f4 : Int} {f5 : Int} (h : IsS127 w0 W g f0 f1 f2 f3 f4 f5) (x : Int) : IsS127 w0 (W.setCell ⟨g, 5, none⟩ (.int .i64 x)) g f0 f1 f2 f3 f4 x := by
  obtain ⟨A0, c0, hb, hg, hr0⟩ := h
  exact ⟨A0, c0, by simpa using blk_set hb 5 (.int .i64 x), hg, hr0⟩
theorem IsS127.new (w0 W : World) (A0 : Option Addr) (c0 : Nat) (f0 : List Int) (f1 : Int) (f2 : Int) (f3 : Int) (f4 : Int) (f5 : Int) (hB : Below w0.heap.size w0 W) (hr0 : Kd.C (Kd.int .u8) w0 A0 f0.length f0) : IsS127 w0 (W.alloc (.cells #[.slice A0 f0.length c0, .int .i64 f1, .int .i64 f2, .int .u8 f3, .int .i64 f4, .int .i64 f5] 127)) W.heap.size f0 f1 f2 f3 f4 f5 := ⟨A0, c0, by simpa using heap_alloc_new W _, hB.size, hr0⟩

/-! ### bitutil_BitmapReader_Set: function 53 -/
def bitutil_BitmapReader_Set.f (s0_0 : List Int) (s0_1 : Int) (s0_2 : Int) (s0_3 : Int) (s0_4 : Int) (s0_5 : Int) : Option (Bool × Int × Int × Int × Int × Int) := if 0 ≤ s0_5 then (some (((Go.bits .and .u8 s0_3 (shl .u8 1 s0_5)) != 0), s0_1, s0_2, s0_3, s0_4, s0_5)) else (none)
set_option maxHeartbeats 8000000 in
set_option maxRecDepth 100000 in
theorem bitutil_BitmapReader_Set.calls (g : Nat) (s0_0 : List Int) (s0_1 : Int) (s0_2 : Int) (s0_3 : Int) (s0_4 : Int) (s0_5 : Int) (r1 : Bool) (r2 : Int) (r3 : Int) (r4 : Int) (r5 : Int) (r6 : Int) (w0 w : World) (hI : IsS127 w0 w g s0_0 s0_1 s0_2 s0_3 s0_4 s0_5) (hB : Below w0.heap.size w0 w) (h : bitutil_BitmapReader_Set.f s0_0 s0_1 s0_2 s0_3 s0_4 s0_5 = some (r1, r2, r3, r4, r5, r6)) :
    Calls Tryd.prog 53 #[.pointer (some ⟨g, 0, none⟩)] w fun e w' => e = .returned (.bool r1) ∧ IsS127 w0 w' g s0_0 r2 r3 r4 r5 r6 ∧ Below w0.heap.size w0 w' ∧ KeepBut w w' g none := by
  have HI0 := Aside0.mk hI
  have HK := Aside0.mk (KeepBut.refl w g none)
  have HL := Aside0.mk hB.size
  clear hI
  have HW0 := Aside0.mk hB.size
  have HB := Aside0.mk hB
  clear hB
  have H : (if 0 ≤ s0_5 then (some (((Go.bits .and .u8 s0_3 (shl .u8 1 s0_5)) != 0), s0_1, s0_2, s0_3, s0_4, s0_5)) else (none)) = some (r1, r2, r3, r4, r5, r6) := h
  clear h
  by_cases c2 : 0 ≤ s0_5
  · rw [if_pos c2] at H
    have c2b0 := eq_true c2
    have c2b1 : decide (0 ≤ s0_5) = true := decide_eq_true c2
    clear c2
    obtain ⟨ji3, hji3⟩ : ∃ j_ : Int, (shl .u8 1 s0_5) = j_ := ⟨_, rfl⟩
    replace H : (some (((Go.bits .and .u8 s0_3 (ji3)) != 0), s0_1, s0_2, s0_3, s0_4, s0_5)) = some (r1, r2, r3, r4, r5, r6) := by first | (rw [hji3] at H; exact H) | (simp only [hji3] at H ⊢; exact H)
    have hji3_ : (IntKind.u8.wrap (1 * 2 ^ min s0_5.toNat 8)) = ji3 := hji3
    have hji3z : s0_5 ≤ 8 → (IntKind.u8.wrap (1 * 2 ^ s0_5.toNat)) = ji3 := shl_small hji3
    have hji3u : (IntKind.u8.wrap (2 ^ min s0_5.toNat 8)) = ji3 := by have h_ := hji3_; rw [Int.one_mul] at h_; exact h_
    have hji3v : s0_5 ≤ 8 → (IntKind.u8.wrap (2 ^ s0_5.toNat)) = ji3 := fun hle_ => by have h_ := hji3z hle_; rw [Int.one_mul] at h_; exact h_
    simp only [Option.some.injEq, Prod.mk.injEq] at H
    obtain ⟨rfl, rfl, rfl, rfl, rfl, rfl⟩ := H
    obtain ⟨ASz4_0, cSz4_0, HGz4, hgz4, HSz4_0⟩ := HI0.out
    have hcz4_0 := cellS127_0 HGz4
    have hcz4_1 := cellS127_1 HGz4
    have hcz4_2 := cellS127_2 HGz4
    have hcz4_3 := cellS127_3 HGz4
    have hcz4_4 := cellS127_4 HGz4
    have hcz4_5 := cellS127_5 HGz4
    have hfz4_1 := blk_frozen HGz4 1
    have hfz4_2 := blk_frozen HGz4 2
    have hfz4_3 := blk_frozen HGz4 3
    have hfz4_4 := blk_frozen HGz4 4
    have hfz4_5 := blk_frozen HGz4 5
    clear HGz4 hgz4
    go_enter Tryd.func53, Tryd.ntmps53
    go_wp2
    repeat (go_quiet (fail); try go_wp2)
    go_ret
    exact ⟨by first | rfl | (simp [errW_none, errW_some] <;> rfl) | (simp only [← hji3]; first | rfl | (simp [errW_none, errW_some] <;> rfl)) | (simp [*, errW_none, errW_some] <;> rfl), by repeat (first | (with_reducible first | exact HI0.out | apply IsS127.alloc | apply IsS127.drewN | apply IsS127.drew | apply IsS127.set_1 | apply IsS127.set_2 | apply IsS127.set_3 | apply IsS127.set_4 | apply IsS127.set_5) | exact HI0.out), by repeat (first | (with_reducible first | exact HB.out | apply below_alloc | apply pw_below_drewN | apply below_drew1 | refine below_set ?_ (IsS127.ge HI0.out)) | exact HB.out), by repeat (first | (with_reducible first | exact HK.out | apply KeepBut.set_ | apply keep_drewN | apply keep_drew | apply keep_alloc) | exact HK.out)⟩
  · rw [if_neg c2] at H
    exact absurd H (by simp)

-- NOT PRINTED: function 54 (bitutil_BitmapReader_Next)

/-! ### bitutil_getLSB: function 55 -/
def bitutil_getLSB.f (a0 : Int) : Option (Int) := some ((a0) % 256)
set_option maxHeartbeats 8000000 in
set_option maxRecDepth 100000 in
theorem bitutil_getLSB.calls (a0 : Int) (r : Int) (w : World) (h : bitutil_getLSB.f a0 = some r) :
    Calls Tryd.prog 55 #[.int .u64 a0] w fun e w' => e = .returned (.int .u8 r) ∧ Drawn0 w w' := by
  have H : (some ((a0) % 256)) = some r := h
  clear h
  obtain rfl := Option.some.inj H
  go_enter Tryd.func55, Tryd.ntmps55
  go_wp2
  go_ret
  exact ⟨by first | rfl | (simp; done) | (simp [*]; done), by repeat (first | exact Drawn0.refl _ | apply Drawn0.step)⟩

-- NOT PRINTED: function 45 (bitutil_BitmapWordReader_NextTrailingByte)

-- NOT PRINTED: function 56 (bitutil_NewBitmapWriter)

-- NOT PRINTED: function 57 (bitutil_BitmapWriter_Set)

-- NOT PRINTED: function 58 (bitutil_BitmapWriter_Clear)

-- NOT PRINTED: function 59 (bitutil_BitmapWriter_Next)

-- NOT PRINTED: function 60 (bitutil_BitmapWriter_Finish)

-- NOT PRINTED: function 46 (bitutil_BitmapWordWriter_PutNextTrailingByte)

-- NOT PRINTED: function 33 (bitutil_transferBitmap)

-- NOT PRINTED: function 26 (bitutil_CopyBitmap)

-- NOT PRINTED: function 15 (array_concatBitmaps)

-- NOT PRINTED: function 11 (array_ConcatBitmaps)

/-! ### impl_copied: function 13 -/
def impl_copied.f (l0 : List Int) : Option (List Int) := (some (([] : List Int) : List Int)).bind fun y117 => (if y117.length + l0.length < 140737488355328 then (some (y117 ++ l0)) else (none))
set_option maxHeartbeats 8000000 in
set_option maxRecDepth 100000 in
theorem impl_copied.calls (A0 : Option Addr) (c0 : Nat) (l0 : List Int) (r : List Int) (w : World) (hr0 : Kd.C (Kd.int .u8) w A0 l0.length l0) (hc0 : l0.length ≤ c0) (h : impl_copied.f l0 = some r) :
    Calls Tryd.prog 13 #[.slice A0 l0.length c0] w fun e w' => ∃ v0_ : Value, e = .returned (v0_) ∧ Kd.R (Kd.int .u8) 5 w' w.heap.size (fun _ => True) v0_ r ∧ Below w.heap.size w w' := by
  have HR0 := Aside0.mk hr0
  have HC0 := Aside0.mk hc0
  clear hr0 hc0
  have HB := Aside0.mk (Below.refl w.heap.size w)
  have H : ((some (([] : List Int) : List Int)).bind fun y117 => (if y117.length + l0.length < 140737488355328 then (some (y117 ++ l0)) else (none))) = some r := h
  clear h
  obtain ⟨y117, hy117⟩ : ∃ y_ : List Int, y_ = (([] : List Int)) := ⟨_, rfl⟩
  replace H : (if y117.length + l0.length < 140737488355328 then (some (y117 ++ l0)) else (none)) = some r := by first | (rw [hy117]; with_reducible exact H) | (have H2_ := (Option.bind_some _ _).symm.trans H; rw [hy117]; with_reducible exact H2_) | (have H2_ := (Option.bind_some _ _).symm.trans H; with_reducible exact H2_) | with_reducible exact H | (rw [hy117]; exact H) | exact H
  have Ny117 := Aside0.mk hy117
  clear hy117
  by_cases c2 : y117.length + l0.length < 140737488355328
  · rw [if_pos c2] at H
    have LMc2 := Aside0.mk c2
    clear c2
    obtain ⟨y120, hy120⟩ : ∃ y_ : List Int, y_ = (y117 ++ l0) := ⟨_, rfl⟩
    replace H : (some y120) = some r := by first | (rw [hy120]; with_reducible exact H) | (have H2_ := (Option.bind_some _ _).symm.trans H; rw [hy120]; with_reducible exact H2_) | (have H2_ := (Option.bind_some _ _).symm.trans H; with_reducible exact H2_) | with_reducible exact H | (rw [hy120]; exact H) | exact H
    have Ny120 := Aside0.mk hy120
    clear hy120
    obtain rfl := Option.some.inj H
    go_enter Tryd.func13, Tryd.ntmps13
    go_wp2_with (first | ((with_reducible refine gate_dst (N := 3) rfl ?_); refine Kd.R_lit (Kd.int .u8) _ 5 ?hg (N := 3) ?hd (xs := ([] : List Int)) (inner := []) (ok := fun _ => True) (okp := fun _ => True) ?hr ?hp (fun _ hk => hk) trivial (Below.refl _ _) (Nat.le_refl _) (by simp) ?_; (case hd => rfl); (case hg => rfl); (case hr => first | (go_simp; done) | (go_simp; rfl)); (case hp => exact (Reps.none _ _)); intro v118 w3 ho4 hb hg_ hnew_; clear hg_ hnew_; (first | rw [← Ny117.out] at ho4 | (simp only [Int.reduceToNat] at ho4; rw [← Ny117.out] at ho4)); have n0_ := Aside0.mk (Kd.R_lower ho4 (below_size (by repeat (first | (with_reducible first | exact HB.out | apply below_alloc | apply pw_below_drewN | apply below_drew1) | exact HB.out)))); have n1_ := Aside0.mk (below_step (by repeat (first | (with_reducible first | exact HB.out | apply below_alloc | apply pw_below_drewN | apply below_drew1) | exact HB.out)) hb); clear HB; have HO119 := n0_; have HB := n1_; clear n0_ n1_; clear hb ho4) | ((with_reducible refine gate_builtin (b := .append) (xs := #[.tmp 3, .tmp 4]) rfl ?_); at_builtin; refine Kd.R_append_rows (Kd.int .u8) (w0 := w) w.heap.size rfl (.tmp 3) (.tmp 4) 24 5 (.int .u8 0) 1 rfl Tryd.underlying24 info5 rfl (by decide) (by omega) v118 y117 l0 _ _ _ (fun _ => True) (fun _ => False) rfl rfl ?aO ?aR (fun _ _ h => h) (fun _ h => h.elim) ?aF ?aB ?aS ?aL ?_; (case aR => repeat (first | exact (Kd.C_below HR0.out HB.out) | (with_reducible refine Kd.C_alloc ?_ _) | (with_reducible refine Kd.C_drewN ?_ _) | (with_reducible refine Kd.C_drew ?_))); (case aB => exact (by repeat (first | (with_reducible first | exact HB.out | apply below_alloc | apply pw_below_drewN | apply below_drew1) | exact HB.out))); (case aF => exact (fun _ _ => trivial)); (case aO => exact (by (with_reducible repeat (first | apply Kd.R_alloc | apply Kd.R_drewN | apply Kd.R_drew)); exact HO119.out)); (case aS => exact (below_size (by repeat (first | (with_reducible first | exact HB.out | apply below_alloc | apply pw_below_drewN | apply below_drew1) | exact HB.out)))); (case aL => have := LMc2.out; omega); intro v121 w5 ho hb hg hat; rw [← Ny120.out] at ho; have n0_ := Aside0.mk (hb); have n1_ := Aside0.mk (ho); clear HB; clear HO119; have HB := n0_; have HO122 := n1_; clear n0_ n1_; clear ho hb hg hat))
    go_ret
    exact ⟨_, by first | rfl | (simp [errW_none, errW_some] <;> rfl) | (simp [*, errW_none, errW_some] <;> rfl), by (with_reducible repeat (first | apply Kd.R_alloc | apply Kd.R_drewN | apply Kd.R_drew)); exact HO122.out, by repeat (first | (with_reducible first | exact HB.out | apply below_alloc | apply pw_below_drewN | apply below_drew1) | exact HB.out)⟩
  · rw [if_neg c2] at H
    exact absurd H (by simp)

-- NOT PRINTED: function 16 (memory_NewBufferBytes)

-- NOT PRINTED: function 27 (memory_Buffer_Retain)

-- NOT PRINTED: function 17 (array_NewData)

-- NOT PRINTED: function 12 (impl_partsOf)

-- NOT PRINTED: function 5 (impl_JoinBits)

/-! ### spec_Bit: function 6 -/
def spec_Bit.f (l0 : List Int) (a1 : Int) : Option (Bool) := if 0 ≤ (wrap64 (Int.tdiv a1 8)) then (if (wrap64 (Int.tdiv a1 8)) < (l0.length : Int) then (if 0 ≤ (Int.tmod a1 8) then (some ((Go.bits .and .u8 (shr .u8 (rd l0 (wrap64 (Int.tdiv a1 8))) (Int.tmod a1 8)) 1) == 1)) else (none)) else (none)) else (none)
set_option maxHeartbeats 8000000 in
set_option maxRecDepth 100000 in
theorem spec_Bit.calls (A0 : Option Addr) (c0 : Nat) (l0 : List Int) (a1 : Int) (r : Bool) (w : World) (hr0 : Kd.C (Kd.int .u8) w A0 l0.length l0) (hc0 : l0.length ≤ c0) (h : spec_Bit.f l0 a1 = some r) :
    Calls Tryd.prog 6 #[.slice A0 l0.length c0, .int .i64 a1] w fun e w' => e = .returned (.bool r) ∧ Drawn0 w w' := by
  have HR0 := Aside0.mk hr0
  have HC0 := Aside0.mk hc0
  clear hr0 hc0
  have H : (if 0 ≤ (wrap64 (Int.tdiv a1 8)) then (if (wrap64 (Int.tdiv a1 8)) < (l0.length : Int) then (if 0 ≤ (Int.tmod a1 8) then (some ((Go.bits .and .u8 (shr .u8 (rd l0 (wrap64 (Int.tdiv a1 8))) (Int.tmod a1 8)) 1) == 1)) else (none)) else (none)) else (none)) = some r := h
  clear h
  obtain ⟨ji3, hji3⟩ : ∃ j_ : Int, (wrap64 (Int.tdiv a1 8)) = j_ := ⟨_, rfl⟩
  replace H : (if 0 ≤ (ji3) then (if (ji3) < (l0.length : Int) then (if 0 ≤ (Int.tmod a1 8) then (some ((Go.bits .and .u8 (shr .u8 (rd l0 (ji3)) (Int.tmod a1 8)) 1) == 1)) else (none)) else (none)) else (none)) = some r := by first | (rw [hji3] at H; exact H) | (simp only [hji3] at H ⊢; exact H)
  have hji3w : (IntKind.i64.wrap (Int.tdiv a1 8)) = ji3 := (i64_w _).trans hji3
  by_cases c4 : 0 ≤ (ji3)
  · rw [if_pos c4] at H
    have c4b0 : decide (0 ≤ (ji3)) = true := decide_eq_true c4
    clear c4
    by_cases c5 : (ji3) < (l0.length : Int)
    · rw [if_pos c5] at H
      have c5b0 : decide ((ji3) < (l0.length : Int)) = true := decide_eq_true c5
      clear c5
      obtain ⟨ji6, hji6⟩ : ∃ j_ : Int, (Int.tmod a1 8) = j_ := ⟨_, rfl⟩
      replace H : (if 0 ≤ (ji6) then (some ((Go.bits .and .u8 (shr .u8 (rd l0 (ji3)) (ji6)) 1) == 1)) else (none)) = some r := by first | (rw [hji6] at H; exact H) | (simp only [hji6] at H ⊢; exact H)
      by_cases c7 : 0 ≤ (ji6)
      · rw [if_pos c7] at H
        have c7b0 := eq_true c7
        have c7b1 : decide (0 ≤ (ji6)) = true := decide_eq_true c7
        clear c7
        obtain ⟨ji8, hji8⟩ : ∃ j_ : Int, (shr .u8 (rd l0 (ji3)) (ji6)) = j_ := ⟨_, rfl⟩
        replace H : (some ((Go.bits .and .u8 (ji8) 1) == 1)) = some r := by first | (rw [hji8] at H; exact H) | (simp only [hji8] at H ⊢; exact H)
        have hji8_ : ((rd l0 (ji3)) / 2 ^ min (ji6).toNat 8) = ji8 := hji8
        have hji8z : (ji6) ≤ 8 → ((rd l0 (ji3)) / 2 ^ (ji6).toNat) = ji8 := shr_small hji8
        obtain rfl := Option.some.inj H
        have p123 : 0 ≤ ((ji3) : Int) := of_decide_eq_true (by first | (with_reducible assumption) | assumption)
        have q123 : (ji3) < (l0.length : Int) := of_decide_eq_true (by first | (with_reducible assumption) | assumption)
        obtain ⟨ad123, e123, hx123_0⟩ := Kd.at_int HR0.out (ji3) p123 q123
        cases e123
        replace p123 := eq_true p123
        replace q123 := eq_true q123
        go_enter Tryd.func6, Tryd.ntmps6
        go_wp2
        go_ret
        exact ⟨by first | rfl | (simp; done) | (simp only [← hji3, ← hji6, ← hji8] <;> (first | rfl | simp)) | (simp [*]; done), by repeat (first | exact Drawn0.refl _ | apply Drawn0.step)⟩
      · rw [if_neg c7] at H
        exact absurd H (by simp)
    · rw [if_neg c5] at H
      exact absurd H (by simp)
  · rw [if_neg c4] at H
    exact absurd H (by simp)

end Go.Proofs.YtoceclgljmdkeaaDoor.PFnJoinBits
