/- Printed by a program of this session (print2.py) over the kit's print: the functions that a law reaches, over contracts proved by hand. Lean checks it. -/
import Derived.Test.YtoaibapjnedhlaaGreatQAllx0
import Derived.Test.YtoaibapjnedhlaaGreatQAllx2
namespace Go.Proofs.YtoaibapjnedhlaaGreat.QAll
open Go.RowKit Go.Proofs.YtoaibapjnedhlaaGreatW.PrintWords Go.Proofs.YtoaibapjnedhlaaGreatW.PrintLast Go.Proofs.YtoaibapjnedhlaaGreatW.PrintMore
attribute [local go_sem] max2_int min2_int max_two min_two max_three min_three max_four min_four   -- for this text's walks alone
set_option linter.unusedVariables false
set_option linter.unusedSimpArgs false

theorem zd3_0 {p : Prop} (h : p := by repeat (first | (with_reducible first | exact HB.out | apply below_alloc | apply pw_below_drewN | apply below_drew1 | refine below_set ?_ GE107.out) | exact HB.out)) : p := h
theorem zd3_1 {p : Prop} (h : p := by repeat (first | (with_reducible first | exact HB.out | apply below_alloc | apply pw_below_drewN | apply below_drew1) | exact HB.out)) : p := h
theorem zd3_2 {p : Prop} (h : p := by (with_reducible repeat (first | refine blk_drewN ?_ _ | refine blk_drew ?_ | refine blk_alloc ?_ _)); exact BK107.out) : p := h
theorem zd3_3 {p : Prop} (h : p := by (with_reducible repeat (first | apply Kd.V_alloc | apply Kd.V_drewN | apply Kd.V_drew)); exact HO1.out) : p := h
theorem zd3_4 {p : Prop} (h : p := by (try simp only [List.map_toArray, List.map_cons, List.map_nil]); first | done | rfl | (simp only [List.length_drop, List.length_take]; rfl)) : p := h
/-! ### spec_wide: function 24 -/
def spec_wide.f (k : Nat) (a0 : Bool) (l1 : List Int) : Option (Bool × List Int) := (spec_trim.f k l1).bind fun t108 => (if a0 = true then (some (decide (0 < t108.length), t108)) else (some (false, t108)))
theorem spec_wide.mono : ∀ a0 a1 k, LeO (spec_wide.f k a0 a1) (spec_wide.f (k + 1) a0 a1) := by
 intro a0 a1 k
 unfold spec_wide.f
 repeat' first
   | (with_reducible exact spec_trim.mono _ _)
   | (with_reducible exact LeO.refl _)
   | (with_reducible exact LeO.none _)
   | (with_reducible refine LeO.ite ?_ ?_)
   | (with_reducible refine LeO.bind ?_ (fun _ => ?_))
   | exact spec_trim.mono _ _
   | exact LeO.none _
   | refine LeO.ite ?_ ?_
   | refine LeO.bind ?_ (fun _ => ?_)
set_option maxHeartbeats 8000000 in
set_option maxRecDepth 100000 in
theorem spec_wide.calls (k : Nat) (a0 : Bool) (P1_ : Nat → Prop) (A1 : Option Addr) (c1 : Nat) (l1 : List Int) (r1 : Bool) (r2 : List Int) (w : World) (hs1 : Kd.V (Kd.int .u32) 104 w w.heap.size (fun k_ => P1_ k_) (.slice A1 l1.length c1) l1) (h : spec_wide.f k a0 l1 = some (r1, r2)) :
  Calls Tryz.prog 24 #[.bool a0, .slice A1 l1.length c1] w fun e w' => ∃ v1_ : Value, e = .returned (.agg #[.bool r1, v1_]) ∧ Kd.V (Kd.int .u32) 104 w' w.heap.size (fun k_ => (P1_ k_ ∨ w.heap.size ≤ k_)) v1_ r2 ∧ Below w.heap.size w w' := by
 have hu27 := Tryz.underlying27
 have HO1 := Aside0.mk (show Kd.V (Kd.int .u32) 104 w w.heap.size (fun k_ => (P1_ k_ ∨ w.heap.size ≤ k_)) (.slice A1 l1.length c1) l1 from Kd.V_mono hs1 (fun k_ hk => .inl hk))
 have HB := Aside0.mk (Below.refl w.heap.size w)
 have H : ((spec_trim.f k l1).bind fun t108 => (if a0 = true then (some (decide (0 < t108.length), t108)) else (some (false, t108)))) = some (r1, r2) := h
 clear h
 replace H := Option.bind_eq_some_iff.mp H
 obtain ⟨t108, A30, H⟩ := H
 replace H : (if a0 = true then (some (decide (0 < t108.length), t108)) else (some (false, t108))) = some (r1, r2) := H
 have A3 := Aside0.mk A30
 clear A30
 by_cases c4 : a0 = true
 ·subst c4
  have H1 : (some (decide (0 < t108.length), t108)) = some (r1, r2) := by rw [if_pos rfl] at H; exact H
  clear H
  have H := H1
  clear H1
  simp only [Option.some.injEq, Prod.mk.injEq] at H
  obtain ⟨rfl, rfl⟩ := H
  go_enter Tryz.func24, Tryz.ntmps24
  go_wp2_with (first | ((with_reducible refine gate_dst (N := 4) rfl ?_); refine box_event ?hg (N := 4) ?hd (cs := #[.bool false, .slice none 0 0]) (t := 27) ?hr ?_; (case hd => rfl); (case hg => rfl); (case hr => first | (go_simp; done) | (go_simp; rfl)); intro gb107 hg w5 hbox hb; have n0_ := Aside0.mk (Kd.V_below (Kd.V_elderB zd3_3 gb107 (Nat.le_of_eq hg.symm)) hb); have n1_ := Aside0.mk (below_step zd3_1 hb); have n2_ := Aside0.mk (hbox); have n3_ := Aside0.mk ((by rw [hg]; exact (below_size zd3_1) : w.heap.size ≤ gb107)); have n4_ := Aside0.mk ((by rw [hg]; exact (below_size zd3_1) : w.heap.size ≤ gb107)); clear HO1; clear HB; have HO1 := n0_; have HB := n1_; have BK107 := n2_; have GW107 := n3_; have GE107 := n4_; clear n0_ n1_ n2_ n3_ n4_; clear hb hbox hg) | ((with_reducible refine gate_callee (f := 52) rfl ?_); refine goesL_ (some 6) rfl rfl Tryz.func52 (by kernel_rfl) rfl #[.slice A1 l1.length c1] rfl zd3_4 ?_; (with_reducible refine (spec_trim.calls k (fun k_ => ((P1_ k_ ∨ w.heap.size ≤ k_) ∧ k_ ≠ gb107)) _ _ l1 t108 _ ?side1 A3.out).mono ?_); (case side1 => exact HO1.out); rintro e w6 ⟨v109, rfl, ho0, hb⟩; refine ⟨_, rfl, ?_⟩; have n0_ := Aside0.mk (Kd.V_below zd3_3 hb); have n1_ := Aside0.mk (Kd.V_lower (Kd.V_mono (ok' := fun k_ => (P1_ k_ ∨ w.heap.size ≤ k_) ∧ k_ ≠ gb107) ho0 (fun k_ hk_ => ⟨Or.elim hk_ (fun hs_ => hs_.1) (fun hn_ => (.inr (Nat.le_trans (below_size zd3_0) hn_))), Or.elim hk_ (fun hs_ => hs_.2) (fun hn_ => (Kd.freshB (g := gb107) (o := .cells #[.bool false, .slice none 0 0] 27 (0, 0)) zd3_2 k_ hn_))⟩)) (below_size zd3_0)); have n2_ := Aside0.mk (blk_below (g := gb107) (o := .cells #[.bool false, .slice none 0 0] 27 (0, 0)) zd3_2 hb); have n3_ := Aside0.mk (below_step zd3_0 hb); clear HO1; clear BK107; clear HB; have HO1 := n0_; have HO110 := n1_; have BK107 := n2_; have HB := n3_; clear n0_ n1_ n2_ n3_; (try clear hb); (try clear hb2); (try clear hk); (try clear hi); (try clear ho0); obtain ⟨Ao7, co7, eo7⟩ := Kd.V_slice HO110.out; subst eo7; have hcz8_0 : w6.cell? ⟨gb107, 0, none⟩ = some (.bool false) := (blk_cell BK107.out 0).trans rfl; have hcz8_1 : w6.cell? ⟨gb107, 1, none⟩ = some (.slice none 0 0) := (blk_cell BK107.out 1).trans rfl; have hfz8_0 := blk_frozen BK107.out 0; have hfz8_1 := blk_frozen BK107.out 1))
  refine bodyPost_ret (results_cell_row rfl _ _ gb107 27 #[.bool (decide (0 < t108.length)), .slice Ao7 t108.length co7] (0, 0) _ rfl (by (with_reducible repeat (first | refine blk_drewN ?_ _ | refine blk_drew ?_ | refine blk_alloc ?_ _)); refine blk_put (cs := #[.bool (decide (0 < t108.length)), .slice none 0 0]) ?_ 1 _ rfl; (with_reducible repeat (first | refine blk_drewN ?_ _ | refine blk_drew ?_ | refine blk_alloc ?_ _)); refine blk_put (cs := #[.bool false, .slice none 0 0]) ?_ 0 _ rfl; (with_reducible repeat (first | refine blk_drewN ?_ _ | refine blk_drew ?_ | refine blk_alloc ?_ _)); exact BK107.out) Tryz.underlying27 rfl (by kernel_rfl)) rfl ?_
  exact ⟨_, by first | rfl | (simp [errW_none, errW_some] <;> rfl) | (simp [*, errW_none, errW_some] <;> rfl), by (with_reducible repeat (first | apply Kd.V_alloc | apply Kd.V_drewN | apply Kd.V_drew)); exact Kd.V_mono (Kd.V_far (p := ⟨gb107, 1, none⟩) (Kd.V_far (p := ⟨gb107, 0, none⟩) (Kd.V_mono HO110.out (fun k_ hk => (⟨hk, hk.2⟩ : _ ∧ k_ ≠ gb107))) (fun _ hk => hk.2) (.bool (decide (0 < t108.length)))) (fun _ hk => hk.2) (.slice Ao7 t108.length co7)) (fun _ hk => hk.1.1), by repeat (first | (with_reducible first | exact HB.out | apply below_alloc | apply pw_below_drewN | apply below_drew1 | refine below_set ?_ GE107.out) | exact HB.out)⟩
 ·replace c4 := Bool.eq_false_iff.mpr c4
  subst c4
  have H1 : (some (false, t108)) = some (r1, r2) := by rw [if_neg (show ¬ (false = true) by decide)] at H; exact H
  clear H
  have H := H1
  clear H1
  simp only [Option.some.injEq, Prod.mk.injEq] at H
  obtain ⟨rfl, rfl⟩ := H
  go_enter Tryz.func24, Tryz.ntmps24
  go_wp2_with (first | ((with_reducible refine gate_dst (N := 4) rfl ?_); refine box_event ?hg (N := 4) ?hd (cs := #[.bool false, .slice none 0 0]) (t := 27) ?hr ?_; (case hd => rfl); (case hg => rfl); (case hr => first | (go_simp; done) | (go_simp; rfl)); intro gb107 hg w9 hbox hb; have n0_ := Aside0.mk (Kd.V_below (Kd.V_elderB zd3_3 gb107 (Nat.le_of_eq hg.symm)) hb); have n1_ := Aside0.mk (below_step zd3_1 hb); have n2_ := Aside0.mk (hbox); have n3_ := Aside0.mk ((by rw [hg]; exact (below_size zd3_1) : w.heap.size ≤ gb107)); have n4_ := Aside0.mk ((by rw [hg]; exact (below_size zd3_1) : w.heap.size ≤ gb107)); clear HO1; clear HB; have HO1 := n0_; have HB := n1_; have BK107 := n2_; have GW107 := n3_; have GE107 := n4_; clear n0_ n1_ n2_ n3_ n4_; clear hb hbox hg) | ((with_reducible refine gate_callee (f := 52) rfl ?_); refine goesL_ (some 6) rfl rfl Tryz.func52 (by kernel_rfl) rfl #[.slice A1 l1.length c1] rfl zd3_4 ?_; (with_reducible refine (spec_trim.calls k (fun k_ => ((P1_ k_ ∨ w.heap.size ≤ k_) ∧ k_ ≠ gb107)) _ _ l1 t108 _ ?side1 A3.out).mono ?_); (case side1 => exact HO1.out); rintro e w10 ⟨v109, rfl, ho0, hb⟩; refine ⟨_, rfl, ?_⟩; have n0_ := Aside0.mk (Kd.V_below zd3_3 hb); have n1_ := Aside0.mk (Kd.V_lower (Kd.V_mono (ok' := fun k_ => (P1_ k_ ∨ w.heap.size ≤ k_) ∧ k_ ≠ gb107) ho0 (fun k_ hk_ => ⟨Or.elim hk_ (fun hs_ => hs_.1) (fun hn_ => (.inr (Nat.le_trans (below_size zd3_0) hn_))), Or.elim hk_ (fun hs_ => hs_.2) (fun hn_ => (Kd.freshB (g := gb107) (o := .cells #[.bool false, .slice none 0 0] 27 (0, 0)) zd3_2 k_ hn_))⟩)) (below_size zd3_0)); have n2_ := Aside0.mk (blk_below (g := gb107) (o := .cells #[.bool false, .slice none 0 0] 27 (0, 0)) zd3_2 hb); have n3_ := Aside0.mk (below_step zd3_0 hb); clear HO1; clear BK107; clear HB; have HO1 := n0_; have HO110 := n1_; have BK107 := n2_; have HB := n3_; clear n0_ n1_ n2_ n3_; (try clear hb); (try clear hb2); (try clear hk); (try clear hi); (try clear ho0); obtain ⟨Ao11, co11, eo11⟩ := Kd.V_slice HO110.out; subst eo11; have hcz12_0 : w10.cell? ⟨gb107, 0, none⟩ = some (.bool false) := (blk_cell BK107.out 0).trans rfl; have hcz12_1 : w10.cell? ⟨gb107, 1, none⟩ = some (.slice none 0 0) := (blk_cell BK107.out 1).trans rfl; have hfz12_0 := blk_frozen BK107.out 0; have hfz12_1 := blk_frozen BK107.out 1))
  refine bodyPost_ret (results_cell_row rfl _ _ gb107 27 #[.bool false, .slice Ao11 t108.length co11] (0, 0) _ rfl (by (with_reducible repeat (first | refine blk_drewN ?_ _ | refine blk_drew ?_ | refine blk_alloc ?_ _)); refine blk_put (cs := #[.bool false, .slice none 0 0]) ?_ 1 _ rfl; (with_reducible repeat (first | refine blk_drewN ?_ _ | refine blk_drew ?_ | refine blk_alloc ?_ _)); refine blk_put (cs := #[.bool false, .slice none 0 0]) ?_ 0 _ rfl; (with_reducible repeat (first | refine blk_drewN ?_ _ | refine blk_drew ?_ | refine blk_alloc ?_ _)); exact BK107.out) Tryz.underlying27 rfl (by kernel_rfl)) rfl ?_
  exact ⟨_, by first | rfl | (simp [errW_none, errW_some] <;> rfl) | (simp [*, errW_none, errW_some] <;> rfl), by (with_reducible repeat (first | apply Kd.V_alloc | apply Kd.V_drewN | apply Kd.V_drew)); exact Kd.V_mono (Kd.V_far (p := ⟨gb107, 1, none⟩) (Kd.V_far (p := ⟨gb107, 0, none⟩) (Kd.V_mono HO110.out (fun k_ hk => (⟨hk, hk.2⟩ : _ ∧ k_ ≠ gb107))) (fun _ hk => hk.2) (.bool false)) (fun _ hk => hk.2) (.slice Ao11 t108.length co11)) (fun _ hk => hk.1.1), by repeat (first | (with_reducible first | exact HB.out | apply below_alloc | apply pw_below_drewN | apply below_drew1 | refine below_set ?_ GE107.out) | exact HB.out)⟩

end Go.Proofs.YtoaibapjnedhlaaGreat.QAll
