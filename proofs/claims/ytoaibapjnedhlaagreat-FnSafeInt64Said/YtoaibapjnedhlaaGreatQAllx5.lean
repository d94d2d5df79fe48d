/- Printed by a program of this session (print2.py) over the kit's print: the functions that a law reaches, over contracts proved by hand. Lean checks it. -/
import Derived.Test.YtoaibapjnedhlaaGreatQAllx0
import Derived.Test.YtoaibapjnedhlaaGreatQAllx3
namespace Go.Proofs.YtoaibapjnedhlaaGreat.QAll
open Go.RowKit Go.Proofs.YtoaibapjnedhlaaGreatW.PrintWords Go.Proofs.YtoaibapjnedhlaaGreatW.PrintLast Go.Proofs.YtoaibapjnedhlaaGreatW.PrintMore
attribute [local go_sem] max2_int min2_int max_two min_two max_three min_three max_four min_four   -- for this text's walks alone
set_option linter.unusedVariables false
set_option linter.unusedSimpArgs false

theorem zd5_0 {p : Prop} (h : p := by (with_reducible repeat (first | refine blk_drewN ?_ _ | refine blk_drew ?_ | refine blk_alloc ?_ _)); exact BK120.out) : p := h
theorem zd5_1 {p : Prop} (h : p := by repeat (first | (with_reducible first | exact HB.out | apply below_alloc | apply pw_below_drewN | apply below_drew1 | refine below_set ?_ GE120.out | refine below_set ?_ GE121.out) | exact HB.out)) : p := h
theorem zd5_2 {p : Prop} (h : p := by repeat (first | (with_reducible first | exact HB.out | apply below_alloc | apply pw_below_drewN | apply below_drew1 | refine below_set ?_ GE120.out) | exact HB.out)) : p := h
theorem zd5_3 {p : Prop} (h : p := by repeat (first | (with_reducible first | exact HB.out | apply below_alloc | apply pw_below_drewN | apply below_drew1) | exact HB.out)) : p := h
theorem zd5_4 {p : Prop} (h : p := by (with_reducible repeat (first | apply Kd.V_alloc | apply Kd.V_drewN | apply Kd.V_drew)); exact HO0_1.out) : p := h
theorem zd5_5 {p : Prop} (h : p := by (with_reducible repeat (first | refine blk_drewN ?_ _ | refine blk_drew ?_ | refine blk_alloc ?_ _)); exact BK121.out) : p := h
/-! ### spec_Wide_Negated: function 14 -/
def spec_Wide_Negated.f (k : Nat) (a0_0 : Bool) (l0_1 : List Int) : Option (Bool × List Int) := (spec_wide.f k (!a0_0) l0_1).bind fun bt122 => (some (bt122.1, bt122.2))
theorem spec_Wide_Negated.mono : ∀ a0 a1 k, LeO (spec_Wide_Negated.f k a0 a1) (spec_Wide_Negated.f (k + 1) a0 a1) := by
 intro a0 a1 k
 unfold spec_Wide_Negated.f
 repeat' first
   | (with_reducible exact spec_wide.mono _ _ _)
   | (with_reducible exact LeO.refl _)
   | (with_reducible exact LeO.none _)
   | (with_reducible refine LeO.ite ?_ ?_)
   | (with_reducible refine LeO.bind ?_ (fun _ => ?_))
   | exact spec_wide.mono _ _ _
   | exact LeO.none _
   | refine LeO.ite ?_ ?_
   | refine LeO.bind ?_ (fun _ => ?_)
set_option maxHeartbeats 8000000 in
set_option maxRecDepth 100000 in
theorem spec_Wide_Negated.calls (k : Nat) (a0_0 : Bool) (P0_1_ : Nat → Prop) (A0_1 : Option Addr) (c0_1 : Nat) (l0_1 : List Int) (r1 : Bool) (r2 : List Int) (w : World) (hs0_1 : Kd.V (Kd.int .u32) 104 w w.heap.size (fun k_ => P0_1_ k_) (.slice A0_1 l0_1.length c0_1) l0_1) (h : spec_Wide_Negated.f k a0_0 l0_1 = some (r1, r2)) :
  Calls Tryz.prog 14 #[.agg #[.bool a0_0, .slice A0_1 l0_1.length c0_1]] w fun e w' => ∃ v1_ : Value, e = .returned (.agg #[.bool r1, v1_]) ∧ Kd.V (Kd.int .u32) 104 w' w.heap.size (fun k_ => (P0_1_ k_ ∨ w.heap.size ≤ k_)) v1_ r2 ∧ Below w.heap.size w w' := by
 have hu27 := Tryz.underlying27
 have HO0_1 := Aside0.mk (show Kd.V (Kd.int .u32) 104 w w.heap.size (fun k_ => (P0_1_ k_ ∨ w.heap.size ≤ k_)) (.slice A0_1 l0_1.length c0_1) l0_1 from Kd.V_mono hs0_1 (fun k_ hk => .inl hk))
 have HB := Aside0.mk (Below.refl w.heap.size w)
 have H : ((spec_wide.f k (!a0_0) l0_1).bind fun bt122 => (some (bt122.1, bt122.2))) = some (r1, r2) := h
 clear h
 replace H := Option.bind_eq_some_iff.mp H
 obtain ⟨⟨t122, t123⟩, A20, H⟩ := H
 replace H : (some (t122, t123)) = some (r1, r2) := H
 have A2 := Aside0.mk A20
 clear A20
 simp only [Option.some.injEq, Prod.mk.injEq] at H
 obtain ⟨rfl, rfl⟩ := H
 go_enter Tryz.func14, Tryz.ntmps14
 go_wp2_with (first | ((with_reducible refine gate_dst (N := 1) rfl ?_); refine box_event ?hg (N := 1) ?hd (cs := #[.bool a0_0, .slice A0_1 l0_1.length c0_1]) (t := 27) ?hr ?_; (case hd => rfl); (case hg => rfl); (case hr => first | (go_simp; done) | (go_simp; rfl)); intro gb120 hg w3 hbox hb; have n0_ := Aside0.mk (Kd.V_below (Kd.V_elderB zd5_4 gb120 (Nat.le_of_eq hg.symm)) hb); have n1_ := Aside0.mk (below_step zd5_3 hb); have n2_ := Aside0.mk (hbox); have n3_ := Aside0.mk ((by rw [hg]; exact (below_size zd5_3) : w.heap.size ≤ gb120)); have n4_ := Aside0.mk ((by rw [hg]; exact (below_size zd5_3) : w.heap.size ≤ gb120)); clear HO0_1; clear HB; have HO0_1 := n0_; have HB := n1_; have BK120 := n2_; have GW120 := n3_; have GE120 := n4_; clear n0_ n1_ n2_ n3_ n4_; clear hb hbox hg) | ((with_reducible refine gate_dst (N := 2) rfl ?_); refine box_event ?hg (N := 2) ?hd (cs := #[.bool false, .slice none 0 0]) (t := 27) ?hr ?_; (case hd => rfl); (case hg => rfl); (case hr => first | (go_simp; done) | (go_simp; rfl)); intro gb121 hg w4 hbox hb; have n0_ := Aside0.mk (Kd.V_below (Kd.V_elderB zd5_4 gb121 (Nat.le_of_eq hg.symm)) hb); have n1_ := Aside0.mk (blk_below (g := gb120) (o := .cells #[.bool a0_0, .slice A0_1 l0_1.length c0_1] 27 (0, 0)) zd5_0 hb); have n2_ := Aside0.mk (below_step zd5_2 hb); have n3_ := Aside0.mk (hbox); have n4_ := Aside0.mk ((by rw [hg]; exact (below_size zd5_2) : w.heap.size ≤ gb121)); have n5_ := Aside0.mk ((by rw [hg]; exact (below_size zd5_2) : w.heap.size ≤ gb121)); have n6_ := Aside0.mk ((by rw [hg]; exact Nat.ne_of_lt (blk_lt (g := gb120) (o := .cells #[.bool a0_0, .slice A0_1 l0_1.length c0_1] 27 (0, 0)) zd5_0) : gb120 ≠ gb121)); have n7_ := Aside0.mk ((by rw [hg]; exact Nat.ne_of_gt (blk_lt (g := gb120) (o := .cells #[.bool a0_0, .slice A0_1 l0_1.length c0_1] 27 (0, 0)) zd5_0) : gb121 ≠ gb120)); clear HO0_1; clear BK120; clear HB; have HO0_1 := n0_; have BK120 := n1_; have HB := n2_; have BK121 := n3_; have GW121 := n4_; have GE121 := n5_; have NB120_121 := n6_; have NB121_120 := n7_; clear n0_ n1_ n2_ n3_ n4_ n5_ n6_ n7_; clear hb hbox hg; have hnb5 := NB120_121.out; have hnc5 := NB121_120.out; have hcz6_0 : w4.cell? ⟨gb120, 0, none⟩ = some (.bool a0_0) := (blk_cell BK120.out 0).trans rfl; have hcz6_1 : w4.cell? ⟨gb120, 1, none⟩ = some (.slice A0_1 l0_1.length c0_1) := (blk_cell BK120.out 1).trans rfl; have hfz6_0 := blk_frozen BK120.out 0; have hfz6_1 := blk_frozen BK120.out 1) | ((with_reducible refine gate_callee (f := 24) rfl ?_); refine goesL_ (some 8) rfl rfl Tryz.func24 (by kernel_rfl) rfl #[.bool (!a0_0), .slice A0_1 l0_1.length c0_1] rfl (by (try simp only [List.map_toArray, List.map_cons, List.map_nil]); first | done | rfl | (simp only [List.length_drop, List.length_take]; rfl)) ?_; (with_reducible refine (spec_wide.calls k (!a0_0) (fun k_ => (((P0_1_ k_ ∨ w.heap.size ≤ k_) ∧ k_ ≠ gb120) ∧ k_ ≠ gb121)) _ _ l0_1 t122 t123 _ ?side1 A2.out).mono ?_); (case side1 => exact HO0_1.out); rintro e w7 ⟨v124, rfl, ho0, hb⟩; refine ⟨_, rfl, ?_⟩; have n0_ := Aside0.mk (Kd.V_below zd5_4 hb); have n1_ := Aside0.mk (Kd.V_lower (Kd.V_mono (ok' := fun k_ => (P0_1_ k_ ∨ w.heap.size ≤ k_) ∧ k_ ≠ gb120 ∧ k_ ≠ gb121) ho0 (fun k_ hk_ => ⟨Or.elim hk_ (fun hs_ => hs_.1.1) (fun hn_ => (.inr (Nat.le_trans (below_size zd5_1) hn_))), Or.elim hk_ (fun hs_ => hs_.1.2) (fun hn_ => (Kd.freshB (g := gb120) (o := .cells #[.bool a0_0, .slice A0_1 l0_1.length c0_1] 27 (0, 0)) zd5_0 k_ hn_)), Or.elim hk_ (fun hs_ => hs_.2) (fun hn_ => (Kd.freshB (g := gb121) (o := .cells #[.bool false, .slice none 0 0] 27 (0, 0)) zd5_5 k_ hn_))⟩)) (below_size zd5_1)); have n2_ := Aside0.mk (blk_below (g := gb120) (o := .cells #[.bool a0_0, .slice A0_1 l0_1.length c0_1] 27 (0, 0)) zd5_0 hb); have n3_ := Aside0.mk (blk_below (g := gb121) (o := .cells #[.bool false, .slice none 0 0] 27 (0, 0)) zd5_5 hb); have n4_ := Aside0.mk (below_step zd5_1 hb); clear HO0_1; clear BK120; clear BK121; clear HB; have HO0_1 := n0_; have HO125 := n1_; have BK120 := n2_; have BK121 := n3_; have HB := n4_; clear n0_ n1_ n2_ n3_ n4_; (try clear hb); (try clear hb2); (try clear hk); (try clear hi); (try clear ho0); have hcz8_0 : w7.cell? ⟨gb121, 0, none⟩ = some (.bool false) := (blk_cell BK121.out 0).trans rfl; have hcz8_1 : w7.cell? ⟨gb121, 1, none⟩ = some (.slice none 0 0) := (blk_cell BK121.out 1).trans rfl; have hfz8_0 := blk_frozen BK121.out 0; have hfz8_1 := blk_frozen BK121.out 1; obtain ⟨Ao9, co9, eo9⟩ := Kd.V_slice HO125.out; subst eo9))
 refine bodyPost_ret (results_cell_row rfl _ _ gb121 27 #[.bool t122, .slice Ao9 t123.length co9] (0, 0) _ rfl (by (with_reducible repeat (first | refine blk_drewN ?_ _ | refine blk_drew ?_ | refine blk_alloc ?_ _)); refine blk_put (cs := #[.bool t122, .slice none 0 0]) ?_ 1 _ rfl; (with_reducible repeat (first | refine blk_drewN ?_ _ | refine blk_drew ?_ | refine blk_alloc ?_ _)); refine blk_put (cs := #[.bool false, .slice none 0 0]) ?_ 0 _ rfl; (with_reducible repeat (first | refine blk_drewN ?_ _ | refine blk_drew ?_ | refine blk_alloc ?_ _)); exact BK121.out) Tryz.underlying27 rfl (by kernel_rfl)) rfl ?_
 exact ⟨_, by first | rfl | (simp [errW_none, errW_some] <;> rfl) | (simp [*, errW_none, errW_some] <;> rfl), by (with_reducible repeat (first | apply Kd.V_alloc | apply Kd.V_drewN | apply Kd.V_drew)); exact Kd.V_mono (Kd.V_far (p := ⟨gb121, 1, none⟩) (Kd.V_far (p := ⟨gb121, 0, none⟩) (Kd.V_mono HO125.out (fun k_ hk => (⟨hk, hk.2.2⟩ : _ ∧ k_ ≠ gb121))) (fun _ hk => hk.2) (.bool t122)) (fun _ hk => hk.2) (.slice Ao9 t123.length co9)) (fun _ hk => hk.1.1), by repeat (first | (with_reducible first | exact HB.out | apply below_alloc | apply pw_below_drewN | apply below_drew1 | refine below_set ?_ GE120.out | refine below_set ?_ GE121.out) | exact HB.out)⟩

end Go.Proofs.YtoaibapjnedhlaaGreat.QAll
