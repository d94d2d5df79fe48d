/- Printed by a program of this session (print2.py) over the kit's print: the functions that a law reaches, over contracts proved by hand. Lean checks it. -/
import Derived.Test.YtlnbkmkdapeicaaDoorQTx0
import Derived.Test.YtlnbkmkdapeicaaDoorQTx2
import Derived.Test.YtlnbkmkdapeicaaDoorQTx3
namespace Go.Proofs.YtlnbkmkdapeicaaDoor.QT
open Go.RowKit Go.Proofs.YtlnbkmkdapeicaaDoorW.PrintWords Go.Proofs.YtlnbkmkdapeicaaDoorW.PrintLast Go.Proofs.YtlnbkmkdapeicaaDoorW.PrintMore
attribute [local go_sem] max2_int min2_int max_two min_two max_three min_three max_four min_four   -- for this text's walks alone
set_option linter.unusedVariables false
set_option linter.unusedSimpArgs false

/-! ### spec_Wide_Negated: function 32 -/
def spec_Wide_Negated.f (k : Nat) (a0_0 : Bool) (l0_1 : List Int) : Option (Bool × List Int) := (spec_wide.f k (!a0_0) l0_1).bind fun bt191 => (some (bt191.1, bt191.2))
theorem spec_Wide_Negated.mono : ∀ a0 a1 k, LeO (spec_Wide_Negated.f k a0 a1) (spec_Wide_Negated.f (k + 1) a0 a1) := by
 intro a0 a1 k
 unfold spec_Wide_Negated.f
 repeat' first
   | (with_reducible exact spec_wide.mono _ _ _)
   | (with_reducible exact LeO.refl _)
   | (with_reducible exact LeO.none _)
   | (with_reducible refine LeO.ite ?_ ?_)
   | (with_reducible refine LeO.bind ?_ (fun _ => ?_))
   | exact spec_wide.mono _ _ _
   | exact LeO.none _
   | refine LeO.ite ?_ ?_
   | refine LeO.bind ?_ (fun _ => ?_)
set_option maxHeartbeats 8000000 in
set_option maxRecDepth 100000 in
theorem spec_Wide_Negated.calls (k : Nat) (a0_0 : Bool) (P0_1_ : Nat → Prop) (A0_1 : Option Addr) (c0_1 : Nat) (l0_1 : List Int) (r1 : Bool) (r2 : List Int) (w : World) (hs0_1 : Kd.V (Kd.int .u32) 57 w w.heap.size (fun k_ => P0_1_ k_) (.slice A0_1 l0_1.length c0_1) l0_1) (h : spec_Wide_Negated.f k a0_0 l0_1 = some (r1, r2)) :
  Calls Tryd.prog 32 #[.agg #[.bool a0_0, .slice A0_1 l0_1.length c0_1]] w fun e w' => ∃ v1_ : Value, e = .returned (.agg #[.bool r1, v1_]) ∧ Kd.V (Kd.int .u32) 57 w' w.heap.size (fun k_ => (P0_1_ k_ ∨ w.heap.size ≤ k_)) v1_ r2 ∧ Below w.heap.size w w' := by
 have hu40 := Tryd.underlying40
 have HO0_1 := qaM (show Kd.V (Kd.int .u32) 57 w w.heap.size (fun k_ => (P0_1_ k_ ∨ w.heap.size ≤ k_)) (.slice A0_1 l0_1.length c0_1) l0_1 from qvM hs0_1 (fun k_ hk => .inl hk))
 have HB := qaM (Below.refl w.heap.size w)
 have H : ((spec_wide.f k (!a0_0) l0_1).bind fun bt191 => (some (bt191.1, bt191.2))) = some (r1, r2) := h
 clear h
 replace H := Option.bind_eq_some_iff.mp H
 obtain ⟨⟨t191, t192⟩, A20, H⟩ := H
 replace H : (some (t191, t192)) = some (r1, r2) := H
 have A2 := qaM A20
 clear A20
 simp only [Option.some.injEq, Prod.mk.injEq] at H
 obtain ⟨rfl, rfl⟩ := H
 go_enter Tryd.func32, Tryd.ntmps32
 go_wp2_with (first | ((with_reducible refine gate_dst (N := 1) rfl ?_); refine box_event ?hg (N := 1) ?hd (cs := #[.bool a0_0, .slice A0_1 l0_1.length c0_1]) (t := 40) ?hr ?_; (case hd => rfl); (case hg => rfl); (case hr => first | (go_simp; done) | (go_simp; rfl)); intro gb189 hg w3 hbox hb; have n0_ := qaM (qvB (qvE (by (with_reducible repeat (first | apply qvA | apply qvN | apply qvD)); exact HO0_1.out) gb189 (Nat.le_of_eq hg.symm)) hb); have n1_ := qaM (qbT (by repeat (first | (with_reducible first | exact HB.out | apply qwA | apply qwN | apply qwD) | exact HB.out)) hb); have n2_ := qaM (hbox); have n3_ := qaM ((by rw [hg]; exact (qbS (by repeat (first | (with_reducible first | exact HB.out | apply qwA | apply qwN | apply qwD) | exact HB.out))) : w.heap.size ≤ gb189)); have n4_ := qaM ((by rw [hg]; exact (qbS (by repeat (first | (with_reducible first | exact HB.out | apply qwA | apply qwN | apply qwD) | exact HB.out))) : w.heap.size ≤ gb189)); clear HO0_1; clear HB; have HO0_1 := n0_; have HB := n1_; have BK189 := n2_; have GW189 := n3_; have GE189 := n4_; clear n0_ n1_ n2_ n3_ n4_; clear hb hbox hg) | ((with_reducible refine gate_dst (N := 2) rfl ?_); refine box_event ?hg (N := 2) ?hd (cs := #[.bool false, .slice none 0 0]) (t := 40) ?hr ?_; (case hd => rfl); (case hg => rfl); (case hr => first | (go_simp; done) | (go_simp; rfl)); intro gb190 hg w4 hbox hb; have n0_ := qaM (qvB (qvE (by (with_reducible repeat (first | apply qvA | apply qvN | apply qvD)); exact HO0_1.out) gb190 (Nat.le_of_eq hg.symm)) hb); have n1_ := qaM (qbB (g := gb189) (o := .cells #[.bool a0_0, .slice A0_1 l0_1.length c0_1] 40 (0, 0)) (by (with_reducible repeat (first | refine qbN ?_ _ | refine qbD ?_ | refine qbA ?_ _)); exact BK189.out) hb); have n2_ := qaM (qbT (by repeat (first | (with_reducible first | exact HB.out | apply qwA | apply qwN | apply qwD | refine qwS ?_ GE189.out) | exact HB.out)) hb); have n3_ := qaM (hbox); have n4_ := qaM ((by rw [hg]; exact (qbS (by repeat (first | (with_reducible first | exact HB.out | apply qwA | apply qwN | apply qwD | refine qwS ?_ GE189.out) | exact HB.out))) : w.heap.size ≤ gb190)); have n5_ := qaM ((by rw [hg]; exact (qbS (by repeat (first | (with_reducible first | exact HB.out | apply qwA | apply qwN | apply qwD | refine qwS ?_ GE189.out) | exact HB.out))) : w.heap.size ≤ gb190)); have n6_ := qaM ((by rw [hg]; exact qnL (qbL (g := gb189) (o := .cells #[.bool a0_0, .slice A0_1 l0_1.length c0_1] 40 (0, 0)) (by (with_reducible repeat (first | refine qbN ?_ _ | refine qbD ?_ | refine qbA ?_ _)); exact BK189.out)) : gb189 ≠ gb190)); have n7_ := qaM ((by rw [hg]; exact qnG (qbL (g := gb189) (o := .cells #[.bool a0_0, .slice A0_1 l0_1.length c0_1] 40 (0, 0)) (by (with_reducible repeat (first | refine qbN ?_ _ | refine qbD ?_ | refine qbA ?_ _)); exact BK189.out)) : gb190 ≠ gb189)); clear HO0_1; clear BK189; clear HB; have HO0_1 := n0_; have BK189 := n1_; have HB := n2_; have BK190 := n3_; have GW190 := n4_; have GE190 := n5_; have NB189_190 := n6_; have NB190_189 := n7_; clear n0_ n1_ n2_ n3_ n4_ n5_ n6_ n7_; clear hb hbox hg; have hnb5 := NB189_190.out; have hnc5 := NB190_189.out; have hcz6_0 : w4.cell? ⟨gb189, 0, none⟩ = some (.bool a0_0) := (qbC BK189.out 0).trans rfl; have hcz6_1 : w4.cell? ⟨gb189, 1, none⟩ = some (.slice A0_1 l0_1.length c0_1) := (qbC BK189.out 1).trans rfl; have hfz6_0 := blk_frozen BK189.out 0; have hfz6_1 := blk_frozen BK189.out 1) | ((with_reducible refine gate_callee (f := 20) rfl ?_); refine goesL_ (some 8) rfl rfl Tryd.func20 (by kernel_rfl) rfl #[.bool (!a0_0), .slice A0_1 l0_1.length c0_1] rfl (by (try simp only [List.map_toArray, List.map_cons, List.map_nil]); first | done | rfl | (simp only [List.length_drop, List.length_take]; rfl)) ?_; (with_reducible refine (spec_wide.calls k (!a0_0) (fun k_ => (((P0_1_ k_ ∨ w.heap.size ≤ k_) ∧ k_ ≠ gb189) ∧ k_ ≠ gb190)) _ _ l0_1 t191 t192 _ ?side1 A2.out).mono ?_); (case side1 => exact HO0_1.out); rintro e w7 ⟨v193, rfl, ho0, hb⟩; refine ⟨_, rfl, ?_⟩; have n0_ := qaM (qvB (by (with_reducible repeat (first | apply qvA | apply qvN | apply qvD)); exact HO0_1.out) hb); have n1_ := qaM (qvL (qvM (ok' := fun k_ => (P0_1_ k_ ∨ w.heap.size ≤ k_) ∧ k_ ≠ gb189 ∧ k_ ≠ gb190) ho0 (fun k_ hk_ => ⟨Or.elim hk_ (fun hs_ => hs_.1.1) (fun hn_ => (.inr (Nat.le_trans (qbS (by repeat (first | (with_reducible first | exact HB.out | apply qwA | apply qwN | apply qwD | refine qwS ?_ GE189.out | refine qwS ?_ GE190.out) | exact HB.out))) hn_))), Or.elim hk_ (fun hs_ => hs_.1.2) (fun hn_ => (qfB (g := gb189) (o := .cells #[.bool a0_0, .slice A0_1 l0_1.length c0_1] 40 (0, 0)) (by (with_reducible repeat (first | refine qbN ?_ _ | refine qbD ?_ | refine qbA ?_ _)); exact BK189.out) k_ hn_)), Or.elim hk_ (fun hs_ => hs_.2) (fun hn_ => (qfB (g := gb190) (o := .cells #[.bool false, .slice none 0 0] 40 (0, 0)) (by (with_reducible repeat (first | refine qbN ?_ _ | refine qbD ?_ | refine qbA ?_ _)); exact BK190.out) k_ hn_))⟩)) (qbS (by repeat (first | (with_reducible first | exact HB.out | apply qwA | apply qwN | apply qwD | refine qwS ?_ GE189.out | refine qwS ?_ GE190.out) | exact HB.out)))); have n2_ := qaM (qbB (g := gb189) (o := .cells #[.bool a0_0, .slice A0_1 l0_1.length c0_1] 40 (0, 0)) (by (with_reducible repeat (first | refine qbN ?_ _ | refine qbD ?_ | refine qbA ?_ _)); exact BK189.out) hb); have n3_ := qaM (qbB (g := gb190) (o := .cells #[.bool false, .slice none 0 0] 40 (0, 0)) (by (with_reducible repeat (first | refine qbN ?_ _ | refine qbD ?_ | refine qbA ?_ _)); exact BK190.out) hb); have n4_ := qaM (qbT (by repeat (first | (with_reducible first | exact HB.out | apply qwA | apply qwN | apply qwD | refine qwS ?_ GE189.out | refine qwS ?_ GE190.out) | exact HB.out)) hb); clear HO0_1; clear BK189; clear BK190; clear HB; have HO0_1 := n0_; have HO194 := n1_; have BK189 := n2_; have BK190 := n3_; have HB := n4_; clear n0_ n1_ n2_ n3_ n4_; (try clear hb); (try clear hb2); (try clear hk); (try clear hi); (try clear ho0); have hcz8_0 : w7.cell? ⟨gb190, 0, none⟩ = some (.bool false) := (qbC BK190.out 0).trans rfl; have hcz8_1 : w7.cell? ⟨gb190, 1, none⟩ = some (.slice none 0 0) := (qbC BK190.out 1).trans rfl; have hfz8_0 := blk_frozen BK190.out 0; have hfz8_1 := blk_frozen BK190.out 1; obtain ⟨Ao9, co9, eo9⟩ := Kd.V_slice HO194.out; subst eo9))
 refine bodyPost_ret (results_cell_row rfl _ _ gb190 40 #[.bool t191, .slice Ao9 t192.length co9] (0, 0) _ rfl (by (with_reducible repeat (first | refine qbN ?_ _ | refine qbD ?_ | refine qbA ?_ _)); refine qbP (cs := #[.bool t191, .slice none 0 0]) ?_ 1 _ rfl; (with_reducible repeat (first | refine qbN ?_ _ | refine qbD ?_ | refine qbA ?_ _)); refine qbP (cs := #[.bool false, .slice none 0 0]) ?_ 0 _ rfl; (with_reducible repeat (first | refine qbN ?_ _ | refine qbD ?_ | refine qbA ?_ _)); exact BK190.out) Tryd.underlying40 rfl (by kernel_rfl)) rfl ?_
 exact ⟨_, by first | rfl | (simp [errW_none, errW_some] <;> rfl) | (simp [*, errW_none, errW_some] <;> rfl), by (with_reducible repeat (first | apply qvA | apply qvN | apply qvD)); exact qvM (qvF (p := ⟨gb190, 1, none⟩) (qvF (p := ⟨gb190, 0, none⟩) (qvM HO194.out (fun k_ hk => (⟨hk, hk.2.2⟩ : _ ∧ k_ ≠ gb190))) (fun _ hk => hk.2) (.bool t191)) (fun _ hk => hk.2) (.slice Ao9 t192.length co9)) (fun _ hk => hk.1.1), by repeat (first | (with_reducible first | exact HB.out | apply qwA | apply qwN | apply qwD | refine qwS ?_ GE189.out | refine qwS ?_ GE190.out) | exact HB.out)⟩

/-! ### spec_WideSub: function 21 -/
def spec_WideSub.f (k : Nat) (a0_0 : Bool) (l0_1 : List Int) (a1_0 : Bool) (l1_1 : List Int) : Option (Bool × List Int) := (spec_Wide_Negated.f k a1_0 l1_1).bind fun bt198 => ((spec_WideAdd.f k a0_0 l0_1 bt198.1 bt198.2).bind fun bt202 => (some (bt202.1, bt202.2)))
theorem spec_WideSub.mono : ∀ a0 a1 a2 a3 k, LeO (spec_WideSub.f k a0 a1 a2 a3) (spec_WideSub.f (k + 1) a0 a1 a2 a3) := by
 intro a0 a1 a2 a3 k
 unfold spec_WideSub.f
 repeat' first
   | (with_reducible exact spec_WideAdd.mono _ _ _ _ _)
   | (with_reducible exact spec_Wide_Negated.mono _ _ _)
   | (with_reducible exact LeO.refl _)
   | (with_reducible exact LeO.none _)
   | (with_reducible refine LeO.ite ?_ ?_)
   | (with_reducible refine LeO.bind ?_ (fun _ => ?_))
   | exact spec_WideAdd.mono _ _ _ _ _
   | exact spec_Wide_Negated.mono _ _ _
   | exact LeO.none _
   | refine LeO.ite ?_ ?_
   | refine LeO.bind ?_ (fun _ => ?_)
set_option maxHeartbeats 8000000 in
set_option maxRecDepth 100000 in
theorem spec_WideSub.calls (k : Nat) (a0_0 : Bool) (A0_1 : Option Addr) (c0_1 : Nat) (l0_1 : List Int) (a1_0 : Bool) (P1_1_ : Nat → Prop) (A1_1 : Option Addr) (c1_1 : Nat) (l1_1 : List Int) (r1 : Bool) (r2 : List Int) (w : World) (hr0_1 : Kd.C (Kd.int .u32) w A0_1 l0_1.length l0_1) (hc0_1 : l0_1.length ≤ c0_1) (hs1_1 : Kd.V (Kd.int .u32) 57 w w.heap.size (fun k_ => P1_1_ k_) (.slice A1_1 l1_1.length c1_1) l1_1) (h : spec_WideSub.f k a0_0 l0_1 a1_0 l1_1 = some (r1, r2)) :
  Calls Tryd.prog 21 #[.agg #[.bool a0_0, .slice A0_1 l0_1.length c0_1], .agg #[.bool a1_0, .slice A1_1 l1_1.length c1_1]] w fun e w' => ∃ v1_ : Value, e = .returned (.agg #[.bool r1, v1_]) ∧ Kd.V (Kd.int .u32) 57 w' w.heap.size (fun k_ => (P1_1_ k_ ∨ w.heap.size ≤ k_)) v1_ r2 ∧ Below w.heap.size w w' := by
 have hu40 := Tryd.underlying40
 have HR0_1 := qaM hr0_1
 have HC0_1 := qaM hc0_1
 clear hr0_1 hc0_1
 have HO1_1 := qaM (show Kd.V (Kd.int .u32) 57 w w.heap.size (fun k_ => (P1_1_ k_ ∨ w.heap.size ≤ k_)) (.slice A1_1 l1_1.length c1_1) l1_1 from qvM hs1_1 (fun k_ hk => .inl hk))
 have HB := qaM (Below.refl w.heap.size w)
 have H : ((spec_Wide_Negated.f k a1_0 l1_1).bind fun bt198 => ((spec_WideAdd.f k a0_0 l0_1 bt198.1 bt198.2).bind fun bt202 => (some (bt202.1, bt202.2)))) = some (r1, r2) := h
 clear h
 replace H := Option.bind_eq_some_iff.mp H
 obtain ⟨⟨t198, t199⟩, A30, H⟩ := H
 replace H : ((spec_WideAdd.f k a0_0 l0_1 t198 t199).bind fun bt202 => (some (bt202.1, bt202.2))) = some (r1, r2) := H
 have A3 := qaM A30
 clear A30
 replace H := Option.bind_eq_some_iff.mp H
 obtain ⟨⟨t202, t203⟩, A40, H⟩ := H
 replace H : (some (t202, t203)) = some (r1, r2) := H
 have A4 := qaM A40
 clear A40
 simp only [Option.some.injEq, Prod.mk.injEq] at H
 obtain ⟨rfl, rfl⟩ := H
 go_enter Tryd.func21, Tryd.ntmps21
 try go_wp2_with (first | ((with_reducible refine gate_dst (N := 2) rfl ?_); refine box_event ?hg (N := 2) ?hd (cs := #[.bool a0_0, .slice A0_1 l0_1.length c0_1]) (t := 40) ?hr ?_; (case hd => rfl); (case hg => rfl); (case hr => first | (go_simp; done) | (go_simp; rfl)); intro gb195 hg w5 hbox hb; have n0_ := qaM (qvB (qvE (by (with_reducible repeat (first | apply qvA | apply qvN | apply qvD)); exact HO1_1.out) gb195 (Nat.le_of_eq hg.symm)) hb); have n1_ := qaM (qbT (by repeat (first | (with_reducible first | exact HB.out | apply qwA | apply qwN | apply qwD) | exact HB.out)) hb); have n2_ := qaM (hbox); have n3_ := qaM ((by rw [hg]; exact (qbS (by repeat (first | (with_reducible first | exact HB.out | apply qwA | apply qwN | apply qwD) | exact HB.out))) : w.heap.size ≤ gb195)); have n4_ := qaM ((by rw [hg]; exact (qbS (by repeat (first | (with_reducible first | exact HB.out | apply qwA | apply qwN | apply qwD) | exact HB.out))) : w.heap.size ≤ gb195)); clear HO1_1; clear HB; have HO1_1 := n0_; have HB := n1_; have BK195 := n2_; have GW195 := n3_; have GE195 := n4_; clear n0_ n1_ n2_ n3_ n4_; clear hb hbox hg) | ((with_reducible refine gate_dst (N := 3) rfl ?_); refine box_event ?hg (N := 3) ?hd (cs := #[.bool a1_0, .slice A1_1 l1_1.length c1_1]) (t := 40) ?hr ?_; (case hd => rfl); (case hg => rfl); (case hr => first | (go_simp; done) | (go_simp; rfl)); intro gb196 hg w6 hbox hb; have n0_ := qaM (qvB (qvE (by (with_reducible repeat (first | apply qvA | apply qvN | apply qvD)); exact HO1_1.out) gb196 (Nat.le_of_eq hg.symm)) hb); have n1_ := qaM (qbB (g := gb195) (o := .cells #[.bool a0_0, .slice A0_1 l0_1.length c0_1] 40 (0, 0)) (by (with_reducible repeat (first | refine qbN ?_ _ | refine qbD ?_ | refine qbA ?_ _)); exact BK195.out) hb); have n2_ := qaM (qbT (by repeat (first | (with_reducible first | exact HB.out | apply qwA | apply qwN | apply qwD | refine qwS ?_ GE195.out) | exact HB.out)) hb); have n3_ := qaM (hbox); have n4_ := qaM ((by rw [hg]; exact (qbS (by repeat (first | (with_reducible first | exact HB.out | apply qwA | apply qwN | apply qwD | refine qwS ?_ GE195.out) | exact HB.out))) : w.heap.size ≤ gb196)); have n5_ := qaM ((by rw [hg]; exact (qbS (by repeat (first | (with_reducible first | exact HB.out | apply qwA | apply qwN | apply qwD | refine qwS ?_ GE195.out) | exact HB.out))) : w.heap.size ≤ gb196)); have n6_ := qaM ((by rw [hg]; exact qnL (qbL (g := gb195) (o := .cells #[.bool a0_0, .slice A0_1 l0_1.length c0_1] 40 (0, 0)) (by (with_reducible repeat (first | refine qbN ?_ _ | refine qbD ?_ | refine qbA ?_ _)); exact BK195.out)) : gb195 ≠ gb196)); have n7_ := qaM ((by rw [hg]; exact qnG (qbL (g := gb195) (o := .cells #[.bool a0_0, .slice A0_1 l0_1.length c0_1] 40 (0, 0)) (by (with_reducible repeat (first | refine qbN ?_ _ | refine qbD ?_ | refine qbA ?_ _)); exact BK195.out)) : gb196 ≠ gb195)); clear HO1_1; clear BK195; clear HB; have HO1_1 := n0_; have BK195 := n1_; have HB := n2_; have BK196 := n3_; have GW196 := n4_; have GE196 := n5_; have NB195_196 := n6_; have NB196_195 := n7_; clear n0_ n1_ n2_ n3_ n4_ n5_ n6_ n7_; clear hb hbox hg) | ((with_reducible refine gate_dst (N := 4) rfl ?_); refine box_event ?hg (N := 4) ?hd (cs := #[.bool false, .slice none 0 0]) (t := 40) ?hr ?_; (case hd => rfl); (case hg => rfl); (case hr => first | (go_simp; done) | (go_simp; rfl)); intro gb197 hg w7 hbox hb; have n0_ := qaM (qvB (qvE (by (with_reducible repeat (first | apply qvA | apply qvN | apply qvD)); exact HO1_1.out) gb197 (Nat.le_of_eq hg.symm)) hb); have n1_ := qaM (qbB (g := gb195) (o := .cells #[.bool a0_0, .slice A0_1 l0_1.length c0_1] 40 (0, 0)) (by (with_reducible repeat (first | refine qbN ?_ _ | refine qbD ?_ | refine qbA ?_ _)); exact BK195.out) hb); have n2_ := qaM (qbB (g := gb196) (o := .cells #[.bool a1_0, .slice A1_1 l1_1.length c1_1] 40 (0, 0)) (by (with_reducible repeat (first | refine qbN ?_ _ | refine qbD ?_ | refine qbA ?_ _)); exact BK196.out) hb); have n3_ := qaM (qbT (by repeat (first | (with_reducible first | exact HB.out | apply qwA | apply qwN | apply qwD | refine qwS ?_ GE195.out | refine qwS ?_ GE196.out) | exact HB.out)) hb); have n4_ := qaM (hbox); have n5_ := qaM ((by rw [hg]; exact (qbS (by repeat (first | (with_reducible first | exact HB.out | apply qwA | apply qwN | apply qwD | refine qwS ?_ GE195.out | refine qwS ?_ GE196.out) | exact HB.out))) : w.heap.size ≤ gb197)); have n6_ := qaM ((by rw [hg]; exact (qbS (by repeat (first | (with_reducible first | exact HB.out | apply qwA | apply qwN | apply qwD | refine qwS ?_ GE195.out | refine qwS ?_ GE196.out) | exact HB.out))) : w.heap.size ≤ gb197)); have n7_ := qaM ((by rw [hg]; exact qnL (qbL (g := gb195) (o := .cells #[.bool a0_0, .slice A0_1 l0_1.length c0_1] 40 (0, 0)) (by (with_reducible repeat (first | refine qbN ?_ _ | refine qbD ?_ | refine qbA ?_ _)); exact BK195.out)) : gb195 ≠ gb197)); have n8_ := qaM ((by rw [hg]; exact qnG (qbL (g := gb195) (o := .cells #[.bool a0_0, .slice A0_1 l0_1.length c0_1] 40 (0, 0)) (by (with_reducible repeat (first | refine qbN ?_ _ | refine qbD ?_ | refine qbA ?_ _)); exact BK195.out)) : gb197 ≠ gb195)); have n9_ := qaM ((by rw [hg]; exact qnL (qbL (g := gb196) (o := .cells #[.bool a1_0, .slice A1_1 l1_1.length c1_1] 40 (0, 0)) (by (with_reducible repeat (first | refine qbN ?_ _ | refine qbD ?_ | refine qbA ?_ _)); exact BK196.out)) : gb196 ≠ gb197)); have n10_ := qaM ((by rw [hg]; exact qnG (qbL (g := gb196) (o := .cells #[.bool a1_0, .slice A1_1 l1_1.length c1_1] 40 (0, 0)) (by (with_reducible repeat (first | refine qbN ?_ _ | refine qbD ?_ | refine qbA ?_ _)); exact BK196.out)) : gb197 ≠ gb196)); clear HO1_1; clear BK195; clear BK196; clear HB; have HO1_1 := n0_; have BK195 := n1_; have BK196 := n2_; have HB := n3_; have BK197 := n4_; have GW197 := n5_; have GE197 := n6_; have NB195_197 := n7_; have NB197_195 := n8_; have NB196_197 := n9_; have NB197_196 := n10_; clear n0_ n1_ n2_ n3_ n4_ n5_ n6_ n7_ n8_ n9_ n10_; clear hb hbox hg))
 have n0_ := qaM (qvD HO1_1.out)
 have n1_ := qaM (qbD BK195.out)
 have n2_ := qaM (qbD BK196.out)
 have n3_ := qaM (qbD BK197.out)
 have n4_ := qaM (qwD HB.out)
 clear HO1_1
 clear BK195
 clear BK196
 clear BK197
 clear HB
 have HO1_1 := n0_
 have BK195 := n1_
 have BK196 := n2_
 have BK197 := n3_
 have HB := n4_
 clear n0_ n1_ n2_ n3_ n4_
 refine start_ (n := 5) (S := fun w' => w'.cell? ⟨gb195, 0, none⟩ = some (.bool a0_0) ∧ w'.cell? ⟨gb195, 1, none⟩ = some (.slice A0_1 l0_1.length c0_1) ∧ w'.cell? ⟨gb196, 0, none⟩ = some (.bool a1_0) ∧ w'.cell? ⟨gb196, 1, none⟩ = some (.slice A1_1 l1_1.length c1_1)) (ds := []) #[false, false, false, false, false] (by kernel_rfl) rfl rfl ⟨(qbC BK195.out 0).trans rfl, (qbC BK195.out 1).trans rfl, (qbC BK196.out 0).trans rfl, (qbC BK196.out 1).trans rfl⟩ (fun hHeld => ?_)
 generalize w7.drew = w8 at HO1_1 BK195 BK196 BK197 HB hHeld ⊢
 refine take_ (i := 0) (N := some 5) (v := ?_) (a' := ?_) #[true, false, false, false, false] rfl rfl (by kernel_rfl) (fun _ _ _ h => h) (Or.inl ⟨by rfl, ?_⟩) hHeld ?_ ?_
 rotate_left
 ·rintro w' ⟨s0, s1, s2, s3⟩
  go_simp
  with_reducible rfl
 rotate_left
 ·simp only [Act.put, qsA, qsZ, qsS, i64_w, i32_w]
  rfl
 refine take_ (i := 1) (N := some 6) (v := ?_) (a' := ?_) #[true, true, false, false, false] rfl rfl (by kernel_rfl) (fun _ _ _ h => h) (Or.inl ⟨by rfl, ?_⟩) hHeld ?_ ?_
 rotate_left
 ·rintro w' ⟨s0, s1, s2, s3⟩
  go_simp
  with_reducible rfl
 rotate_left
 ·simp only [Act.put, qsA, qsZ, qsS, i64_w, i32_w]
  rfl
 refine one_ (i := 2) (N := some 7) #[true, true, true, false, false] rfl rfl (by kernel_rfl) (by decide) (fun K hK => ?_)
 refine goes_ Tryd.func32 (by kernel_rfl) rfl #[.agg #[.bool a1_0, .slice A1_1 l1_1.length c1_1]] (by rfl) rfl rfl (by (try simp only [List.map_toArray, List.map_cons, List.map_nil]); first | done | rfl | (simp only [List.length_drop, List.length_take]; rfl)) ?_
 with_reducible refine (spec_Wide_Negated.calls k a1_0 (fun k_ => ((((P1_1_ k_ ∨ w.heap.size ≤ k_) ∧ k_ ≠ gb195) ∧ k_ ≠ gb196) ∧ k_ ≠ gb197)) _ _ l1_1 t198 t199 _ ?side1 A3.out).mono ?_
 (case side1 => exact HO1_1.out)
 rintro e w9 ⟨v200, rfl, ho0, hb⟩
 refine ⟨_, rfl, ?_⟩
 have n0_ := qaM (qvB (by (with_reducible repeat (first | apply qvA | apply qvN | apply qvD)); exact HO1_1.out) hb)
 have n1_ := qaM (qvL (qvM (ok' := fun k_ => (P1_1_ k_ ∨ w.heap.size ≤ k_) ∧ k_ ≠ gb195 ∧ k_ ≠ gb196 ∧ k_ ≠ gb197) ho0 (fun k_ hk_ => ⟨Or.elim hk_ (fun hs_ => hs_.1.1.1) (fun hn_ => (.inr (Nat.le_trans (qbS (by repeat (first | (with_reducible first | exact HB.out | apply qwA | apply qwN | apply qwD | refine qwS ?_ GE195.out | refine qwS ?_ GE196.out | refine qwS ?_ GE197.out) | exact HB.out))) hn_))), Or.elim hk_ (fun hs_ => hs_.1.1.2) (fun hn_ => (qfB (g := gb195) (o := .cells #[.bool a0_0, .slice A0_1 l0_1.length c0_1] 40 (0, 0)) (by (with_reducible repeat (first | refine qbN ?_ _ | refine qbD ?_ | refine qbA ?_ _)); exact BK195.out) k_ hn_)), Or.elim hk_ (fun hs_ => hs_.1.2) (fun hn_ => (qfB (g := gb196) (o := .cells #[.bool a1_0, .slice A1_1 l1_1.length c1_1] 40 (0, 0)) (by (with_reducible repeat (first | refine qbN ?_ _ | refine qbD ?_ | refine qbA ?_ _)); exact BK196.out) k_ hn_)), Or.elim hk_ (fun hs_ => hs_.2) (fun hn_ => (qfB (g := gb197) (o := .cells #[.bool false, .slice none 0 0] 40 (0, 0)) (by (with_reducible repeat (first | refine qbN ?_ _ | refine qbD ?_ | refine qbA ?_ _)); exact BK197.out) k_ hn_))⟩)) (qbS (by repeat (first | (with_reducible first | exact HB.out | apply qwA | apply qwN | apply qwD | refine qwS ?_ GE195.out | refine qwS ?_ GE196.out | refine qwS ?_ GE197.out) | exact HB.out))))
 have n2_ := qaM (qbB (g := gb195) (o := .cells #[.bool a0_0, .slice A0_1 l0_1.length c0_1] 40 (0, 0)) (by (with_reducible repeat (first | refine qbN ?_ _ | refine qbD ?_ | refine qbA ?_ _)); exact BK195.out) hb)
 have n3_ := qaM (qbB (g := gb196) (o := .cells #[.bool a1_0, .slice A1_1 l1_1.length c1_1] 40 (0, 0)) (by (with_reducible repeat (first | refine qbN ?_ _ | refine qbD ?_ | refine qbA ?_ _)); exact BK196.out) hb)
 have n4_ := qaM (qbB (g := gb197) (o := .cells #[.bool false, .slice none 0 0] 40 (0, 0)) (by (with_reducible repeat (first | refine qbN ?_ _ | refine qbD ?_ | refine qbA ?_ _)); exact BK197.out) hb)
 have n5_ := qaM (qbT (by repeat (first | (with_reducible first | exact HB.out | apply qwA | apply qwN | apply qwD | refine qwS ?_ GE195.out | refine qwS ?_ GE196.out | refine qwS ?_ GE197.out) | exact HB.out)) hb)
 clear HO1_1
 clear BK195
 clear BK196
 clear BK197
 clear HB
 have HO1_1 := n0_
 have HO201 := n1_
 have BK195 := n2_
 have BK196 := n3_
 have BK197 := n4_
 have HB := n5_
 clear n0_ n1_ n2_ n3_ n4_ n5_
 (try clear hb)
 (try clear hb2)
 (try clear hk)
 (try clear hi)
 (try clear ho0)
 obtain ⟨Ao10, co10, eo10⟩ := Kd.V_slice HO201.out
 (first | subst eo10 | (injection eo10 with f1_ f2_ f3_; have f4_ := f1_.symm; have f5_ := f3_.symm; clear f1_ f2_ f3_; subst f4_; subst f5_))
 refine hK.out _ _ ⟨(qbC BK195.out 0).trans rfl, (qbC BK195.out 1).trans rfl, (qbC BK196.out 0).trans rfl, (qbC BK196.out 1).trans rfl⟩ (fun hHeld => ?_)
 clear hK K
 refine norm_ (a' := ?_) ?_ ?_
 rotate_left
 ·show Act.put _ (some 7) _ = _
  simp only [Act.put, qsA, qsZ, qsS, i64_w, i32_w]
  rfl
 refine one_ (i := 3) (N := some 8) #[true, true, true, true, false] rfl rfl (by kernel_rfl) (by decide) (fun K hK => ?_)
 refine goes_ Tryd.func31 (by kernel_rfl) rfl #[.agg #[.bool a0_0, .slice A0_1 l0_1.length c0_1], .agg #[.bool t198, .slice Ao10 t199.length co10]] (by rfl) rfl rfl (by (try simp only [List.map_toArray, List.map_cons, List.map_nil]); first | done | rfl | (simp only [List.length_drop, List.length_take]; rfl)) ?_
 with_reducible refine (spec_WideAdd.calls k a0_0 _ _ l0_1 t198 _ _ t199 t202 t203 _ ?side1 ?side2 ?side3 ?side4 A4.out).mono ?_
 (case side1 => repeat (first | exact (Kd.C_below HR0_1.out HB.out) | (with_reducible refine Kd.C_alloc ?_ _) | (with_reducible refine Kd.C_drewN ?_ _) | (with_reducible refine Kd.C_drew ?_)))
 (case side2 => exact HC0_1.out)
 (case side3 => repeat (first | exact (qvR HO201.out).2.2 | (with_reducible refine Kd.C_alloc ?_ _) | (with_reducible refine Kd.C_drewN ?_ _) | (with_reducible refine Kd.C_drew ?_)))
 (case side4 => exact (qvR HO201.out).2.1)
 rintro e w11 ⟨v204, rfl, ho0, hb⟩
 refine ⟨_, rfl, ?_⟩
 have n0_ := qaM (qvB (by (with_reducible repeat (first | apply qvA | apply qvN | apply qvD)); exact HO1_1.out) hb)
 have n1_ := qaM (qvB (by (with_reducible repeat (first | apply qvA | apply qvN | apply qvD)); exact HO201.out) hb)
 have n2_ := qaM (qvL (qvM (ok' := fun k_ => (P1_1_ k_ ∨ w.heap.size ≤ k_) ∧ k_ ≠ gb195 ∧ k_ ≠ gb196 ∧ k_ ≠ gb197) ho0 (fun k_ hk_ => ⟨(.inr (Nat.le_trans (qbS (by repeat (first | (with_reducible first | exact HB.out | apply qwA | apply qwN | apply qwD | refine qwS ?_ GE195.out | refine qwS ?_ GE196.out | refine qwS ?_ GE197.out) | exact HB.out))) hk_)), (qfB (g := gb195) (o := .cells #[.bool a0_0, .slice A0_1 l0_1.length c0_1] 40 (0, 0)) (by (with_reducible repeat (first | refine qbN ?_ _ | refine qbD ?_ | refine qbA ?_ _)); exact BK195.out) k_ hk_), (qfB (g := gb196) (o := .cells #[.bool a1_0, .slice A1_1 l1_1.length c1_1] 40 (0, 0)) (by (with_reducible repeat (first | refine qbN ?_ _ | refine qbD ?_ | refine qbA ?_ _)); exact BK196.out) k_ hk_), (qfB (g := gb197) (o := .cells #[.bool false, .slice none 0 0] 40 (0, 0)) (by (with_reducible repeat (first | refine qbN ?_ _ | refine qbD ?_ | refine qbA ?_ _)); exact BK197.out) k_ hk_)⟩)) (qbS (by repeat (first | (with_reducible first | exact HB.out | apply qwA | apply qwN | apply qwD | refine qwS ?_ GE195.out | refine qwS ?_ GE196.out | refine qwS ?_ GE197.out) | exact HB.out))))
 have n3_ := qaM (qbB (g := gb195) (o := .cells #[.bool a0_0, .slice A0_1 l0_1.length c0_1] 40 (0, 0)) (by (with_reducible repeat (first | refine qbN ?_ _ | refine qbD ?_ | refine qbA ?_ _)); exact BK195.out) hb)
 have n4_ := qaM (qbB (g := gb196) (o := .cells #[.bool a1_0, .slice A1_1 l1_1.length c1_1] 40 (0, 0)) (by (with_reducible repeat (first | refine qbN ?_ _ | refine qbD ?_ | refine qbA ?_ _)); exact BK196.out) hb)
 have n5_ := qaM (qbB (g := gb197) (o := .cells #[.bool false, .slice none 0 0] 40 (0, 0)) (by (with_reducible repeat (first | refine qbN ?_ _ | refine qbD ?_ | refine qbA ?_ _)); exact BK197.out) hb)
 have n6_ := qaM (qbT (by repeat (first | (with_reducible first | exact HB.out | apply qwA | apply qwN | apply qwD | refine qwS ?_ GE195.out | refine qwS ?_ GE196.out | refine qwS ?_ GE197.out) | exact HB.out)) hb)
 clear HO1_1
 clear HO201
 clear BK195
 clear BK196
 clear BK197
 clear HB
 have HO1_1 := n0_
 have HO201 := n1_
 have HO205 := n2_
 have BK195 := n3_
 have BK196 := n4_
 have BK197 := n5_
 have HB := n6_
 clear n0_ n1_ n2_ n3_ n4_ n5_ n6_
 (try clear hb)
 (try clear hb2)
 (try clear hk)
 (try clear hi)
 (try clear ho0)
 obtain ⟨Ao13, co13, eo13⟩ := Kd.V_slice HO205.out
 (first | subst eo13 | (injection eo13 with f1_ f2_ f3_; have f4_ := f1_.symm; have f5_ := f3_.symm; clear f1_ f2_ f3_; subst f4_; subst f5_))
 refine hK.out _ _ ⟨(qbC BK195.out 0).trans rfl, (qbC BK195.out 1).trans rfl, (qbC BK196.out 0).trans rfl, (qbC BK196.out 1).trans rfl⟩ (fun hHeld => ?_)
 clear hK K
 refine norm_ (a' := ?_) ?_ ?_
 rotate_left
 ·show Act.put _ (some 8) _ = _
  simp only [Act.put, qsA, qsZ, qsS, i64_w, i32_w]
  rfl
 refine one_ (i := 4) (N := none) #[true, true, true, true, true] rfl rfl (by kernel_rfl) (by decide) (fun K hK => ?_)
 have hs12 : w11.cell? ⟨gb197, 0, none⟩ = some (.bool false) := (qbC BK197.out 0).trans rfl
 have hfs12 := blk_frozen BK197.out 0
 have hns12_0 := NB195_197.out
 have hns12_1 := NB196_197.out
 have hms12_0 := NB197_195.out
 have hms12_1 := NB197_196.out
 have hs14 : w11.cell? ⟨gb197, 1, none⟩ = some (.slice none 0 0) := (qbC BK197.out 1).trans rfl
 have hfs14 := blk_frozen BK197.out 1
 have hns14_0 := NB195_197.out
 have hns14_1 := NB196_197.out
 have hms14_0 := NB197_195.out
 have hms14_1 := NB197_196.out
 refine skip_ (w1 := ?_) (by rfl) rfl ?_ ?_
 rotate_left
 ·go_simp
  rfl
 refine hK.out _ _ ⟨((cell_far (p := ⟨gb197, _, none⟩) NB195_197.out _).trans (((cell_far (p := ⟨gb197, _, none⟩) NB195_197.out _).trans (hHeld.1)))), ((cell_far (p := ⟨gb197, _, none⟩) NB195_197.out _).trans (((cell_far (p := ⟨gb197, _, none⟩) NB195_197.out _).trans (hHeld.2.1)))), ((cell_far (p := ⟨gb197, _, none⟩) NB196_197.out _).trans (((cell_far (p := ⟨gb197, _, none⟩) NB196_197.out _).trans (hHeld.2.2.1)))), ((cell_far (p := ⟨gb197, _, none⟩) NB196_197.out _).trans (((cell_far (p := ⟨gb197, _, none⟩) NB196_197.out _).trans (hHeld.2.2.2))))⟩ (fun hHeld => ?_)
 clear hK K
 refine done_ (by kernel_rfl) ?_
 try go_wp2
 refine bodyPost_ret (results_cell_row rfl _ _ gb197 40 #[.bool t202, .slice Ao13 t203.length co13] (0, 0) _ rfl (by (with_reducible repeat (first | refine qbN ?_ _ | refine qbD ?_ | refine qbA ?_ _)); refine qbP (cs := #[.bool t202, .slice none 0 0]) ?_ 1 _ rfl; (with_reducible repeat (first | refine qbN ?_ _ | refine qbD ?_ | refine qbA ?_ _)); refine qbP (cs := #[.bool false, .slice none 0 0]) ?_ 0 _ rfl; (with_reducible repeat (first | refine qbN ?_ _ | refine qbD ?_ | refine qbA ?_ _)); exact BK197.out) Tryd.underlying40 rfl (by kernel_rfl)) rfl ?_
 exact ⟨_, by first | rfl | (simp [errW_none, errW_some] <;> rfl) | (simp [*, errW_none, errW_some] <;> rfl), by (with_reducible repeat (first | apply qvA | apply qvN | apply qvD)); exact qvM (qvF (p := ⟨gb197, 1, none⟩) (qvF (p := ⟨gb197, 0, none⟩) (qvM HO205.out (fun k_ hk => (⟨hk, hk.2.2.2⟩ : _ ∧ k_ ≠ gb197))) (fun _ hk => hk.2) (.bool t202)) (fun _ hk => hk.2) (.slice Ao13 t203.length co13)) (fun _ hk => hk.1.1), by repeat (first | (with_reducible first | exact HB.out | apply qwA | apply qwN | apply qwD | refine qwS ?_ GE195.out | refine qwS ?_ GE196.out | refine qwS ?_ GE197.out) | exact HB.out)⟩

/-! ### spec_Two: function 22 -/
def spec_Two.f (k : Nat) (a0 : Int) : Option (Bool × List Int) := if 0 ≤ (wrap64 ((wrap64 (Int.tdiv a0 32)) + 1)) then (if (wrap64 ((wrap64 (Int.tdiv a0 32)) + 1) : Int).toNat ≤ 70368744177664 then ((some (List.replicate (wrap64 ((wrap64 (Int.tdiv a0 32)) + 1) : Int).toNat 0 : List Int)).bind fun y207 => (if 0 ≤ (Int.tmod a0 32) then (if 0 ≤ (wrap64 (Int.tdiv a0 32)) then (if (wrap64 (Int.tdiv a0 32)) < (y207.length : Int) then ((spec_wide.f k false (y207.set ((wrap64 (Int.tdiv a0 32)) : Int).toNat (shl .u32 1 (Int.tmod a0 32)))).bind fun bt211 => (some (bt211.1, bt211.2))) else (none)) else (none)) else (none))) else (none)) else (none)
theorem spec_Two.mono : ∀ a0 k, LeO (spec_Two.f k a0) (spec_Two.f (k + 1) a0) := by
 intro a0 k
 unfold spec_Two.f
 repeat' first
   | (with_reducible exact spec_wide.mono _ _ _)
   | (with_reducible exact LeO.refl _)
   | (with_reducible exact LeO.none _)
   | (with_reducible refine LeO.ite ?_ ?_)
   | (with_reducible refine LeO.bind ?_ (fun _ => ?_))
   | exact spec_wide.mono _ _ _
   | exact LeO.none _
   | refine LeO.ite ?_ ?_
   | refine LeO.bind ?_ (fun _ => ?_)
set_option maxHeartbeats 8000000 in
set_option maxRecDepth 100000 in
theorem spec_Two.calls (k : Nat) (a0 : Int) (r1 : Bool) (r2 : List Int) (w : World) (h : spec_Two.f k a0 = some (r1, r2)) :
  Calls Tryd.prog 22 #[.int .i64 a0] w fun e w' => ∃ v1_ : Value, e = .returned (.agg #[.bool r1, v1_]) ∧ Kd.V (Kd.int .u32) 57 w' w.heap.size (fun k_ => (w.heap.size ≤ k_)) v1_ r2 ∧ Below w.heap.size w w' := by
 have hu40 := Tryd.underlying40
 have HB := qaM (Below.refl w.heap.size w)
 have H : (if 0 ≤ (wrap64 ((wrap64 (Int.tdiv a0 32)) + 1)) then (if (wrap64 ((wrap64 (Int.tdiv a0 32)) + 1) : Int).toNat ≤ 70368744177664 then ((some (List.replicate (wrap64 ((wrap64 (Int.tdiv a0 32)) + 1) : Int).toNat 0 : List Int)).bind fun y207 => (if 0 ≤ (Int.tmod a0 32) then (if 0 ≤ (wrap64 (Int.tdiv a0 32)) then (if (wrap64 (Int.tdiv a0 32)) < (y207.length : Int) then ((spec_wide.f k false (y207.set ((wrap64 (Int.tdiv a0 32)) : Int).toNat (shl .u32 1 (Int.tmod a0 32)))).bind fun bt211 => (some (bt211.1, bt211.2))) else (none)) else (none)) else (none))) else (none)) else (none)) = some (r1, r2) := h
 clear h
 obtain ⟨ji2, hji2⟩ : ∃ j_ : Int, (wrap64 ((wrap64 (Int.tdiv a0 32)) + 1)) = j_ := ⟨_, rfl⟩
 replace H : (if 0 ≤ (ji2) then (if (ji2 : Int).toNat ≤ 70368744177664 then ((some (List.replicate (ji2 : Int).toNat 0 : List Int)).bind fun y207 => (if 0 ≤ (Int.tmod a0 32) then (if 0 ≤ (wrap64 (Int.tdiv a0 32)) then (if (wrap64 (Int.tdiv a0 32)) < (y207.length : Int) then ((spec_wide.f k false (y207.set ((wrap64 (Int.tdiv a0 32)) : Int).toNat (shl .u32 1 (Int.tmod a0 32)))).bind fun bt211 => (some (bt211.1, bt211.2))) else (none)) else (none)) else (none))) else (none)) else (none)) = some (r1, r2) := by first | (rw [hji2] at H; exact H) | (simp only [hji2] at H ⊢; exact H)
 have hji2w : (IntKind.i64.wrap ((wrap64 (Int.tdiv a0 32)) + 1)) = ji2 := (i64_w _).trans hji2
 by_cases c3 : 0 ≤ (ji2)
 ·rw [if_pos c3] at H
  have c3b0 := eq_true c3
  have c3b1 : decide (0 ≤ (ji2)) = true := decide_eq_true c3
  clear c3
  by_cases c4 : (ji2 : Int).toNat ≤ 70368744177664
  ·rw [if_pos c4] at H
   have c4b0 := eq_true c4
   have c4b1 : decide ((ji2 : Int).toNat ≤ 70368744177664) = true := decide_eq_true c4
   clear c4
   obtain ⟨y207, hy207⟩ : ∃ y_ : List Int, y_ = (List.replicate (ji2 : Int).toNat 0) := ⟨_, rfl⟩
   replace H : (if 0 ≤ (Int.tmod a0 32) then (if 0 ≤ (wrap64 (Int.tdiv a0 32)) then (if (wrap64 (Int.tdiv a0 32)) < (y207.length : Int) then ((spec_wide.f k false (y207.set ((wrap64 (Int.tdiv a0 32)) : Int).toNat (shl .u32 1 (Int.tmod a0 32)))).bind fun bt211 => (some (bt211.1, bt211.2))) else (none)) else (none)) else (none)) = some (r1, r2) := by first | (rw [hy207]; with_reducible exact H) | (have H2_ := (Option.bind_some _ _).symm.trans H; rw [hy207]; with_reducible exact H2_) | (have H2_ := (Option.bind_some _ _).symm.trans H; with_reducible exact H2_) | with_reducible exact H | (rw [hy207]; exact H) | exact H
   have Ny207 := qaM hy207
   clear hy207
   obtain ⟨ji5, hji5⟩ : ∃ j_ : Int, (Int.tmod a0 32) = j_ := ⟨_, rfl⟩
   replace H : (if 0 ≤ (ji5) then (if 0 ≤ (wrap64 (Int.tdiv a0 32)) then (if (wrap64 (Int.tdiv a0 32)) < (y207.length : Int) then ((spec_wide.f k false (y207.set ((wrap64 (Int.tdiv a0 32)) : Int).toNat (shl .u32 1 (ji5)))).bind fun bt211 => (some (bt211.1, bt211.2))) else (none)) else (none)) else (none)) = some (r1, r2) := by first | (rw [hji5] at H; exact H) | (simp only [hji5] at H ⊢; exact H)
   by_cases c6 : 0 ≤ (ji5)
   ·rw [if_pos c6] at H
    have c6b0 := eq_true c6
    have c6b1 : decide (0 ≤ (ji5)) = true := decide_eq_true c6
    clear c6
    obtain ⟨ji7, hji7⟩ : ∃ j_ : Int, (shl .u32 1 (ji5)) = j_ := ⟨_, rfl⟩
    replace H : (if 0 ≤ (wrap64 (Int.tdiv a0 32)) then (if (wrap64 (Int.tdiv a0 32)) < (y207.length : Int) then ((spec_wide.f k false (y207.set ((wrap64 (Int.tdiv a0 32)) : Int).toNat (ji7))).bind fun bt211 => (some (bt211.1, bt211.2))) else (none)) else (none)) = some (r1, r2) := by first | (rw [hji7] at H; exact H) | (simp only [hji7] at H ⊢; exact H)
    have hji7_ : (IntKind.u32.wrap (1 * 2 ^ min (ji5).toNat 32)) = ji7 := hji7
    have hji7z : (ji5) ≤ 32 → (IntKind.u32.wrap (1 * 2 ^ (ji5).toNat)) = ji7 := shl_small hji7
    have hji7u : (IntKind.u32.wrap (2 ^ min (ji5).toNat 32)) = ji7 := by have h_ := hji7_; rw [Int.one_mul] at h_; exact h_
    have hji7v : (ji5) ≤ 32 → (IntKind.u32.wrap (2 ^ (ji5).toNat)) = ji7 := fun hle_ => by have h_ := hji7z hle_; rw [Int.one_mul] at h_; exact h_
    obtain ⟨ji8, hji8⟩ : ∃ j_ : Int, (wrap64 (Int.tdiv a0 32)) = j_ := ⟨_, rfl⟩
    have hji2_8 : (wrap64 ((ji8) + 1)) = ji2 := by rw [← hji8]; exact hji2
    have hji2_8w : (IntKind.i64.wrap ((ji8) + 1)) = ji2 := (i64_w _).trans hji2_8
    replace H : (if 0 ≤ (ji8) then (if (ji8) < (y207.length : Int) then ((spec_wide.f k false (y207.set ((ji8) : Int).toNat (ji7))).bind fun bt211 => (some (bt211.1, bt211.2))) else (none)) else (none)) = some (r1, r2) := by first | (rw [hji8] at H; exact H) | (simp only [hji8] at H ⊢; exact H)
    have hji8w : (IntKind.i64.wrap (Int.tdiv a0 32)) = ji8 := (i64_w _).trans hji8
    by_cases c9 : 0 ≤ (ji8)
    ·rw [if_pos c9] at H
     have c9b0 : decide (0 ≤ (ji8)) = true := decide_eq_true c9
     clear c9
     by_cases c10 : (ji8) < (y207.length : Int)
     ·rw [if_pos c10] at H
      have c10b0 : decide ((ji8) < (y207.length : Int)) = true := decide_eq_true c10
      clear c10
      obtain ⟨y210, hy210⟩ : ∃ y_ : List Int, y_ = (y207.set ((ji8) : Int).toNat (ji7)) := ⟨_, rfl⟩
      replace H : ((spec_wide.f k false y210).bind fun bt211 => (some (bt211.1, bt211.2))) = some (r1, r2) := by first | (rw [hy210]; with_reducible exact H) | (have H2_ := (Option.bind_some _ _).symm.trans H; rw [hy210]; with_reducible exact H2_) | (have H2_ := (Option.bind_some _ _).symm.trans H; with_reducible exact H2_) | with_reducible exact H | (rw [hy210]; exact H) | exact H
      have Ny210 := qaM hy210
      clear hy210
      replace H := Option.bind_eq_some_iff.mp H
      obtain ⟨⟨t211, t212⟩, A120, H⟩ := H
      replace H : (some (t211, t212)) = some (r1, r2) := H
      have A12 := qaM A120
      clear A120
      simp only [Option.some.injEq, Prod.mk.injEq] at H
      obtain ⟨rfl, rfl⟩ := H
      go_enter Tryd.func22, Tryd.ntmps22
      go_wp2_with (first | ((with_reducible refine gate_dst (N := 2) rfl ?_); refine box_event ?hg (N := 2) ?hd (cs := #[.bool false, .slice none 0 0]) (t := 40) ?hr ?_; (case hd => rfl); (case hg => rfl); (case hr => first | (go_simp; done) | (go_simp; rfl)); intro gb206 hg w13 hbox hb; have n0_ := qaM (qbT (by repeat (first | (with_reducible first | exact HB.out | apply qwA | apply qwN | apply qwD) | exact HB.out)) hb); have n1_ := qaM (hbox); have n2_ := qaM ((by rw [hg]; exact (qbS (by repeat (first | (with_reducible first | exact HB.out | apply qwA | apply qwN | apply qwD) | exact HB.out))) : w.heap.size ≤ gb206)); have n3_ := qaM ((by rw [hg]; exact (qbS (by repeat (first | (with_reducible first | exact HB.out | apply qwA | apply qwN | apply qwD) | exact HB.out))) : w.heap.size ≤ gb206)); clear HB; have HB := n0_; have BK206 := n1_; have GW206 := n2_; have GE206 := n3_; clear n0_ n1_ n2_ n3_; clear hb hbox hg) | ((with_reducible refine gate_dst (N := 7) rfl ?_); refine Kd.R_make (Kd.int .u32) _ 57 rfl (N := 7) rfl 38 _ _ rfl ji2 rfl rfl Tryd.underlying38 (.int .u32 0) 4 info57 rfl (by decide) (by omega) 0 (ok := fun _ => True) (okp := fun _ => True) rfl (fun _ hk => hk) trivial (qoD (by first | (with_reducible assumption) | assumption)) (Nat.le_trans (Nat.mul_le_mul_right _ (qoD (by first | (with_reducible assumption) | assumption) : ji2.toNat ≤ 70368744177664)) (by omega)) (Below.refl _ _) (Nat.le_refl _) ?_; intro v208 w14 ho15 hb hg_ hnew_; clear hg_ hnew_; (first | rw [← Ny207.out] at ho15 | (simp only [Int.reduceToNat] at ho15; rw [← Ny207.out] at ho15)); have n0_ := qaM (Kd.R_lower (Kd.R_newM (M := fun k_ => (w.heap.size ≤ k_)) ho15 (qbS (by repeat (first | (with_reducible first | exact HB.out | apply qwA | apply qwN | apply qwD | refine qwS ?_ GE206.out) | exact HB.out))) (fun k_ h_ => h_)) (qbS (by repeat (first | (with_reducible first | exact HB.out | apply qwA | apply qwN | apply qwD | refine qwS ?_ GE206.out) | exact HB.out)))); have n1_ := qaM (qbB (g := gb206) (o := .cells #[.bool false, .slice none 0 0] 40 (0, 0)) (by (with_reducible repeat (first | refine qbN ?_ _ | refine qbD ?_ | refine qbA ?_ _)); exact BK206.out) hb); have n2_ := qaM (qbT (by repeat (first | (with_reducible first | exact HB.out | apply qwA | apply qwN | apply qwD | refine qwS ?_ GE206.out) | exact HB.out)) hb); clear BK206; clear HB; have HO209 := n0_; have BK206 := n1_; have HB := n2_; clear n0_ n1_ n2_; clear hb ho15; have p11 : 0 ≤ ((ji8) : Int) := qoD (by first | (with_reducible assumption) | assumption); have q11 : ((ji8) : Int) < ((y207.length : Int) : Int) := qoD (by first | (with_reducible assumption) | assumption); obtain ⟨go11, co11, eo11, gb11, gl11, cl11, HG11⟩ := Kd.R_form HO209.out (by omega); (first | cases eo11 | (injection eo11 with ea_ en_ ec_; (first | subst ea_ | (injection ea_ with ea_; subst ea_)); subst ec_; clear en_)); have GB11 := qaM gb11; have GG11 := qaM HG11; clear gb11 gl11 HG11; obtain ⟨hx11_0, hf11_0⟩ := Kd.R_celln 0 HO209.out ((ji8) : Int) p11 q11; replace p11 := eq_true p11; replace q11 := eq_true q11; have n_ := qaM (qrM (ok' := (fun k_ => (w.heap.size ≤ k_))) HO209.out (fun k_ hk => hk.1)); clear HO209; have HO209 := n_; clear n_; obtain ⟨hy16_, hz16_⟩ := Kd.R_celln 0 HO209.out ((ji8) : Int) (qoD (by first | (with_reducible assumption) | assumption)) (qoD (by first | (with_reducible assumption) | assumption)); have HP16 := Kd.R_putg HO209.out ((ji8) : Int) ji7) | ((with_reducible refine gate_store (t := 57) (p := 14) rfl ?_); refine store_event (t := 57) (p := 14) (v := ?vo_w17) (w1 := (w14.setCell ⟨go11, ((ji8) : Int).toNat, none⟩ (.int .u32 ji7))) ?hg ?ho ?hn ?hr ?_; (case ho => rfl); (case hg => rfl); (case hn => rfl); (case hr => first | (go_simp; done) | (go_simp; rfl)); intro w17 hw; have hg : w14.grownBy w17 (some go11) := (by rw [hw]; exact HP16.2); have hp_ : Kd.R (Kd.int .u32) 57 w17 w.heap.size (fun k_ => (w.heap.size ≤ k_)) (.slice (some ⟨go11, 0, none⟩) y207.length co11) y210 := (by rw [hw, Ny210.out]; exact HP16.1); clear HP16; have n0_ := qaM (blk_grown (g := gb206) (o := .cells #[.bool false, .slice none 0 0] 40 (0, 0)) (by (with_reducible repeat (first | refine qbN ?_ _ | refine qbD ?_ | refine qbA ?_ _)); exact BK206.out) hg (Kd.R_ne HO209.out BK206.out (by decide))); have n1_ := qaM (hp_); have n2_ := qaM ((by rw [hw]; exact qwS (HB.out) GB11.out : Below w.heap.size w w17)); clear BK206; clear HO209; clear HB; have BK206 := n0_; have HO209 := n1_; have HB := n2_; clear n0_ n1_ n2_; clear hg hw hp_) | ((with_reducible refine gate_callee (f := 20) rfl ?_); refine goesL_ (some 16) rfl rfl Tryd.func20 (by kernel_rfl) rfl #[.bool false, .slice (some ⟨go11, 0, none⟩) y210.length co11] rfl (by (try simp only [List.map_toArray, List.map_cons, List.map_nil]); first | done | (rw [show y210.length = y207.length from (qrR HO209.out).1.symm] <;> rfl) | rfl | (simp only [List.length_drop, List.length_take]; rfl)) ?_; (with_reducible refine (spec_wide.calls k false (fun k_ => some k_ = (.slice (some ⟨go11, 0, none⟩) y207.length co11 : Value).ownBlock) _ _ y210 t211 t212 _ ?side1 A12.out).mono ?_); (case side1 => rw [show y210.length = y207.length from (qrR HO209.out).1.symm]; exact qrV (Kd.R_tight rfl (qrT (HO209.out) BK206.out (by decide)))); rintro e w18 ⟨v213, rfl, ho0, hb⟩; refine ⟨_, rfl, ?_⟩; have n0_ := qaM (qrB (by (with_reducible repeat (first | apply qrA | apply qrN | apply qrD)); exact HO209.out) hb); have n1_ := qaM (qvL (qvM (ok' := fun k_ => (w.heap.size ≤ k_) ∧ k_ ≠ gb206) ho0 (fun k_ hk_ => ⟨Or.elim hk_ (fun hs_ => ((qrT (HO209.out) BK206.out (by decide)).1 k_ hs_.symm).1) (fun hn_ => (Nat.le_trans (qbS (by repeat (first | (with_reducible first | exact HB.out | apply qwA | apply qwN | apply qwD | refine qwS ?_ GE206.out) | exact HB.out))) hn_)), Or.elim hk_ (fun hs_ => ((qrT (HO209.out) BK206.out (by decide)).1 k_ hs_.symm).2) (fun hn_ => (qfB (g := gb206) (o := .cells #[.bool false, .slice none 0 0] 40 (0, 0)) (by (with_reducible repeat (first | refine qbN ?_ _ | refine qbD ?_ | refine qbA ?_ _)); exact BK206.out) k_ hn_))⟩)) (qbS (by repeat (first | (with_reducible first | exact HB.out | apply qwA | apply qwN | apply qwD | refine qwS ?_ GE206.out) | exact HB.out)))); have n2_ := qaM (qbB (g := gb206) (o := .cells #[.bool false, .slice none 0 0] 40 (0, 0)) (by (with_reducible repeat (first | refine qbN ?_ _ | refine qbD ?_ | refine qbA ?_ _)); exact BK206.out) hb); have n3_ := qaM (qbT (by repeat (first | (with_reducible first | exact HB.out | apply qwA | apply qwN | apply qwD | refine qwS ?_ GE206.out) | exact HB.out)) hb); clear HO209; clear BK206; clear HB; have HO209 := n0_; have HO214 := n1_; have BK206 := n2_; have HB := n3_; clear n0_ n1_ n2_ n3_; (try clear hb); (try clear hb2); (try clear hk); (try clear hi); (try clear ho0); have hcz19_0 : w18.cell? ⟨gb206, 0, none⟩ = some (.bool false) := (qbC BK206.out 0).trans rfl; have hcz19_1 : w18.cell? ⟨gb206, 1, none⟩ = some (.slice none 0 0) := (qbC BK206.out 1).trans rfl; have hfz19_0 := blk_frozen BK206.out 0; have hfz19_1 := blk_frozen BK206.out 1; obtain ⟨Ao20, co20, eo20⟩ := Kd.V_slice HO214.out; subst eo20))
      refine bodyPost_ret (results_cell_row rfl _ _ gb206 40 #[.bool t211, .slice Ao20 t212.length co20] (0, 0) _ rfl (by (with_reducible repeat (first | refine qbN ?_ _ | refine qbD ?_ | refine qbA ?_ _)); refine qbP (cs := #[.bool t211, .slice none 0 0]) ?_ 1 _ rfl; (with_reducible repeat (first | refine qbN ?_ _ | refine qbD ?_ | refine qbA ?_ _)); refine qbP (cs := #[.bool false, .slice none 0 0]) ?_ 0 _ rfl; (with_reducible repeat (first | refine qbN ?_ _ | refine qbD ?_ | refine qbA ?_ _)); exact BK206.out) Tryd.underlying40 rfl (by kernel_rfl)) rfl ?_
      exact ⟨_, by first | rfl | (simp [errW_none, errW_some] <;> rfl) | (simp only [← hji2, ← hji5, ← hji7, ← hji8]; first | rfl | (simp [errW_none, errW_some] <;> rfl)) | (simp [*, errW_none, errW_some] <;> rfl), by (with_reducible repeat (first | apply qvA | apply qvN | apply qvD)); exact qvM (qvF (p := ⟨gb206, 1, none⟩) (qvF (p := ⟨gb206, 0, none⟩) (qvM HO214.out (fun k_ hk => (⟨hk, hk.2⟩ : _ ∧ k_ ≠ gb206))) (fun _ hk => hk.2) (.bool t211)) (fun _ hk => hk.2) (.slice Ao20 t212.length co20)) (fun _ hk => hk.1.1), by repeat (first | (with_reducible first | exact HB.out | apply qwA | apply qwN | apply qwD | refine qwS ?_ GE206.out) | exact HB.out)⟩
     ·rw [if_neg c10] at H
      exact absurd H (by simp)
    ·rw [if_neg c9] at H
     exact absurd H (by simp)
   ·rw [if_neg c6] at H
    exact absurd H (by simp)
  ·rw [if_neg c4] at H
   exact absurd H (by simp)
 ·rw [if_neg c3] at H
  exact absurd H (by simp)

/-! ### spec_FromWords: function 11 -/
mutual
def spec_FromWords.l0 : Nat → List Int → List Int → List Int → Int → Int → Option (Bool × List Int)
 | 0, _, _, _, _, _ => none
 | k + 1, x0, x3, x7, x8, x9 => if x9 < x8 then (if 0 ≤ x9 then (if x9 < (x7.length : Int) then ((some (([(rd x7 x9) % 4294967296, ((rd x7 x9) / 4294967296) % 4294967296] : List Int) : List Int)).bind fun y217 => (if x3.length + y217.length < 35184372088832 then (spec_FromWords.l0 k x0 (x3 ++ y217) x7 x8 (wrap64 (x9 + 1))) else (none))) else (none)) else (none)) else ((spec_wide.f k false x3).bind fun bt223 => (if (x0.length : Int) > 0 then (if 0 ≤ (wrap64 ((x0.length : Int) - 1)) then (if (wrap64 ((x0.length : Int) - 1)) < (x0.length : Int) then (spec_FromWords.j1 k x0 (((rd x0 (wrap64 ((x0.length : Int) - 1))) / 9223372036854775808) == 1) bt223.1 bt223.2) else (none)) else (none)) else (spec_FromWords.j1 k x0 false bt223.1 bt223.2)))
def spec_FromWords.j1 : Nat → List Int → Bool → Bool → List Int → Option (Bool × List Int)
 | 0, _, _, _, _ => none
 | k + 1, x0, x36, x228000, x228001 => if x36 = true then ((spec_Two.f k (wrap64 (64 * (x0.length : Int)))).bind fun bt229 => ((spec_WideSub.f k x228000 x228001 bt229.1 bt229.2).bind fun bt233 => (some (bt233.1, bt233.2)))) else (some (x228000, x228001))
end
def spec_FromWords.f (k : Nat) (l0 : List Int) : Option (Bool × List Int) := spec_FromWords.l0 k l0 ([] : List Int) l0 (l0.length : Int) 0
theorem spec_FromWords.mono_l : ∀ k, (∀ y0 y1 y2 y3 y4, LeO (spec_FromWords.l0 k y0 y1 y2 y3 y4) (spec_FromWords.l0 (k + 1) y0 y1 y2 y3 y4)) ∧ (∀ y0 y1 y2 y3, LeO (spec_FromWords.j1 k y0 y1 y2 y3) (spec_FromWords.j1 (k + 1) y0 y1 y2 y3))
 | 0 => ⟨fun _ _ _ _ _ r h => by simp [spec_FromWords.l0] at h, fun _ _ _ _ r h => by simp [spec_FromWords.j1] at h⟩
 | k + 1 => by
  obtain ⟨ih0, ih1⟩ := spec_FromWords.mono_l k
  refine ⟨?_, ?_⟩
  ·intro y0 y1 y2 y3 y4
   unfold spec_FromWords.l0
   repeat' first
   | (with_reducible exact ih0 _ _ _ _ _)
   | (with_reducible exact ih1 _ _ _ _)
   | (with_reducible exact spec_Two.mono _ _)
   | (with_reducible exact spec_WideSub.mono _ _ _ _ _)
   | (with_reducible exact spec_wide.mono _ _ _)
   | (with_reducible exact LeO.refl _)
   | (with_reducible exact LeO.none _)
   | (with_reducible refine LeO.ite ?_ ?_)
   | (with_reducible refine LeO.bind ?_ (fun _ => ?_))
   | exact ih0 _ _ _ _ _
   | exact ih1 _ _ _ _
   | exact spec_Two.mono _ _
   | exact spec_WideSub.mono _ _ _ _ _
   | exact spec_wide.mono _ _ _
   | exact LeO.none _
   | refine LeO.ite ?_ ?_
   | refine LeO.bind ?_ (fun _ => ?_)
  ·intro y0 y1 y2 y3
   unfold spec_FromWords.j1
   repeat' first
   | (with_reducible exact ih0 _ _ _ _ _)
   | (with_reducible exact ih1 _ _ _ _)
   | (with_reducible exact spec_Two.mono _ _)
   | (with_reducible exact spec_WideSub.mono _ _ _ _ _)
   | (with_reducible exact spec_wide.mono _ _ _)
   | (with_reducible exact LeO.refl _)
   | (with_reducible exact LeO.none _)
   | (with_reducible refine LeO.ite ?_ ?_)
   | (with_reducible refine LeO.bind ?_ (fun _ => ?_))
   | exact ih0 _ _ _ _ _
   | exact ih1 _ _ _ _
   | exact spec_Two.mono _ _
   | exact spec_WideSub.mono _ _ _ _ _
   | exact spec_wide.mono _ _ _
   | exact LeO.none _
   | refine LeO.ite ?_ ?_
   | refine LeO.bind ?_ (fun _ => ?_)
theorem spec_FromWords.mono : ∀ a0 k, LeO (spec_FromWords.f k a0) (spec_FromWords.f (k + 1) a0) := by
 intro a0 k
 obtain ⟨ih0, ih1⟩ := spec_FromWords.mono_l k
 unfold spec_FromWords.f
 repeat' first
   | (with_reducible exact ih0 _ _ _ _ _)
   | (with_reducible exact ih1 _ _ _ _)
   | (with_reducible exact spec_Two.mono _ _)
   | (with_reducible exact spec_WideSub.mono _ _ _ _ _)
   | (with_reducible exact spec_wide.mono _ _ _)
   | (with_reducible exact LeO.refl _)
   | (with_reducible exact LeO.none _)
   | (with_reducible refine LeO.ite ?_ ?_)
   | (with_reducible refine LeO.bind ?_ (fun _ => ?_))
   | exact ih0 _ _ _ _ _
   | exact ih1 _ _ _ _
   | exact spec_Two.mono _ _
   | exact spec_WideSub.mono _ _ _ _ _
   | exact spec_wide.mono _ _ _
   | exact LeO.none _
   | refine LeO.ite ?_ ?_
   | refine LeO.bind ?_ (fun _ => ?_)
set_option maxHeartbeats 8000000 in
set_option maxRecDepth 100000 in
theorem spec_FromWords.calls (k : Nat) (A0 : Option Addr) (c0 : Nat) (l0 : List Int) (r1 : Bool) (r2 : List Int) (w : World) (hr0 : Kd.C (Kd.int .u64) w A0 l0.length l0) (hc0 : l0.length ≤ c0) (h : spec_FromWords.f k l0 = some (r1, r2)) :
  Calls Tryd.prog 11 #[.slice A0 l0.length c0] w fun e w' => ∃ v1_ : Value, e = .returned (.agg #[.bool r1, v1_]) ∧ Kd.V (Kd.int .u32) 57 w' w.heap.size (fun k_ => (w.heap.size ≤ k_)) v1_ r2 ∧ Below w.heap.size w w' := by
 have hu40 := Tryd.underlying40
 have HR0 := qaM hr0
 have HC0 := qaM hc0
 clear hr0 hc0
 have HB := qaM (Below.refl w.heap.size w)
 have H : (spec_FromWords.l0 k l0 ([] : List Int) l0 (l0.length : Int) 0) = some (r1, r2) := h
 clear h
 have H' := qaM H
 clear H
 go_enter Tryd.func11, Tryd.ntmps11
 go_wp2_with (first | ((with_reducible refine gate_dst (N := 2) rfl ?_); (try (refine gate_guard (by rfl) ?_; dsimp only)); refine box_event ?hg (N := 2) ?hd (cs := #[.bool false, .slice none 0 0]) (t := 40) ?hr ?_; (case hd => rfl); (case hg => rfl); (case hr => first | (go_simp; done) | (go_simp; rfl)); intro gb215 hg w2 hbox hb; have n0_ := qaM (qbT (by repeat (first | (with_reducible first | exact HB.out | apply qwA | apply qwN | apply qwD) | exact HB.out)) hb); have n1_ := qaM (hbox); have n2_ := qaM ((by rw [hg]; exact (qbS (by repeat (first | (with_reducible first | exact HB.out | apply qwA | apply qwN | apply qwD) | exact HB.out))) : w.heap.size ≤ gb215)); have n3_ := qaM ((by rw [hg]; exact (qbS (by repeat (first | (with_reducible first | exact HB.out | apply qwA | apply qwN | apply qwD) | exact HB.out))) : w.heap.size ≤ gb215)); clear HB; have HB := n0_; have BK215 := n1_; have GW215 := n2_; have GE215 := n3_; clear n0_ n1_ n2_ n3_; clear hb hbox hg))
 go_loopg [3, 9] k (fun kq v3 v9 w' => ∃ (x3_1 : List Int) (x9_1 : Int), v9 = .int .i64 x9_1 ∧ Aside0 (spec_FromWords.l0 kq l0 x3_1 l0 (l0.length : Int) x9_1 = some (r1, r2)) ∧ Aside0 (kq ≤ k) ∧ Aside0 (Kd.R (Kd.int .u32) 57 w' w.heap.size (fun k_ => (w.heap.size ≤ k_)) v3 x3_1) ∧ Aside0 (w'.heap[gb215]? = some (.cells #[.bool false, (.slice none 0 0)] 40 (0, 0))) ∧ Aside0 (Below w.heap.size w w'))
 case atStart => exact ⟨(([] : List Int)), (0), (by first | rfl | (simp; done) | (simp [*]; done)), H', ⟨Nat.le_refl _⟩, ⟨by first | exact Kd.R_nil _ _ _ _ _ | exact Kd.N_nil _ _ _ _ _ | exact Kd.V_nil _ _ _ _ _ | exact Kd.Q_nil _ _ _ _ _ | exact Kd.S_nil _ _ _ _ _⟩, ⟨by (with_reducible repeat (first | refine qbN ?_ _ | refine qbD ?_ | refine qbA ?_ _)); exact BK215.out⟩, ⟨by repeat (first | (with_reducible first | exact HB.out | apply qwA | apply qwN | apply qwD | refine qwS ?_ GE215.out) | exact HB.out)⟩⟩
 case round =>
  clear H'
  try clear c1
  try clear p2
  obtain ⟨x3_1, x9_1, rfl, HA, HK1, HO_3, BK215, HB⟩ := hrel
  cases gk with
  | zero => exact absurd HA.out (by simp [spec_FromWords.l0])
  | succ k1 =>
   have H := HA.out
   clear HA
   simp only [spec_FromWords.l0] at H
   by_cases c3 : x9_1 < (l0.length : Int)
   ·rw [if_pos c3] at H
    have c3b0 : decide (x9_1 < (l0.length : Int)) = true := decide_eq_true c3
    clear c3
    by_cases c4 : 0 ≤ x9_1
    ·rw [if_pos c4] at H
     have c4b0 : decide (0 ≤ x9_1) = true := decide_eq_true c4
     clear c4
     by_cases c5 : x9_1 < (l0.length : Int)
     ·rw [if_pos c5] at H
      have c5b0 : decide (x9_1 < (l0.length : Int)) = true := decide_eq_true c5
      clear c5
      obtain ⟨y217, hy217⟩ : ∃ y_ : List Int, y_ = (([(rd l0 x9_1) % 4294967296, ((rd l0 x9_1) / 4294967296) % 4294967296] : List Int)) := ⟨_, rfl⟩
      replace H : (if x3_1.length + y217.length < 35184372088832 then (spec_FromWords.l0 k1 l0 (x3_1 ++ y217) l0 (l0.length : Int) (wrap64 (x9_1 + 1))) else (none)) = some (r1, r2) := by first | (rw [hy217]; with_reducible exact H) | (have H2_ := (Option.bind_some _ _).symm.trans H; rw [hy217]; with_reducible exact H2_) | (have H2_ := (Option.bind_some _ _).symm.trans H; with_reducible exact H2_) | with_reducible exact H | (rw [hy217]; exact H) | exact H
      have Ny217 := qaM hy217
      clear hy217
      by_cases c6 : x3_1.length + y217.length < 35184372088832
      ·rw [if_pos c6] at H
       have LMc6 := qaM c6
       clear c6
       obtain ⟨y220, hy220⟩ : ∃ y_ : List Int, y_ = (x3_1 ++ y217) := ⟨_, rfl⟩
       replace H : (spec_FromWords.l0 k1 l0 y220 l0 (l0.length : Int) (wrap64 (x9_1 + 1))) = some (r1, r2) := by first | (rw [hy220]; with_reducible exact H) | (have H2_ := (Option.bind_some _ _).symm.trans H; rw [hy220]; with_reducible exact H2_) | (have H2_ := (Option.bind_some _ _).symm.trans H; with_reducible exact H2_) | with_reducible exact H | (rw [hy220]; exact H) | exact H
       have Ny220 := qaM hy220
       clear hy220
       have H' := qaM H
       clear H
       have p216 : 0 ≤ (x9_1 : Int) := qoD (by first | (with_reducible assumption) | assumption)
       have q216 : x9_1 < (l0.length : Int) := qoD (by first | (with_reducible assumption) | assumption)
       obtain ⟨ad216, e216, hx216_0⟩ := Kd.at_int HR0.out x9_1 p216 q216
       cases e216
       replace hx216_0 := (HB.out.cell (World.block_lt_of_cell? w _ hx216_0)).trans hx216_0
       replace p216 := eq_true p216
       replace q216 := eq_true q216
       go_wp2_with (first | ((with_reducible refine gate_dst (N := 19) rfl ?_); (try (refine gate_guard (by rfl) ?_; dsimp only)); refine Kd.R_lit (Kd.int .u32) _ 57 ?hg (N := 19) ?hd (xs := ([(rd l0 x9_1) % 4294967296, ((rd l0 x9_1) / 4294967296) % 4294967296] : List Int)) (inner := [.int .u32 ((rd l0 x9_1) % 4294967296), .int .u32 (((rd l0 x9_1) / 4294967296) % 4294967296)]) (ok := fun _ => True) (okp := fun _ => True) ?hr ?hp (fun _ hk => hk) trivial (Below.refl _ _) (Nat.le_refl _) (by simp) ?_; (case hd => rfl); (case hg => rfl); (case hr => first | (go_simp; done) | (go_simp; rfl)); (case hp => exact (Reps.one (show Kd.M (Kd.int .u32) _ _ _ ((rd l0 x9_1) % 4294967296) [.int .u32 ((rd l0 x9_1) % 4294967296)] from rfl) (Reps.one (show Kd.M (Kd.int .u32) _ _ _ (((rd l0 x9_1) / 4294967296) % 4294967296) [.int .u32 (((rd l0 x9_1) / 4294967296) % 4294967296)] from rfl) (Reps.none _ _)))); intro v218 w7 ho8 hb hg_ hnew_; clear hg_ hnew_; (first | rw [← Ny217.out] at ho8 | (simp only [Int.reduceToNat] at ho8; rw [← Ny217.out] at ho8)); have n0_ := qaM (Kd.R_elder' (by (with_reducible repeat (first | apply qrA | apply qrN | apply qrD)); exact HO_3.out) (Kd.R_base ho8) hb); have n1_ := qaM (Kd.R_lower (Kd.R_new' (Kd.R_newM (M := fun k_ => (w.heap.size ≤ k_)) ho8 (qbS (by repeat (first | (with_reducible first | exact HB.out | apply qwA | apply qwN | apply qwD | refine qwS ?_ GE215.out) | exact HB.out))) (fun k_ h_ => h_)) (Kd.R_lt (by (with_reducible repeat (first | apply qrA | apply qrN | apply qrD)); exact HO_3.out))) (qbS (by repeat (first | (with_reducible first | exact HB.out | apply qwA | apply qwN | apply qwD | refine qwS ?_ GE215.out) | exact HB.out)))); have n2_ := qaM (qbB (g := gb215) (o := .cells #[.bool false, .slice none 0 0] 40 (0, 0)) (by (with_reducible repeat (first | refine qbN ?_ _ | refine qbD ?_ | refine qbA ?_ _)); exact BK215.out) hb); have n3_ := qaM (qbT (by repeat (first | (with_reducible first | exact HB.out | apply qwA | apply qwN | apply qwD | refine qwS ?_ GE215.out) | exact HB.out)) hb); clear HO_3; clear BK215; clear HB; have HO_3 := n0_; have HO219 := n1_; have BK215 := n2_; have HB := n3_; clear n0_ n1_ n2_ n3_; clear hb ho8; obtain ⟨Ao10, co10, eo10⟩ := Kd.R_slice HO219.out; subst eo10) | ((with_reducible refine gate_builtin (b := .append) (xs := #[.tmp 13, .tmp 19]) rfl ?_); (try (refine gate_guard (by rfl) ?_; dsimp only)); at_builtin; refine Kd.R_append_rows (Kd.int .u32) (w0 := w) w.heap.size rfl (.tmp 13) (.tmp 19) 38 57 (.int .u32 0) 4 rfl Tryd.underlying38 info57 rfl (by decide) (by omega) u3 x3_1 y217 _ _ _ (fun k_ => (w.heap.size ≤ k_) ∧ some k_ ≠ (.slice Ao10 y217.length co10 : Value).ownBlock) (fun _ => False) rfl rfl ?aO ?aR (fun _ _ h => h) (fun _ h => h.elim) ?aF ?aB ?aS ?aL ?_; (case aR => repeat (first | exact (qrR HO219.out).2.2 | (with_reducible refine Kd.C_alloc ?_ _) | (with_reducible refine Kd.C_drewN ?_ _) | (with_reducible refine Kd.C_drew ?_))); (case aB => exact (by repeat (first | (with_reducible first | exact HB.out | apply qwA | apply qwN | apply qwD | refine qwS ?_ GE215.out) | exact HB.out))); (case aF => exact (fun k_ hk => ⟨(Nat.le_trans (qbS (by repeat (first | (with_reducible first | exact HB.out | apply qwA | apply qwN | apply qwD | refine qwS ?_ GE215.out) | exact HB.out))) hk), Kd.fresh' (Kd.R_lt (by (with_reducible repeat (first | apply qrA | apply qrN | apply qrD)); exact HO219.out)) k_ hk⟩)); (case aO => exact (by (with_reducible repeat (first | apply qrA | apply qrN | apply qrD)); exact HO_3.out)); (case aS => exact (qbS (by repeat (first | (with_reducible first | exact HB.out | apply qwA | apply qwN | apply qwD | refine qwS ?_ GE215.out) | exact HB.out)))); (case aL => have := LMc6.out; omega); intro v221 w9 ho hb hg hat; rw [← Ny220.out] at ho; have n0_ := qaM (blk_grown (g := gb215) (o := .cells #[.bool false, .slice none 0 0] 40 (0, 0)) (by (with_reducible repeat (first | refine qbN ?_ _ | refine qbD ?_ | refine qbA ?_ _)); exact BK215.out) hg (Kd.R_ne HO_3.out BK215.out (by decide))); have n1_ := qaM (Kd.R_after (ok := (fun k_ => (w.heap.size ≤ k_))) (by (with_reducible repeat (first | apply qrA | apply qrN | apply qrD)); exact qrM HO219.out (fun _ hk => ⟨hk.1.1, hk.2⟩)) hg hat); have n2_ := qaM (hb); have n3_ := qaM (ho); clear BK215; clear HO219; clear HB; clear HO_3; have BK215 := n0_; have HO219 := n1_; have HB := n2_; have HO222 := n3_; clear n0_ n1_ n2_ n3_; clear ho hb hg hat))
       go_roundg k1
       case measure => have := HK1.out; omega
       case rel => exact ⟨(y220), (wrap64 (x9_1 + 1)), (by first | rfl | (simp; done) | (simp [*]; done)), H', ⟨by have := HK1.out; omega⟩, ⟨by (with_reducible repeat (first | apply qrA | apply qrN | apply qrD)); exact qrM HO222.out (fun _ hk => hk.1)⟩, ⟨by (with_reducible repeat (first | refine qbN ?_ _ | refine qbD ?_ | refine qbA ?_ _)); exact BK215.out⟩, ⟨by repeat (first | (with_reducible first | exact HB.out | apply qwA | apply qwN | apply qwD | refine qwS ?_ GE215.out) | exact HB.out)⟩⟩
      ·rw [if_neg c6] at H
       exact absurd H (by simp)
     ·rw [if_neg c5] at H
      exact absurd H (by simp)
    ·rw [if_neg c4] at H
     exact absurd H (by simp)
   ·rw [if_neg c3] at H
    have c3b0 : decide (x9_1 < (l0.length : Int)) = false := decide_eq_false c3
    clear c3
    replace H := Option.bind_eq_some_iff.mp H
    obtain ⟨⟨t223, t224⟩, A110, H⟩ := H
    replace H : (if (l0.length : Int) > 0 then (if 0 ≤ (wrap64 ((l0.length : Int) - 1)) then (if (wrap64 ((l0.length : Int) - 1)) < (l0.length : Int) then (spec_FromWords.j1 k1 l0 (((rd l0 (wrap64 ((l0.length : Int) - 1))) / 9223372036854775808) == 1) t223 t224) else (none)) else (none)) else (spec_FromWords.j1 k1 l0 false t223 t224)) = some (r1, r2) := H
    have A11 := qaM A110
    clear A110
    have HC12 := qaM H
    clear H
    obtain ⟨Ao13, co13, eo13⟩ := Kd.R_slice HO_3.out
    subst eo13
    go_upto_region 8 with (first | ((with_reducible refine gate_callee (f := 20) rfl ?_); refine goesL_ (some 23) rfl rfl Tryd.func20 (by kernel_rfl) rfl #[.bool false, .slice Ao13 x3_1.length co13] rfl (by (try simp only [List.map_toArray, List.map_cons, List.map_nil]); first | done | rfl | (simp only [List.length_drop, List.length_take]; rfl)) ?_; (with_reducible refine (spec_wide.calls k1 false (fun k_ => some k_ = (.slice Ao13 x3_1.length co13 : Value).ownBlock) _ _ x3_1 t223 t224 _ ?side1 A11.out).mono ?_); (case side1 => exact qrV (Kd.R_tight rfl (qrT (HO_3.out) BK215.out (by decide)))); rintro e w14 ⟨v225, rfl, ho0, hb⟩; refine ⟨_, rfl, ?_⟩; have n0_ := qaM (qrB (by (with_reducible repeat (first | apply qrA | apply qrN | apply qrD)); exact HO_3.out) hb); have n1_ := qaM (qvL (qvM (ok' := fun k_ => (w.heap.size ≤ k_) ∧ k_ ≠ gb215) ho0 (fun k_ hk_ => ⟨Or.elim hk_ (fun hs_ => ((qrT (HO_3.out) BK215.out (by decide)).1 k_ hs_.symm).1) (fun hn_ => (Nat.le_trans (qbS (by repeat (first | (with_reducible first | exact HB.out | apply qwA | apply qwN | apply qwD | refine qwS ?_ GE215.out) | exact HB.out))) hn_)), Or.elim hk_ (fun hs_ => ((qrT (HO_3.out) BK215.out (by decide)).1 k_ hs_.symm).2) (fun hn_ => (qfB (g := gb215) (o := .cells #[.bool false, .slice none 0 0] 40 (0, 0)) (by (with_reducible repeat (first | refine qbN ?_ _ | refine qbD ?_ | refine qbA ?_ _)); exact BK215.out) k_ hn_))⟩)) (qbS (by repeat (first | (with_reducible first | exact HB.out | apply qwA | apply qwN | apply qwD | refine qwS ?_ GE215.out) | exact HB.out)))); have n2_ := qaM (qbB (g := gb215) (o := .cells #[.bool false, .slice none 0 0] 40 (0, 0)) (by (with_reducible repeat (first | refine qbN ?_ _ | refine qbD ?_ | refine qbA ?_ _)); exact BK215.out) hb); have n3_ := qaM (qbT (by repeat (first | (with_reducible first | exact HB.out | apply qwA | apply qwN | apply qwD | refine qwS ?_ GE215.out) | exact HB.out)) hb); clear HO_3; clear BK215; clear HB; have HO_3 := n0_; have HO226 := n1_; have BK215 := n2_; have HB := n3_; clear n0_ n1_ n2_ n3_; (try clear hb); (try clear hb2); (try clear hk); (try clear hi); (try clear ho0)) | ((with_reducible refine gate_dst (N := 6) rfl ?_); (try (refine gate_guard (by rfl) ?_; dsimp only)); refine box_event ?hg (N := 6) ?hd (cs := #[.bool false, .slice none 0 0]) (t := 40) ?hr ?_; (case hd => rfl); (case hg => rfl); (case hr => first | (go_simp; done) | (go_simp; rfl)); intro gb227 hg w15 hbox hb; have n0_ := qaM (qrB (by (with_reducible repeat (first | apply qrA | apply qrN | apply qrD)); exact HO_3.out) hb); have n1_ := qaM (qvB (qvE (by (with_reducible repeat (first | apply qvA | apply qvN | apply qvD)); exact HO226.out) gb227 (Nat.le_of_eq hg.symm)) hb); have n2_ := qaM (qbB (g := gb215) (o := .cells #[.bool false, .slice none 0 0] 40 (0, 0)) (by (with_reducible repeat (first | refine qbN ?_ _ | refine qbD ?_ | refine qbA ?_ _)); exact BK215.out) hb); have n3_ := qaM (qbT (by repeat (first | (with_reducible first | exact HB.out | apply qwA | apply qwN | apply qwD | refine qwS ?_ GE215.out) | exact HB.out)) hb); have n4_ := qaM (hbox); have n5_ := qaM ((by rw [hg]; exact (qbS (by repeat (first | (with_reducible first | exact HB.out | apply qwA | apply qwN | apply qwD | refine qwS ?_ GE215.out) | exact HB.out))) : w.heap.size ≤ gb227)); have n6_ := qaM ((by rw [hg]; exact (qbS (by repeat (first | (with_reducible first | exact HB.out | apply qwA | apply qwN | apply qwD | refine qwS ?_ GE215.out) | exact HB.out))) : w.heap.size ≤ gb227)); have n7_ := qaM ((by rw [hg]; exact qnL (qbL (g := gb215) (o := .cells #[.bool false, .slice none 0 0] 40 (0, 0)) (by (with_reducible repeat (first | refine qbN ?_ _ | refine qbD ?_ | refine qbA ?_ _)); exact BK215.out)) : gb215 ≠ gb227)); have n8_ := qaM ((by rw [hg]; exact qnG (qbL (g := gb215) (o := .cells #[.bool false, .slice none 0 0] 40 (0, 0)) (by (with_reducible repeat (first | refine qbN ?_ _ | refine qbD ?_ | refine qbA ?_ _)); exact BK215.out)) : gb227 ≠ gb215)); clear HO_3; clear HO226; clear BK215; clear HB; have HO_3 := n0_; have HO226 := n1_; have BK215 := n2_; have HB := n3_; have BK227 := n4_; have GW227 := n5_; have GE227 := n6_; have NB215_227 := n7_; have NB227_215 := n8_; clear n0_ n1_ n2_ n3_ n4_ n5_ n6_ n7_ n8_; clear hb hbox hg; have hnb16 := NB227_215.out; have hnc16 := NB215_227.out; have hcz17_0 : w15.cell? ⟨gb227, 0, none⟩ = some (.bool false) := (qbC BK227.out 0).trans rfl; have hcz17_1 : w15.cell? ⟨gb227, 1, none⟩ = some (.slice none 0 0) := (qbC BK227.out 1).trans rfl; have hfz17_0 := blk_frozen BK227.out 0; have hfz17_1 := blk_frozen BK227.out 1; obtain ⟨Ao18, co18, eo18⟩ := Kd.V_slice HO226.out; subst eo18))
    (try simp only [Act.put, qsA, qsZ, qsS])
    go_cut [36] (fun v36 wc => ∃ (kq : Nat) (x36_11 : Bool), v36 = .bool x36_11 ∧ Aside0 (spec_FromWords.j1 kq l0 x36_11 t223 t224 = some (r1, r2)) ∧ Aside0 (kq ≤ k1) ∧ Aside0 (Kd.V (Kd.int .u32) 57 wc w.heap.size (fun k_ => (w.heap.size ≤ k_) ∧ k_ ≠ gb215 ∧ k_ ≠ gb227) (.slice Ao18 t224.length co18) t224) ∧ Aside0 (wc.heap[gb215]? = some (.cells #[.bool false, (.slice none 0 0)] 40 (0, 0))) ∧ Aside0 (wc.heap[gb227]? = some (.cells #[.bool t223, (.slice Ao18 t224.length co18)] 40 (0, 0))) ∧ Aside0 (Below w.heap.size w wc))
    case first =>
     have H := HC12.out
     clear HC12
     by_cases c19 : (l0.length : Int) > 0
     ·rw [if_pos c19] at H
      have c19b0 : decide (0 < (l0.length : Int)) = true := decide_eq_true c19
      have c19b1 : decide (0 < l0.length) = true := decide_eq_true (by omega)
      clear c19
      (first | rw [c19b0] | (simp only [i64_w, i32_w]; rw [c19b0]) | skip)
      obtain ⟨ji20, hji20⟩ : ∃ j_ : Int, (wrap64 ((l0.length : Int) - 1)) = j_ := ⟨_, rfl⟩
      replace H : (if 0 ≤ (ji20) then (if (ji20) < (l0.length : Int) then (spec_FromWords.j1 k1 l0 (((rd l0 (ji20)) / 9223372036854775808) == 1) t223 t224) else (none)) else (none)) = some (r1, r2) := by first | (rw [hji20] at H; exact H) | (simp only [hji20] at H ⊢; exact H)
      have hji20w : (IntKind.i64.wrap ((l0.length : Int) - 1)) = ji20 := (i64_w _).trans hji20
      by_cases c21 : 0 ≤ (ji20)
      ·rw [if_pos c21] at H
       have c21b0 : decide (0 ≤ (ji20)) = true := decide_eq_true c21
       clear c21
       by_cases c22 : (ji20) < (l0.length : Int)
       ·rw [if_pos c22] at H
        have c22b0 : decide ((ji20) < (l0.length : Int)) = true := decide_eq_true c22
        clear c22
        have H' := qaM H
        clear H
        have p228 : 0 ≤ ((ji20) : Int) := qoD (by first | (with_reducible assumption) | assumption)
        have q228 : (ji20) < (l0.length : Int) := qoD (by first | (with_reducible assumption) | assumption)
        obtain ⟨ad228, e228, hx228_0⟩ := Kd.at_int HR0.out (ji20) p228 q228
        cases e228
        have hn228_0 : ad228.block ≠ gb227 := qnL (Nat.lt_of_lt_of_le (by have := World.block_lt_of_cell? _ _ hx228_0; first | rwa [add_block] at this | exact this) GW227.out)
        have hn228_1 : ad228.block ≠ gb227 := qnL (Nat.lt_of_lt_of_le (by have := World.block_lt_of_cell? _ _ hx228_0; first | rwa [add_block] at this | exact this) GW227.out)
        replace hx228_0 := (HB.out.cell (World.block_lt_of_cell? w _ hx228_0)).trans hx228_0
        replace hx228_0 := (cell_far (p := ⟨gb227, 0, none⟩) (by first | (rw [add_block]; exact hn228_0) | (show (Addr.add _ _).block ≠ _; rw [add_block]; exact hn228_0) | exact hn228_0) (.bool t223)).trans hx228_0
        replace hx228_0 := (cell_far (p := ⟨gb227, 1, none⟩) (by first | (rw [add_block]; exact hn228_1) | (show (Addr.add _ _).block ≠ _; rw [add_block]; exact hn228_1) | exact hn228_1) (.slice Ao18 t224.length co18)).trans hx228_0
        clear hn228_0
        clear hn228_1
        replace p228 := eq_true p228
        replace q228 := eq_true q228
        go_wp2
        go_meet
        case rel => exact ⟨_, ((((rd l0 (ji20)) / 9223372036854775808) == 1)), (by first | rfl | (simp; done) | (simp only [← hji20] <;> (first | rfl | simp)) | (simp [*]; done)), H', ⟨by have := HK1.out; first | omega | exact Nat.le_refl _⟩, ⟨by (with_reducible repeat (first | apply qvA | apply qvN | apply qvD)); exact qvM (qvF (p := ⟨gb227, 1, none⟩) (qvF (p := ⟨gb227, 0, none⟩) (qvM HO226.out (fun k_ hk => (⟨hk, hk.2⟩ : _ ∧ k_ ≠ gb227))) (fun _ hk => hk.2) (.bool t223)) (fun _ hk => hk.2) (.slice Ao18 t224.length co18)) (fun _ hk => ⟨hk.1.1.1, ⟨hk.1.1.2, hk.1.2⟩⟩)⟩, ⟨by (with_reducible repeat (first | refine qbN ?_ _ | refine qbD ?_ | refine qbA ?_ _)); refine qbF ?_ NB215_227.out _; (with_reducible repeat (first | refine qbN ?_ _ | refine qbD ?_ | refine qbA ?_ _)); refine qbF ?_ NB215_227.out _; (with_reducible repeat (first | refine qbN ?_ _ | refine qbD ?_ | refine qbA ?_ _)); exact BK215.out⟩, ⟨by (with_reducible repeat (first | refine qbN ?_ _ | refine qbD ?_ | refine qbA ?_ _)); refine qbP (cs := #[.bool t223, .slice none 0 0]) ?_ 1 _ rfl; (with_reducible repeat (first | refine qbN ?_ _ | refine qbD ?_ | refine qbA ?_ _)); refine qbP (cs := #[.bool false, .slice none 0 0]) ?_ 0 _ rfl; (with_reducible repeat (first | refine qbN ?_ _ | refine qbD ?_ | refine qbA ?_ _)); exact BK227.out⟩, ⟨by repeat (first | (with_reducible first | exact HB.out | apply qwA | apply qwN | apply qwD | refine qwS ?_ GE215.out | refine qwS ?_ GE227.out) | exact HB.out)⟩⟩
       ·rw [if_neg c22] at H
        exact absurd H (by simp)
      ·rw [if_neg c21] at H
       exact absurd H (by simp)
     ·rw [if_neg c19] at H
      have c19b0 : decide (0 < (l0.length : Int)) = false := decide_eq_false c19
      have c19b1 : decide (0 < l0.length) = false := decide_eq_false (by omega)
      clear c19
      (first | rw [c19b0] | (simp only [i64_w, i32_w]; rw [c19b0]) | skip)
      have H' := qaM H
      clear H
      go_wp2
      go_meet
      case rel => exact ⟨_, (false), (by first | rfl | (simp; done) | (simp [*]; done)), H', ⟨by have := HK1.out; first | omega | exact Nat.le_refl _⟩, ⟨by (with_reducible repeat (first | apply qvA | apply qvN | apply qvD)); exact qvM (qvF (p := ⟨gb227, 1, none⟩) (qvF (p := ⟨gb227, 0, none⟩) (qvM HO226.out (fun k_ hk => (⟨hk, hk.2⟩ : _ ∧ k_ ≠ gb227))) (fun _ hk => hk.2) (.bool t223)) (fun _ hk => hk.2) (.slice Ao18 t224.length co18)) (fun _ hk => ⟨hk.1.1.1, ⟨hk.1.1.2, hk.1.2⟩⟩)⟩, ⟨by (with_reducible repeat (first | refine qbN ?_ _ | refine qbD ?_ | refine qbA ?_ _)); refine qbF ?_ NB215_227.out _; (with_reducible repeat (first | refine qbN ?_ _ | refine qbD ?_ | refine qbA ?_ _)); refine qbF ?_ NB215_227.out _; (with_reducible repeat (first | refine qbN ?_ _ | refine qbD ?_ | refine qbA ?_ _)); exact BK215.out⟩, ⟨by (with_reducible repeat (first | refine qbN ?_ _ | refine qbD ?_ | refine qbA ?_ _)); refine qbP (cs := #[.bool t223, .slice none 0 0]) ?_ 1 _ rfl; (with_reducible repeat (first | refine qbN ?_ _ | refine qbD ?_ | refine qbA ?_ _)); refine qbP (cs := #[.bool false, .slice none 0 0]) ?_ 0 _ rfl; (with_reducible repeat (first | refine qbN ?_ _ | refine qbD ?_ | refine qbA ?_ _)); exact BK227.out⟩, ⟨by repeat (first | (with_reducible first | exact HB.out | apply qwA | apply qwN | apply qwD | refine qwS ?_ GE215.out | refine qwS ?_ GE227.out) | exact HB.out)⟩⟩
    case rest =>
     clear HC12
     try clear c1
     try clear c2
     try clear p2
     try clear q2
     try clear hx2
     try clear c3
     try clear c3b0
     try clear c4
     try clear c4b0
     try clear c5
     try clear c5b0
     try clear c6
     try clear p6
     try clear c11
     try clear c16
     try clear c19
     try clear c19b0
     try clear c19b1
     try clear c20
     try clear c21
     try clear c21b0
     try clear p21
     try clear q21
     try clear hx21
     try clear c22
     try clear c22b0
     try clear p22
     try clear q22
     try clear hx22
     try clear hcz17_0
     try clear hcz17_1
     try clear hfz17_0
     try clear hfz17_1
     try clear hx216_0
     try clear hx228_0
     try clear p2
     try clear p216
     try clear p228
     try clear q216
     try clear q228
     obtain ⟨kq, x36_11, rfl, HA, HJ11, HO_228001, BK215, BK227, HB⟩ := hcut
     cases kq with
     | zero => exact absurd HA.out (by simp [spec_FromWords.j1])
     | succ kj11 =>
      have H := HA.out
      clear HA
      simp only [spec_FromWords.j1] at H
      by_cases c23 : x36_11 = true
      ·subst c23
       have H1 : ((spec_Two.f kj11 (wrap64 (64 * (l0.length : Int)))).bind fun bt229 => ((spec_WideSub.f kj11 t223 t224 bt229.1 bt229.2).bind fun bt233 => (some (bt233.1, bt233.2)))) = some (r1, r2) := by rw [if_pos rfl] at H; exact H
       clear H
       have H := H1
       clear H1
       replace H := Option.bind_eq_some_iff.mp H
       obtain ⟨⟨t229, t230⟩, A240, H⟩ := H
       replace H : ((spec_WideSub.f kj11 t223 t224 t229 t230).bind fun bt233 => (some (bt233.1, bt233.2))) = some (r1, r2) := H
       have A24 := qaM A240
       clear A240
       replace H := Option.bind_eq_some_iff.mp H
       obtain ⟨⟨t233, t234⟩, A250, H⟩ := H
       replace H : (some (t233, t234)) = some (r1, r2) := H
       have A25 := qaM A250
       clear A250
       simp only [Option.some.injEq, Prod.mk.injEq] at H
       obtain ⟨rfl, rfl⟩ := H
       try go_wp2
       have n0_ := qaM (qvD HO_228001.out)
       have n1_ := qaM (qbD BK215.out)
       have n2_ := qaM (qbD BK227.out)
       have n3_ := qaM (qwD HB.out)
       clear HO_228001
       clear BK215
       clear BK227
       clear HB
       have HO_228001 := n0_
       have BK215 := n1_
       have BK227 := n2_
       have HB := n3_
       clear n0_ n1_ n2_ n3_
       refine start_ (n := 7) (S := fun w' => w'.cell? ⟨gb227, 0, none⟩ = some (.bool t223) ∧ w'.cell? ⟨gb227, 1, none⟩ = some (.slice Ao18 t224.length co18)) (ds := [6]) #[false, false, false, false, false, false, false] (by kernel_rfl) rfl rfl ⟨(qbC BK227.out 0).trans rfl, (qbC BK227.out 1).trans rfl⟩ (fun hHeld => ?_)
       generalize wc.drew = w26 at HO_228001 BK215 BK227 HB hHeld ⊢
       refine pure_ (i := 1) (N := some 38) (v := ?_) (a' := ?_) #[false, true, false, false, false, false, false] rfl rfl (by kernel_rfl) (fun _ _ _ h => h) (Or.inl ⟨by rfl, ?_⟩) ?_ ?_
       rotate_left
       ·intro w'
        go_simp
        with_reducible rfl
       rotate_left
       ·simp only [Act.put, qsA, qsZ, qsS, i64_w, i32_w]
        rfl
       refine pure_ (i := 2) (N := some 39) (v := ?_) (a' := ?_) #[false, true, true, false, false, false, false] rfl rfl (by kernel_rfl) (fun _ _ _ h => h) (Or.inl ⟨by rfl, ?_⟩) ?_ ?_
       rotate_left
       ·intro w'
        go_simp
        with_reducible rfl
       rotate_left
       ·simp only [Act.put, qsA, qsZ, qsS, i64_w, i32_w]
        rfl
       refine pure_ (i := 3) (N := some 40) (v := ?_) (a' := ?_) #[false, true, true, true, false, false, false] rfl rfl (by kernel_rfl) (fun _ _ _ h => h) (Or.inl ⟨by rfl, ?_⟩) ?_ ?_
       rotate_left
       ·intro w'
        go_simp
        with_reducible rfl
       rotate_left
       ·simp only [Act.put, qsA, qsZ, qsS, i64_w, i32_w]
        rfl
       refine take_ (i := 0) (N := some 37) (v := ?_) (a' := ?_) #[true, true, true, true, false, false, false] rfl rfl (by kernel_rfl) (fun _ _ _ h => h) (Or.inl ⟨by rfl, ?_⟩) hHeld ?_ ?_
       rotate_left
       ·rintro w' ⟨s0, s1⟩
        go_simp
        with_reducible rfl
       rotate_left
       ·simp only [Act.put, qsA, qsZ, qsS, i64_w, i32_w]
        rfl
       refine one_ (i := 4) (N := some 41) #[true, true, true, true, true, false, false] rfl rfl (by kernel_rfl) (by decide) (fun K hK => ?_)
       refine goes_ Tryd.func22 (by kernel_rfl) rfl #[.int .i64 (wrap64 (64 * (l0.length : Int)))] (by rfl) rfl rfl (by (try simp only [List.map_toArray, List.map_cons, List.map_nil]); first | done | rfl | (simp only [List.length_drop, List.length_take]; rfl)) ?_
       with_reducible refine (spec_Two.calls kj11 (wrap64 (64 * (l0.length : Int))) t229 t230 _ A24.out).mono ?_
       rintro e w27 ⟨v231, rfl, ho0, hb⟩
       refine ⟨_, rfl, ?_⟩
       have n0_ := qaM (qvB (by (with_reducible repeat (first | apply qvA | apply qvN | apply qvD)); exact HO_228001.out) hb)
       have n1_ := qaM (qvL (qvM (ok' := fun k_ => (w.heap.size ≤ k_) ∧ k_ ≠ gb215 ∧ k_ ≠ gb227) ho0 (fun k_ hk_ => ⟨(Nat.le_trans (qbS (by repeat (first | (with_reducible first | exact HB.out | apply qwA | apply qwN | apply qwD | refine qwS ?_ GE215.out | refine qwS ?_ GE227.out) | exact HB.out))) hk_), (qfB (g := gb215) (o := .cells #[.bool false, .slice none 0 0] 40 (0, 0)) (by (with_reducible repeat (first | refine qbN ?_ _ | refine qbD ?_ | refine qbA ?_ _)); exact BK215.out) k_ hk_), (qfB (g := gb227) (o := .cells #[.bool t223, .slice Ao18 t224.length co18] 40 (0, 0)) (by (with_reducible repeat (first | refine qbN ?_ _ | refine qbD ?_ | refine qbA ?_ _)); exact BK227.out) k_ hk_)⟩)) (qbS (by repeat (first | (with_reducible first | exact HB.out | apply qwA | apply qwN | apply qwD | refine qwS ?_ GE215.out | refine qwS ?_ GE227.out) | exact HB.out))))
       have n2_ := qaM (qbB (g := gb215) (o := .cells #[.bool false, .slice none 0 0] 40 (0, 0)) (by (with_reducible repeat (first | refine qbN ?_ _ | refine qbD ?_ | refine qbA ?_ _)); exact BK215.out) hb)
       have n3_ := qaM (qbB (g := gb227) (o := .cells #[.bool t223, .slice Ao18 t224.length co18] 40 (0, 0)) (by (with_reducible repeat (first | refine qbN ?_ _ | refine qbD ?_ | refine qbA ?_ _)); exact BK227.out) hb)
       have n4_ := qaM (qbT (by repeat (first | (with_reducible first | exact HB.out | apply qwA | apply qwN | apply qwD | refine qwS ?_ GE215.out | refine qwS ?_ GE227.out) | exact HB.out)) hb)
       clear HO_228001
       clear BK215
       clear BK227
       clear HB
       have HO_228001 := n0_
       have HO232 := n1_
       have BK215 := n2_
       have BK227 := n3_
       have HB := n4_
       clear n0_ n1_ n2_ n3_ n4_
       (try clear hb)
       (try clear hb2)
       (try clear hk)
       (try clear hi)
       (try clear ho0)
       obtain ⟨Ao28, co28, eo28⟩ := Kd.V_slice HO232.out
       (first | subst eo28 | (injection eo28 with f1_ f2_ f3_; have f4_ := f1_.symm; have f5_ := f3_.symm; clear f1_ f2_ f3_; subst f4_; subst f5_))
       refine hK.out _ _ ⟨(qbC BK227.out 0).trans rfl, (qbC BK227.out 1).trans rfl⟩ (fun hHeld => ?_)
       clear hK K
       refine norm_ (a' := ?_) ?_ ?_
       rotate_left
       ·show Act.put _ (some 41) _ = _
        simp only [Act.put, qsA, qsZ, qsS, i64_w, i32_w]
        rfl
       refine one_ (i := 5) (N := some 42) #[true, true, true, true, true, true, false] rfl rfl (by kernel_rfl) (by decide) (fun K hK => ?_)
       refine goes_ Tryd.func21 (by kernel_rfl) rfl #[.agg #[.bool t223, .slice Ao18 t224.length co18], .agg #[.bool t229, .slice Ao28 t230.length co28]] (by rfl) rfl rfl (by (try simp only [List.map_toArray, List.map_cons, List.map_nil]); first | done | rfl | (simp only [List.length_drop, List.length_take]; rfl)) ?_
       with_reducible refine (spec_WideSub.calls kj11 t223 _ _ t224 t229 (fun k_ => ((w.heap.size ≤ k_) ∧ (k_ ≠ gb215 ∧ k_ ≠ gb227))) _ _ t230 t233 t234 _ ?side1 ?side2 ?side3 A25.out).mono ?_
       (case side1 => repeat (first | exact (qvR HO_228001.out).2.2 | (with_reducible refine Kd.C_alloc ?_ _) | (with_reducible refine Kd.C_drewN ?_ _) | (with_reducible refine Kd.C_drew ?_)))
       (case side2 => exact (qvR HO_228001.out).2.1)
       (case side3 => exact HO232.out)
       rintro e w29 ⟨v235, rfl, ho0, hb⟩
       refine ⟨_, rfl, ?_⟩
       have n0_ := qaM (qvB (by (with_reducible repeat (first | apply qvA | apply qvN | apply qvD)); exact HO_228001.out) hb)
       have n1_ := qaM (qvB (by (with_reducible repeat (first | apply qvA | apply qvN | apply qvD)); exact HO232.out) hb)
       have n2_ := qaM (qvL (qvM (ok' := fun k_ => (w.heap.size ≤ k_) ∧ k_ ≠ gb215 ∧ k_ ≠ gb227) ho0 (fun k_ hk_ => ⟨Or.elim hk_ (fun hs_ => hs_.1) (fun hn_ => (Nat.le_trans (qbS (by repeat (first | (with_reducible first | exact HB.out | apply qwA | apply qwN | apply qwD | refine qwS ?_ GE215.out | refine qwS ?_ GE227.out) | exact HB.out))) hn_)), Or.elim hk_ (fun hs_ => hs_.2.1) (fun hn_ => (qfB (g := gb215) (o := .cells #[.bool false, .slice none 0 0] 40 (0, 0)) (by (with_reducible repeat (first | refine qbN ?_ _ | refine qbD ?_ | refine qbA ?_ _)); exact BK215.out) k_ hn_)), Or.elim hk_ (fun hs_ => hs_.2.2) (fun hn_ => (qfB (g := gb227) (o := .cells #[.bool t223, .slice Ao18 t224.length co18] 40 (0, 0)) (by (with_reducible repeat (first | refine qbN ?_ _ | refine qbD ?_ | refine qbA ?_ _)); exact BK227.out) k_ hn_))⟩)) (qbS (by repeat (first | (with_reducible first | exact HB.out | apply qwA | apply qwN | apply qwD | refine qwS ?_ GE215.out | refine qwS ?_ GE227.out) | exact HB.out))))
       have n3_ := qaM (qbB (g := gb215) (o := .cells #[.bool false, .slice none 0 0] 40 (0, 0)) (by (with_reducible repeat (first | refine qbN ?_ _ | refine qbD ?_ | refine qbA ?_ _)); exact BK215.out) hb)
       have n4_ := qaM (qbB (g := gb227) (o := .cells #[.bool t223, .slice Ao18 t224.length co18] 40 (0, 0)) (by (with_reducible repeat (first | refine qbN ?_ _ | refine qbD ?_ | refine qbA ?_ _)); exact BK227.out) hb)
       have n5_ := qaM (qbT (by repeat (first | (with_reducible first | exact HB.out | apply qwA | apply qwN | apply qwD | refine qwS ?_ GE215.out | refine qwS ?_ GE227.out) | exact HB.out)) hb)
       clear HO_228001
       clear HO232
       clear BK215
       clear BK227
       clear HB
       have HO_228001 := n0_
       have HO232 := n1_
       have HO236 := n2_
       have BK215 := n3_
       have BK227 := n4_
       have HB := n5_
       clear n0_ n1_ n2_ n3_ n4_ n5_
       (try clear hb)
       (try clear hb2)
       (try clear hk)
       (try clear hi)
       (try clear ho0)
       obtain ⟨Ao31, co31, eo31⟩ := Kd.V_slice HO236.out
       (first | subst eo31 | (injection eo31 with f1_ f2_ f3_; have f4_ := f1_.symm; have f5_ := f3_.symm; clear f1_ f2_ f3_; subst f4_; subst f5_))
       refine hK.out _ _ ⟨(qbC BK227.out 0).trans rfl, (qbC BK227.out 1).trans rfl⟩ (fun hHeld => ?_)
       clear hK K
       refine norm_ (a' := ?_) ?_ ?_
       rotate_left
       ·show Act.put _ (some 42) _ = _
        simp only [Act.put, qsA, qsZ, qsS, i64_w, i32_w]
        rfl
       refine last_ (i := 6) (N := none) #[true, true, true, true, true, true, true] rfl rfl (by kernel_rfl) (by decide) (fun K hK => ?_)
       have hs30 : w29.cell? ⟨gb227, 0, none⟩ = some (.bool t223) := (qbC BK227.out 0).trans rfl
       have hfs30 := blk_frozen BK227.out 0
       have hns30_0 := NB215_227.out
       have hms30_0 := NB227_215.out
       have hs32 : w29.cell? ⟨gb227, 1, none⟩ = some (.slice Ao18 t224.length co18) := (qbC BK227.out 1).trans rfl
       have hfs32 := blk_frozen BK227.out 1
       have hns32_0 := NB215_227.out
       have hms32_0 := NB227_215.out
       refine skip_ (w1 := ?_) (by rfl) rfl ?_ ?_
       rotate_left
       ·go_simp
        rfl
       refine hK.out _ _ ?_
       clear hK K
       refine done_ (by kernel_rfl) ?_
       have hnb33 := NB227_215.out
       have hnc33 := NB215_227.out
       have hcz34_0 : w29.cell? ⟨gb227, 0, none⟩ = some (.bool t223) := (qbC BK227.out 0).trans rfl
       have hcz34_1 : w29.cell? ⟨gb227, 1, none⟩ = some (.slice Ao18 t224.length co18) := (qbC BK227.out 1).trans rfl
       have hfz34_0 := blk_frozen BK227.out 0
       have hfz34_1 := blk_frozen BK227.out 1
       have hcz35_0 : w29.cell? ⟨gb215, 0, none⟩ = some (.bool false) := (qbC BK215.out 0).trans rfl
       have hcz35_1 : w29.cell? ⟨gb215, 1, none⟩ = some (.slice none 0 0) := (qbC BK215.out 1).trans rfl
       have hfz35_0 := blk_frozen BK215.out 0
       have hfz35_1 := blk_frozen BK215.out 1
       try go_wp2
       refine bodyPost_ret (results_cell_row rfl _ _ gb215 40 #[.bool t233, .slice Ao31 t234.length co31] (0, 0) _ rfl (by (with_reducible repeat (first | refine qbN ?_ _ | refine qbD ?_ | refine qbA ?_ _)); refine qbP (cs := #[.bool t233, .slice none 0 0]) ?_ 1 _ rfl; (with_reducible repeat (first | refine qbN ?_ _ | refine qbD ?_ | refine qbA ?_ _)); refine qbP (cs := #[.bool false, .slice none 0 0]) ?_ 0 _ rfl; (with_reducible repeat (first | refine qbN ?_ _ | refine qbD ?_ | refine qbA ?_ _)); refine qbF ?_ NB215_227.out _; (with_reducible repeat (first | refine qbN ?_ _ | refine qbD ?_ | refine qbA ?_ _)); refine qbF ?_ NB215_227.out _; (with_reducible repeat (first | refine qbN ?_ _ | refine qbD ?_ | refine qbA ?_ _)); exact BK215.out) Tryd.underlying40 rfl (by kernel_rfl)) rfl ?_
       exact ⟨_, by first | rfl | (simp [errW_none, errW_some] <;> rfl) | (simp [*, errW_none, errW_some] <;> rfl), by (with_reducible repeat (first | apply qvA | apply qvN | apply qvD)); exact qvM (qvF (p := ⟨gb215, 1, none⟩) (qvF (p := ⟨gb215, 0, none⟩) (qvF (p := ⟨gb227, 1, none⟩) (qvF (p := ⟨gb227, 0, none⟩) (qvM (qvM HO236.out (fun k_ hk => (⟨hk, hk.2.2⟩ : _ ∧ k_ ≠ gb227))) (fun k_ hk => (⟨hk, hk.1.2.1⟩ : _ ∧ k_ ≠ gb215))) (fun _ hk => hk.1.2) (.bool t233)) (fun _ hk => hk.1.2) (.slice Ao31 t234.length co31)) (fun _ hk => hk.2) (.bool t233)) (fun _ hk => hk.2) (.slice Ao31 t234.length co31)) (fun _ hk => hk.1.1.1), by repeat (first | (with_reducible first | exact HB.out | apply qwA | apply qwN | apply qwD | refine qwS ?_ GE215.out | refine qwS ?_ GE227.out) | exact HB.out)⟩
      ·replace c23 := Bool.eq_false_iff.mpr c23
       subst c23
       have H1 : (some (t223, t224)) = some (r1, r2) := by rw [if_neg (show ¬ (false = true) by decide)] at H; exact H
       clear H
       have H := H1
       clear H1
       simp only [Option.some.injEq, Prod.mk.injEq] at H
       obtain ⟨rfl, rfl⟩ := H
       have hnb36 := NB227_215.out
       have hnc36 := NB215_227.out
       have hcz37_0 : wc.cell? ⟨gb227, 0, none⟩ = some (.bool t223) := (qbC BK227.out 0).trans rfl
       have hcz37_1 : wc.cell? ⟨gb227, 1, none⟩ = some (.slice Ao18 t224.length co18) := (qbC BK227.out 1).trans rfl
       have hfz37_0 := blk_frozen BK227.out 0
       have hfz37_1 := blk_frozen BK227.out 1
       have hcz38_0 : wc.cell? ⟨gb215, 0, none⟩ = some (.bool false) := (qbC BK215.out 0).trans rfl
       have hcz38_1 : wc.cell? ⟨gb215, 1, none⟩ = some (.slice none 0 0) := (qbC BK215.out 1).trans rfl
       have hfz38_0 := blk_frozen BK215.out 0
       have hfz38_1 := blk_frozen BK215.out 1
       go_wp2
       refine bodyPost_ret (results_cell_row rfl _ _ gb215 40 #[.bool t223, .slice Ao18 t224.length co18] (0, 0) _ rfl (by (with_reducible repeat (first | refine qbN ?_ _ | refine qbD ?_ | refine qbA ?_ _)); refine qbP (cs := #[.bool t223, .slice none 0 0]) ?_ 1 _ rfl; (with_reducible repeat (first | refine qbN ?_ _ | refine qbD ?_ | refine qbA ?_ _)); refine qbP (cs := #[.bool false, .slice none 0 0]) ?_ 0 _ rfl; (with_reducible repeat (first | refine qbN ?_ _ | refine qbD ?_ | refine qbA ?_ _)); exact BK215.out) Tryd.underlying40 rfl (by kernel_rfl)) rfl ?_
       exact ⟨_, by first | rfl | (simp [errW_none, errW_some] <;> rfl) | (simp [*, errW_none, errW_some] <;> rfl), by (with_reducible repeat (first | apply qvA | apply qvN | apply qvD)); exact qvM (qvF (p := ⟨gb215, 1, none⟩) (qvF (p := ⟨gb215, 0, none⟩) (qvM HO_228001.out (fun k_ hk => (⟨hk, hk.2.1⟩ : _ ∧ k_ ≠ gb215))) (fun _ hk => hk.2) (.bool t223)) (fun _ hk => hk.2) (.slice Ao18 t224.length co18)) (fun _ hk => hk.1.1), by repeat (first | (with_reducible first | exact HB.out | apply qwA | apply qwN | apply qwD | refine qwS ?_ GE215.out | refine qwS ?_ GE227.out) | exact HB.out)⟩

/-! ### laws_zzFits1: function 4 -/
def laws_zzFits1.l0 : Nat → List (List Int) → Int → Int → Option (Bool)
 | 0, _, _, _ => none
 | k + 1, x8, x9, x10 => if x10 < x9 then (if 0 ≤ x10 then (if x10 < (x8.length : Int) then (if ((rd_L5 x8 x10).length : Int) > 2147483647 then (some false) else (laws_zzFits1.l0 k x8 x9 (wrap64 (x10 + 1)))) else (none)) else (none)) else (some true)
def laws_zzFits1.f (k : Nat) (l0 : List (List Int)) : Option (Bool) := if (l0.length : Int) > 2147483647 then (some false) else (laws_zzFits1.l0 k l0 (l0.length : Int) 0)
theorem laws_zzFits1.mono_l : ∀ k, (∀ y0 y1 y2, LeO (laws_zzFits1.l0 k y0 y1 y2) (laws_zzFits1.l0 (k + 1) y0 y1 y2))
 | 0 => fun _ _ _ r h => by simp [laws_zzFits1.l0] at h
 | k + 1 => by
  have ih0 := laws_zzFits1.mono_l k
  ·intro y0 y1 y2
   unfold laws_zzFits1.l0
   repeat' first
   | (with_reducible exact ih0 _ _ _)
   | (with_reducible exact LeO.refl _)
   | (with_reducible exact LeO.none _)
   | (with_reducible refine LeO.ite ?_ ?_)
   | (with_reducible refine LeO.bind ?_ (fun _ => ?_))
   | exact ih0 _ _ _
   | exact LeO.none _
   | refine LeO.ite ?_ ?_
   | refine LeO.bind ?_ (fun _ => ?_)
theorem laws_zzFits1.mono : ∀ a0 k, LeO (laws_zzFits1.f k a0) (laws_zzFits1.f (k + 1) a0) := by
 intro a0 k
 have ih0 := laws_zzFits1.mono_l k
 unfold laws_zzFits1.f
 repeat' first
   | (with_reducible exact ih0 _ _ _)
   | (with_reducible exact LeO.refl _)
   | (with_reducible exact LeO.none _)
   | (with_reducible refine LeO.ite ?_ ?_)
   | (with_reducible refine LeO.bind ?_ (fun _ => ?_))
   | exact ih0 _ _ _
   | exact LeO.none _
   | refine LeO.ite ?_ ?_
   | refine LeO.bind ?_ (fun _ => ?_)
set_option maxHeartbeats 8000000 in
set_option maxRecDepth 100000 in
theorem laws_zzFits1.calls (k : Nat) (A0 : Option Addr) (c0 : Nat) (l0 : List (List Int)) (r : Bool) (w : World) (hr0 : Kd.C (Kd.slice 27 (Kd.int .u64)) w A0 l0.length l0) (hc0 : l0.length ≤ c0) (h : laws_zzFits1.f k l0 = some r) :
  Calls Tryd.prog 4 #[.slice A0 l0.length c0] w fun e w' => e = .returned (.bool r) ∧ Drawn0 w w' := by
 have HR0 := qaM hr0
 have HC0 := qaM hc0
 clear hr0 hc0
 have H : (if (l0.length : Int) > 2147483647 then (some false) else (laws_zzFits1.l0 k l0 (l0.length : Int) 0)) = some r := h
 clear h
 by_cases c2 : (l0.length : Int) > 2147483647
 ·rw [if_pos c2] at H
  have c2b0 : decide (2147483647 < (l0.length : Int)) = true := decide_eq_true c2
  have c2b1 : decide (2147483647 < l0.length) = true := decide_eq_true (by omega)
  clear c2
  obtain rfl := Option.some.inj H
  go_enter Tryd.func4, Tryd.ntmps4
  go_wp2
  go_ret
  exact ⟨by first | rfl | (simp; done) | (simp [*]; done), by repeat (first | exact Drawn0.refl _ | apply Drawn0.step)⟩
 ·rw [if_neg c2] at H
  have c2b0 : decide (2147483647 < (l0.length : Int)) = false := decide_eq_false c2
  have c2b1 : decide (2147483647 < l0.length) = false := decide_eq_false (by omega)
  clear c2
  have H' := qaM H
  clear H
  go_enter Tryd.func4, Tryd.ntmps4
  go_wp2
  go_loopg [10] k (fun kq v10 w' => ∃ (x10_1 : Int), v10 = .int .i64 x10_1 ∧ Aside0 (laws_zzFits1.l0 kq l0 (l0.length : Int) x10_1 = some r) ∧ Aside0 (kq ≤ k) ∧ Drawn0 w w')
  case atStart => exact ⟨(0), (by first | rfl | (simp; done) | (simp [*]; done)), H', ⟨Nat.le_refl _⟩, by repeat (first | exact Drawn0.refl _ | apply Drawn0.step)⟩
  case round =>
   clear H'
   try clear c2
   try clear c2b0
   try clear c2b1
   try clear p2
   obtain ⟨x10_1, rfl, HA, HK1, ⟨m1, rfl⟩⟩ := hrel
   cases gk with
   | zero => exact absurd HA.out (by simp [laws_zzFits1.l0])
   | succ k1 =>
    have H := HA.out
    clear HA
    simp only [laws_zzFits1.l0] at H
    by_cases c3 : x10_1 < (l0.length : Int)
    ·rw [if_pos c3] at H
     have c3b0 : decide (x10_1 < (l0.length : Int)) = true := decide_eq_true c3
     clear c3
     by_cases c4 : 0 ≤ x10_1
     ·rw [if_pos c4] at H
      have c4b0 : decide (0 ≤ x10_1) = true := decide_eq_true c4
      clear c4
      by_cases c5 : x10_1 < (l0.length : Int)
      ·rw [if_pos c5] at H
       have c5b0 : decide (x10_1 < (l0.length : Int)) = true := decide_eq_true c5
       clear c5
       by_cases c6 : ((rd_L5 l0 x10_1).length : Int) > 2147483647
       ·rw [if_pos c6] at H
        have c6b0 : decide (2147483647 < ((rd_L5 l0 x10_1).length : Int)) = true := decide_eq_true c6
        have c6b1 : decide (2147483647 < (rd_L5 l0 x10_1).length) = true := decide_eq_true (by omega)
        clear c6
        obtain rfl := Option.some.inj H
        have p237 : 0 ≤ (x10_1 : Int) := qoD (by first | (with_reducible assumption) | assumption)
        have q237 : x10_1 < (l0.length : Int) := qoD (by first | (with_reducible assumption) | assumption)
        obtain ⟨ad237, A237_0, c237_0, e237, hx237_0, hl237_0, hi237_0⟩ := at_L5 HR0.out x10_1 p237 q237
        cases e237
        have HR237_0 := qaM hi237_0
        have HC237_0 := qaM hl237_0
        clear hi237_0 hl237_0
        replace p237 := eq_true p237
        replace q237 := eq_true q237
        go_wp2
        go_ret
        exact ⟨by first | rfl | (simp; done) | (simp [*]; done), by repeat (first | exact Drawn0.refl _ | apply Drawn0.step)⟩
       ·rw [if_neg c6] at H
        have c6b0 : decide (2147483647 < ((rd_L5 l0 x10_1).length : Int)) = false := decide_eq_false c6
        have c6b1 : decide (2147483647 < (rd_L5 l0 x10_1).length) = false := decide_eq_false (by omega)
        clear c6
        have H' := qaM H
        clear H
        have p237 : 0 ≤ (x10_1 : Int) := qoD (by first | (with_reducible assumption) | assumption)
        have q237 : x10_1 < (l0.length : Int) := qoD (by first | (with_reducible assumption) | assumption)
        obtain ⟨ad237, A237_0, c237_0, e237, hx237_0, hl237_0, hi237_0⟩ := at_L5 HR0.out x10_1 p237 q237
        cases e237
        have HR237_0 := qaM hi237_0
        have HC237_0 := qaM hl237_0
        clear hi237_0 hl237_0
        replace p237 := eq_true p237
        replace q237 := eq_true q237
        go_wp2
        go_roundg k1
        case measure => have := HK1.out; omega
        case rel => exact ⟨(wrap64 (x10_1 + 1)), (by first | rfl | (simp; done) | (simp [*]; done)), H', ⟨by have := HK1.out; omega⟩, by repeat (first | exact Drawn0.refl _ | apply Drawn0.step)⟩
      ·rw [if_neg c5] at H
       exact absurd H (by simp)
     ·rw [if_neg c4] at H
      exact absurd H (by simp)
    ·rw [if_neg c3] at H
     have c3b0 : decide (x10_1 < (l0.length : Int)) = false := decide_eq_false c3
     clear c3
     obtain rfl := Option.some.inj H
     go_wp2
     go_ret
     exact ⟨by first | rfl | (simp; done) | (simp [*]; done), by repeat (first | exact Drawn0.refl _ | apply Drawn0.step)⟩

end Go.Proofs.YtlnbkmkdapeicaaDoor.QT
