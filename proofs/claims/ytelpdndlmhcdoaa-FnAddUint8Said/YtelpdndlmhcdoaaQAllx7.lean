/- Printed by a program of this session (print2.py) over the kit's print: the functions that a law reaches, over contracts proved by hand. Lean checks it. -/
import Derived.Test.YtelpdndlmhcdoaaQAllx0
import Derived.Test.YtelpdndlmhcdoaaQAllx2
import Derived.Test.YtelpdndlmhcdoaaQAllx3
import Derived.Test.YtelpdndlmhcdoaaQAllx5
import Derived.Test.YtelpdndlmhcdoaaQAllx6
namespace Go.Proofs.Ytelpdndlmhcdoaa.QAll
open Go.RowKit Go.Proofs.YtelpdndlmhcdoaaW.PrintWords Go.Proofs.YtelpdndlmhcdoaaW.PrintLast Go.Proofs.YtelpdndlmhcdoaaW.PrintMore
attribute [local go_sem] max2_int min2_int max_two min_two max_three min_three max_four min_four   -- for this text's walks alone
set_option linter.unusedVariables false
set_option linter.unusedSimpArgs false

theorem zz7_0 {p : Prop} (h : p := by repeat (first | (with_reducible first | exact HB.out | apply qwA | apply qwN | apply qwD | refine qwS ?_ GE342.out | refine qwS ?_ GE343.out) | exact HB.out)) : p := h
theorem zz7_1 {p : Prop} (h : p := by (with_reducible repeat (first | refine qbN ?_ _ | refine qbD ?_ | refine qbA ?_ _)); exact BK342.out) : p := h
theorem zz7_2 {p : Prop} (h : p := by (try simp only [List.map_toArray, List.map_cons, List.map_nil]); first | done | rfl | (simp only [List.length_drop, List.length_take]; rfl)) : p := h
theorem zz7_3 {p : Prop} (h : p := by (with_reducible repeat (first | refine qbN ?_ _ | refine qbD ?_ | refine qbA ?_ _)); exact BK376.out) : p := h
theorem zz7_4 {p : Prop} (h : p := by (with_reducible repeat (first | refine qbN ?_ _ | refine qbD ?_ | refine qbA ?_ _)); exact BK343.out) : p := h
theorem zz7_5 {p : Prop} (h : p := by repeat (first | (with_reducible first | exact HB.out | apply qwA | apply qwN | apply qwD) | exact HB.out)) : p := h
theorem zz7_6 {p : Prop} (h : p := by repeat (first | (with_reducible first | exact HB.out | apply qwA | apply qwN | apply qwD | refine qwS ?_ GE376.out | refine qwS ?_ GE377.out | refine qwS ?_ GE378.out) | exact HB.out)) : p := h
theorem zz7_7 {p : Prop} (h : p := by (with_reducible repeat (first | refine qbN ?_ _ | refine qbD ?_ | refine qbA ?_ _)); exact BK377.out) : p := h
theorem zz7_8 {p : Prop} (h : p := by repeat (first | (with_reducible first | exact HB.out | apply qwA | apply qwN | apply qwD | refine qwS ?_ GE331.out | refine qwS ?_ GE332.out | refine qwS ?_ GE333.out) | exact HB.out)) : p := h
theorem zz7_9 {p : Prop} (h : p := by (with_reducible repeat (first | refine qbN ?_ _ | refine qbD ?_ | refine qbA ?_ _)); exact BK331.out) : p := h
theorem zz7_10 {p : Prop} (h : p := by repeat (first | (with_reducible first | exact HB.out | apply qwA | apply qwN | apply qwD | refine qwS ?_ GE376.out | refine qwS ?_ GE377.out) | exact HB.out)) : p := h
theorem zz7_11 {p : Prop} (h : p := by repeat (first | (with_reducible first | exact HB.out | apply qwA | apply qwN | apply qwD | refine qwS ?_ GE342.out) | exact HB.out)) : p := h
theorem zz7_12 {p : Prop} (h : p := by repeat (first | (with_reducible first | exact HB.out | apply qwA | apply qwN | apply qwD | refine qwS ?_ GE376.out) | exact HB.out)) : p := h
theorem zz7_13 {p : Prop} (h : p := by (with_reducible repeat (first | refine qbN ?_ _ | refine qbD ?_ | refine qbA ?_ _)); exact BK332.out) : p := h
theorem zz7_14 {p : Prop} (h : p := by kernel_rfl) : p := h
theorem zz7_15 {p : Prop} (h : p := by (with_reducible repeat (first | refine qbN ?_ _ | refine qbD ?_ | refine qbA ?_ _)); exact BK378.out) : p := h
theorem zz7_16 {p : Prop} (h : p := by (with_reducible repeat (first | apply qvA | apply qvN | apply qvD)); exact HO1_1.out) : p := h
theorem zz7_17 {p : Prop} (h : p := by repeat (first | (with_reducible first | exact HB.out | apply qwA | apply qwN | apply qwD | refine qwS ?_ GE331.out | refine qwS ?_ GE332.out) | exact HB.out)) : p := h
theorem zz7_18 {p : Prop} (h : p := by (with_reducible repeat (first | refine qbN ?_ _ | refine qbD ?_ | refine qbA ?_ _)); exact BK333.out) : p := h
theorem zz7_19 {p : Prop} (h : p := by repeat (first | (with_reducible first | exact HB.out | apply qwA | apply qwN | apply qwD | refine qwS ?_ GE331.out) | exact HB.out)) : p := h
theorem zz7_20 {p : Prop} (h : p := by (with_reducible repeat (first | apply qvA | apply qvN | apply qvD)); exact HO347.out) : p := h
theorem zz7_21 {p : Prop} (h : p := by (with_reducible repeat (first | apply qvA | apply qvN | apply qvD)); exact HO351.out) : p := h
theorem zz7_22 {p : Prop} (h : p := by (with_reducible repeat (first | apply qrA | apply qrN | apply qrD)); exact HO381.out) : p := h
/-! ### spec_WideSub: function 25 -/
def spec_WideSub.f (k : Nat) (a0_0 : Bool) (l0_1 : List Int) (a1_0 : Bool) (l1_1 : List Int) : Option (Bool × List Int) := (spec_Wide_Negated.f k a1_0 l1_1).bind fun bt334 => ((spec_WideAdd.f k a0_0 l0_1 bt334.1 bt334.2).bind fun bt338 => (some (bt338.1, bt338.2)))
theorem spec_WideSub.mono : ∀ a0 a1 a2 a3 k, LeO (spec_WideSub.f k a0 a1 a2 a3) (spec_WideSub.f (k + 1) a0 a1 a2 a3) := by
 intro a0 a1 a2 a3 k
 unfold spec_WideSub.f
 repeat' first
   | (with_reducible exact spec_WideAdd.mono _ _ _ _ _)
   | (with_reducible exact spec_Wide_Negated.mono _ _ _)
   | (with_reducible exact LeO.refl _)
   | (with_reducible exact LeO.none _)
   | (with_reducible refine LeO.ite ?_ ?_)
   | (with_reducible refine LeO.bind ?_ (fun _ => ?_))
   | exact spec_WideAdd.mono _ _ _ _ _
   | exact spec_Wide_Negated.mono _ _ _
   | exact LeO.none _
   | refine LeO.ite ?_ ?_
   | refine LeO.bind ?_ (fun _ => ?_)
set_option maxHeartbeats 8000000 in
set_option maxRecDepth 100000 in
theorem spec_WideSub.calls (k : Nat) (a0_0 : Bool) (A0_1 : Option Addr) (c0_1 : Nat) (l0_1 : List Int) (a1_0 : Bool) (P1_1_ : Nat → Prop) (A1_1 : Option Addr) (c1_1 : Nat) (l1_1 : List Int) (r1 : Bool) (r2 : List Int) (w : World) (hr0_1 : Kd.C (Kd.int .u32) w A0_1 l0_1.length l0_1) (hc0_1 : l0_1.length ≤ c0_1) (hs1_1 : Kd.V (Kd.int .u32) 22 w w.heap.size (fun k_ => P1_1_ k_) (.slice A1_1 l1_1.length c1_1) l1_1) (h : spec_WideSub.f k a0_0 l0_1 a1_0 l1_1 = some (r1, r2)) :
  Calls Try.prog 25 #[.agg #[.bool a0_0, .slice A0_1 l0_1.length c0_1], .agg #[.bool a1_0, .slice A1_1 l1_1.length c1_1]] w fun e w' => ∃ v1_ : Value, e = .returned (.agg #[.bool r1, v1_]) ∧ Kd.V (Kd.int .u32) 22 w' w.heap.size (fun k_ => (P1_1_ k_ ∨ w.heap.size ≤ k_)) v1_ r2 ∧ Below w.heap.size w w' := by
 have hu25 := Try.underlying25
 have HR0_1 := qaM hr0_1
 have HC0_1 := qaM hc0_1
 clear hr0_1 hc0_1
 have HO1_1 := qaM (show Kd.V (Kd.int .u32) 22 w w.heap.size (fun k_ => (P1_1_ k_ ∨ w.heap.size ≤ k_)) (.slice A1_1 l1_1.length c1_1) l1_1 from qvM hs1_1 (fun k_ hk => .inl hk))
 have HB := qaM (Below.refl w.heap.size w)
 have H : ((spec_Wide_Negated.f k a1_0 l1_1).bind fun bt334 => ((spec_WideAdd.f k a0_0 l0_1 bt334.1 bt334.2).bind fun bt338 => (some (bt338.1, bt338.2)))) = some (r1, r2) := h
 clear h
 replace H := Option.bind_eq_some_iff.mp H
 obtain ⟨⟨t334, t335⟩, A30, H⟩ := H
 replace H : ((spec_WideAdd.f k a0_0 l0_1 t334 t335).bind fun bt338 => (some (bt338.1, bt338.2))) = some (r1, r2) := H
 have A3 := qaM A30
 clear A30
 replace H := Option.bind_eq_some_iff.mp H
 obtain ⟨⟨t338, t339⟩, A40, H⟩ := H
 replace H : (some (t338, t339)) = some (r1, r2) := H
 have A4 := qaM A40
 clear A40
 simp only [Option.some.injEq, Prod.mk.injEq] at H
 obtain ⟨rfl, rfl⟩ := H
 go_enter Try.func25, Try.ntmps25
 try go_wp2_with (first | ((with_reducible refine gate_dst (N := 2) rfl ?_); refine box_event ?hg (N := 2) ?hd (cs := #[.bool a0_0, .slice A0_1 l0_1.length c0_1]) (t := 25) ?hr ?_; (case hd => rfl); (case hg => rfl); (case hr => first | (go_simp; done) | (go_simp; rfl)); intro gb331 hg w5 hbox hb; have n0_ := qaM (qvB (qvE zz7_16 gb331 (Nat.le_of_eq hg.symm)) hb); have n1_ := qaM (qbT zz7_5 hb); have n2_ := qaM (hbox); have n3_ := qaM ((by rw [hg]; exact (qbS zz7_5) : w.heap.size ≤ gb331)); have n4_ := qaM ((by rw [hg]; exact (qbS zz7_5) : w.heap.size ≤ gb331)); clear HO1_1; clear HB; have HO1_1 := n0_; have HB := n1_; have BK331 := n2_; have GW331 := n3_; have GE331 := n4_; clear n0_ n1_ n2_ n3_ n4_; clear hb hbox hg) | ((with_reducible refine gate_dst (N := 3) rfl ?_); refine box_event ?hg (N := 3) ?hd (cs := #[.bool a1_0, .slice A1_1 l1_1.length c1_1]) (t := 25) ?hr ?_; (case hd => rfl); (case hg => rfl); (case hr => first | (go_simp; done) | (go_simp; rfl)); intro gb332 hg w6 hbox hb; have n0_ := qaM (qvB (qvE zz7_16 gb332 (Nat.le_of_eq hg.symm)) hb); have n1_ := qaM (qbB (g := gb331) (o := .cells #[.bool a0_0, .slice A0_1 l0_1.length c0_1] 25 (0, 0)) zz7_9 hb); have n2_ := qaM (qbT zz7_19 hb); have n3_ := qaM (hbox); have n4_ := qaM ((by rw [hg]; exact (qbS zz7_19) : w.heap.size ≤ gb332)); have n5_ := qaM ((by rw [hg]; exact (qbS zz7_19) : w.heap.size ≤ gb332)); have n6_ := qaM ((by rw [hg]; exact qnL (qbL (g := gb331) (o := .cells #[.bool a0_0, .slice A0_1 l0_1.length c0_1] 25 (0, 0)) zz7_9) : gb331 ≠ gb332)); have n7_ := qaM ((by rw [hg]; exact qnG (qbL (g := gb331) (o := .cells #[.bool a0_0, .slice A0_1 l0_1.length c0_1] 25 (0, 0)) zz7_9) : gb332 ≠ gb331)); clear HO1_1; clear BK331; clear HB; have HO1_1 := n0_; have BK331 := n1_; have HB := n2_; have BK332 := n3_; have GW332 := n4_; have GE332 := n5_; have NB331_332 := n6_; have NB332_331 := n7_; clear n0_ n1_ n2_ n3_ n4_ n5_ n6_ n7_; clear hb hbox hg) | ((with_reducible refine gate_dst (N := 4) rfl ?_); refine box_event ?hg (N := 4) ?hd (cs := #[.bool false, .slice none 0 0]) (t := 25) ?hr ?_; (case hd => rfl); (case hg => rfl); (case hr => first | (go_simp; done) | (go_simp; rfl)); intro gb333 hg w7 hbox hb; have n0_ := qaM (qvB (qvE zz7_16 gb333 (Nat.le_of_eq hg.symm)) hb); have n1_ := qaM (qbB (g := gb331) (o := .cells #[.bool a0_0, .slice A0_1 l0_1.length c0_1] 25 (0, 0)) zz7_9 hb); have n2_ := qaM (qbB (g := gb332) (o := .cells #[.bool a1_0, .slice A1_1 l1_1.length c1_1] 25 (0, 0)) zz7_13 hb); have n3_ := qaM (qbT zz7_17 hb); have n4_ := qaM (hbox); have n5_ := qaM ((by rw [hg]; exact (qbS zz7_17) : w.heap.size ≤ gb333)); have n6_ := qaM ((by rw [hg]; exact (qbS zz7_17) : w.heap.size ≤ gb333)); have n7_ := qaM ((by rw [hg]; exact qnL (qbL (g := gb331) (o := .cells #[.bool a0_0, .slice A0_1 l0_1.length c0_1] 25 (0, 0)) zz7_9) : gb331 ≠ gb333)); have n8_ := qaM ((by rw [hg]; exact qnG (qbL (g := gb331) (o := .cells #[.bool a0_0, .slice A0_1 l0_1.length c0_1] 25 (0, 0)) zz7_9) : gb333 ≠ gb331)); have n9_ := qaM ((by rw [hg]; exact qnL (qbL (g := gb332) (o := .cells #[.bool a1_0, .slice A1_1 l1_1.length c1_1] 25 (0, 0)) zz7_13) : gb332 ≠ gb333)); have n10_ := qaM ((by rw [hg]; exact qnG (qbL (g := gb332) (o := .cells #[.bool a1_0, .slice A1_1 l1_1.length c1_1] 25 (0, 0)) zz7_13) : gb333 ≠ gb332)); clear HO1_1; clear BK331; clear BK332; clear HB; have HO1_1 := n0_; have BK331 := n1_; have BK332 := n2_; have HB := n3_; have BK333 := n4_; have GW333 := n5_; have GE333 := n6_; have NB331_333 := n7_; have NB333_331 := n8_; have NB332_333 := n9_; have NB333_332 := n10_; clear n0_ n1_ n2_ n3_ n4_ n5_ n6_ n7_ n8_ n9_ n10_; clear hb hbox hg))
 have n0_ := qaM (qvD HO1_1.out)
 have n1_ := qaM (qbD BK331.out)
 have n2_ := qaM (qbD BK332.out)
 have n3_ := qaM (qbD BK333.out)
 have n4_ := qaM (qwD HB.out)
 clear HO1_1
 clear BK331
 clear BK332
 clear BK333
 clear HB
 have HO1_1 := n0_
 have BK331 := n1_
 have BK332 := n2_
 have BK333 := n3_
 have HB := n4_
 clear n0_ n1_ n2_ n3_ n4_
 refine start_ (n := 5) (S := fun w' => w'.cell? ⟨gb331, 0, none⟩ = some (.bool a0_0) ∧ w'.cell? ⟨gb331, 1, none⟩ = some (.slice A0_1 l0_1.length c0_1) ∧ w'.cell? ⟨gb332, 0, none⟩ = some (.bool a1_0) ∧ w'.cell? ⟨gb332, 1, none⟩ = some (.slice A1_1 l1_1.length c1_1)) (ds := []) #[false, false, false, false, false] zz7_14 rfl rfl ⟨(qbC BK331.out 0).trans rfl, (qbC BK331.out 1).trans rfl, (qbC BK332.out 0).trans rfl, (qbC BK332.out 1).trans rfl⟩ (fun hHeld => ?_)
 generalize w7.drew = w8 at HO1_1 BK331 BK332 BK333 HB hHeld ⊢
 refine take_ (i := 0) (N := some 5) (v := ?_) (a' := ?_) #[true, false, false, false, false] rfl rfl zz7_14 (fun _ _ _ h => h) (Or.inl ⟨by rfl, ?_⟩) hHeld ?_ ?_
 rotate_left
 ·rintro w' ⟨s0, s1, s2, s3⟩
  go_simp
  with_reducible rfl
 rotate_left
 ·simp only [Act.put, qsA, qsZ, qsS, i64_w, i32_w]
  rfl
 refine take_ (i := 1) (N := some 6) (v := ?_) (a' := ?_) #[true, true, false, false, false] rfl rfl zz7_14 (fun _ _ _ h => h) (Or.inl ⟨by rfl, ?_⟩) hHeld ?_ ?_
 rotate_left
 ·rintro w' ⟨s0, s1, s2, s3⟩
  go_simp
  with_reducible rfl
 rotate_left
 ·simp only [Act.put, qsA, qsZ, qsS, i64_w, i32_w]
  rfl
 refine one_ (i := 2) (N := some 7) #[true, true, true, false, false] rfl rfl zz7_14 (by decide) (fun K hK => ?_)
 refine goes_ Try.func24 zz7_14 rfl #[.agg #[.bool a1_0, .slice A1_1 l1_1.length c1_1]] (by rfl) rfl rfl zz7_2 ?_
 with_reducible refine (spec_Wide_Negated.calls k a1_0 (fun k_ => ((((P1_1_ k_ ∨ w.heap.size ≤ k_) ∧ k_ ≠ gb331) ∧ k_ ≠ gb332) ∧ k_ ≠ gb333)) _ _ l1_1 t334 t335 _ ?side1 A3.out).mono ?_
 (case side1 => exact HO1_1.out)
 rintro e w9 ⟨v336, rfl, ho0, hb⟩
 refine ⟨_, rfl, ?_⟩
 have n0_ := qaM (qvB zz7_16 hb)
 have n1_ := qaM (qvL (qvM (ok' := fun k_ => (P1_1_ k_ ∨ w.heap.size ≤ k_) ∧ k_ ≠ gb331 ∧ k_ ≠ gb332 ∧ k_ ≠ gb333) ho0 (fun k_ hk_ => ⟨Or.elim hk_ (fun hs_ => hs_.1.1.1) (fun hn_ => (.inr (Nat.le_trans (qbS zz7_8) hn_))), Or.elim hk_ (fun hs_ => hs_.1.1.2) (fun hn_ => (qfB (g := gb331) (o := .cells #[.bool a0_0, .slice A0_1 l0_1.length c0_1] 25 (0, 0)) zz7_9 k_ hn_)), Or.elim hk_ (fun hs_ => hs_.1.2) (fun hn_ => (qfB (g := gb332) (o := .cells #[.bool a1_0, .slice A1_1 l1_1.length c1_1] 25 (0, 0)) zz7_13 k_ hn_)), Or.elim hk_ (fun hs_ => hs_.2) (fun hn_ => (qfB (g := gb333) (o := .cells #[.bool false, .slice none 0 0] 25 (0, 0)) zz7_18 k_ hn_))⟩)) (qbS zz7_8))
 have n2_ := qaM (qbB (g := gb331) (o := .cells #[.bool a0_0, .slice A0_1 l0_1.length c0_1] 25 (0, 0)) zz7_9 hb)
 have n3_ := qaM (qbB (g := gb332) (o := .cells #[.bool a1_0, .slice A1_1 l1_1.length c1_1] 25 (0, 0)) zz7_13 hb)
 have n4_ := qaM (qbB (g := gb333) (o := .cells #[.bool false, .slice none 0 0] 25 (0, 0)) zz7_18 hb)
 have n5_ := qaM (qbT zz7_8 hb)
 clear HO1_1
 clear BK331
 clear BK332
 clear BK333
 clear HB
 have HO1_1 := n0_
 have HO337 := n1_
 have BK331 := n2_
 have BK332 := n3_
 have BK333 := n4_
 have HB := n5_
 clear n0_ n1_ n2_ n3_ n4_ n5_
 (try clear hb)
 (try clear hb2)
 (try clear hk)
 (try clear hi)
 (try clear ho0)
 obtain ⟨Ao10, co10, eo10⟩ := Kd.V_slice HO337.out
 (first | subst eo10 | (injection eo10 with f1_ f2_ f3_; have f4_ := f1_.symm; have f5_ := f3_.symm; clear f1_ f2_ f3_; subst f4_; subst f5_))
 refine hK.out _ _ ⟨(qbC BK331.out 0).trans rfl, (qbC BK331.out 1).trans rfl, (qbC BK332.out 0).trans rfl, (qbC BK332.out 1).trans rfl⟩ (fun hHeld => ?_)
 clear hK K
 refine norm_ (a' := ?_) ?_ ?_
 rotate_left
 ·show Act.put _ (some 7) _ = _
  simp only [Act.put, qsA, qsZ, qsS, i64_w, i32_w]
  rfl
 refine one_ (i := 3) (N := some 8) #[true, true, true, true, false] rfl rfl zz7_14 (by decide) (fun K hK => ?_)
 refine goes_ Try.func11 zz7_14 rfl #[.agg #[.bool a0_0, .slice A0_1 l0_1.length c0_1], .agg #[.bool t334, .slice Ao10 t335.length co10]] (by rfl) rfl rfl zz7_2 ?_
 with_reducible refine (spec_WideAdd.calls k a0_0 _ _ l0_1 t334 _ _ t335 t338 t339 _ ?side1 ?side2 ?side3 ?side4 A4.out).mono ?_
 (case side1 => repeat (first | exact (Kd.C_below HR0_1.out HB.out) | (with_reducible refine Kd.C_alloc ?_ _) | (with_reducible refine Kd.C_drewN ?_ _) | (with_reducible refine Kd.C_drew ?_)))
 (case side2 => exact HC0_1.out)
 (case side3 => repeat (first | exact (qvR HO337.out).2.2 | (with_reducible refine Kd.C_alloc ?_ _) | (with_reducible refine Kd.C_drewN ?_ _) | (with_reducible refine Kd.C_drew ?_)))
 (case side4 => exact (qvR HO337.out).2.1)
 rintro e w11 ⟨v340, rfl, ho0, hb⟩
 refine ⟨_, rfl, ?_⟩
 have n0_ := qaM (qvB zz7_16 hb)
 have n1_ := qaM (qvB (by (with_reducible repeat (first | apply qvA | apply qvN | apply qvD)); exact HO337.out) hb)
 have n2_ := qaM (qvL (qvM (ok' := fun k_ => (P1_1_ k_ ∨ w.heap.size ≤ k_) ∧ k_ ≠ gb331 ∧ k_ ≠ gb332 ∧ k_ ≠ gb333) ho0 (fun k_ hk_ => ⟨(.inr (Nat.le_trans (qbS zz7_8) hk_)), (qfB (g := gb331) (o := .cells #[.bool a0_0, .slice A0_1 l0_1.length c0_1] 25 (0, 0)) zz7_9 k_ hk_), (qfB (g := gb332) (o := .cells #[.bool a1_0, .slice A1_1 l1_1.length c1_1] 25 (0, 0)) zz7_13 k_ hk_), (qfB (g := gb333) (o := .cells #[.bool false, .slice none 0 0] 25 (0, 0)) zz7_18 k_ hk_)⟩)) (qbS zz7_8))
 have n3_ := qaM (qbB (g := gb331) (o := .cells #[.bool a0_0, .slice A0_1 l0_1.length c0_1] 25 (0, 0)) zz7_9 hb)
 have n4_ := qaM (qbB (g := gb332) (o := .cells #[.bool a1_0, .slice A1_1 l1_1.length c1_1] 25 (0, 0)) zz7_13 hb)
 have n5_ := qaM (qbB (g := gb333) (o := .cells #[.bool false, .slice none 0 0] 25 (0, 0)) zz7_18 hb)
 have n6_ := qaM (qbT zz7_8 hb)
 clear HO1_1
 clear HO337
 clear BK331
 clear BK332
 clear BK333
 clear HB
 have HO1_1 := n0_
 have HO337 := n1_
 have HO341 := n2_
 have BK331 := n3_
 have BK332 := n4_
 have BK333 := n5_
 have HB := n6_
 clear n0_ n1_ n2_ n3_ n4_ n5_ n6_
 (try clear hb)
 (try clear hb2)
 (try clear hk)
 (try clear hi)
 (try clear ho0)
 obtain ⟨Ao13, co13, eo13⟩ := Kd.V_slice HO341.out
 (first | subst eo13 | (injection eo13 with f1_ f2_ f3_; have f4_ := f1_.symm; have f5_ := f3_.symm; clear f1_ f2_ f3_; subst f4_; subst f5_))
 refine hK.out _ _ ⟨(qbC BK331.out 0).trans rfl, (qbC BK331.out 1).trans rfl, (qbC BK332.out 0).trans rfl, (qbC BK332.out 1).trans rfl⟩ (fun hHeld => ?_)
 clear hK K
 refine norm_ (a' := ?_) ?_ ?_
 rotate_left
 ·show Act.put _ (some 8) _ = _
  simp only [Act.put, qsA, qsZ, qsS, i64_w, i32_w]
  rfl
 refine one_ (i := 4) (N := none) #[true, true, true, true, true] rfl rfl zz7_14 (by decide) (fun K hK => ?_)
 have hs12 : w11.cell? ⟨gb333, 0, none⟩ = some (.bool false) := (qbC BK333.out 0).trans rfl
 have hfs12 := blk_frozen BK333.out 0
 have hns12_0 := NB331_333.out
 have hns12_1 := NB332_333.out
 have hms12_0 := NB333_331.out
 have hms12_1 := NB333_332.out
 have hs14 : w11.cell? ⟨gb333, 1, none⟩ = some (.slice none 0 0) := (qbC BK333.out 1).trans rfl
 have hfs14 := blk_frozen BK333.out 1
 have hns14_0 := NB331_333.out
 have hns14_1 := NB332_333.out
 have hms14_0 := NB333_331.out
 have hms14_1 := NB333_332.out
 refine skip_ (w1 := ?_) (by rfl) rfl ?_ ?_
 rotate_left
 ·go_simp
  rfl
 refine hK.out _ _ ⟨((cell_far (p := ⟨gb333, _, none⟩) NB331_333.out _).trans (((cell_far (p := ⟨gb333, _, none⟩) NB331_333.out _).trans (hHeld.1)))), ((cell_far (p := ⟨gb333, _, none⟩) NB331_333.out _).trans (((cell_far (p := ⟨gb333, _, none⟩) NB331_333.out _).trans (hHeld.2.1)))), ((cell_far (p := ⟨gb333, _, none⟩) NB332_333.out _).trans (((cell_far (p := ⟨gb333, _, none⟩) NB332_333.out _).trans (hHeld.2.2.1)))), ((cell_far (p := ⟨gb333, _, none⟩) NB332_333.out _).trans (((cell_far (p := ⟨gb333, _, none⟩) NB332_333.out _).trans (hHeld.2.2.2))))⟩ (fun hHeld => ?_)
 clear hK K
 refine done_ zz7_14 ?_
 try go_wp2
 refine bodyPost_ret (results_cell_row rfl _ _ gb333 25 #[.bool t338, .slice Ao13 t339.length co13] (0, 0) _ rfl (by (with_reducible repeat (first | refine qbN ?_ _ | refine qbD ?_ | refine qbA ?_ _)); refine qbP (cs := #[.bool t338, .slice none 0 0]) ?_ 1 _ rfl; (with_reducible repeat (first | refine qbN ?_ _ | refine qbD ?_ | refine qbA ?_ _)); refine qbP (cs := #[.bool false, .slice none 0 0]) ?_ 0 _ rfl; (with_reducible repeat (first | refine qbN ?_ _ | refine qbD ?_ | refine qbA ?_ _)); exact BK333.out) Try.underlying25 rfl zz7_14) rfl ?_
 exact ⟨_, by first | rfl | (simp [errW_none, errW_some] <;> rfl) | (simp [*, errW_none, errW_some] <;> rfl), by (with_reducible repeat (first | apply qvA | apply qvN | apply qvD)); exact qvM (qvF (p := ⟨gb333, 1, none⟩) (qvF (p := ⟨gb333, 0, none⟩) (qvM HO341.out (fun k_ hk => (⟨hk, hk.2.2.2⟩ : _ ∧ k_ ≠ gb333))) (fun _ hk => hk.2) (.bool t338)) (fun _ hk => hk.2) (.slice Ao13 t339.length co13)) (fun _ hk => hk.1.1), by repeat (first | (with_reducible first | exact HB.out | apply qwA | apply qwN | apply qwD | refine qwS ?_ GE331.out | refine qwS ?_ GE332.out | refine qwS ?_ GE333.out) | exact HB.out)⟩

/-! ### laws_bounds: function 9 -/
def laws_bounds.f (k : Nat) (a0 : Int) (a1 : Bool) : Option (Bool × List Int × Bool × List Int) := if a1 = true then ((spec_Two.f k (wrap64 (a0 - 1))).bind fun bt344 => ((spec_Wide_Negated.f k bt344.1 bt344.2).bind fun bt348 => ((spec_Two.f k (wrap64 (a0 - 1))).bind fun bt352 => ((spec_WideInt.f k 1).bind fun bt356 => ((spec_WideSub.f k bt352.1 bt352.2 bt356.1 bt356.2).bind fun bt360 => (some (bt348.1, bt348.2, bt360.1, bt360.2))))))) else ((spec_Two.f k a0).bind fun bt364 => ((spec_WideInt.f k 1).bind fun bt368 => ((spec_WideSub.f k bt364.1 bt364.2 bt368.1 bt368.2).bind fun bt372 => (some (false, ([] : List Int), bt372.1, bt372.2)))))
theorem laws_bounds.mono : ∀ a0 a1 k, LeO (laws_bounds.f k a0 a1) (laws_bounds.f (k + 1) a0 a1) := by
 intro a0 a1 k
 unfold laws_bounds.f
 repeat' first
   | (with_reducible exact spec_Two.mono _ _)
   | (with_reducible exact spec_WideInt.mono _ _)
   | (with_reducible exact spec_WideSub.mono _ _ _ _ _)
   | (with_reducible exact spec_Wide_Negated.mono _ _ _)
   | (with_reducible exact LeO.refl _)
   | (with_reducible exact LeO.none _)
   | (with_reducible refine LeO.ite ?_ ?_)
   | (with_reducible refine LeO.bind ?_ (fun _ => ?_))
   | exact spec_Two.mono _ _
   | exact spec_WideInt.mono _ _
   | exact spec_WideSub.mono _ _ _ _ _
   | exact spec_Wide_Negated.mono _ _ _
   | exact LeO.none _
   | refine LeO.ite ?_ ?_
   | refine LeO.bind ?_ (fun _ => ?_)
set_option maxHeartbeats 8000000 in
set_option maxRecDepth 100000 in
theorem laws_bounds.calls (k : Nat) (a0 : Int) (a1 : Bool) (r1 : Bool) (r2 : List Int) (r3 : Bool) (r4 : List Int) (w : World) (h : laws_bounds.f k a0 a1 = some (r1, r2, r3, r4)) :
  Calls Try.prog 9 #[.int .i64 a0, .bool a1] w fun e w' => ∃ v1_ v3_ : Value, e = .returned (.tuple #[.agg #[.bool r1, v1_], .agg #[.bool r3, v3_]]) ∧ Kd.V (Kd.int .u32) 22 w' w.heap.size (fun k_ => (w.heap.size ≤ k_)) v1_ r2 ∧ Kd.V (Kd.int .u32) 22 w' w.heap.size (fun k_ => (w.heap.size ≤ k_)) v3_ r4 ∧ Below w.heap.size w w' := by
 have hu25 := Try.underlying25
 have HB := qaM (Below.refl w.heap.size w)
 have H : (if a1 = true then ((spec_Two.f k (wrap64 (a0 - 1))).bind fun bt344 => ((spec_Wide_Negated.f k bt344.1 bt344.2).bind fun bt348 => ((spec_Two.f k (wrap64 (a0 - 1))).bind fun bt352 => ((spec_WideInt.f k 1).bind fun bt356 => ((spec_WideSub.f k bt352.1 bt352.2 bt356.1 bt356.2).bind fun bt360 => (some (bt348.1, bt348.2, bt360.1, bt360.2))))))) else ((spec_Two.f k a0).bind fun bt364 => ((spec_WideInt.f k 1).bind fun bt368 => ((spec_WideSub.f k bt364.1 bt364.2 bt368.1 bt368.2).bind fun bt372 => (some (false, ([] : List Int), bt372.1, bt372.2)))))) = some (r1, r2, r3, r4) := h
 clear h
 by_cases c3 : a1 = true
 ·subst c3
  have H1 : ((spec_Two.f k (wrap64 (a0 - 1))).bind fun bt344 => ((spec_Wide_Negated.f k bt344.1 bt344.2).bind fun bt348 => ((spec_Two.f k (wrap64 (a0 - 1))).bind fun bt352 => ((spec_WideInt.f k 1).bind fun bt356 => ((spec_WideSub.f k bt352.1 bt352.2 bt356.1 bt356.2).bind fun bt360 => (some (bt348.1, bt348.2, bt360.1, bt360.2))))))) = some (r1, r2, r3, r4) := by rw [if_pos rfl] at H; exact H
  clear H
  have H := H1
  clear H1
  replace H := Option.bind_eq_some_iff.mp H
  obtain ⟨⟨t344, t345⟩, A40, H⟩ := H
  replace H : ((spec_Wide_Negated.f k t344 t345).bind fun bt348 => ((spec_Two.f k (wrap64 (a0 - 1))).bind fun bt352 => ((spec_WideInt.f k 1).bind fun bt356 => ((spec_WideSub.f k bt352.1 bt352.2 bt356.1 bt356.2).bind fun bt360 => (some (bt348.1, bt348.2, bt360.1, bt360.2)))))) = some (r1, r2, r3, r4) := H
  have A4 := qaM A40
  clear A40
  replace H := Option.bind_eq_some_iff.mp H
  obtain ⟨⟨t348, t349⟩, A50, H⟩ := H
  replace H : ((spec_Two.f k (wrap64 (a0 - 1))).bind fun bt352 => ((spec_WideInt.f k 1).bind fun bt356 => ((spec_WideSub.f k bt352.1 bt352.2 bt356.1 bt356.2).bind fun bt360 => (some (t348, t349, bt360.1, bt360.2))))) = some (r1, r2, r3, r4) := H
  have A5 := qaM A50
  clear A50
  replace H := Option.bind_eq_some_iff.mp H
  obtain ⟨⟨t352, t353⟩, A60, H⟩ := H
  replace H : ((spec_WideInt.f k 1).bind fun bt356 => ((spec_WideSub.f k t352 t353 bt356.1 bt356.2).bind fun bt360 => (some (t348, t349, bt360.1, bt360.2)))) = some (r1, r2, r3, r4) := H
  have A6 := qaM A60
  clear A60
  replace H := Option.bind_eq_some_iff.mp H
  obtain ⟨⟨t356, t357⟩, A70, H⟩ := H
  replace H : ((spec_WideSub.f k t352 t353 t356 t357).bind fun bt360 => (some (t348, t349, bt360.1, bt360.2))) = some (r1, r2, r3, r4) := H
  have A7 := qaM A70
  clear A70
  replace H := Option.bind_eq_some_iff.mp H
  obtain ⟨⟨t360, t361⟩, A80, H⟩ := H
  replace H : (some (t348, t349, t360, t361)) = some (r1, r2, r3, r4) := H
  have A8 := qaM A80
  clear A80
  simp only [Option.some.injEq, Prod.mk.injEq] at H
  obtain ⟨rfl, rfl, rfl, rfl⟩ := H
  go_enter Try.func9, Try.ntmps9
  go_wp2_with (first | ((with_reducible refine gate_dst (N := 4) rfl ?_); refine box_event ?hg (N := 4) ?hd (cs := #[.bool false, .slice none 0 0]) (t := 25) ?hr ?_; (case hd => rfl); (case hg => rfl); (case hr => first | (go_simp; done) | (go_simp; rfl)); intro gb342 hg w9 hbox hb; have n0_ := qaM (qbT zz7_5 hb); have n1_ := qaM (hbox); have n2_ := qaM ((by rw [hg]; exact (qbS zz7_5) : w.heap.size ≤ gb342)); have n3_ := qaM ((by rw [hg]; exact (qbS zz7_5) : w.heap.size ≤ gb342)); clear HB; have HB := n0_; have BK342 := n1_; have GW342 := n2_; have GE342 := n3_; clear n0_ n1_ n2_ n3_; clear hb hbox hg) | ((with_reducible refine gate_dst (N := 5) rfl ?_); refine box_event ?hg (N := 5) ?hd (cs := #[.bool false, .slice none 0 0]) (t := 25) ?hr ?_; (case hd => rfl); (case hg => rfl); (case hr => first | (go_simp; done) | (go_simp; rfl)); intro gb343 hg w10 hbox hb; have n0_ := qaM (qbB (g := gb342) (o := .cells #[.bool false, .slice none 0 0] 25 (0, 0)) zz7_1 hb); have n1_ := qaM (qbT zz7_11 hb); have n2_ := qaM (hbox); have n3_ := qaM ((by rw [hg]; exact (qbS zz7_11) : w.heap.size ≤ gb343)); have n4_ := qaM ((by rw [hg]; exact (qbS zz7_11) : w.heap.size ≤ gb343)); have n5_ := qaM ((by rw [hg]; exact qnL (qbL (g := gb342) (o := .cells #[.bool false, .slice none 0 0] 25 (0, 0)) zz7_1) : gb342 ≠ gb343)); have n6_ := qaM ((by rw [hg]; exact qnG (qbL (g := gb342) (o := .cells #[.bool false, .slice none 0 0] 25 (0, 0)) zz7_1) : gb343 ≠ gb342)); clear BK342; clear HB; have BK342 := n0_; have HB := n1_; have BK343 := n2_; have GW343 := n3_; have GE343 := n4_; have NB342_343 := n5_; have NB343_342 := n6_; clear n0_ n1_ n2_ n3_ n4_ n5_ n6_; clear hb hbox hg) | ((with_reducible refine gate_callee (f := 23) rfl ?_); refine goesL_ (some 9) rfl rfl Try.func23 zz7_14 rfl #[.int .i64 (wrap64 (a0 - 1))] rfl zz7_2 ?_; (with_reducible refine (spec_Two.calls k (wrap64 (a0 - 1)) t344 t345 _ A4.out).mono ?_); rintro e w11 ⟨v346, rfl, ho0, hb⟩; refine ⟨_, rfl, ?_⟩; have n0_ := qaM (qvL (qvM (ok' := fun k_ => (w.heap.size ≤ k_) ∧ k_ ≠ gb342 ∧ k_ ≠ gb343) ho0 (fun k_ hk_ => ⟨(Nat.le_trans (qbS zz7_0) hk_), (qfB (g := gb342) (o := .cells #[.bool false, .slice none 0 0] 25 (0, 0)) zz7_1 k_ hk_), (qfB (g := gb343) (o := .cells #[.bool false, .slice none 0 0] 25 (0, 0)) zz7_4 k_ hk_)⟩)) (qbS zz7_0)); have n1_ := qaM (qbB (g := gb342) (o := .cells #[.bool false, .slice none 0 0] 25 (0, 0)) zz7_1 hb); have n2_ := qaM (qbB (g := gb343) (o := .cells #[.bool false, .slice none 0 0] 25 (0, 0)) zz7_4 hb); have n3_ := qaM (qbT zz7_0 hb); clear BK342; clear BK343; clear HB; have HO347 := n0_; have BK342 := n1_; have BK343 := n2_; have HB := n3_; clear n0_ n1_ n2_ n3_; (try clear hb); (try clear hb2); (try clear hk); (try clear hi); (try clear ho0); obtain ⟨Ao12, co12, eo12⟩ := Kd.V_slice HO347.out; subst eo12) | ((with_reducible refine gate_callee (f := 24) rfl ?_); refine goesL_ (some 10) rfl rfl Try.func24 zz7_14 rfl #[.agg #[.bool t344, .slice Ao12 t345.length co12]] rfl zz7_2 ?_; (with_reducible refine (spec_Wide_Negated.calls k t344 (fun k_ => ((w.heap.size ≤ k_) ∧ (k_ ≠ gb342 ∧ k_ ≠ gb343))) _ _ t345 t348 t349 _ ?side1 A5.out).mono ?_); (case side1 => exact HO347.out); rintro e w13 ⟨v350, rfl, ho0, hb⟩; refine ⟨_, rfl, ?_⟩; have n0_ := qaM (qvB zz7_20 hb); have n1_ := qaM (qvL (qvM (ok' := fun k_ => (w.heap.size ≤ k_) ∧ k_ ≠ gb342 ∧ k_ ≠ gb343) ho0 (fun k_ hk_ => ⟨Or.elim hk_ (fun hs_ => hs_.1) (fun hn_ => (Nat.le_trans (qbS zz7_0) hn_)), Or.elim hk_ (fun hs_ => hs_.2.1) (fun hn_ => (qfB (g := gb342) (o := .cells #[.bool false, .slice none 0 0] 25 (0, 0)) zz7_1 k_ hn_)), Or.elim hk_ (fun hs_ => hs_.2.2) (fun hn_ => (qfB (g := gb343) (o := .cells #[.bool false, .slice none 0 0] 25 (0, 0)) zz7_4 k_ hn_))⟩)) (qbS zz7_0)); have n2_ := qaM (qbB (g := gb342) (o := .cells #[.bool false, .slice none 0 0] 25 (0, 0)) zz7_1 hb); have n3_ := qaM (qbB (g := gb343) (o := .cells #[.bool false, .slice none 0 0] 25 (0, 0)) zz7_4 hb); have n4_ := qaM (qbT zz7_0 hb); clear HO347; clear BK342; clear BK343; clear HB; have HO347 := n0_; have HO351 := n1_; have BK342 := n2_; have BK343 := n3_; have HB := n4_; clear n0_ n1_ n2_ n3_ n4_; (try clear hb); (try clear hb2); (try clear hk); (try clear hi); (try clear ho0)) | ((with_reducible refine gate_callee (f := 23) rfl ?_); refine goesL_ (some 13) rfl rfl Try.func23 zz7_14 rfl #[.int .i64 (wrap64 (a0 - 1))] rfl zz7_2 ?_; (with_reducible refine (spec_Two.calls k (wrap64 (a0 - 1)) t352 t353 _ A6.out).mono ?_); rintro e w14 ⟨v354, rfl, ho0, hb⟩; refine ⟨_, rfl, ?_⟩; have n0_ := qaM (qvB zz7_20 hb); have n1_ := qaM (qvB zz7_21 hb); have n2_ := qaM (qvL (qvM (ok' := fun k_ => (w.heap.size ≤ k_) ∧ k_ ≠ gb342 ∧ k_ ≠ gb343) ho0 (fun k_ hk_ => ⟨(Nat.le_trans (qbS zz7_0) hk_), (qfB (g := gb342) (o := .cells #[.bool false, .slice none 0 0] 25 (0, 0)) zz7_1 k_ hk_), (qfB (g := gb343) (o := .cells #[.bool false, .slice none 0 0] 25 (0, 0)) zz7_4 k_ hk_)⟩)) (qbS zz7_0)); have n3_ := qaM (qbB (g := gb342) (o := .cells #[.bool false, .slice none 0 0] 25 (0, 0)) zz7_1 hb); have n4_ := qaM (qbB (g := gb343) (o := .cells #[.bool false, .slice none 0 0] 25 (0, 0)) zz7_4 hb); have n5_ := qaM (qbT zz7_0 hb); clear HO347; clear HO351; clear BK342; clear BK343; clear HB; have HO347 := n0_; have HO351 := n1_; have HO355 := n2_; have BK342 := n3_; have BK343 := n4_; have HB := n5_; clear n0_ n1_ n2_ n3_ n4_ n5_; (try clear hb); (try clear hb2); (try clear hk); (try clear hi); (try clear ho0)) | ((with_reducible refine gate_callee (f := 17) rfl ?_); refine goesL_ (some 14) rfl rfl Try.func17 zz7_14 rfl #[.int .i64 1] rfl zz7_2 ?_; (with_reducible refine (spec_WideInt.calls k 1 t356 t357 _ A7.out).mono ?_); rintro e w15 ⟨v358, rfl, ho0, hb⟩; refine ⟨_, rfl, ?_⟩; have n0_ := qaM (qvB zz7_20 hb); have n1_ := qaM (qvB zz7_21 hb); have n2_ := qaM (qvB (by (with_reducible repeat (first | apply qvA | apply qvN | apply qvD)); exact HO355.out) hb); have n3_ := qaM (qvL (qvM (ok' := fun k_ => (w.heap.size ≤ k_) ∧ k_ ≠ gb342 ∧ k_ ≠ gb343) ho0 (fun k_ hk_ => ⟨(Nat.le_trans (qbS zz7_0) hk_), (qfB (g := gb342) (o := .cells #[.bool false, .slice none 0 0] 25 (0, 0)) zz7_1 k_ hk_), (qfB (g := gb343) (o := .cells #[.bool false, .slice none 0 0] 25 (0, 0)) zz7_4 k_ hk_)⟩)) (qbS zz7_0)); have n4_ := qaM (qbB (g := gb342) (o := .cells #[.bool false, .slice none 0 0] 25 (0, 0)) zz7_1 hb); have n5_ := qaM (qbB (g := gb343) (o := .cells #[.bool false, .slice none 0 0] 25 (0, 0)) zz7_4 hb); have n6_ := qaM (qbT zz7_0 hb); clear HO347; clear HO351; clear HO355; clear BK342; clear BK343; clear HB; have HO347 := n0_; have HO351 := n1_; have HO355 := n2_; have HO359 := n3_; have BK342 := n4_; have BK343 := n5_; have HB := n6_; clear n0_ n1_ n2_ n3_ n4_ n5_ n6_; (try clear hb); (try clear hb2); (try clear hk); (try clear hi); (try clear ho0); obtain ⟨Ao16, co16, eo16⟩ := Kd.V_slice HO355.out; subst eo16; obtain ⟨Ao17, co17, eo17⟩ := Kd.V_slice HO359.out; subst eo17) | ((with_reducible refine gate_callee (f := 25) rfl ?_); refine goesL_ (some 15) rfl rfl Try.func25 zz7_14 rfl #[.agg #[.bool t352, .slice Ao16 t353.length co16], .agg #[.bool t356, .slice Ao17 t357.length co17]] rfl zz7_2 ?_; (with_reducible refine (spec_WideSub.calls k t352 _ _ t353 t356 (fun k_ => ((w.heap.size ≤ k_) ∧ (k_ ≠ gb342 ∧ k_ ≠ gb343))) _ _ t357 t360 t361 _ ?side1 ?side2 ?side3 A8.out).mono ?_); (case side1 => repeat (first | exact (qvR HO355.out).2.2 | (with_reducible refine Kd.C_alloc ?_ _) | (with_reducible refine Kd.C_drewN ?_ _) | (with_reducible refine Kd.C_drew ?_))); (case side2 => exact (qvR HO355.out).2.1); (case side3 => exact HO359.out); rintro e w18 ⟨v362, rfl, ho0, hb⟩; refine ⟨_, rfl, ?_⟩; have n0_ := qaM (qvB zz7_20 hb); have n1_ := qaM (qvB zz7_21 hb); have n2_ := qaM (qvB (by (with_reducible repeat (first | apply qvA | apply qvN | apply qvD)); exact HO355.out) hb); have n3_ := qaM (qvB (by (with_reducible repeat (first | apply qvA | apply qvN | apply qvD)); exact HO359.out) hb); have n4_ := qaM (qvL (qvM (ok' := fun k_ => (w.heap.size ≤ k_) ∧ k_ ≠ gb342 ∧ k_ ≠ gb343) ho0 (fun k_ hk_ => ⟨Or.elim hk_ (fun hs_ => hs_.1) (fun hn_ => (Nat.le_trans (qbS zz7_0) hn_)), Or.elim hk_ (fun hs_ => hs_.2.1) (fun hn_ => (qfB (g := gb342) (o := .cells #[.bool false, .slice none 0 0] 25 (0, 0)) zz7_1 k_ hn_)), Or.elim hk_ (fun hs_ => hs_.2.2) (fun hn_ => (qfB (g := gb343) (o := .cells #[.bool false, .slice none 0 0] 25 (0, 0)) zz7_4 k_ hn_))⟩)) (qbS zz7_0)); have n5_ := qaM (qbB (g := gb342) (o := .cells #[.bool false, .slice none 0 0] 25 (0, 0)) zz7_1 hb); have n6_ := qaM (qbB (g := gb343) (o := .cells #[.bool false, .slice none 0 0] 25 (0, 0)) zz7_4 hb); have n7_ := qaM (qbT zz7_0 hb); clear HO347; clear HO351; clear HO355; clear HO359; clear BK342; clear BK343; clear HB; have HO347 := n0_; have HO351 := n1_; have HO355 := n2_; have HO359 := n3_; have HO363 := n4_; have BK342 := n5_; have BK343 := n6_; have HB := n7_; clear n0_ n1_ n2_ n3_ n4_ n5_ n6_ n7_; (try clear hb); (try clear hb2); (try clear hk); (try clear hi); (try clear ho0); have hnb19 := NB342_343.out; have hnc19 := NB343_342.out; have hcz20_0 : w18.cell? ⟨gb342, 0, none⟩ = some (.bool false) := (qbC BK342.out 0).trans rfl; have hcz20_1 : w18.cell? ⟨gb342, 1, none⟩ = some (.slice none 0 0) := (qbC BK342.out 1).trans rfl; have hfz20_0 := blk_frozen BK342.out 0; have hfz20_1 := blk_frozen BK342.out 1; obtain ⟨Ao21, co21, eo21⟩ := Kd.V_slice HO351.out; subst eo21; have hcz22_0 : w18.cell? ⟨gb343, 0, none⟩ = some (.bool false) := (qbC BK343.out 0).trans rfl; have hcz22_1 : w18.cell? ⟨gb343, 1, none⟩ = some (.slice none 0 0) := (qbC BK343.out 1).trans rfl; have hfz22_0 := blk_frozen BK343.out 0; have hfz22_1 := blk_frozen BK343.out 1; obtain ⟨Ao23, co23, eo23⟩ := Kd.V_slice HO363.out; subst eo23))
  refine bodyPost_ret (results_cc rfl _ _ gb342 gb343 25 25 #[.bool t348, .slice Ao21 t349.length co21] #[.bool t360, .slice Ao23 t361.length co23] (0, 0) (0, 0) _ _ rfl (by (with_reducible repeat (first | refine qbN ?_ _ | refine qbD ?_ | refine qbA ?_ _)); refine qbF ?_ NB342_343.out _; (with_reducible repeat (first | refine qbN ?_ _ | refine qbD ?_ | refine qbA ?_ _)); refine qbF ?_ NB342_343.out _; (with_reducible repeat (first | refine qbN ?_ _ | refine qbD ?_ | refine qbA ?_ _)); refine qbP (cs := #[.bool t348, .slice none 0 0]) ?_ 1 _ rfl; (with_reducible repeat (first | refine qbN ?_ _ | refine qbD ?_ | refine qbA ?_ _)); refine qbP (cs := #[.bool false, .slice none 0 0]) ?_ 0 _ rfl; (with_reducible repeat (first | refine qbN ?_ _ | refine qbD ?_ | refine qbA ?_ _)); exact BK342.out) Try.underlying25 rfl zz7_14 rfl (by (with_reducible repeat (first | refine qbN ?_ _ | refine qbD ?_ | refine qbA ?_ _)); refine qbP (cs := #[.bool t360, .slice none 0 0]) ?_ 1 _ rfl; (with_reducible repeat (first | refine qbN ?_ _ | refine qbD ?_ | refine qbA ?_ _)); refine qbP (cs := #[.bool false, .slice none 0 0]) ?_ 0 _ rfl; (with_reducible repeat (first | refine qbN ?_ _ | refine qbD ?_ | refine qbA ?_ _)); refine qbF ?_ NB343_342.out _; (with_reducible repeat (first | refine qbN ?_ _ | refine qbD ?_ | refine qbA ?_ _)); refine qbF ?_ NB343_342.out _; (with_reducible repeat (first | refine qbN ?_ _ | refine qbD ?_ | refine qbA ?_ _)); exact BK343.out) Try.underlying25 rfl zz7_14) rfl ?_
  exact ⟨_, _, by first | rfl | (simp [errW_none, errW_some] <;> rfl) | (simp [*, errW_none, errW_some] <;> rfl), by (with_reducible repeat (first | apply qvA | apply qvN | apply qvD)); exact qvM (qvF (p := ⟨gb343, 1, none⟩) (qvF (p := ⟨gb343, 0, none⟩) (qvF (p := ⟨gb342, 1, none⟩) (qvF (p := ⟨gb342, 0, none⟩) (qvM (qvM HO351.out (fun k_ hk => (⟨hk, hk.2.1⟩ : _ ∧ k_ ≠ gb342))) (fun k_ hk => (⟨hk, hk.1.2.2⟩ : _ ∧ k_ ≠ gb343))) (fun _ hk => hk.1.2) (.bool t348)) (fun _ hk => hk.1.2) (.slice Ao21 t349.length co21)) (fun _ hk => hk.2) (.bool t360)) (fun _ hk => hk.2) (.slice Ao23 t361.length co23)) (fun _ hk => hk.1.1.1), by (with_reducible repeat (first | apply qvA | apply qvN | apply qvD)); exact qvM (qvF (p := ⟨gb343, 1, none⟩) (qvF (p := ⟨gb343, 0, none⟩) (qvF (p := ⟨gb342, 1, none⟩) (qvF (p := ⟨gb342, 0, none⟩) (qvM (qvM HO363.out (fun k_ hk => (⟨hk, hk.2.1⟩ : _ ∧ k_ ≠ gb342))) (fun k_ hk => (⟨hk, hk.1.2.2⟩ : _ ∧ k_ ≠ gb343))) (fun _ hk => hk.1.2) (.bool t348)) (fun _ hk => hk.1.2) (.slice Ao21 t349.length co21)) (fun _ hk => hk.2) (.bool t360)) (fun _ hk => hk.2) (.slice Ao23 t361.length co23)) (fun _ hk => hk.1.1.1), by repeat (first | (with_reducible first | exact HB.out | apply qwA | apply qwN | apply qwD | refine qwS ?_ GE342.out | refine qwS ?_ GE343.out) | exact HB.out)⟩
 ·replace c3 := Bool.eq_false_iff.mpr c3
  subst c3
  have H1 : ((spec_Two.f k a0).bind fun bt364 => ((spec_WideInt.f k 1).bind fun bt368 => ((spec_WideSub.f k bt364.1 bt364.2 bt368.1 bt368.2).bind fun bt372 => (some (false, ([] : List Int), bt372.1, bt372.2))))) = some (r1, r2, r3, r4) := by rw [if_neg (show ¬ (false = true) by decide)] at H; exact H
  clear H
  have H := H1
  clear H1
  replace H := Option.bind_eq_some_iff.mp H
  obtain ⟨⟨t364, t365⟩, A240, H⟩ := H
  replace H : ((spec_WideInt.f k 1).bind fun bt368 => ((spec_WideSub.f k t364 t365 bt368.1 bt368.2).bind fun bt372 => (some (false, ([] : List Int), bt372.1, bt372.2)))) = some (r1, r2, r3, r4) := H
  have A24 := qaM A240
  clear A240
  replace H := Option.bind_eq_some_iff.mp H
  obtain ⟨⟨t368, t369⟩, A250, H⟩ := H
  replace H : ((spec_WideSub.f k t364 t365 t368 t369).bind fun bt372 => (some (false, ([] : List Int), bt372.1, bt372.2))) = some (r1, r2, r3, r4) := H
  have A25 := qaM A250
  clear A250
  replace H := Option.bind_eq_some_iff.mp H
  obtain ⟨⟨t372, t373⟩, A260, H⟩ := H
  replace H : (some (false, ([] : List Int), t372, t373)) = some (r1, r2, r3, r4) := H
  have A26 := qaM A260
  clear A260
  simp only [Option.some.injEq, Prod.mk.injEq] at H
  obtain ⟨rfl, rfl, rfl, rfl⟩ := H
  go_enter Try.func9, Try.ntmps9
  go_wp2_with (first | ((with_reducible refine gate_dst (N := 4) rfl ?_); refine box_event ?hg (N := 4) ?hd (cs := #[.bool false, .slice none 0 0]) (t := 25) ?hr ?_; (case hd => rfl); (case hg => rfl); (case hr => first | (go_simp; done) | (go_simp; rfl)); intro gb342 hg w27 hbox hb; have n0_ := qaM (qbT zz7_5 hb); have n1_ := qaM (hbox); have n2_ := qaM ((by rw [hg]; exact (qbS zz7_5) : w.heap.size ≤ gb342)); have n3_ := qaM ((by rw [hg]; exact (qbS zz7_5) : w.heap.size ≤ gb342)); clear HB; have HB := n0_; have BK342 := n1_; have GW342 := n2_; have GE342 := n3_; clear n0_ n1_ n2_ n3_; clear hb hbox hg) | ((with_reducible refine gate_dst (N := 5) rfl ?_); refine box_event ?hg (N := 5) ?hd (cs := #[.bool false, .slice none 0 0]) (t := 25) ?hr ?_; (case hd => rfl); (case hg => rfl); (case hr => first | (go_simp; done) | (go_simp; rfl)); intro gb343 hg w28 hbox hb; have n0_ := qaM (qbB (g := gb342) (o := .cells #[.bool false, .slice none 0 0] 25 (0, 0)) zz7_1 hb); have n1_ := qaM (qbT zz7_11 hb); have n2_ := qaM (hbox); have n3_ := qaM ((by rw [hg]; exact (qbS zz7_11) : w.heap.size ≤ gb343)); have n4_ := qaM ((by rw [hg]; exact (qbS zz7_11) : w.heap.size ≤ gb343)); have n5_ := qaM ((by rw [hg]; exact qnL (qbL (g := gb342) (o := .cells #[.bool false, .slice none 0 0] 25 (0, 0)) zz7_1) : gb342 ≠ gb343)); have n6_ := qaM ((by rw [hg]; exact qnG (qbL (g := gb342) (o := .cells #[.bool false, .slice none 0 0] 25 (0, 0)) zz7_1) : gb343 ≠ gb342)); clear BK342; clear HB; have BK342 := n0_; have HB := n1_; have BK343 := n2_; have GW343 := n3_; have GE343 := n4_; have NB342_343 := n5_; have NB343_342 := n6_; clear n0_ n1_ n2_ n3_ n4_ n5_ n6_; clear hb hbox hg) | ((with_reducible refine gate_callee (f := 23) rfl ?_); refine goesL_ (some 18) rfl rfl Try.func23 zz7_14 rfl #[.int .i64 a0] rfl zz7_2 ?_; (with_reducible refine (spec_Two.calls k a0 t364 t365 _ A24.out).mono ?_); rintro e w29 ⟨v366, rfl, ho0, hb⟩; refine ⟨_, rfl, ?_⟩; have n0_ := qaM (qvL (qvM (ok' := fun k_ => (w.heap.size ≤ k_) ∧ k_ ≠ gb342 ∧ k_ ≠ gb343) ho0 (fun k_ hk_ => ⟨(Nat.le_trans (qbS zz7_0) hk_), (qfB (g := gb342) (o := .cells #[.bool false, .slice none 0 0] 25 (0, 0)) zz7_1 k_ hk_), (qfB (g := gb343) (o := .cells #[.bool false, .slice none 0 0] 25 (0, 0)) zz7_4 k_ hk_)⟩)) (qbS zz7_0)); have n1_ := qaM (qbB (g := gb342) (o := .cells #[.bool false, .slice none 0 0] 25 (0, 0)) zz7_1 hb); have n2_ := qaM (qbB (g := gb343) (o := .cells #[.bool false, .slice none 0 0] 25 (0, 0)) zz7_4 hb); have n3_ := qaM (qbT zz7_0 hb); clear BK342; clear BK343; clear HB; have HO367 := n0_; have BK342 := n1_; have BK343 := n2_; have HB := n3_; clear n0_ n1_ n2_ n3_; (try clear hb); (try clear hb2); (try clear hk); (try clear hi); (try clear ho0)) | ((with_reducible refine gate_callee (f := 17) rfl ?_); refine goesL_ (some 19) rfl rfl Try.func17 zz7_14 rfl #[.int .i64 1] rfl zz7_2 ?_; (with_reducible refine (spec_WideInt.calls k 1 t368 t369 _ A25.out).mono ?_); rintro e w30 ⟨v370, rfl, ho0, hb⟩; refine ⟨_, rfl, ?_⟩; have n0_ := qaM (qvB (by (with_reducible repeat (first | apply qvA | apply qvN | apply qvD)); exact HO367.out) hb); have n1_ := qaM (qvL (qvM (ok' := fun k_ => (w.heap.size ≤ k_) ∧ k_ ≠ gb342 ∧ k_ ≠ gb343) ho0 (fun k_ hk_ => ⟨(Nat.le_trans (qbS zz7_0) hk_), (qfB (g := gb342) (o := .cells #[.bool false, .slice none 0 0] 25 (0, 0)) zz7_1 k_ hk_), (qfB (g := gb343) (o := .cells #[.bool false, .slice none 0 0] 25 (0, 0)) zz7_4 k_ hk_)⟩)) (qbS zz7_0)); have n2_ := qaM (qbB (g := gb342) (o := .cells #[.bool false, .slice none 0 0] 25 (0, 0)) zz7_1 hb); have n3_ := qaM (qbB (g := gb343) (o := .cells #[.bool false, .slice none 0 0] 25 (0, 0)) zz7_4 hb); have n4_ := qaM (qbT zz7_0 hb); clear HO367; clear BK342; clear BK343; clear HB; have HO367 := n0_; have HO371 := n1_; have BK342 := n2_; have BK343 := n3_; have HB := n4_; clear n0_ n1_ n2_ n3_ n4_; (try clear hb); (try clear hb2); (try clear hk); (try clear hi); (try clear ho0); obtain ⟨Ao31, co31, eo31⟩ := Kd.V_slice HO367.out; subst eo31; obtain ⟨Ao32, co32, eo32⟩ := Kd.V_slice HO371.out; subst eo32) | ((with_reducible refine gate_callee (f := 25) rfl ?_); refine goesL_ (some 20) rfl rfl Try.func25 zz7_14 rfl #[.agg #[.bool t364, .slice Ao31 t365.length co31], .agg #[.bool t368, .slice Ao32 t369.length co32]] rfl zz7_2 ?_; (with_reducible refine (spec_WideSub.calls k t364 _ _ t365 t368 (fun k_ => ((w.heap.size ≤ k_) ∧ (k_ ≠ gb342 ∧ k_ ≠ gb343))) _ _ t369 t372 t373 _ ?side1 ?side2 ?side3 A26.out).mono ?_); (case side1 => repeat (first | exact (qvR HO367.out).2.2 | (with_reducible refine Kd.C_alloc ?_ _) | (with_reducible refine Kd.C_drewN ?_ _) | (with_reducible refine Kd.C_drew ?_))); (case side2 => exact (qvR HO367.out).2.1); (case side3 => exact HO371.out); rintro e w33 ⟨v374, rfl, ho0, hb⟩; refine ⟨_, rfl, ?_⟩; have n0_ := qaM (qvB (by (with_reducible repeat (first | apply qvA | apply qvN | apply qvD)); exact HO367.out) hb); have n1_ := qaM (qvB (by (with_reducible repeat (first | apply qvA | apply qvN | apply qvD)); exact HO371.out) hb); have n2_ := qaM (qvL (qvM (ok' := fun k_ => (w.heap.size ≤ k_) ∧ k_ ≠ gb342 ∧ k_ ≠ gb343) ho0 (fun k_ hk_ => ⟨Or.elim hk_ (fun hs_ => hs_.1) (fun hn_ => (Nat.le_trans (qbS zz7_0) hn_)), Or.elim hk_ (fun hs_ => hs_.2.1) (fun hn_ => (qfB (g := gb342) (o := .cells #[.bool false, .slice none 0 0] 25 (0, 0)) zz7_1 k_ hn_)), Or.elim hk_ (fun hs_ => hs_.2.2) (fun hn_ => (qfB (g := gb343) (o := .cells #[.bool false, .slice none 0 0] 25 (0, 0)) zz7_4 k_ hn_))⟩)) (qbS zz7_0)); have n3_ := qaM (qbB (g := gb342) (o := .cells #[.bool false, .slice none 0 0] 25 (0, 0)) zz7_1 hb); have n4_ := qaM (qbB (g := gb343) (o := .cells #[.bool false, .slice none 0 0] 25 (0, 0)) zz7_4 hb); have n5_ := qaM (qbT zz7_0 hb); clear HO367; clear HO371; clear BK342; clear BK343; clear HB; have HO367 := n0_; have HO371 := n1_; have HO375 := n2_; have BK342 := n3_; have BK343 := n4_; have HB := n5_; clear n0_ n1_ n2_ n3_ n4_ n5_; (try clear hb); (try clear hb2); (try clear hk); (try clear hi); (try clear ho0); have hnb34 := NB342_343.out; have hnc34 := NB343_342.out; have hcz35_0 : w33.cell? ⟨gb342, 0, none⟩ = some (.bool false) := (qbC BK342.out 0).trans rfl; have hcz35_1 : w33.cell? ⟨gb342, 1, none⟩ = some (.slice none 0 0) := (qbC BK342.out 1).trans rfl; have hfz35_0 := blk_frozen BK342.out 0; have hfz35_1 := blk_frozen BK342.out 1; have hcz36_0 : w33.cell? ⟨gb343, 0, none⟩ = some (.bool false) := (qbC BK343.out 0).trans rfl; have hcz36_1 : w33.cell? ⟨gb343, 1, none⟩ = some (.slice none 0 0) := (qbC BK343.out 1).trans rfl; have hfz36_0 := blk_frozen BK343.out 0; have hfz36_1 := blk_frozen BK343.out 1; obtain ⟨Ao37, co37, eo37⟩ := Kd.V_slice HO375.out; subst eo37))
  refine bodyPost_ret (results_cc rfl _ _ gb342 gb343 25 25 #[.bool false, .slice none 0 0] #[.bool t372, .slice Ao37 t373.length co37] (0, 0) (0, 0) _ _ rfl (by (with_reducible repeat (first | refine qbN ?_ _ | refine qbD ?_ | refine qbA ?_ _)); refine qbF ?_ NB342_343.out _; (with_reducible repeat (first | refine qbN ?_ _ | refine qbD ?_ | refine qbA ?_ _)); refine qbF ?_ NB342_343.out _; (with_reducible repeat (first | refine qbN ?_ _ | refine qbD ?_ | refine qbA ?_ _)); refine qbP (cs := #[.bool false, .slice none 0 0]) ?_ 1 _ rfl; (with_reducible repeat (first | refine qbN ?_ _ | refine qbD ?_ | refine qbA ?_ _)); refine qbP (cs := #[.bool false, .slice none 0 0]) ?_ 0 _ rfl; (with_reducible repeat (first | refine qbN ?_ _ | refine qbD ?_ | refine qbA ?_ _)); exact BK342.out) Try.underlying25 rfl zz7_14 rfl (by (with_reducible repeat (first | refine qbN ?_ _ | refine qbD ?_ | refine qbA ?_ _)); refine qbP (cs := #[.bool t372, .slice none 0 0]) ?_ 1 _ rfl; (with_reducible repeat (first | refine qbN ?_ _ | refine qbD ?_ | refine qbA ?_ _)); refine qbP (cs := #[.bool false, .slice none 0 0]) ?_ 0 _ rfl; (with_reducible repeat (first | refine qbN ?_ _ | refine qbD ?_ | refine qbA ?_ _)); refine qbF ?_ NB343_342.out _; (with_reducible repeat (first | refine qbN ?_ _ | refine qbD ?_ | refine qbA ?_ _)); refine qbF ?_ NB343_342.out _; (with_reducible repeat (first | refine qbN ?_ _ | refine qbD ?_ | refine qbA ?_ _)); exact BK343.out) Try.underlying25 rfl zz7_14) rfl ?_
  exact ⟨_, _, by first | rfl | (simp [errW_none, errW_some] <;> rfl) | (simp [*, errW_none, errW_some] <;> rfl), Kd.V_nil _ _ _ _ _, by (with_reducible repeat (first | apply qvA | apply qvN | apply qvD)); exact qvM (qvF (p := ⟨gb343, 1, none⟩) (qvF (p := ⟨gb343, 0, none⟩) (qvF (p := ⟨gb342, 1, none⟩) (qvF (p := ⟨gb342, 0, none⟩) (qvM (qvM HO375.out (fun k_ hk => (⟨hk, hk.2.1⟩ : _ ∧ k_ ≠ gb342))) (fun k_ hk => (⟨hk, hk.1.2.2⟩ : _ ∧ k_ ≠ gb343))) (fun _ hk => hk.1.2) (.bool false)) (fun _ hk => hk.1.2) (.slice none 0 0)) (fun _ hk => hk.2) (.bool t372)) (fun _ hk => hk.2) (.slice Ao37 t373.length co37)) (fun _ hk => hk.1.1.1), by repeat (first | (with_reducible first | exact HB.out | apply qwA | apply qwN | apply qwD | refine qwS ?_ GE342.out | refine qwS ?_ GE343.out) | exact HB.out)⟩

/-! ### laws_fitted: function 10 -/
def laws_fitted.f (k : Nat) (a0_0 : Bool) (l0_1 : List Int) (a1_0 : Bool) (l1_1 : List Int) (a2_0 : Bool) (l2_1 : List Int) : Option (Int × Bool) := (spec_ToWords.f k a0_0 l0_1 1).bind fun bt379 => (if 0 < (bt379.1.length : Int) then ((spec_WideCmp.f k a0_0 l0_1 a1_0 l1_1).bind fun t384 => (if t384 ≥ 0 then ((spec_WideCmp.f k a0_0 l0_1 a2_0 l2_1).bind fun t385 => (some (rd bt379.1 0, decide (t385 ≤ 0)))) else (some (rd bt379.1 0, false)))) else (none))
theorem laws_fitted.mono : ∀ a0 a1 a2 a3 a4 a5 k, LeO (laws_fitted.f k a0 a1 a2 a3 a4 a5) (laws_fitted.f (k + 1) a0 a1 a2 a3 a4 a5) := by
 intro a0 a1 a2 a3 a4 a5 k
 unfold laws_fitted.f
 repeat' first
   | (with_reducible exact spec_ToWords.mono _ _ _ _)
   | (with_reducible exact spec_WideCmp.mono _ _ _ _ _)
   | (with_reducible exact LeO.refl _)
   | (with_reducible exact LeO.none _)
   | (with_reducible refine LeO.ite ?_ ?_)
   | (with_reducible refine LeO.bind ?_ (fun _ => ?_))
   | exact spec_ToWords.mono _ _ _ _
   | exact spec_WideCmp.mono _ _ _ _ _
   | exact LeO.none _
   | refine LeO.ite ?_ ?_
   | refine LeO.bind ?_ (fun _ => ?_)
def laws_fitted.T2 : Bool × List (List Nat × List Nat) := (true, [([], []), ([0], [0]), ([1], [1]), ([], []), ([], []), ([3, 4], [3, 4]), ([5], [5]), ([6, 5], [6]), ([7], [7]), ([7], [7]), ([8, 9, 7, 7], [7, 8, 9]), ([10, 7], [7, 10]), ([7, 11], [7, 11]), ([2, 10, 0, 1, 2], [2]), ([12, 13, 0, 1, 2, 3, 4, 5, 6, 7, 8, 9, 10, 11, 12, 13], [12])])
def laws_fitted.B2 : List Nat := [0, 1, 3, 0, 0, 24, 56, 120, 248, 248, 1016, 2040, 4088, 2047, 16383]
theorem laws_fitted.tab2 : rtab .any (opsOf Try.f10 2) = laws_fitted.T2 := by kernel_rfl
theorem laws_fitted.bits2 : waitsOk laws_fitted.T2.2 laws_fitted.B2 = true := by kernel_rfl
set_option maxHeartbeats 8000000 in
set_option maxRecDepth 100000 in
theorem laws_fitted.calls (k : Nat) (a0_0 : Bool) (A0_1 : Option Addr) (c0_1 : Nat) (l0_1 : List Int) (a1_0 : Bool) (A1_1 : Option Addr) (c1_1 : Nat) (l1_1 : List Int) (a2_0 : Bool) (A2_1 : Option Addr) (c2_1 : Nat) (l2_1 : List Int) (r1 : Int) (r2 : Bool) (w : World) (hr0_1 : Kd.C (Kd.int .u32) w A0_1 l0_1.length l0_1) (hc0_1 : l0_1.length ≤ c0_1) (hr1_1 : Kd.C (Kd.int .u32) w A1_1 l1_1.length l1_1) (hc1_1 : l1_1.length ≤ c1_1) (hr2_1 : Kd.C (Kd.int .u32) w A2_1 l2_1.length l2_1) (hc2_1 : l2_1.length ≤ c2_1) (h : laws_fitted.f k a0_0 l0_1 a1_0 l1_1 a2_0 l2_1 = some (r1, r2)) :
  Calls Try.prog 10 #[.agg #[.bool a0_0, .slice A0_1 l0_1.length c0_1], .agg #[.bool a1_0, .slice A1_1 l1_1.length c1_1], .agg #[.bool a2_0, .slice A2_1 l2_1.length c2_1]] w fun e w' => e = .returned (.tuple #[.int .u64 r1, .bool r2]) ∧ Below w.heap.size w w' := by
 have hu25 := Try.underlying25
 have HR0_1 := qaM hr0_1
 have HC0_1 := qaM hc0_1
 clear hr0_1 hc0_1
 have HR1_1 := qaM hr1_1
 have HC1_1 := qaM hc1_1
 clear hr1_1 hc1_1
 have HR2_1 := qaM hr2_1
 have HC2_1 := qaM hc2_1
 clear hr2_1 hc2_1
 have HB := qaM (Below.refl w.heap.size w)
 have H : ((spec_ToWords.f k a0_0 l0_1 1).bind fun bt379 => (if 0 < (bt379.1.length : Int) then ((spec_WideCmp.f k a0_0 l0_1 a1_0 l1_1).bind fun t384 => (if t384 ≥ 0 then ((spec_WideCmp.f k a0_0 l0_1 a2_0 l2_1).bind fun t385 => (some (rd bt379.1 0, decide (t385 ≤ 0)))) else (some (rd bt379.1 0, false)))) else (none))) = some (r1, r2) := h
 clear h
 replace H := Option.bind_eq_some_iff.mp H
 obtain ⟨⟨t379, t382⟩, A40, H⟩ := H
 replace H : (if 0 < (t379.length : Int) then ((spec_WideCmp.f k a0_0 l0_1 a1_0 l1_1).bind fun t384 => (if t384 ≥ 0 then ((spec_WideCmp.f k a0_0 l0_1 a2_0 l2_1).bind fun t385 => (some (rd t379 0, decide (t385 ≤ 0)))) else (some (rd t379 0, false)))) else (none)) = some (r1, r2) := H
 have A4 := qaM A40
 clear A40
 by_cases c5 : 0 < (t379.length : Int)
 ·rw [if_pos c5] at H
  have c5b0 : decide (0 < (t379.length : Int)) = true := decide_eq_true c5
  have c5b1 : decide (0 < t379.length) = true := decide_eq_true (by omega)
  clear c5
  replace H := Option.bind_eq_some_iff.mp H
  obtain ⟨t384, A60, H⟩ := H
  replace H : (if t384 ≥ 0 then ((spec_WideCmp.f k a0_0 l0_1 a2_0 l2_1).bind fun t385 => (some (rd t379 0, decide (t385 ≤ 0)))) else (some (rd t379 0, false))) = some (r1, r2) := H
  have A6 := qaM A60
  clear A60
  by_cases c7 : t384 ≥ 0
  ·rw [if_pos c7] at H
   have c7b0 : decide (0 ≤ t384) = true := decide_eq_true c7
   clear c7
   replace H := Option.bind_eq_some_iff.mp H
   obtain ⟨t385, A80, H⟩ := H
   replace H : (some (rd t379 0, decide (t385 ≤ 0))) = some (r1, r2) := H
   have A8 := qaM A80
   clear A80
   simp only [Option.some.injEq, Prod.mk.injEq] at H
   obtain ⟨rfl, rfl⟩ := H
   go_enter Try.func10, Try.ntmps10
   try go_wp2_with (first | ((with_reducible refine gate_dst (N := 3) rfl ?_); refine box_event ?hg (N := 3) ?hd (cs := #[.bool a0_0, .slice A0_1 l0_1.length c0_1]) (t := 25) ?hr ?_; (case hd => rfl); (case hg => rfl); (case hr => first | (go_simp; done) | (go_simp; rfl)); intro gb376 hg w9 hbox hb; have n0_ := qaM (qbT zz7_5 hb); have n1_ := qaM (hbox); have n2_ := qaM ((by rw [hg]; exact (qbS zz7_5) : w.heap.size ≤ gb376)); have n3_ := qaM ((by rw [hg]; exact (qbS zz7_5) : w.heap.size ≤ gb376)); clear HB; have HB := n0_; have BK376 := n1_; have GW376 := n2_; have GE376 := n3_; clear n0_ n1_ n2_ n3_; clear hb hbox hg) | ((with_reducible refine gate_dst (N := 4) rfl ?_); refine box_event ?hg (N := 4) ?hd (cs := #[.bool a1_0, .slice A1_1 l1_1.length c1_1]) (t := 25) ?hr ?_; (case hd => rfl); (case hg => rfl); (case hr => first | (go_simp; done) | (go_simp; rfl)); intro gb377 hg w10 hbox hb; have n0_ := qaM (qbB (g := gb376) (o := .cells #[.bool a0_0, .slice A0_1 l0_1.length c0_1] 25 (0, 0)) zz7_3 hb); have n1_ := qaM (qbT zz7_12 hb); have n2_ := qaM (hbox); have n3_ := qaM ((by rw [hg]; exact (qbS zz7_12) : w.heap.size ≤ gb377)); have n4_ := qaM ((by rw [hg]; exact (qbS zz7_12) : w.heap.size ≤ gb377)); have n5_ := qaM ((by rw [hg]; exact qnL (qbL (g := gb376) (o := .cells #[.bool a0_0, .slice A0_1 l0_1.length c0_1] 25 (0, 0)) zz7_3) : gb376 ≠ gb377)); have n6_ := qaM ((by rw [hg]; exact qnG (qbL (g := gb376) (o := .cells #[.bool a0_0, .slice A0_1 l0_1.length c0_1] 25 (0, 0)) zz7_3) : gb377 ≠ gb376)); clear BK376; clear HB; have BK376 := n0_; have HB := n1_; have BK377 := n2_; have GW377 := n3_; have GE377 := n4_; have NB376_377 := n5_; have NB377_376 := n6_; clear n0_ n1_ n2_ n3_ n4_ n5_ n6_; clear hb hbox hg) | ((with_reducible refine gate_dst (N := 5) rfl ?_); refine box_event ?hg (N := 5) ?hd (cs := #[.bool a2_0, .slice A2_1 l2_1.length c2_1]) (t := 25) ?hr ?_; (case hd => rfl); (case hg => rfl); (case hr => first | (go_simp; done) | (go_simp; rfl)); intro gb378 hg w11 hbox hb; have n0_ := qaM (qbB (g := gb376) (o := .cells #[.bool a0_0, .slice A0_1 l0_1.length c0_1] 25 (0, 0)) zz7_3 hb); have n1_ := qaM (qbB (g := gb377) (o := .cells #[.bool a1_0, .slice A1_1 l1_1.length c1_1] 25 (0, 0)) zz7_7 hb); have n2_ := qaM (qbT zz7_10 hb); have n3_ := qaM (hbox); have n4_ := qaM ((by rw [hg]; exact (qbS zz7_10) : w.heap.size ≤ gb378)); have n5_ := qaM ((by rw [hg]; exact (qbS zz7_10) : w.heap.size ≤ gb378)); have n6_ := qaM ((by rw [hg]; exact qnL (qbL (g := gb376) (o := .cells #[.bool a0_0, .slice A0_1 l0_1.length c0_1] 25 (0, 0)) zz7_3) : gb376 ≠ gb378)); have n7_ := qaM ((by rw [hg]; exact qnG (qbL (g := gb376) (o := .cells #[.bool a0_0, .slice A0_1 l0_1.length c0_1] 25 (0, 0)) zz7_3) : gb378 ≠ gb376)); have n8_ := qaM ((by rw [hg]; exact qnL (qbL (g := gb377) (o := .cells #[.bool a1_0, .slice A1_1 l1_1.length c1_1] 25 (0, 0)) zz7_7) : gb377 ≠ gb378)); have n9_ := qaM ((by rw [hg]; exact qnG (qbL (g := gb377) (o := .cells #[.bool a1_0, .slice A1_1 l1_1.length c1_1] 25 (0, 0)) zz7_7) : gb378 ≠ gb377)); clear BK376; clear BK377; clear HB; have BK376 := n0_; have BK377 := n1_; have HB := n2_; have BK378 := n3_; have GW378 := n4_; have GE378 := n5_; have NB376_378 := n6_; have NB378_376 := n7_; have NB377_378 := n8_; have NB378_377 := n9_; clear n0_ n1_ n2_ n3_ n4_ n5_ n6_ n7_ n8_ n9_; clear hb hbox hg; have hnb12 := NB376_377.out; have hnc12 := NB377_376.out; have hnb13 := NB376_378.out; have hnc13 := NB378_376.out; have hcz14_0 : w11.cell? ⟨gb376, 0, none⟩ = some (.bool a0_0) := (qbC BK376.out 0).trans rfl; have hcz14_1 : w11.cell? ⟨gb376, 1, none⟩ = some (.slice A0_1 l0_1.length c0_1) := (qbC BK376.out 1).trans rfl; have hfz14_0 := blk_frozen BK376.out 0; have hfz14_1 := blk_frozen BK376.out 1) | ((with_reducible refine gate_callee (f := 15) rfl ?_); refine goesL_ (some 12) rfl rfl Try.func15 zz7_14 rfl #[.agg #[.bool a0_0, .slice A0_1 l0_1.length c0_1], .int .i64 1] rfl zz7_2 ?_; (with_reducible refine (spec_ToWords.calls k a0_0 (fun k_ => k_ < w.heap.size) _ _ l0_1 1 t379 t382 _ ?side1 A4.out).mono ?_); (case side1 => exact Kd.V_mk HC0_1.out (Kd.F_below (Kd.C_F (Kd.heap_int .u32) HR0_1.out) zz7_6)); rintro e w15 ⟨v380, rfl, ho0, hb⟩; refine ⟨_, rfl, ?_⟩; have n0_ := qaM (Kd.R_lower (qrM (ok' := fun k_ => True) ho0 (fun _ hk_ => trivial)) (qbS zz7_6)); have n1_ := qaM (qbB (g := gb376) (o := .cells #[.bool a0_0, .slice A0_1 l0_1.length c0_1] 25 (0, 0)) zz7_3 hb); have n2_ := qaM (qbB (g := gb377) (o := .cells #[.bool a1_0, .slice A1_1 l1_1.length c1_1] 25 (0, 0)) zz7_7 hb); have n3_ := qaM (qbB (g := gb378) (o := .cells #[.bool a2_0, .slice A2_1 l2_1.length c2_1] 25 (0, 0)) zz7_15 hb); have n4_ := qaM (qbT zz7_6 hb); clear BK376; clear BK377; clear BK378; clear HB; have HO381 := n0_; have BK376 := n1_; have BK377 := n2_; have BK378 := n3_; have HB := n4_; clear n0_ n1_ n2_ n3_ n4_; (try clear hb); (try clear hb2); (try clear hk); (try clear hi); (try clear ho0)))
   have n0_ := qaM (qrD HO381.out)
   have n1_ := qaM (qbD BK376.out)
   have n2_ := qaM (qbD BK377.out)
   have n3_ := qaM (qbD BK378.out)
   have n4_ := qaM (qwD HB.out)
   clear HO381
   clear BK376
   clear BK377
   clear BK378
   clear HB
   have HO381 := n0_
   have BK376 := n1_
   have BK377 := n2_
   have BK378 := n3_
   have HB := n4_
   clear n0_ n1_ n2_ n3_ n4_
   obtain ⟨Ao17, co17, eo17⟩ := Kd.R_slice HO381.out
   (first | subst eo17 | (injection eo17 with f1_ f2_ f3_; have f4_ := f1_.symm; have f5_ := f3_.symm; clear f1_ f2_ f3_; subst f4_; subst f5_))
   have p383 : 0 ≤ (0 : Int) := (by omega)
   have q383 : 0 < (t379.length : Int) := qoD (by first | (with_reducible assumption) | assumption)
   obtain ⟨ad383, e383, hx383_0⟩ := Kd.at_int (qrR HO381.out).2.2 0 p383 q383
   cases e383
   have qi383 : (0 < t379.length) = True := eq_true (by omega)
   (try rw [show ((0 : Int)).toNat = 0 from rfl] at hx383_0)
   (try rw [Addr.add_zero'] at hx383_0)
   replace p383 := eq_true p383
   replace q383 := eq_true q383
   refine start_ (n := 15) (S := fun w' => w'.cell? ⟨gb376, 0, none⟩ = some (.bool a0_0) ∧ w'.cell? ⟨gb376, 1, none⟩ = some (.slice A0_1 l0_1.length c0_1) ∧ w'.cell? ⟨gb377, 0, none⟩ = some (.bool a1_0) ∧ w'.cell? ⟨gb377, 1, none⟩ = some (.slice A1_1 l1_1.length c1_1) ∧ w'.cell? ⟨gb378, 0, none⟩ = some (.bool a2_0) ∧ w'.cell? ⟨gb378, 1, none⟩ = some (.slice A2_1 l2_1.length c2_1) ∧ w'.cell? ad383 = some (.int .u64 (rd t379 0))) (ds := []) #[false, false, false, false, false, false, false, false, false, false, false, false, false, false, false] zz7_14 rfl rfl ⟨(qbC BK376.out 0).trans rfl, (qbC BK376.out 1).trans rfl, (qbC BK377.out 0).trans rfl, (qbC BK377.out 1).trans rfl, (qbC BK378.out 0).trans rfl, (qbC BK378.out 1).trans rfl, hx383_0⟩ (fun hHeld => ?_); refine with_tabW laws_fitted.tab2 laws_fitted.bits2 (fun HT_ HW_ => ?_)
   generalize w15.drew = w16 at HO381 BK376 BK377 BK378 HB hx383_0 hHeld ⊢
   refine pure_ (i := 0) (N := some 15) (v := ?_) (a' := ?_) #[true, false, false, false, false, false, false, false, false, false, false, false, false, false, false] rfl rfl (any_of HT_.out zz7_14) (fun _ _ _ h => h) (Or.inl ⟨by rfl, ?_⟩) ?_ ?_
   rotate_left
   ·intro w'
    go_simp
    with_reducible rfl
   rotate_left
   ·simp only [Act.put, qsA, qsZ, qsS, i64_w, i32_w]
    rfl
   refine pure_ (i := 1) (N := some 16) (v := ?_) (a' := ?_) #[true, true, false, false, false, false, false, false, false, false, false, false, false, false, false] rfl rfl (any_of HT_.out zz7_14) (fun _ _ _ h => h) (Or.inl ⟨by rfl, ?_⟩) ?_ ?_
   rotate_left
   ·intro w'
    go_simp
    with_reducible rfl
   rotate_left
   ·simp only [Act.put, qsA, qsZ, qsS, i64_w, i32_w]
    rfl
   refine take_ (i := 2) (N := some 17) (v := ?_) (a' := ?_) #[true, true, true, false, false, false, false, false, false, false, false, false, false, false, false] rfl rfl (take_ofW HT_.out HW_.out zz7_14) (fun _ _ _ h => h) (Or.inl ⟨by rfl, ?_⟩) hHeld ?_ ?_
   rotate_left
   ·rintro w' ⟨s0, s1, s2, s3, s4, s5, s6⟩
    go_simp
    with_reducible rfl
   rotate_left
   ·simp only [Act.put, qsA, qsZ, qsS, i64_w, i32_w]
    rfl
   refine take_ (i := 3) (N := some 18) (v := ?_) (a' := ?_) #[true, true, true, true, false, false, false, false, false, false, false, false, false, false, false] rfl rfl (take_ofW HT_.out HW_.out zz7_14) (fun _ _ _ h => h) (Or.inl ⟨by rfl, ?_⟩) hHeld ?_ ?_
   rotate_left
   ·rintro w' ⟨s0, s1, s2, s3, s4, s5, s6⟩
    go_simp
    with_reducible rfl
   rotate_left
   ·simp only [Act.put, qsA, qsZ, qsS, i64_w, i32_w]
    rfl
   refine take_ (i := 4) (N := some 19) (v := ?_) (a' := ?_) #[true, true, true, true, true, false, false, false, false, false, false, false, false, false, false] rfl rfl (take_ofW HT_.out HW_.out zz7_14) (fun _ _ _ h => h) (Or.inl ⟨by rfl, ?_⟩) hHeld ?_ ?_
   rotate_left
   ·rintro w' ⟨s0, s1, s2, s3, s4, s5, s6⟩
    go_simp
    with_reducible rfl
   rotate_left
   ·simp only [Act.put, qsA, qsZ, qsS, i64_w, i32_w]
    rfl
   refine one_ (i := 5) (N := some 20) #[true, true, true, true, true, true, false, false, false, false, false, false, false, false, false] rfl rfl (one_of HT_.out zz7_14) (by decide) (fun K hK => ?_)
   refine goes_ Try.func26 zz7_14 rfl #[.agg #[.bool a0_0, .slice A0_1 l0_1.length c0_1], .agg #[.bool a1_0, .slice A1_1 l1_1.length c1_1]] (by rfl) rfl rfl zz7_2 ?_
   with_reducible refine (spec_WideCmp.calls k a0_0 _ _ l0_1 a1_0 _ _ l1_1 t384 _ ?side1 ?side2 ?side3 ?side4 A6.out).mono ?_
   (case side1 => repeat (first | exact (Kd.C_below HR0_1.out HB.out) | (with_reducible refine Kd.C_alloc ?_ _) | (with_reducible refine Kd.C_drewN ?_ _) | (with_reducible refine Kd.C_drew ?_)))
   (case side2 => exact HC0_1.out)
   (case side3 => repeat (first | exact (Kd.C_below HR1_1.out HB.out) | (with_reducible refine Kd.C_alloc ?_ _) | (with_reducible refine Kd.C_drewN ?_ _) | (with_reducible refine Kd.C_drew ?_)))
   (case side4 => exact HC1_1.out)
   rintro e w18 ⟨rfl, hb⟩
   have HS6_ := (hb.cell (World.block_lt_of_cell? _ _ (hHeld.2.2.2.2.2.2))).trans (hHeld.2.2.2.2.2.2)
   refine ⟨_, rfl, ?_⟩
   have n0_ := qaM (qrB zz7_22 hb)
   have n1_ := qaM (qbB (g := gb376) (o := .cells #[.bool a0_0, .slice A0_1 l0_1.length c0_1] 25 (0, 0)) zz7_3 hb)
   have n2_ := qaM (qbB (g := gb377) (o := .cells #[.bool a1_0, .slice A1_1 l1_1.length c1_1] 25 (0, 0)) zz7_7 hb)
   have n3_ := qaM (qbB (g := gb378) (o := .cells #[.bool a2_0, .slice A2_1 l2_1.length c2_1] 25 (0, 0)) zz7_15 hb)
   have n4_ := qaM (qbT zz7_6 hb)
   clear HO381
   clear BK376
   clear BK377
   clear BK378
   clear HB
   have HO381 := n0_
   have BK376 := n1_
   have BK377 := n2_
   have BK378 := n3_
   have HB := n4_
   clear n0_ n1_ n2_ n3_ n4_
   (try clear hb)
   (try clear hb2)
   (try clear hk)
   (try clear hi)
   refine hK.out _ _ ⟨(qbC BK376.out 0).trans rfl, (qbC BK376.out 1).trans rfl, (qbC BK377.out 0).trans rfl, (qbC BK377.out 1).trans rfl, (qbC BK378.out 0).trans rfl, (qbC BK378.out 1).trans rfl, HS6_⟩ (fun hHeld => ?_)
   clear hK K
   refine norm_ (a' := ?_) ?_ ?_
   rotate_left
   ·show Act.put _ (some 20) _ = _
    simp only [Act.put, qsA, qsZ, qsS, i64_w, i32_w]
    rfl
   refine pure_ (i := 6) (N := some 21) (v := ?_) (a' := ?_) #[true, true, true, true, true, true, true, false, false, false, false, false, false, false, false] rfl rfl (any_of HT_.out zz7_14) (fun _ _ _ h => h) (Or.inl ⟨by rfl, ?_⟩) ?_ ?_
   rotate_left
   ·intro w'
    go_simp
    with_reducible rfl
   rotate_left
   ·simp only [Act.put, qsA, qsZ, qsS, i64_w, i32_w]
    rfl
   refine pure_ (i := 7) (N := some 22) (v := ?_) (a' := ?_) #[true, true, true, true, true, true, true, true, false, false, false, false, false, false, false] rfl rfl (any_of HT_.out zz7_14) (fun _ _ _ h => h) (Or.inl ⟨by rfl, ?_⟩) ?_ ?_
   rotate_left
   ·intro w'
    go_simp
    with_reducible rfl
   rotate_left
   ·simp only [Act.put, qsA, qsZ, qsS, i64_w, i32_w]
    rfl
   refine take_ (i := 8) (N := some 23) (v := ?_) (a' := ?_) #[true, true, true, true, true, true, true, true, true, false, false, false, false, false, false] rfl rfl (take_ofW HT_.out HW_.out zz7_14) (fun _ _ _ h => h) (Or.inl ⟨by rfl, ?_⟩) hHeld ?_ ?_
   rotate_left
   ·rintro w' ⟨s0, s1, s2, s3, s4, s5, s6⟩
    go_simp
    with_reducible rfl
   rotate_left
   ·simp only [Act.put, qsA, qsZ, qsS, i64_w, i32_w]
    rfl
   refine take_ (i := 9) (N := some 24) (v := ?_) (a' := ?_) #[true, true, true, true, true, true, true, true, true, true, false, false, false, false, false] rfl rfl (take_ofW HT_.out HW_.out zz7_14) (fun _ _ _ h => h) (Or.inl ⟨by rfl, ?_⟩) hHeld ?_ ?_
   rotate_left
   ·rintro w' ⟨s0, s1, s2, s3, s4, s5, s6⟩
    go_simp
    with_reducible rfl
   rotate_left
   ·simp only [Act.put, qsA, qsZ, qsS, i64_w, i32_w]
    rfl
   refine one_ (i := 10) (N := some 25) #[true, true, true, true, true, true, true, true, true, true, true, false, false, false, false] rfl rfl (one_of HT_.out zz7_14) (by decide) (fun K hK => ?_)
   refine goes_ Try.func26 zz7_14 rfl #[.agg #[.bool a0_0, .slice A0_1 l0_1.length c0_1], .agg #[.bool a2_0, .slice A2_1 l2_1.length c2_1]] (by rfl) rfl rfl zz7_2 ?_
   with_reducible refine (spec_WideCmp.calls k a0_0 _ _ l0_1 a2_0 _ _ l2_1 t385 _ ?side1 ?side2 ?side3 ?side4 A8.out).mono ?_
   (case side1 => repeat (first | exact (Kd.C_below HR0_1.out HB.out) | (with_reducible refine Kd.C_alloc ?_ _) | (with_reducible refine Kd.C_drewN ?_ _) | (with_reducible refine Kd.C_drew ?_)))
   (case side2 => exact HC0_1.out)
   (case side3 => repeat (first | exact (Kd.C_below HR2_1.out HB.out) | (with_reducible refine Kd.C_alloc ?_ _) | (with_reducible refine Kd.C_drewN ?_ _) | (with_reducible refine Kd.C_drew ?_)))
   (case side4 => exact HC2_1.out)
   rintro e w19 ⟨rfl, hb⟩
   have HS6_ := (hb.cell (World.block_lt_of_cell? _ _ (hHeld.2.2.2.2.2.2))).trans (hHeld.2.2.2.2.2.2)
   refine ⟨_, rfl, ?_⟩
   have n0_ := qaM (qrB zz7_22 hb)
   have n1_ := qaM (qbB (g := gb376) (o := .cells #[.bool a0_0, .slice A0_1 l0_1.length c0_1] 25 (0, 0)) zz7_3 hb)
   have n2_ := qaM (qbB (g := gb377) (o := .cells #[.bool a1_0, .slice A1_1 l1_1.length c1_1] 25 (0, 0)) zz7_7 hb)
   have n3_ := qaM (qbB (g := gb378) (o := .cells #[.bool a2_0, .slice A2_1 l2_1.length c2_1] 25 (0, 0)) zz7_15 hb)
   have n4_ := qaM (qbT zz7_6 hb)
   clear HO381
   clear BK376
   clear BK377
   clear BK378
   clear HB
   have HO381 := n0_
   have BK376 := n1_
   have BK377 := n2_
   have BK378 := n3_
   have HB := n4_
   clear n0_ n1_ n2_ n3_ n4_
   (try clear hb)
   (try clear hb2)
   (try clear hk)
   (try clear hi)
   refine hK.out _ _ ⟨(qbC BK376.out 0).trans rfl, (qbC BK376.out 1).trans rfl, (qbC BK377.out 0).trans rfl, (qbC BK377.out 1).trans rfl, (qbC BK378.out 0).trans rfl, (qbC BK378.out 1).trans rfl, HS6_⟩ (fun hHeld => ?_)
   clear hK K
   refine norm_ (a' := ?_) ?_ ?_
   rotate_left
   ·show Act.put _ (some 25) _ = _
    simp only [Act.put, qsA, qsZ, qsS, i64_w, i32_w]
    rfl
   refine pure_ (i := 11) (N := some 26) (v := ?_) (a' := ?_) #[true, true, true, true, true, true, true, true, true, true, true, true, false, false, false] rfl rfl (any_of HT_.out zz7_14) (fun _ _ _ h => h) (Or.inl ⟨by rfl, ?_⟩) ?_ ?_
   rotate_left
   ·intro w'
    go_simp
    with_reducible rfl
   rotate_left
   ·simp only [Act.put, qsA, qsZ, qsS, i64_w, i32_w]
    rfl
   refine pure_ (i := 12) (N := some 27) (v := ?_) (a' := ?_) #[true, true, true, true, true, true, true, true, true, true, true, true, true, false, false] rfl rfl (any_of HT_.out zz7_14) (fun _ _ _ h => h) (Or.inl ⟨by rfl, ?_⟩) ?_ ?_
   rotate_left
   ·intro w'
    go_simp
    with_reducible rfl
   rotate_left
   ·simp only [Act.put, qsA, qsZ, qsS, i64_w, i32_w]
    rfl
   refine pure_ (i := 13) (N := some 6) (v := ?_) (a' := ?_) #[true, true, true, true, true, true, true, true, true, true, true, true, true, true, false] rfl rfl (any_of HT_.out zz7_14) (fun _ _ _ h => h) (Or.inl ⟨by rfl, ?_⟩) ?_ ?_
   rotate_left
   ·intro w'
    go_simp
    with_reducible rfl
   rotate_left
   ·simp only [Act.put, qsA, qsZ, qsS, i64_w, i32_w]
    rfl
   refine pure_ (i := 14) (N := some 7) (v := ?_) (a' := ?_) #[true, true, true, true, true, true, true, true, true, true, true, true, true, true, true] rfl rfl (any_of HT_.out zz7_14) (fun _ _ _ h => h) (Or.inl ⟨by rfl, ?_⟩) ?_ ?_
   rotate_left
   ·intro w'
    go_simp
    with_reducible rfl
   rotate_left
   ·simp only [Act.put, qsA, qsZ, qsS, i64_w, i32_w]
    rfl
   refine done_ (done_of HT_.out zz7_14) ?_
   try go_wp2
   go_ret2
   exact ⟨by first | rfl | (simp [errW_none, errW_some] <;> rfl) | (simp [*, errW_none, errW_some] <;> rfl), by repeat (first | (with_reducible first | exact HB.out | apply qwA | apply qwN | apply qwD | refine qwS ?_ GE376.out | refine qwS ?_ GE377.out | refine qwS ?_ GE378.out) | exact HB.out)⟩
  ·rw [if_neg c7] at H
   have c7b0 : decide (0 ≤ t384) = false := decide_eq_false c7
   clear c7
   simp only [Option.some.injEq, Prod.mk.injEq] at H
   obtain ⟨rfl, rfl⟩ := H
   go_enter Try.func10, Try.ntmps10
   try go_wp2_with (first | ((with_reducible refine gate_dst (N := 3) rfl ?_); refine box_event ?hg (N := 3) ?hd (cs := #[.bool a0_0, .slice A0_1 l0_1.length c0_1]) (t := 25) ?hr ?_; (case hd => rfl); (case hg => rfl); (case hr => first | (go_simp; done) | (go_simp; rfl)); intro gb376 hg w20 hbox hb; have n0_ := qaM (qbT zz7_5 hb); have n1_ := qaM (hbox); have n2_ := qaM ((by rw [hg]; exact (qbS zz7_5) : w.heap.size ≤ gb376)); have n3_ := qaM ((by rw [hg]; exact (qbS zz7_5) : w.heap.size ≤ gb376)); clear HB; have HB := n0_; have BK376 := n1_; have GW376 := n2_; have GE376 := n3_; clear n0_ n1_ n2_ n3_; clear hb hbox hg) | ((with_reducible refine gate_dst (N := 4) rfl ?_); refine box_event ?hg (N := 4) ?hd (cs := #[.bool a1_0, .slice A1_1 l1_1.length c1_1]) (t := 25) ?hr ?_; (case hd => rfl); (case hg => rfl); (case hr => first | (go_simp; done) | (go_simp; rfl)); intro gb377 hg w21 hbox hb; have n0_ := qaM (qbB (g := gb376) (o := .cells #[.bool a0_0, .slice A0_1 l0_1.length c0_1] 25 (0, 0)) zz7_3 hb); have n1_ := qaM (qbT zz7_12 hb); have n2_ := qaM (hbox); have n3_ := qaM ((by rw [hg]; exact (qbS zz7_12) : w.heap.size ≤ gb377)); have n4_ := qaM ((by rw [hg]; exact (qbS zz7_12) : w.heap.size ≤ gb377)); have n5_ := qaM ((by rw [hg]; exact qnL (qbL (g := gb376) (o := .cells #[.bool a0_0, .slice A0_1 l0_1.length c0_1] 25 (0, 0)) zz7_3) : gb376 ≠ gb377)); have n6_ := qaM ((by rw [hg]; exact qnG (qbL (g := gb376) (o := .cells #[.bool a0_0, .slice A0_1 l0_1.length c0_1] 25 (0, 0)) zz7_3) : gb377 ≠ gb376)); clear BK376; clear HB; have BK376 := n0_; have HB := n1_; have BK377 := n2_; have GW377 := n3_; have GE377 := n4_; have NB376_377 := n5_; have NB377_376 := n6_; clear n0_ n1_ n2_ n3_ n4_ n5_ n6_; clear hb hbox hg) | ((with_reducible refine gate_dst (N := 5) rfl ?_); refine box_event ?hg (N := 5) ?hd (cs := #[.bool a2_0, .slice A2_1 l2_1.length c2_1]) (t := 25) ?hr ?_; (case hd => rfl); (case hg => rfl); (case hr => first | (go_simp; done) | (go_simp; rfl)); intro gb378 hg w22 hbox hb; have n0_ := qaM (qbB (g := gb376) (o := .cells #[.bool a0_0, .slice A0_1 l0_1.length c0_1] 25 (0, 0)) zz7_3 hb); have n1_ := qaM (qbB (g := gb377) (o := .cells #[.bool a1_0, .slice A1_1 l1_1.length c1_1] 25 (0, 0)) zz7_7 hb); have n2_ := qaM (qbT zz7_10 hb); have n3_ := qaM (hbox); have n4_ := qaM ((by rw [hg]; exact (qbS zz7_10) : w.heap.size ≤ gb378)); have n5_ := qaM ((by rw [hg]; exact (qbS zz7_10) : w.heap.size ≤ gb378)); have n6_ := qaM ((by rw [hg]; exact qnL (qbL (g := gb376) (o := .cells #[.bool a0_0, .slice A0_1 l0_1.length c0_1] 25 (0, 0)) zz7_3) : gb376 ≠ gb378)); have n7_ := qaM ((by rw [hg]; exact qnG (qbL (g := gb376) (o := .cells #[.bool a0_0, .slice A0_1 l0_1.length c0_1] 25 (0, 0)) zz7_3) : gb378 ≠ gb376)); have n8_ := qaM ((by rw [hg]; exact qnL (qbL (g := gb377) (o := .cells #[.bool a1_0, .slice A1_1 l1_1.length c1_1] 25 (0, 0)) zz7_7) : gb377 ≠ gb378)); have n9_ := qaM ((by rw [hg]; exact qnG (qbL (g := gb377) (o := .cells #[.bool a1_0, .slice A1_1 l1_1.length c1_1] 25 (0, 0)) zz7_7) : gb378 ≠ gb377)); clear BK376; clear BK377; clear HB; have BK376 := n0_; have BK377 := n1_; have HB := n2_; have BK378 := n3_; have GW378 := n4_; have GE378 := n5_; have NB376_378 := n6_; have NB378_376 := n7_; have NB377_378 := n8_; have NB378_377 := n9_; clear n0_ n1_ n2_ n3_ n4_ n5_ n6_ n7_ n8_ n9_; clear hb hbox hg; have hnb23 := NB376_377.out; have hnc23 := NB377_376.out; have hnb24 := NB376_378.out; have hnc24 := NB378_376.out; have hcz25_0 : w22.cell? ⟨gb376, 0, none⟩ = some (.bool a0_0) := (qbC BK376.out 0).trans rfl; have hcz25_1 : w22.cell? ⟨gb376, 1, none⟩ = some (.slice A0_1 l0_1.length c0_1) := (qbC BK376.out 1).trans rfl; have hfz25_0 := blk_frozen BK376.out 0; have hfz25_1 := blk_frozen BK376.out 1) | ((with_reducible refine gate_callee (f := 15) rfl ?_); refine goesL_ (some 12) rfl rfl Try.func15 zz7_14 rfl #[.agg #[.bool a0_0, .slice A0_1 l0_1.length c0_1], .int .i64 1] rfl zz7_2 ?_; (with_reducible refine (spec_ToWords.calls k a0_0 (fun k_ => k_ < w.heap.size) _ _ l0_1 1 t379 t382 _ ?side1 A4.out).mono ?_); (case side1 => exact Kd.V_mk HC0_1.out (Kd.F_below (Kd.C_F (Kd.heap_int .u32) HR0_1.out) zz7_6)); rintro e w26 ⟨v380, rfl, ho0, hb⟩; refine ⟨_, rfl, ?_⟩; have n0_ := qaM (Kd.R_lower (qrM (ok' := fun k_ => True) ho0 (fun _ hk_ => trivial)) (qbS zz7_6)); have n1_ := qaM (qbB (g := gb376) (o := .cells #[.bool a0_0, .slice A0_1 l0_1.length c0_1] 25 (0, 0)) zz7_3 hb); have n2_ := qaM (qbB (g := gb377) (o := .cells #[.bool a1_0, .slice A1_1 l1_1.length c1_1] 25 (0, 0)) zz7_7 hb); have n3_ := qaM (qbB (g := gb378) (o := .cells #[.bool a2_0, .slice A2_1 l2_1.length c2_1] 25 (0, 0)) zz7_15 hb); have n4_ := qaM (qbT zz7_6 hb); clear BK376; clear BK377; clear BK378; clear HB; have HO381 := n0_; have BK376 := n1_; have BK377 := n2_; have BK378 := n3_; have HB := n4_; clear n0_ n1_ n2_ n3_ n4_; (try clear hb); (try clear hb2); (try clear hk); (try clear hi); (try clear ho0)))
   have n0_ := qaM (qrD HO381.out)
   have n1_ := qaM (qbD BK376.out)
   have n2_ := qaM (qbD BK377.out)
   have n3_ := qaM (qbD BK378.out)
   have n4_ := qaM (qwD HB.out)
   clear HO381
   clear BK376
   clear BK377
   clear BK378
   clear HB
   have HO381 := n0_
   have BK376 := n1_
   have BK377 := n2_
   have BK378 := n3_
   have HB := n4_
   clear n0_ n1_ n2_ n3_ n4_
   obtain ⟨Ao28, co28, eo28⟩ := Kd.R_slice HO381.out
   (first | subst eo28 | (injection eo28 with f1_ f2_ f3_; have f4_ := f1_.symm; have f5_ := f3_.symm; clear f1_ f2_ f3_; subst f4_; subst f5_))
   have p383 : 0 ≤ (0 : Int) := (by omega)
   have q383 : 0 < (t379.length : Int) := qoD (by first | (with_reducible assumption) | assumption)
   obtain ⟨ad383, e383, hx383_0⟩ := Kd.at_int (qrR HO381.out).2.2 0 p383 q383
   cases e383
   have qi383 : (0 < t379.length) = True := eq_true (by omega)
   (try rw [show ((0 : Int)).toNat = 0 from rfl] at hx383_0)
   (try rw [Addr.add_zero'] at hx383_0)
   replace p383 := eq_true p383
   replace q383 := eq_true q383
   refine start_ (n := 15) (S := fun w' => w'.cell? ⟨gb376, 0, none⟩ = some (.bool a0_0) ∧ w'.cell? ⟨gb376, 1, none⟩ = some (.slice A0_1 l0_1.length c0_1) ∧ w'.cell? ⟨gb377, 0, none⟩ = some (.bool a1_0) ∧ w'.cell? ⟨gb377, 1, none⟩ = some (.slice A1_1 l1_1.length c1_1) ∧ w'.cell? ad383 = some (.int .u64 (rd t379 0))) (ds := []) #[false, false, false, false, false, false, false, false, false, false, false, false, false, false, false] zz7_14 rfl rfl ⟨(qbC BK376.out 0).trans rfl, (qbC BK376.out 1).trans rfl, (qbC BK377.out 0).trans rfl, (qbC BK377.out 1).trans rfl, hx383_0⟩ (fun hHeld => ?_); refine with_tabW laws_fitted.tab2 laws_fitted.bits2 (fun HT_ HW_ => ?_)
   generalize w26.drew = w27 at HO381 BK376 BK377 BK378 HB hx383_0 hHeld ⊢
   refine pure_ (i := 0) (N := some 15) (v := ?_) (a' := ?_) #[true, false, false, false, false, false, false, false, false, false, false, false, false, false, false] rfl rfl (any_of HT_.out zz7_14) (fun _ _ _ h => h) (Or.inl ⟨by rfl, ?_⟩) ?_ ?_
   rotate_left
   ·intro w'
    go_simp
    with_reducible rfl
   rotate_left
   ·simp only [Act.put, qsA, qsZ, qsS, i64_w, i32_w]
    rfl
   refine pure_ (i := 1) (N := some 16) (v := ?_) (a' := ?_) #[true, true, false, false, false, false, false, false, false, false, false, false, false, false, false] rfl rfl (any_of HT_.out zz7_14) (fun _ _ _ h => h) (Or.inl ⟨by rfl, ?_⟩) ?_ ?_
   rotate_left
   ·intro w'
    go_simp
    with_reducible rfl
   rotate_left
   ·simp only [Act.put, qsA, qsZ, qsS, i64_w, i32_w]
    rfl
   refine take_ (i := 2) (N := some 17) (v := ?_) (a' := ?_) #[true, true, true, false, false, false, false, false, false, false, false, false, false, false, false] rfl rfl (take_ofW HT_.out HW_.out zz7_14) (fun _ _ _ h => h) (Or.inl ⟨by rfl, ?_⟩) hHeld ?_ ?_
   rotate_left
   ·rintro w' ⟨s0, s1, s2, s3, s4⟩
    go_simp
    with_reducible rfl
   rotate_left
   ·simp only [Act.put, qsA, qsZ, qsS, i64_w, i32_w]
    rfl
   refine take_ (i := 3) (N := some 18) (v := ?_) (a' := ?_) #[true, true, true, true, false, false, false, false, false, false, false, false, false, false, false] rfl rfl (take_ofW HT_.out HW_.out zz7_14) (fun _ _ _ h => h) (Or.inl ⟨by rfl, ?_⟩) hHeld ?_ ?_
   rotate_left
   ·rintro w' ⟨s0, s1, s2, s3, s4⟩
    go_simp
    with_reducible rfl
   rotate_left
   ·simp only [Act.put, qsA, qsZ, qsS, i64_w, i32_w]
    rfl
   refine take_ (i := 4) (N := some 19) (v := ?_) (a' := ?_) #[true, true, true, true, true, false, false, false, false, false, false, false, false, false, false] rfl rfl (take_ofW HT_.out HW_.out zz7_14) (fun _ _ _ h => h) (Or.inl ⟨by rfl, ?_⟩) hHeld ?_ ?_
   rotate_left
   ·rintro w' ⟨s0, s1, s2, s3, s4⟩
    go_simp
    with_reducible rfl
   rotate_left
   ·simp only [Act.put, qsA, qsZ, qsS, i64_w, i32_w]
    rfl
   refine one_ (i := 5) (N := some 20) #[true, true, true, true, true, true, false, false, false, false, false, false, false, false, false] rfl rfl (one_of HT_.out zz7_14) (by decide) (fun K hK => ?_)
   refine goes_ Try.func26 zz7_14 rfl #[.agg #[.bool a0_0, .slice A0_1 l0_1.length c0_1], .agg #[.bool a1_0, .slice A1_1 l1_1.length c1_1]] (by rfl) rfl rfl zz7_2 ?_
   with_reducible refine (spec_WideCmp.calls k a0_0 _ _ l0_1 a1_0 _ _ l1_1 t384 _ ?side1 ?side2 ?side3 ?side4 A6.out).mono ?_
   (case side1 => repeat (first | exact (Kd.C_below HR0_1.out HB.out) | (with_reducible refine Kd.C_alloc ?_ _) | (with_reducible refine Kd.C_drewN ?_ _) | (with_reducible refine Kd.C_drew ?_)))
   (case side2 => exact HC0_1.out)
   (case side3 => repeat (first | exact (Kd.C_below HR1_1.out HB.out) | (with_reducible refine Kd.C_alloc ?_ _) | (with_reducible refine Kd.C_drewN ?_ _) | (with_reducible refine Kd.C_drew ?_)))
   (case side4 => exact HC1_1.out)
   rintro e w29 ⟨rfl, hb⟩
   have HS4_ := (hb.cell (World.block_lt_of_cell? _ _ (hHeld.2.2.2.2))).trans (hHeld.2.2.2.2)
   refine ⟨_, rfl, ?_⟩
   have n0_ := qaM (qrB zz7_22 hb)
   have n1_ := qaM (qbB (g := gb376) (o := .cells #[.bool a0_0, .slice A0_1 l0_1.length c0_1] 25 (0, 0)) zz7_3 hb)
   have n2_ := qaM (qbB (g := gb377) (o := .cells #[.bool a1_0, .slice A1_1 l1_1.length c1_1] 25 (0, 0)) zz7_7 hb)
   have n3_ := qaM (qbB (g := gb378) (o := .cells #[.bool a2_0, .slice A2_1 l2_1.length c2_1] 25 (0, 0)) zz7_15 hb)
   have n4_ := qaM (qbT zz7_6 hb)
   clear HO381
   clear BK376
   clear BK377
   clear BK378
   clear HB
   have HO381 := n0_
   have BK376 := n1_
   have BK377 := n2_
   have BK378 := n3_
   have HB := n4_
   clear n0_ n1_ n2_ n3_ n4_
   (try clear hb)
   (try clear hb2)
   (try clear hk)
   (try clear hi)
   refine hK.out _ _ ⟨(qbC BK376.out 0).trans rfl, (qbC BK376.out 1).trans rfl, (qbC BK377.out 0).trans rfl, (qbC BK377.out 1).trans rfl, HS4_⟩ (fun hHeld => ?_)
   clear hK K
   refine norm_ (a' := ?_) ?_ ?_
   rotate_left
   ·show Act.put _ (some 20) _ = _
    simp only [Act.put, qsA, qsZ, qsS, i64_w, i32_w]
    rfl
   refine pure_ (i := 6) (N := some 21) (v := ?_) (a' := ?_) #[true, true, true, true, true, true, true, false, false, false, false, false, false, false, false] rfl rfl (any_of HT_.out zz7_14) (fun _ _ _ h => h) (Or.inl ⟨by rfl, ?_⟩) ?_ ?_
   rotate_left
   ·intro w'
    go_simp
    with_reducible rfl
   rotate_left
   ·simp only [Act.put, qsA, qsZ, qsS, i64_w, i32_w]
    rfl
   refine pure_ (i := 7) (N := some 22) (v := ?_) (a' := ?_) #[true, true, true, true, true, true, true, true, false, false, false, false, false, false, false] rfl rfl (any_of HT_.out zz7_14) (fun _ _ _ h => h) (Or.inl ⟨by rfl, ?_⟩) ?_ ?_
   rotate_left
   ·intro w'
    go_simp
    with_reducible rfl
   rotate_left
   ·simp only [Act.put, qsA, qsZ, qsS, i64_w, i32_w]
    rfl
   refine pure_ (i := 8) (N := some 23) (v := undef) (a' := ?_) #[true, true, true, true, true, true, true, true, true, false, false, false, false, false, false] rfl rfl (any_of HT_.out zz7_14) (fun _ _ _ h => h) (Or.inr ⟨by rfl, rfl⟩) ?_ ?_
   rotate_left
   ·simp only [Act.put, qsA, qsZ, qsS, i64_w, i32_w]
    rfl
   refine pure_ (i := 9) (N := some 24) (v := undef) (a' := ?_) #[true, true, true, true, true, true, true, true, true, true, false, false, false, false, false] rfl rfl (any_of HT_.out zz7_14) (fun _ _ _ h => h) (Or.inr ⟨by rfl, rfl⟩) ?_ ?_
   rotate_left
   ·simp only [Act.put, qsA, qsZ, qsS, i64_w, i32_w]
    rfl
   refine pure_ (i := 10) (N := some 25) (v := undef) (a' := ?_) #[true, true, true, true, true, true, true, true, true, true, true, false, false, false, false] rfl rfl (any_of HT_.out zz7_14) (fun _ _ _ h => h) (Or.inr ⟨by rfl, rfl⟩) ?_ ?_
   rotate_left
   ·simp only [Act.put, qsA, qsZ, qsS, i64_w, i32_w]
    rfl
   refine pure_ (i := 11) (N := some 26) (v := undef) (a' := ?_) #[true, true, true, true, true, true, true, true, true, true, true, true, false, false, false] rfl rfl (any_of HT_.out zz7_14) (fun _ _ _ h => h) (Or.inr ⟨by rfl, rfl⟩) ?_ ?_
   rotate_left
   ·simp only [Act.put, qsA, qsZ, qsS, i64_w, i32_w]
    rfl
   refine pure_ (i := 12) (N := some 27) (v := ?_) (a' := ?_) #[true, true, true, true, true, true, true, true, true, true, true, true, true, false, false] rfl rfl (any_of HT_.out zz7_14) (fun _ _ _ h => h) (Or.inl ⟨by rfl, ?_⟩) ?_ ?_
   rotate_left
   ·intro w'
    go_simp
    with_reducible rfl
   rotate_left
   ·simp only [Act.put, qsA, qsZ, qsS, i64_w, i32_w]
    rfl
   refine pure_ (i := 13) (N := some 6) (v := ?_) (a' := ?_) #[true, true, true, true, true, true, true, true, true, true, true, true, true, true, false] rfl rfl (any_of HT_.out zz7_14) (fun _ _ _ h => h) (Or.inl ⟨by rfl, ?_⟩) ?_ ?_
   rotate_left
   ·intro w'
    go_simp
    with_reducible rfl
   rotate_left
   ·simp only [Act.put, qsA, qsZ, qsS, i64_w, i32_w]
    rfl
   refine pure_ (i := 14) (N := some 7) (v := ?_) (a' := ?_) #[true, true, true, true, true, true, true, true, true, true, true, true, true, true, true] rfl rfl (any_of HT_.out zz7_14) (fun _ _ _ h => h) (Or.inl ⟨by rfl, ?_⟩) ?_ ?_
   rotate_left
   ·intro w'
    go_simp
    with_reducible rfl
   rotate_left
   ·simp only [Act.put, qsA, qsZ, qsS, i64_w, i32_w]
    rfl
   refine done_ (done_of HT_.out zz7_14) ?_
   try go_wp2
   go_ret2
   exact ⟨by first | rfl | (simp [errW_none, errW_some] <;> rfl) | (simp [*, errW_none, errW_some] <;> rfl), by repeat (first | (with_reducible first | exact HB.out | apply qwA | apply qwN | apply qwD | refine qwS ?_ GE376.out | refine qwS ?_ GE377.out | refine qwS ?_ GE378.out) | exact HB.out)⟩
 ·rw [if_neg c5] at H
  exact absurd H (by simp)


end Go.Proofs.Ytelpdndlmhcdoaa.QAll
