/- Printed by a program of this session (print2.py) over the kit's print: the functions that a law reaches, over contracts proved by hand. Lean checks it. -/
import Derived.Test.YtelpdndlmhcdoaaQAllx0
import Derived.Test.YtelpdndlmhcdoaaQAllx2
import Derived.Test.YtelpdndlmhcdoaaQAllx7
import Derived.Test.YtelpdndlmhcdoaaQAllx11
namespace Go.Proofs.Ytelpdndlmhcdoaa.QAll
open Go.RowKit Go.Proofs.YtelpdndlmhcdoaaW.PrintWords Go.Proofs.YtelpdndlmhcdoaaW.PrintLast Go.Proofs.YtelpdndlmhcdoaaW.PrintMore
attribute [local go_sem] max2_int min2_int max_two min_two max_three min_three max_four min_four   -- for this text's walks alone
set_option linter.unusedVariables false
set_option linter.unusedSimpArgs false

theorem zz14_0 {p : Prop} (h : p := by repeat (first | (with_reducible first | exact HB.out | apply qwA | apply qwN | apply qwD | refine qwS ?_ GE486.out | refine qwS ?_ GE487.out) | exact HB.out)) : p := h
theorem zz14_1 {p : Prop} (h : p := by (with_reducible repeat (first | refine qbN ?_ _ | refine qbD ?_ | refine qbA ?_ _)); exact BK486.out) : p := h
theorem zz14_2 {p : Prop} (h : p := by (try simp only [List.map_toArray, List.map_cons, List.map_nil]); first | done | rfl | (simp only [List.length_drop, List.length_take]; rfl)) : p := h
theorem zz14_3 {p : Prop} (h : p := by (with_reducible repeat (first | refine qbN ?_ _ | refine qbD ?_ | refine qbA ?_ _)); exact BK487.out) : p := h
theorem zz14_4 {p : Prop} (h : p := by (with_reducible repeat (first | apply qvA | apply qvN | apply qvD)); exact HO481.out) : p := h
theorem zz14_5 {p : Prop} (h : p := by (with_reducible repeat (first | apply qvA | apply qvN | apply qvD)); exact HO485.out) : p := h
theorem zz14_6 {p : Prop} (h : p := by repeat (first | (with_reducible first | exact HB.out | apply qwA | apply qwN | apply qwD) | exact HB.out)) : p := h
theorem zz14_7 {p : Prop} (h : p := by (with_reducible repeat (first | apply qvA | apply qvN | apply qvD)); exact HO491.out) : p := h
theorem zz14_8 {p : Prop} (h : p := by repeat (first | (with_reducible first | exact HB.out | apply qwA | apply qwN | apply qwD | refine qwS ?_ GE486.out) | exact HB.out)) : p := h
theorem zz14_9 {p : Prop} (h : p := by (with_reducible repeat (first | apply qvA | apply qvN | apply qvD)); exact HO495.out) : p := h
theorem zz14_10 {p : Prop} (h : p := by (with_reducible repeat (first | apply qvA | apply qvN | apply qvD)); exact HO499.out) : p := h
theorem zz14_11 {p : Prop} (h : p := by kernel_rfl) : p := h
/-! ### laws_FnAddUint8: function 4 -/
def laws_FnAddUint8.f (k : Nat) (a0 : Int) (a1 : Int) : Option (Bool) := (laws_bounds.f k 8 false).bind fun bt478 => ((spec_WideUint.f k (IntKind.u64.wrap (a0))).bind fun bt488 => ((spec_WideUint.f k (IntKind.u64.wrap (a1))).bind fun bt492 => ((spec_WideAdd.f k bt488.1 bt488.2 bt492.1 bt492.2).bind fun bt496 => ((laws_fitted.f k bt496.1 bt496.2 bt478.1 bt478.2.1 bt478.2.2.1 bt478.2.2.2).bind fun bt500 => ((impl_AddUint8.f a0 a1).bind fun bt502 => ((impl_AddUint8.f 2 3).bind fun bt504 => (if (bt502.2 == bt500.2) = true then (if bt500.2 = true then (if bt502.1 = ((bt500.1) % 256) then (if bt504.2 = true then (some (bt504.1 == 5)) else (some false)) else (some false)) else (if bt504.2 = true then (some (bt504.1 == 5)) else (some false))) else (some false))))))))
theorem laws_FnAddUint8.mono : ∀ a0 a1 k, LeO (laws_FnAddUint8.f k a0 a1) (laws_FnAddUint8.f (k + 1) a0 a1) := by
 intro a0 a1 k
 unfold laws_FnAddUint8.f
 repeat' first
   | (with_reducible exact laws_bounds.mono _ _ _)
   | (with_reducible exact laws_fitted.mono _ _ _ _ _ _ _)
   | (with_reducible exact spec_WideAdd.mono _ _ _ _ _)
   | (with_reducible exact spec_WideUint.mono _ _)
   | (with_reducible exact LeO.refl _)
   | (with_reducible exact LeO.none _)
   | (with_reducible refine LeO.ite ?_ ?_)
   | (with_reducible refine LeO.bind ?_ (fun _ => ?_))
   | exact laws_bounds.mono _ _ _
   | exact laws_fitted.mono _ _ _ _ _ _ _
   | exact spec_WideAdd.mono _ _ _ _ _
   | exact spec_WideUint.mono _ _
   | exact LeO.none _
   | refine LeO.ite ?_ ?_
   | refine LeO.bind ?_ (fun _ => ?_)
def laws_FnAddUint8.T2 : Bool × List (List Nat × List Nat) := (true, [([], []), ([0], [0]), ([1], [1]), ([], []), ([3], [3]), ([4, 2], [4]), ([2, 5, 5], [2, 5]), ([], []), ([], []), ([6, 7, 8, 6], [6, 7, 8]), ([9], [9]), ([10], [10]), ([10], [10]), ([11, 9, 0, 1, 2, 3, 4, 5, 6, 7, 8, 9, 10, 11], [11]), ([12, 13, 0, 1, 2, 3, 4, 5, 6, 7, 8, 9, 10, 11, 12, 13], [12])])
def laws_FnAddUint8.B2 : List Nat := [0, 1, 3, 0, 8, 31, 63, 0, 0, 511, 1023, 2047, 2047, 4095, 16383]
theorem laws_FnAddUint8.tab2 : rtab .any (opsOf Try.f4 2) = laws_FnAddUint8.T2 := by kernel_rfl
theorem laws_FnAddUint8.bits2 : waitsOk laws_FnAddUint8.T2.2 laws_FnAddUint8.B2 = true := by kernel_rfl
set_option maxHeartbeats 8000000 in
set_option maxRecDepth 100000 in
theorem laws_FnAddUint8.calls (k : Nat) (a0 : Int) (a1 : Int) (r : Bool) (w : World) (h : laws_FnAddUint8.f k a0 a1 = some r) :
  Calls Try.prog 4 #[.int .u8 a0, .int .u8 a1] w fun e w' => e = .returned (.bool r) ∧ Below w.heap.size w w' := by
 have hu25 := Try.underlying25
 have HB := qaM (Below.refl w.heap.size w)
 have H : ((laws_bounds.f k 8 false).bind fun bt478 => ((spec_WideUint.f k (IntKind.u64.wrap (a0))).bind fun bt488 => ((spec_WideUint.f k (IntKind.u64.wrap (a1))).bind fun bt492 => ((spec_WideAdd.f k bt488.1 bt488.2 bt492.1 bt492.2).bind fun bt496 => ((laws_fitted.f k bt496.1 bt496.2 bt478.1 bt478.2.1 bt478.2.2.1 bt478.2.2.2).bind fun bt500 => ((impl_AddUint8.f a0 a1).bind fun bt502 => ((impl_AddUint8.f 2 3).bind fun bt504 => (if (bt502.2 == bt500.2) = true then (if bt500.2 = true then (if bt502.1 = ((bt500.1) % 256) then (if bt504.2 = true then (some (bt504.1 == 5)) else (some false)) else (some false)) else (if bt504.2 = true then (some (bt504.1 == 5)) else (some false))) else (some false))))))))) = some r := h
 clear h
 replace H := Option.bind_eq_some_iff.mp H
 obtain ⟨⟨t478, t479, t482, t483⟩, A30, H⟩ := H
 replace H : ((spec_WideUint.f k (IntKind.u64.wrap (a0))).bind fun bt488 => ((spec_WideUint.f k (IntKind.u64.wrap (a1))).bind fun bt492 => ((spec_WideAdd.f k bt488.1 bt488.2 bt492.1 bt492.2).bind fun bt496 => ((laws_fitted.f k bt496.1 bt496.2 t478 t479 t482 t483).bind fun bt500 => ((impl_AddUint8.f a0 a1).bind fun bt502 => ((impl_AddUint8.f 2 3).bind fun bt504 => (if (bt502.2 == bt500.2) = true then (if bt500.2 = true then (if bt502.1 = ((bt500.1) % 256) then (if bt504.2 = true then (some (bt504.1 == 5)) else (some false)) else (some false)) else (if bt504.2 = true then (some (bt504.1 == 5)) else (some false))) else (some false)))))))) = some r := H
 have A3 := qaM A30
 clear A30
 replace H := Option.bind_eq_some_iff.mp H
 obtain ⟨⟨t488, t489⟩, A40, H⟩ := H
 replace H : ((spec_WideUint.f k (IntKind.u64.wrap (a1))).bind fun bt492 => ((spec_WideAdd.f k t488 t489 bt492.1 bt492.2).bind fun bt496 => ((laws_fitted.f k bt496.1 bt496.2 t478 t479 t482 t483).bind fun bt500 => ((impl_AddUint8.f a0 a1).bind fun bt502 => ((impl_AddUint8.f 2 3).bind fun bt504 => (if (bt502.2 == bt500.2) = true then (if bt500.2 = true then (if bt502.1 = ((bt500.1) % 256) then (if bt504.2 = true then (some (bt504.1 == 5)) else (some false)) else (some false)) else (if bt504.2 = true then (some (bt504.1 == 5)) else (some false))) else (some false))))))) = some r := H
 have A4 := qaM A40
 clear A40
 replace H := Option.bind_eq_some_iff.mp H
 obtain ⟨⟨t492, t493⟩, A50, H⟩ := H
 replace H : ((spec_WideAdd.f k t488 t489 t492 t493).bind fun bt496 => ((laws_fitted.f k bt496.1 bt496.2 t478 t479 t482 t483).bind fun bt500 => ((impl_AddUint8.f a0 a1).bind fun bt502 => ((impl_AddUint8.f 2 3).bind fun bt504 => (if (bt502.2 == bt500.2) = true then (if bt500.2 = true then (if bt502.1 = ((bt500.1) % 256) then (if bt504.2 = true then (some (bt504.1 == 5)) else (some false)) else (some false)) else (if bt504.2 = true then (some (bt504.1 == 5)) else (some false))) else (some false)))))) = some r := H
 have A5 := qaM A50
 clear A50
 replace H := Option.bind_eq_some_iff.mp H
 obtain ⟨⟨t496, t497⟩, A60, H⟩ := H
 replace H : ((laws_fitted.f k t496 t497 t478 t479 t482 t483).bind fun bt500 => ((impl_AddUint8.f a0 a1).bind fun bt502 => ((impl_AddUint8.f 2 3).bind fun bt504 => (if (bt502.2 == bt500.2) = true then (if bt500.2 = true then (if bt502.1 = ((bt500.1) % 256) then (if bt504.2 = true then (some (bt504.1 == 5)) else (some false)) else (some false)) else (if bt504.2 = true then (some (bt504.1 == 5)) else (some false))) else (some false))))) = some r := H
 have A6 := qaM A60
 clear A60
 replace H := Option.bind_eq_some_iff.mp H
 obtain ⟨⟨t500, t501⟩, A70, H⟩ := H
 replace H : ((impl_AddUint8.f a0 a1).bind fun bt502 => ((impl_AddUint8.f 2 3).bind fun bt504 => (if (bt502.2 == t501) = true then (if t501 = true then (if bt502.1 = ((t500) % 256) then (if bt504.2 = true then (some (bt504.1 == 5)) else (some false)) else (some false)) else (if bt504.2 = true then (some (bt504.1 == 5)) else (some false))) else (some false)))) = some r := H
 have A7 := qaM A70
 clear A70
 replace H := Option.bind_eq_some_iff.mp H
 obtain ⟨⟨t502, t503⟩, A80, H⟩ := H
 replace H : ((impl_AddUint8.f 2 3).bind fun bt504 => (if (t503 == t501) = true then (if t501 = true then (if t502 = ((t500) % 256) then (if bt504.2 = true then (some (bt504.1 == 5)) else (some false)) else (some false)) else (if bt504.2 = true then (some (bt504.1 == 5)) else (some false))) else (some false))) = some r := H
 have A8 := qaM A80
 clear A80
 replace H := Option.bind_eq_some_iff.mp H
 obtain ⟨⟨t504, t505⟩, A90, H⟩ := H
 replace H : (if (t503 == t501) = true then (if t501 = true then (if t502 = ((t500) % 256) then (if t505 = true then (some (t504 == 5)) else (some false)) else (some false)) else (if t505 = true then (some (t504 == 5)) else (some false))) else (some false)) = some r := H
 have A9 := qaM A90
 clear A90
 by_cases c10 : (t503 == t501) = true
 ·rw [if_pos c10] at H
  have c10b0 : (t503 == t501) = true := c10
  (try (have c10b1 : decide (t503 = t501) = true := by simpa using c10))
  (try (have c10b2 : (t503 == t501) = true := by simpa using c10))
  clear c10
  by_cases c11 : t501 = true
  ·subst c11
   have H1 : (if t502 = ((t500) % 256) then (if t505 = true then (some (t504 == 5)) else (some false)) else (some false)) = some r := by rw [if_pos rfl] at H; exact H
   clear H
   have H := H1
   clear H1
   by_cases c12 : t502 = ((t500) % 256)
   ·rw [if_pos c12] at H
    have c12b0 : (t502 == ((t500) % 256)) = true := beq_iff_eq.mpr c12
    have c12b1 : (t502 != ((t500) % 256)) = false := bne_eq_false_iff_eq.mpr c12
    clear c12
    by_cases c13 : t505 = true
    ·subst c13
     have H1 : (some (t504 == 5)) = some r := by rw [if_pos rfl] at H; exact H
     clear H
     have H := H1
     clear H1
     obtain rfl := Option.some.inj H
     go_enter Try.func4, Try.ntmps4
     try go_wp2_with (first | ((with_reducible refine gate_callee (f := 9) rfl ?_); refine goesL_ (some 14) rfl rfl Try.func9 zz14_11 rfl #[.int .i64 8, .bool false] rfl zz14_2 ?_; (with_reducible refine (laws_bounds.calls k 8 false t478 t479 t482 t483 _ A3.out).mono ?_); rintro e w14 ⟨v480, v484, rfl, ho0, ho1, hb⟩; refine ⟨_, rfl, ?_⟩; have n0_ := qaM (qvL (qvM (ok' := fun k_ => True) ho0 (fun k_ hk_ => trivial)) (qbS zz14_6)); have n1_ := qaM (qvL (qvM (ok' := fun k_ => True) ho1 (fun k_ hk_ => trivial)) (qbS zz14_6)); have n2_ := qaM (qbT zz14_6 hb); clear HB; have HO481 := n0_; have HO485 := n1_; have HB := n2_; clear n0_ n1_ n2_; (try clear hb); (try clear hb2); (try clear hk); (try clear hi); (try clear ho0); (try clear ho1)) | ((with_reducible refine gate_dst (N := 5) rfl ?_); refine box_event ?hg (N := 5) ?hd (cs := #[.bool false, .slice none 0 0]) (t := 25) ?hr ?_; (case hd => rfl); (case hg => rfl); (case hr => first | (go_simp; done) | (go_simp; rfl)); intro gb486 hg w15 hbox hb; have n0_ := qaM (qvB (qvE zz14_4 gb486 (Nat.le_of_eq hg.symm)) hb); have n1_ := qaM (qvB (qvE zz14_5 gb486 (Nat.le_of_eq hg.symm)) hb); have n2_ := qaM (qbT zz14_6 hb); have n3_ := qaM (hbox); have n4_ := qaM ((by rw [hg]; exact (qbS zz14_6) : w.heap.size ≤ gb486)); have n5_ := qaM ((by rw [hg]; exact (qbS zz14_6) : w.heap.size ≤ gb486)); clear HO481; clear HO485; clear HB; have HO481 := n0_; have HO485 := n1_; have HB := n2_; have BK486 := n3_; have GW486 := n4_; have GE486 := n5_; clear n0_ n1_ n2_ n3_ n4_ n5_; clear hb hbox hg) | ((with_reducible refine gate_dst (N := 6) rfl ?_); refine box_event ?hg (N := 6) ?hd (cs := #[.bool false, .slice none 0 0]) (t := 25) ?hr ?_; (case hd => rfl); (case hg => rfl); (case hr => first | (go_simp; done) | (go_simp; rfl)); intro gb487 hg w16 hbox hb; have n0_ := qaM (qvB (qvE zz14_4 gb487 (Nat.le_of_eq hg.symm)) hb); have n1_ := qaM (qvB (qvE zz14_5 gb487 (Nat.le_of_eq hg.symm)) hb); have n2_ := qaM (qbB (g := gb486) (o := .cells #[.bool false, .slice none 0 0] 25 (0, 0)) zz14_1 hb); have n3_ := qaM (qbT zz14_8 hb); have n4_ := qaM (hbox); have n5_ := qaM ((by rw [hg]; exact (qbS zz14_8) : w.heap.size ≤ gb487)); have n6_ := qaM ((by rw [hg]; exact (qbS zz14_8) : w.heap.size ≤ gb487)); have n7_ := qaM ((by rw [hg]; exact qnL (qbL (g := gb486) (o := .cells #[.bool false, .slice none 0 0] 25 (0, 0)) zz14_1) : gb486 ≠ gb487)); have n8_ := qaM ((by rw [hg]; exact qnG (qbL (g := gb486) (o := .cells #[.bool false, .slice none 0 0] 25 (0, 0)) zz14_1) : gb487 ≠ gb486)); clear HO481; clear HO485; clear BK486; clear HB; have HO481 := n0_; have HO485 := n1_; have BK486 := n2_; have HB := n3_; have BK487 := n4_; have GW487 := n5_; have GE487 := n6_; have NB486_487 := n7_; have NB487_486 := n8_; clear n0_ n1_ n2_ n3_ n4_ n5_ n6_ n7_ n8_; clear hb hbox hg; have hnb17 := NB486_487.out; have hnc17 := NB487_486.out; have hcz18_0 : w16.cell? ⟨gb486, 0, none⟩ = some (.bool false) := (qbC BK486.out 0).trans rfl; have hcz18_1 : w16.cell? ⟨gb486, 1, none⟩ = some (.slice none 0 0) := (qbC BK486.out 1).trans rfl; have hfz18_0 := blk_frozen BK486.out 0; have hfz18_1 := blk_frozen BK486.out 1; obtain ⟨Ao19, co19, eo19⟩ := Kd.V_slice HO481.out; subst eo19; have hcz20_0 : w16.cell? ⟨gb487, 0, none⟩ = some (.bool false) := (qbC BK487.out 0).trans rfl; have hcz20_1 : w16.cell? ⟨gb487, 1, none⟩ = some (.slice none 0 0) := (qbC BK487.out 1).trans rfl; have hfz20_0 := blk_frozen BK487.out 0; have hfz20_1 := blk_frozen BK487.out 1; obtain ⟨Ao21, co21, eo21⟩ := Kd.V_slice HO485.out; subst eo21))
     have n0_ : Aside0 (Kd.V (Kd.int .u32) 22 ((((w16.setCell ⟨gb486, 0, none⟩ (.bool t478)).setCell ⟨gb486, 1, none⟩ (.slice Ao19 t479.length co19)).setCell ⟨gb487, 0, none⟩ (.bool t482)).setCell ⟨gb487, 1, none⟩ (.slice Ao21 t483.length co21)) w.heap.size (fun k_ => k_ ≠ gb486 ∧ k_ ≠ gb487) (.slice Ao19 t479.length co19) t479) := ⟨by (with_reducible repeat (first | apply qvA | apply qvN | apply qvD)); exact qvM (qvF (p := ⟨gb487, 1, none⟩) (qvF (p := ⟨gb487, 0, none⟩) (qvF (p := ⟨gb486, 1, none⟩) (qvF (p := ⟨gb486, 0, none⟩) (qvM (qvM HO481.out (fun k_ hk => (⟨hk, hk.1.2⟩ : _ ∧ k_ ≠ gb486))) (fun k_ hk => (⟨hk, hk.1.2⟩ : _ ∧ k_ ≠ gb487))) (fun _ hk => hk.1.2) (.bool t478)) (fun _ hk => hk.1.2) (.slice Ao19 t479.length co19)) (fun _ hk => hk.2) (.bool t482)) (fun _ hk => hk.2) (.slice Ao21 t483.length co21)) (fun _ hk => ⟨hk.1.1.1.2, hk.1.1.2⟩)⟩
     have n1_ : Aside0 (Kd.V (Kd.int .u32) 22 ((((w16.setCell ⟨gb486, 0, none⟩ (.bool t478)).setCell ⟨gb486, 1, none⟩ (.slice Ao19 t479.length co19)).setCell ⟨gb487, 0, none⟩ (.bool t482)).setCell ⟨gb487, 1, none⟩ (.slice Ao21 t483.length co21)) w.heap.size (fun k_ => k_ ≠ gb486 ∧ k_ ≠ gb487) (.slice Ao21 t483.length co21) t483) := ⟨by (with_reducible repeat (first | apply qvA | apply qvN | apply qvD)); exact qvM (qvF (p := ⟨gb487, 1, none⟩) (qvF (p := ⟨gb487, 0, none⟩) (qvF (p := ⟨gb486, 1, none⟩) (qvF (p := ⟨gb486, 0, none⟩) (qvM (qvM HO485.out (fun k_ hk => (⟨hk, hk.1.2⟩ : _ ∧ k_ ≠ gb486))) (fun k_ hk => (⟨hk, hk.1.2⟩ : _ ∧ k_ ≠ gb487))) (fun _ hk => hk.1.2) (.bool t478)) (fun _ hk => hk.1.2) (.slice Ao19 t479.length co19)) (fun _ hk => hk.2) (.bool t482)) (fun _ hk => hk.2) (.slice Ao21 t483.length co21)) (fun _ hk => ⟨hk.1.1.1.2, hk.1.1.2⟩)⟩
     have n2_ : Aside0 (((((w16.setCell ⟨gb486, 0, none⟩ (.bool t478)).setCell ⟨gb486, 1, none⟩ (.slice Ao19 t479.length co19)).setCell ⟨gb487, 0, none⟩ (.bool t482)).setCell ⟨gb487, 1, none⟩ (.slice Ao21 t483.length co21)).heap[gb486]? = some (.cells #[.bool t478, .slice Ao19 t479.length co19] 25 (0, 0))) := ⟨by (with_reducible repeat (first | refine qbN ?_ _ | refine qbD ?_ | refine qbA ?_ _)); refine qbF ?_ NB486_487.out _; (with_reducible repeat (first | refine qbN ?_ _ | refine qbD ?_ | refine qbA ?_ _)); refine qbF ?_ NB486_487.out _; (with_reducible repeat (first | refine qbN ?_ _ | refine qbD ?_ | refine qbA ?_ _)); refine qbP (cs := #[.bool t478, .slice none 0 0]) ?_ 1 _ rfl; (with_reducible repeat (first | refine qbN ?_ _ | refine qbD ?_ | refine qbA ?_ _)); refine qbP (cs := #[.bool false, .slice none 0 0]) ?_ 0 _ rfl; (with_reducible repeat (first | refine qbN ?_ _ | refine qbD ?_ | refine qbA ?_ _)); exact BK486.out⟩
     have n3_ : Aside0 (((((w16.setCell ⟨gb486, 0, none⟩ (.bool t478)).setCell ⟨gb486, 1, none⟩ (.slice Ao19 t479.length co19)).setCell ⟨gb487, 0, none⟩ (.bool t482)).setCell ⟨gb487, 1, none⟩ (.slice Ao21 t483.length co21)).heap[gb487]? = some (.cells #[.bool t482, .slice Ao21 t483.length co21] 25 (0, 0))) := ⟨by (with_reducible repeat (first | refine qbN ?_ _ | refine qbD ?_ | refine qbA ?_ _)); refine qbP (cs := #[.bool t482, .slice none 0 0]) ?_ 1 _ rfl; (with_reducible repeat (first | refine qbN ?_ _ | refine qbD ?_ | refine qbA ?_ _)); refine qbP (cs := #[.bool false, .slice none 0 0]) ?_ 0 _ rfl; (with_reducible repeat (first | refine qbN ?_ _ | refine qbD ?_ | refine qbA ?_ _)); refine qbF ?_ NB487_486.out _; (with_reducible repeat (first | refine qbN ?_ _ | refine qbD ?_ | refine qbA ?_ _)); refine qbF ?_ NB487_486.out _; (with_reducible repeat (first | refine qbN ?_ _ | refine qbD ?_ | refine qbA ?_ _)); exact BK487.out⟩
     have n4_ : Aside0 (Below w.heap.size w ((((w16.setCell ⟨gb486, 0, none⟩ (.bool t478)).setCell ⟨gb486, 1, none⟩ (.slice Ao19 t479.length co19)).setCell ⟨gb487, 0, none⟩ (.bool t482)).setCell ⟨gb487, 1, none⟩ (.slice Ao21 t483.length co21))) := ⟨by repeat (first | (with_reducible first | exact HB.out | apply qwA | apply qwN | apply qwD | refine qwS ?_ GE486.out | refine qwS ?_ GE487.out) | exact HB.out)⟩
     (try clear HO481)
     (try clear HO485)
     (try clear BK486)
     (try clear BK487)
     (try clear HB)
     generalize ((((w16.setCell ⟨gb486, 0, none⟩ (.bool t478)).setCell ⟨gb486, 1, none⟩ (.slice Ao19 t479.length co19)).setCell ⟨gb487, 0, none⟩ (.bool t482)).setCell ⟨gb487, 1, none⟩ (.slice Ao21 t483.length co21)) = w22 at n0_ n1_ n2_ n3_ n4_ ⊢
     have HO481 := n0_
     have HO485 := n1_
     have BK486 := n2_
     have BK487 := n3_
     have HB := n4_
     clear n0_ n1_ n2_ n3_ n4_
     have n0_ := qaM (qvD HO481.out)
     have n1_ := qaM (qvD HO485.out)
     have n2_ := qaM (qbD BK486.out)
     have n3_ := qaM (qbD BK487.out)
     have n4_ := qaM (qwD HB.out)
     clear HO481
     clear HO485
     clear BK486
     clear BK487
     clear HB
     have HO481 := n0_
     have HO485 := n1_
     have BK486 := n2_
     have BK487 := n3_
     have HB := n4_
     clear n0_ n1_ n2_ n3_ n4_
     refine start_ (n := 15) (S := fun w' => w'.cell? ⟨gb486, 0, none⟩ = some (.bool t478) ∧ w'.cell? ⟨gb486, 1, none⟩ = some (.slice Ao19 t479.length co19) ∧ w'.cell? ⟨gb487, 0, none⟩ = some (.bool t482) ∧ w'.cell? ⟨gb487, 1, none⟩ = some (.slice Ao21 t483.length co21)) (ds := []) #[false, false, false, false, false, false, false, false, false, false, false, false, false, false, false] zz14_11 rfl rfl ⟨(qbC BK486.out 0).trans rfl, (qbC BK486.out 1).trans rfl, (qbC BK487.out 0).trans rfl, (qbC BK487.out 1).trans rfl⟩ (fun hHeld => ?_); refine with_tabW laws_FnAddUint8.tab2 laws_FnAddUint8.bits2 (fun HT_ HW_ => ?_)
     generalize w22.drew = w23 at HO481 HO485 BK486 BK487 HB hHeld ⊢
     refine pure_ (i := 0) (N := some 18) (v := ?_) (a' := ?_) #[true, false, false, false, false, false, false, false, false, false, false, false, false, false, false] rfl rfl (any_of HT_.out zz14_11) (fun _ _ _ h => h) (Or.inl ⟨by rfl, ?_⟩) ?_ ?_
     rotate_left
     ·intro w'
      go_simp
      with_reducible rfl
     rotate_left
     ·simp only [Act.put, qsA, qsZ, qsS, i64_w, i32_w]
      rfl
     refine pure_ (i := 1) (N := some 19) (v := ?_) (a' := ?_) #[true, true, false, false, false, false, false, false, false, false, false, false, false, false, false] rfl rfl (any_of HT_.out zz14_11) (fun _ _ _ h => h) (Or.inl ⟨by rfl, ?_⟩) ?_ ?_
     rotate_left
     ·intro w'
      go_simp
      with_reducible rfl
     rotate_left
     ·simp only [Act.put, qsA, qsZ, qsS, i64_w, i32_w]
      rfl
     refine pure_ (i := 3) (N := some 21) (v := ?_) (a' := ?_) #[true, true, false, true, false, false, false, false, false, false, false, false, false, false, false] rfl rfl (any_of HT_.out zz14_11) (fun _ _ _ h => h) (Or.inl ⟨by rfl, ?_⟩) ?_ ?_
     rotate_left
     ·intro w'
      go_simp
      with_reducible rfl
     rotate_left
     ·simp only [Act.put, qsA, qsZ, qsS, i64_w, i32_w]
      rfl
     refine pure_ (i := 4) (N := some 22) (v := ?_) (a' := ?_) #[true, true, false, true, true, false, false, false, false, false, false, false, false, false, false] rfl rfl (any_of HT_.out zz14_11) (fun _ _ _ h => h) (Or.inl ⟨by rfl, ?_⟩) ?_ ?_
     rotate_left
     ·intro w'
      go_simp
      with_reducible rfl
     rotate_left
     ·simp only [Act.put, qsA, qsZ, qsS, i64_w, i32_w]
      rfl
     refine take_ (i := 7) (N := some 25) (v := ?_) (a' := ?_) #[true, true, false, true, true, false, false, true, false, false, false, false, false, false, false] rfl rfl (take_ofW HT_.out HW_.out zz14_11) (fun _ _ _ h => h) (Or.inl ⟨by rfl, ?_⟩) hHeld ?_ ?_
     rotate_left
     ·rintro w' ⟨s0, s1, s2, s3⟩
      go_simp
      with_reducible rfl
     rotate_left
     ·simp only [Act.put, qsA, qsZ, qsS, i64_w, i32_w]
      rfl
     refine take_ (i := 8) (N := some 26) (v := ?_) (a' := ?_) #[true, true, false, true, true, false, false, true, true, false, false, false, false, false, false] rfl rfl (take_ofW HT_.out HW_.out zz14_11) (fun _ _ _ h => h) (Or.inl ⟨by rfl, ?_⟩) hHeld ?_ ?_
     rotate_left
     ·rintro w' ⟨s0, s1, s2, s3⟩
      go_simp
      with_reducible rfl
     rotate_left
     ·simp only [Act.put, qsA, qsZ, qsS, i64_w, i32_w]
      rfl
     refine one_ (i := 2) (N := some 20) #[true, true, true, true, true, false, false, true, true, false, false, false, false, false, false] rfl rfl (one_of HT_.out zz14_11) (by decide) (fun K hK => ?_)
     refine goes_ Try.func12 zz14_11 rfl #[.int .u64 (IntKind.u64.wrap (a0))] (by rfl) rfl rfl zz14_2 ?_
     with_reducible refine (spec_WideUint.calls k (IntKind.u64.wrap (a0)) t488 t489 _ A4.out).mono ?_
     rintro e w24 ⟨v490, rfl, ho0, hb⟩
     refine ⟨_, rfl, ?_⟩
     have n0_ := qaM (qvB zz14_4 hb)
     have n1_ := qaM (qvB zz14_5 hb)
     have n2_ := qaM (qvL (qvM (ok' := fun k_ => k_ ≠ gb486 ∧ k_ ≠ gb487) ho0 (fun k_ hk_ => ⟨(qfB (g := gb486) (o := .cells #[.bool t478, .slice Ao19 t479.length co19] 25 (0, 0)) zz14_1 k_ hk_), (qfB (g := gb487) (o := .cells #[.bool t482, .slice Ao21 t483.length co21] 25 (0, 0)) zz14_3 k_ hk_)⟩)) (qbS zz14_0))
     have n3_ := qaM (qbB (g := gb486) (o := .cells #[.bool t478, .slice Ao19 t479.length co19] 25 (0, 0)) zz14_1 hb)
     have n4_ := qaM (qbB (g := gb487) (o := .cells #[.bool t482, .slice Ao21 t483.length co21] 25 (0, 0)) zz14_3 hb)
     have n5_ := qaM (qbT zz14_0 hb)
     clear HO481
     clear HO485
     clear BK486
     clear BK487
     clear HB
     have HO481 := n0_
     have HO485 := n1_
     have HO491 := n2_
     have BK486 := n3_
     have BK487 := n4_
     have HB := n5_
     clear n0_ n1_ n2_ n3_ n4_ n5_
     (try clear hb)
     (try clear hb2)
     (try clear hk)
     (try clear hi)
     (try clear ho0)
     refine hK.out _ _ ⟨(qbC BK486.out 0).trans rfl, (qbC BK486.out 1).trans rfl, (qbC BK487.out 0).trans rfl, (qbC BK487.out 1).trans rfl⟩ (fun hHeld => ?_)
     clear hK K
     refine norm_ (a' := ?_) ?_ ?_
     rotate_left
     ·show Act.put _ (some 20) _ = _
      simp only [Act.put, qsA, qsZ, qsS, i64_w, i32_w]
      rfl
     refine one_ (i := 5) (N := some 23) #[true, true, true, true, true, true, false, true, true, false, false, false, false, false, false] rfl rfl (one_of HT_.out zz14_11) (by decide) (fun K hK => ?_)
     refine goes_ Try.func12 zz14_11 rfl #[.int .u64 (IntKind.u64.wrap (a1))] (by rfl) rfl rfl zz14_2 ?_
     with_reducible refine (spec_WideUint.calls k (IntKind.u64.wrap (a1)) t492 t493 _ A5.out).mono ?_
     rintro e w25 ⟨v494, rfl, ho0, hb⟩
     refine ⟨_, rfl, ?_⟩
     have n0_ := qaM (qvB zz14_4 hb)
     have n1_ := qaM (qvB zz14_5 hb)
     have n2_ := qaM (qvB zz14_7 hb)
     have n3_ := qaM (qvL (qvM (ok' := fun k_ => k_ ≠ gb486 ∧ k_ ≠ gb487) ho0 (fun k_ hk_ => ⟨(qfB (g := gb486) (o := .cells #[.bool t478, .slice Ao19 t479.length co19] 25 (0, 0)) zz14_1 k_ hk_), (qfB (g := gb487) (o := .cells #[.bool t482, .slice Ao21 t483.length co21] 25 (0, 0)) zz14_3 k_ hk_)⟩)) (qbS zz14_0))
     have n4_ := qaM (qbB (g := gb486) (o := .cells #[.bool t478, .slice Ao19 t479.length co19] 25 (0, 0)) zz14_1 hb)
     have n5_ := qaM (qbB (g := gb487) (o := .cells #[.bool t482, .slice Ao21 t483.length co21] 25 (0, 0)) zz14_3 hb)
     have n6_ := qaM (qbT zz14_0 hb)
     clear HO481
     clear HO485
     clear HO491
     clear BK486
     clear BK487
     clear HB
     have HO481 := n0_
     have HO485 := n1_
     have HO491 := n2_
     have HO495 := n3_
     have BK486 := n4_
     have BK487 := n5_
     have HB := n6_
     clear n0_ n1_ n2_ n3_ n4_ n5_ n6_
     (try clear hb)
     (try clear hb2)
     (try clear hk)
     (try clear hi)
     (try clear ho0)
     obtain ⟨Ao26, co26, eo26⟩ := Kd.V_slice HO491.out
     (first | subst eo26 | (injection eo26 with f1_ f2_ f3_; have f4_ := f1_.symm; have f5_ := f3_.symm; clear f1_ f2_ f3_; subst f4_; subst f5_))
     obtain ⟨Ao27, co27, eo27⟩ := Kd.V_slice HO495.out
     (first | subst eo27 | (injection eo27 with f1_ f2_ f3_; have f4_ := f1_.symm; have f5_ := f3_.symm; clear f1_ f2_ f3_; subst f4_; subst f5_))
     refine hK.out _ _ ⟨(qbC BK486.out 0).trans rfl, (qbC BK486.out 1).trans rfl, (qbC BK487.out 0).trans rfl, (qbC BK487.out 1).trans rfl⟩ (fun hHeld => ?_)
     clear hK K
     refine norm_ (a' := ?_) ?_ ?_
     rotate_left
     ·show Act.put _ (some 23) _ = _
      simp only [Act.put, qsA, qsZ, qsS, i64_w, i32_w]
      rfl
     refine one_ (i := 6) (N := some 24) #[true, true, true, true, true, true, true, true, true, false, false, false, false, false, false] rfl rfl (one_of HT_.out zz14_11) (by decide) (fun K hK => ?_)
     refine goes_ Try.func11 zz14_11 rfl #[.agg #[.bool t488, .slice Ao26 t489.length co26], .agg #[.bool t492, .slice Ao27 t493.length co27]] (by rfl) rfl rfl zz14_2 ?_
     with_reducible refine (spec_WideAdd.calls k t488 _ _ t489 t492 _ _ t493 t496 t497 _ ?side1 ?side2 ?side3 ?side4 A6.out).mono ?_
     (case side1 => repeat (first | exact (qvR HO491.out).2.2 | (with_reducible refine Kd.C_alloc ?_ _) | (with_reducible refine Kd.C_drewN ?_ _) | (with_reducible refine Kd.C_drew ?_)))
     (case side2 => exact (qvR HO491.out).2.1)
     (case side3 => repeat (first | exact (qvR HO495.out).2.2 | (with_reducible refine Kd.C_alloc ?_ _) | (with_reducible refine Kd.C_drewN ?_ _) | (with_reducible refine Kd.C_drew ?_)))
     (case side4 => exact (qvR HO495.out).2.1)
     rintro e w28 ⟨v498, rfl, ho0, hb⟩
     refine ⟨_, rfl, ?_⟩
     have n0_ := qaM (qvB zz14_4 hb)
     have n1_ := qaM (qvB zz14_5 hb)
     have n2_ := qaM (qvB zz14_7 hb)
     have n3_ := qaM (qvB zz14_9 hb)
     have n4_ := qaM (qvL (qvM (ok' := fun k_ => k_ ≠ gb486 ∧ k_ ≠ gb487) ho0 (fun k_ hk_ => ⟨(qfB (g := gb486) (o := .cells #[.bool t478, .slice Ao19 t479.length co19] 25 (0, 0)) zz14_1 k_ hk_), (qfB (g := gb487) (o := .cells #[.bool t482, .slice Ao21 t483.length co21] 25 (0, 0)) zz14_3 k_ hk_)⟩)) (qbS zz14_0))
     have n5_ := qaM (qbB (g := gb486) (o := .cells #[.bool t478, .slice Ao19 t479.length co19] 25 (0, 0)) zz14_1 hb)
     have n6_ := qaM (qbB (g := gb487) (o := .cells #[.bool t482, .slice Ao21 t483.length co21] 25 (0, 0)) zz14_3 hb)
     have n7_ := qaM (qbT zz14_0 hb)
     clear HO481
     clear HO485
     clear HO491
     clear HO495
     clear BK486
     clear BK487
     clear HB
     have HO481 := n0_
     have HO485 := n1_
     have HO491 := n2_
     have HO495 := n3_
     have HO499 := n4_
     have BK486 := n5_
     have BK487 := n6_
     have HB := n7_
     clear n0_ n1_ n2_ n3_ n4_ n5_ n6_ n7_
     (try clear hb)
     (try clear hb2)
     (try clear hk)
     (try clear hi)
     (try clear ho0)
     obtain ⟨Ao29, co29, eo29⟩ := Kd.V_slice HO499.out
     (first | subst eo29 | (injection eo29 with f1_ f2_ f3_; have f4_ := f1_.symm; have f5_ := f3_.symm; clear f1_ f2_ f3_; subst f4_; subst f5_))
     refine hK.out _ _ ⟨(qbC BK486.out 0).trans rfl, (qbC BK486.out 1).trans rfl, (qbC BK487.out 0).trans rfl, (qbC BK487.out 1).trans rfl⟩ (fun hHeld => ?_)
     clear hK K
     refine norm_ (a' := ?_) ?_ ?_
     rotate_left
     ·show Act.put _ (some 24) _ = _
      simp only [Act.put, qsA, qsZ, qsS, i64_w, i32_w]
      rfl
     refine one_ (i := 9) (N := some 27) #[true, true, true, true, true, true, true, true, true, true, false, false, false, false, false] rfl rfl (one_of HT_.out zz14_11) (by decide) (fun K hK => ?_)
     refine goes_ Try.func10 zz14_11 rfl #[.agg #[.bool t496, .slice Ao29 t497.length co29], .agg #[.bool t478, .slice Ao19 t479.length co19], .agg #[.bool t482, .slice Ao21 t483.length co21]] (by rfl) rfl rfl zz14_2 ?_
     with_reducible refine (laws_fitted.calls k t496 _ _ t497 t478 _ _ t479 t482 _ _ t483 t500 true _ ?side1 ?side2 ?side3 ?side4 ?side5 ?side6 A7.out).mono ?_
     (case side1 => repeat (first | exact (qvR HO499.out).2.2 | (with_reducible refine Kd.C_alloc ?_ _) | (with_reducible refine Kd.C_drewN ?_ _) | (with_reducible refine Kd.C_drew ?_)))
     (case side2 => exact (qvR HO499.out).2.1)
     (case side3 => repeat (first | exact (qvR HO481.out).2.2 | (with_reducible refine Kd.C_alloc ?_ _) | (with_reducible refine Kd.C_drewN ?_ _) | (with_reducible refine Kd.C_drew ?_)))
     (case side4 => exact (qvR HO481.out).2.1)
     (case side5 => repeat (first | exact (qvR HO485.out).2.2 | (with_reducible refine Kd.C_alloc ?_ _) | (with_reducible refine Kd.C_drewN ?_ _) | (with_reducible refine Kd.C_drew ?_)))
     (case side6 => exact (qvR HO485.out).2.1)
     rintro e w30 ⟨rfl, hb⟩
     refine ⟨_, rfl, ?_⟩
     have n0_ := qaM (qvB zz14_4 hb)
     have n1_ := qaM (qvB zz14_5 hb)
     have n2_ := qaM (qvB zz14_7 hb)
     have n3_ := qaM (qvB zz14_9 hb)
     have n4_ := qaM (qvB zz14_10 hb)
     have n5_ := qaM (qbB (g := gb486) (o := .cells #[.bool t478, .slice Ao19 t479.length co19] 25 (0, 0)) zz14_1 hb)
     have n6_ := qaM (qbB (g := gb487) (o := .cells #[.bool t482, .slice Ao21 t483.length co21] 25 (0, 0)) zz14_3 hb)
     have n7_ := qaM (qbT zz14_0 hb)
     clear HO481
     clear HO485
     clear HO491
     clear HO495
     clear HO499
     clear BK486
     clear BK487
     clear HB
     have HO481 := n0_
     have HO485 := n1_
     have HO491 := n2_
     have HO495 := n3_
     have HO499 := n4_
     have BK486 := n5_
     have BK487 := n6_
     have HB := n7_
     clear n0_ n1_ n2_ n3_ n4_ n5_ n6_ n7_
     (try clear hb)
     (try clear hb2)
     (try clear hk)
     (try clear hi)
     refine hK.out _ _ ⟨(qbC BK486.out 0).trans rfl, (qbC BK486.out 1).trans rfl, (qbC BK487.out 0).trans rfl, (qbC BK487.out 1).trans rfl⟩ (fun hHeld => ?_)
     clear hK K
     refine norm_ (a' := ?_) ?_ ?_
     rotate_left
     ·show Act.put _ (some 27) _ = _
      simp only [Act.put, qsA, qsZ, qsS, i64_w, i32_w]
      rfl
     refine pure_ (i := 10) (N := some 17) (v := ?_) (a' := ?_) #[true, true, true, true, true, true, true, true, true, true, true, false, false, false, false] rfl rfl (any_of HT_.out zz14_11) (fun _ _ _ h => h) (Or.inl ⟨by rfl, ?_⟩) ?_ ?_
     rotate_left
     ·intro w'
      go_simp
      with_reducible rfl
     rotate_left
     ·simp only [Act.put, qsA, qsZ, qsS, i64_w, i32_w]
      rfl
     refine pure_ (i := 11) (N := some 28) (v := ?_) (a' := ?_) #[true, true, true, true, true, true, true, true, true, true, true, true, false, false, false] rfl rfl (any_of HT_.out zz14_11) (fun _ _ _ h => h) (Or.inl ⟨by rfl, ?_⟩) ?_ ?_
     rotate_left
     ·intro w'
      go_simp
      with_reducible rfl
     rotate_left
     ·simp only [Act.put, qsA, qsZ, qsS, i64_w, i32_w]
      rfl
     refine pure_ (i := 12) (N := some 29) (v := ?_) (a' := ?_) #[true, true, true, true, true, true, true, true, true, true, true, true, true, false, false] rfl rfl (any_of HT_.out zz14_11) (fun _ _ _ h => h) (Or.inl ⟨by rfl, ?_⟩) ?_ ?_
     rotate_left
     ·intro w'
      go_simp
      with_reducible rfl
     rotate_left
     ·simp only [Act.put, qsA, qsZ, qsS, i64_w, i32_w]
      rfl
     refine pure_ (i := 13) (N := some 7) (v := ?_) (a' := ?_) #[true, true, true, true, true, true, true, true, true, true, true, true, true, true, false] rfl rfl (any_of HT_.out zz14_11) (fun _ _ _ h => h) (Or.inl ⟨by rfl, ?_⟩) ?_ ?_
     rotate_left
     ·intro w'
      go_simp
      with_reducible rfl
     rotate_left
     ·simp only [Act.put, qsA, qsZ, qsS, i64_w, i32_w]
      rfl
     refine pure_ (i := 14) (N := some 8) (v := ?_) (a' := ?_) #[true, true, true, true, true, true, true, true, true, true, true, true, true, true, true] rfl rfl (any_of HT_.out zz14_11) (fun _ _ _ h => h) (Or.inl ⟨by rfl, ?_⟩) ?_ ?_
     rotate_left
     ·intro w'
      go_simp
      with_reducible rfl
     rotate_left
     ·simp only [Act.put, qsA, qsZ, qsS, i64_w, i32_w]
      rfl
     refine done_ (done_of HT_.out zz14_11) ?_
     try go_wp2_with (first | ((with_reducible refine gate_callee (f := 14) rfl ?_); refine goesL_ (some 33) rfl rfl Try.func14 zz14_11 rfl #[.int .u8 a0, .int .u8 a1] rfl zz14_2 ?_; (with_reducible refine (impl_AddUint8.calls a0 a1 t502 t503 _ A8.out).mono ?_); rintro e w31 ⟨rfl, hb⟩; refine ⟨_, rfl, ?_⟩; have n0_ := qaM (qvB zz14_4 hb); have n1_ := qaM (qvB zz14_5 hb); have n2_ := qaM (qvB zz14_7 hb); have n3_ := qaM (qvB zz14_9 hb); have n4_ := qaM (qvB zz14_10 hb); have n5_ := qaM (qbB (g := gb486) (o := .cells #[.bool t478, .slice Ao19 t479.length co19] 25 (0, 0)) zz14_1 hb); have n6_ := qaM (qbB (g := gb487) (o := .cells #[.bool t482, .slice Ao21 t483.length co21] 25 (0, 0)) zz14_3 hb); have n7_ := qaM (qbT zz14_0 hb); clear HO481; clear HO485; clear HO491; clear HO495; clear HO499; clear BK486; clear BK487; clear HB; have HO481 := n0_; have HO485 := n1_; have HO491 := n2_; have HO495 := n3_; have HO499 := n4_; have BK486 := n5_; have BK487 := n6_; have HB := n7_; clear n0_ n1_ n2_ n3_ n4_ n5_ n6_ n7_; (try clear hb); (try clear hb2); (try clear hk); (try clear hi)) | ((with_reducible refine gate_callee (f := 14) rfl ?_); refine goesL_ (some 37) rfl rfl Try.func14 zz14_11 rfl #[.int .u8 2, .int .u8 3] rfl zz14_2 ?_; (with_reducible refine (impl_AddUint8.calls 2 3 t504 true _ A9.out).mono ?_); rintro e w32 ⟨rfl, hb⟩; refine ⟨_, rfl, ?_⟩; have n0_ := qaM (qvB zz14_4 hb); have n1_ := qaM (qvB zz14_5 hb); have n2_ := qaM (qvB zz14_7 hb); have n3_ := qaM (qvB zz14_9 hb); have n4_ := qaM (qvB zz14_10 hb); have n5_ := qaM (qbB (g := gb486) (o := .cells #[.bool t478, .slice Ao19 t479.length co19] 25 (0, 0)) zz14_1 hb); have n6_ := qaM (qbB (g := gb487) (o := .cells #[.bool t482, .slice Ao21 t483.length co21] 25 (0, 0)) zz14_3 hb); have n7_ := qaM (qbT zz14_0 hb); clear HO481; clear HO485; clear HO491; clear HO495; clear HO499; clear BK486; clear BK487; clear HB; have HO481 := n0_; have HO485 := n1_; have HO491 := n2_; have HO495 := n3_; have HO499 := n4_; have BK486 := n5_; have BK487 := n6_; have HB := n7_; clear n0_ n1_ n2_ n3_ n4_ n5_ n6_ n7_; (try clear hb); (try clear hb2); (try clear hk); (try clear hi)))
     go_ret
     exact ⟨by first | rfl | (simp [errW_none, errW_some] <;> rfl) | (simp [*, errW_none, errW_some] <;> rfl), by repeat (first | (with_reducible first | exact HB.out | apply qwA | apply qwN | apply qwD | refine qwS ?_ GE486.out | refine qwS ?_ GE487.out) | exact HB.out)⟩
    ·replace c13 := Bool.eq_false_iff.mpr c13
     subst c13
     have H1 : (some false) = some r := by rw [if_neg (show ¬ (false = true) by decide)] at H; exact H
     clear H
     have H := H1
     clear H1
     obtain rfl := Option.some.inj H
     go_enter Try.func4, Try.ntmps4
     try go_wp2_with (first | ((with_reducible refine gate_callee (f := 9) rfl ?_); refine goesL_ (some 14) rfl rfl Try.func9 zz14_11 rfl #[.int .i64 8, .bool false] rfl zz14_2 ?_; (with_reducible refine (laws_bounds.calls k 8 false t478 t479 t482 t483 _ A3.out).mono ?_); rintro e w33 ⟨v480, v484, rfl, ho0, ho1, hb⟩; refine ⟨_, rfl, ?_⟩; have n0_ := qaM (qvL (qvM (ok' := fun k_ => True) ho0 (fun k_ hk_ => trivial)) (qbS zz14_6)); have n1_ := qaM (qvL (qvM (ok' := fun k_ => True) ho1 (fun k_ hk_ => trivial)) (qbS zz14_6)); have n2_ := qaM (qbT zz14_6 hb); clear HB; have HO481 := n0_; have HO485 := n1_; have HB := n2_; clear n0_ n1_ n2_; (try clear hb); (try clear hb2); (try clear hk); (try clear hi); (try clear ho0); (try clear ho1)) | ((with_reducible refine gate_dst (N := 5) rfl ?_); refine box_event ?hg (N := 5) ?hd (cs := #[.bool false, .slice none 0 0]) (t := 25) ?hr ?_; (case hd => rfl); (case hg => rfl); (case hr => first | (go_simp; done) | (go_simp; rfl)); intro gb486 hg w34 hbox hb; have n0_ := qaM (qvB (qvE zz14_4 gb486 (Nat.le_of_eq hg.symm)) hb); have n1_ := qaM (qvB (qvE zz14_5 gb486 (Nat.le_of_eq hg.symm)) hb); have n2_ := qaM (qbT zz14_6 hb); have n3_ := qaM (hbox); have n4_ := qaM ((by rw [hg]; exact (qbS zz14_6) : w.heap.size ≤ gb486)); have n5_ := qaM ((by rw [hg]; exact (qbS zz14_6) : w.heap.size ≤ gb486)); clear HO481; clear HO485; clear HB; have HO481 := n0_; have HO485 := n1_; have HB := n2_; have BK486 := n3_; have GW486 := n4_; have GE486 := n5_; clear n0_ n1_ n2_ n3_ n4_ n5_; clear hb hbox hg) | ((with_reducible refine gate_dst (N := 6) rfl ?_); refine box_event ?hg (N := 6) ?hd (cs := #[.bool false, .slice none 0 0]) (t := 25) ?hr ?_; (case hd => rfl); (case hg => rfl); (case hr => first | (go_simp; done) | (go_simp; rfl)); intro gb487 hg w35 hbox hb; have n0_ := qaM (qvB (qvE zz14_4 gb487 (Nat.le_of_eq hg.symm)) hb); have n1_ := qaM (qvB (qvE zz14_5 gb487 (Nat.le_of_eq hg.symm)) hb); have n2_ := qaM (qbB (g := gb486) (o := .cells #[.bool false, .slice none 0 0] 25 (0, 0)) zz14_1 hb); have n3_ := qaM (qbT zz14_8 hb); have n4_ := qaM (hbox); have n5_ := qaM ((by rw [hg]; exact (qbS zz14_8) : w.heap.size ≤ gb487)); have n6_ := qaM ((by rw [hg]; exact (qbS zz14_8) : w.heap.size ≤ gb487)); have n7_ := qaM ((by rw [hg]; exact qnL (qbL (g := gb486) (o := .cells #[.bool false, .slice none 0 0] 25 (0, 0)) zz14_1) : gb486 ≠ gb487)); have n8_ := qaM ((by rw [hg]; exact qnG (qbL (g := gb486) (o := .cells #[.bool false, .slice none 0 0] 25 (0, 0)) zz14_1) : gb487 ≠ gb486)); clear HO481; clear HO485; clear BK486; clear HB; have HO481 := n0_; have HO485 := n1_; have BK486 := n2_; have HB := n3_; have BK487 := n4_; have GW487 := n5_; have GE487 := n6_; have NB486_487 := n7_; have NB487_486 := n8_; clear n0_ n1_ n2_ n3_ n4_ n5_ n6_ n7_ n8_; clear hb hbox hg; have hnb36 := NB486_487.out; have hnc36 := NB487_486.out; have hcz37_0 : w35.cell? ⟨gb486, 0, none⟩ = some (.bool false) := (qbC BK486.out 0).trans rfl; have hcz37_1 : w35.cell? ⟨gb486, 1, none⟩ = some (.slice none 0 0) := (qbC BK486.out 1).trans rfl; have hfz37_0 := blk_frozen BK486.out 0; have hfz37_1 := blk_frozen BK486.out 1; obtain ⟨Ao38, co38, eo38⟩ := Kd.V_slice HO481.out; subst eo38; have hcz39_0 : w35.cell? ⟨gb487, 0, none⟩ = some (.bool false) := (qbC BK487.out 0).trans rfl; have hcz39_1 : w35.cell? ⟨gb487, 1, none⟩ = some (.slice none 0 0) := (qbC BK487.out 1).trans rfl; have hfz39_0 := blk_frozen BK487.out 0; have hfz39_1 := blk_frozen BK487.out 1; obtain ⟨Ao40, co40, eo40⟩ := Kd.V_slice HO485.out; subst eo40))
     have n0_ : Aside0 (Kd.V (Kd.int .u32) 22 ((((w35.setCell ⟨gb486, 0, none⟩ (.bool t478)).setCell ⟨gb486, 1, none⟩ (.slice Ao38 t479.length co38)).setCell ⟨gb487, 0, none⟩ (.bool t482)).setCell ⟨gb487, 1, none⟩ (.slice Ao40 t483.length co40)) w.heap.size (fun k_ => k_ ≠ gb486 ∧ k_ ≠ gb487) (.slice Ao38 t479.length co38) t479) := ⟨by (with_reducible repeat (first | apply qvA | apply qvN | apply qvD)); exact qvM (qvF (p := ⟨gb487, 1, none⟩) (qvF (p := ⟨gb487, 0, none⟩) (qvF (p := ⟨gb486, 1, none⟩) (qvF (p := ⟨gb486, 0, none⟩) (qvM (qvM HO481.out (fun k_ hk => (⟨hk, hk.1.2⟩ : _ ∧ k_ ≠ gb486))) (fun k_ hk => (⟨hk, hk.1.2⟩ : _ ∧ k_ ≠ gb487))) (fun _ hk => hk.1.2) (.bool t478)) (fun _ hk => hk.1.2) (.slice Ao38 t479.length co38)) (fun _ hk => hk.2) (.bool t482)) (fun _ hk => hk.2) (.slice Ao40 t483.length co40)) (fun _ hk => ⟨hk.1.1.1.2, hk.1.1.2⟩)⟩
     have n1_ : Aside0 (Kd.V (Kd.int .u32) 22 ((((w35.setCell ⟨gb486, 0, none⟩ (.bool t478)).setCell ⟨gb486, 1, none⟩ (.slice Ao38 t479.length co38)).setCell ⟨gb487, 0, none⟩ (.bool t482)).setCell ⟨gb487, 1, none⟩ (.slice Ao40 t483.length co40)) w.heap.size (fun k_ => k_ ≠ gb486 ∧ k_ ≠ gb487) (.slice Ao40 t483.length co40) t483) := ⟨by (with_reducible repeat (first | apply qvA | apply qvN | apply qvD)); exact qvM (qvF (p := ⟨gb487, 1, none⟩) (qvF (p := ⟨gb487, 0, none⟩) (qvF (p := ⟨gb486, 1, none⟩) (qvF (p := ⟨gb486, 0, none⟩) (qvM (qvM HO485.out (fun k_ hk => (⟨hk, hk.1.2⟩ : _ ∧ k_ ≠ gb486))) (fun k_ hk => (⟨hk, hk.1.2⟩ : _ ∧ k_ ≠ gb487))) (fun _ hk => hk.1.2) (.bool t478)) (fun _ hk => hk.1.2) (.slice Ao38 t479.length co38)) (fun _ hk => hk.2) (.bool t482)) (fun _ hk => hk.2) (.slice Ao40 t483.length co40)) (fun _ hk => ⟨hk.1.1.1.2, hk.1.1.2⟩)⟩
     have n2_ : Aside0 (((((w35.setCell ⟨gb486, 0, none⟩ (.bool t478)).setCell ⟨gb486, 1, none⟩ (.slice Ao38 t479.length co38)).setCell ⟨gb487, 0, none⟩ (.bool t482)).setCell ⟨gb487, 1, none⟩ (.slice Ao40 t483.length co40)).heap[gb486]? = some (.cells #[.bool t478, .slice Ao38 t479.length co38] 25 (0, 0))) := ⟨by (with_reducible repeat (first | refine qbN ?_ _ | refine qbD ?_ | refine qbA ?_ _)); refine qbF ?_ NB486_487.out _; (with_reducible repeat (first | refine qbN ?_ _ | refine qbD ?_ | refine qbA ?_ _)); refine qbF ?_ NB486_487.out _; (with_reducible repeat (first | refine qbN ?_ _ | refine qbD ?_ | refine qbA ?_ _)); refine qbP (cs := #[.bool t478, .slice none 0 0]) ?_ 1 _ rfl; (with_reducible repeat (first | refine qbN ?_ _ | refine qbD ?_ | refine qbA ?_ _)); refine qbP (cs := #[.bool false, .slice none 0 0]) ?_ 0 _ rfl; (with_reducible repeat (first | refine qbN ?_ _ | refine qbD ?_ | refine qbA ?_ _)); exact BK486.out⟩
     have n3_ : Aside0 (((((w35.setCell ⟨gb486, 0, none⟩ (.bool t478)).setCell ⟨gb486, 1, none⟩ (.slice Ao38 t479.length co38)).setCell ⟨gb487, 0, none⟩ (.bool t482)).setCell ⟨gb487, 1, none⟩ (.slice Ao40 t483.length co40)).heap[gb487]? = some (.cells #[.bool t482, .slice Ao40 t483.length co40] 25 (0, 0))) := ⟨by (with_reducible repeat (first | refine qbN ?_ _ | refine qbD ?_ | refine qbA ?_ _)); refine qbP (cs := #[.bool t482, .slice none 0 0]) ?_ 1 _ rfl; (with_reducible repeat (first | refine qbN ?_ _ | refine qbD ?_ | refine qbA ?_ _)); refine qbP (cs := #[.bool false, .slice none 0 0]) ?_ 0 _ rfl; (with_reducible repeat (first | refine qbN ?_ _ | refine qbD ?_ | refine qbA ?_ _)); refine qbF ?_ NB487_486.out _; (with_reducible repeat (first | refine qbN ?_ _ | refine qbD ?_ | refine qbA ?_ _)); refine qbF ?_ NB487_486.out _; (with_reducible repeat (first | refine qbN ?_ _ | refine qbD ?_ | refine qbA ?_ _)); exact BK487.out⟩
     have n4_ : Aside0 (Below w.heap.size w ((((w35.setCell ⟨gb486, 0, none⟩ (.bool t478)).setCell ⟨gb486, 1, none⟩ (.slice Ao38 t479.length co38)).setCell ⟨gb487, 0, none⟩ (.bool t482)).setCell ⟨gb487, 1, none⟩ (.slice Ao40 t483.length co40))) := ⟨by repeat (first | (with_reducible first | exact HB.out | apply qwA | apply qwN | apply qwD | refine qwS ?_ GE486.out | refine qwS ?_ GE487.out) | exact HB.out)⟩
     (try clear HO481)
     (try clear HO485)
     (try clear BK486)
     (try clear BK487)
     (try clear HB)
     generalize ((((w35.setCell ⟨gb486, 0, none⟩ (.bool t478)).setCell ⟨gb486, 1, none⟩ (.slice Ao38 t479.length co38)).setCell ⟨gb487, 0, none⟩ (.bool t482)).setCell ⟨gb487, 1, none⟩ (.slice Ao40 t483.length co40)) = w41 at n0_ n1_ n2_ n3_ n4_ ⊢
     have HO481 := n0_
     have HO485 := n1_
     have BK486 := n2_
     have BK487 := n3_
     have HB := n4_
     clear n0_ n1_ n2_ n3_ n4_
     have n0_ := qaM (qvD HO481.out)
     have n1_ := qaM (qvD HO485.out)
     have n2_ := qaM (qbD BK486.out)
     have n3_ := qaM (qbD BK487.out)
     have n4_ := qaM (qwD HB.out)
     clear HO481
     clear HO485
     clear BK486
     clear BK487
     clear HB
     have HO481 := n0_
     have HO485 := n1_
     have BK486 := n2_
     have BK487 := n3_
     have HB := n4_
     clear n0_ n1_ n2_ n3_ n4_
     refine start_ (n := 15) (S := fun w' => w'.cell? ⟨gb486, 0, none⟩ = some (.bool t478) ∧ w'.cell? ⟨gb486, 1, none⟩ = some (.slice Ao38 t479.length co38) ∧ w'.cell? ⟨gb487, 0, none⟩ = some (.bool t482) ∧ w'.cell? ⟨gb487, 1, none⟩ = some (.slice Ao40 t483.length co40)) (ds := []) #[false, false, false, false, false, false, false, false, false, false, false, false, false, false, false] zz14_11 rfl rfl ⟨(qbC BK486.out 0).trans rfl, (qbC BK486.out 1).trans rfl, (qbC BK487.out 0).trans rfl, (qbC BK487.out 1).trans rfl⟩ (fun hHeld => ?_); refine with_tabW laws_FnAddUint8.tab2 laws_FnAddUint8.bits2 (fun HT_ HW_ => ?_)
     generalize w41.drew = w42 at HO481 HO485 BK486 BK487 HB hHeld ⊢
     refine pure_ (i := 0) (N := some 18) (v := ?_) (a' := ?_) #[true, false, false, false, false, false, false, false, false, false, false, false, false, false, false] rfl rfl (any_of HT_.out zz14_11) (fun _ _ _ h => h) (Or.inl ⟨by rfl, ?_⟩) ?_ ?_
     rotate_left
     ·intro w'
      go_simp
      with_reducible rfl
     rotate_left
     ·simp only [Act.put, qsA, qsZ, qsS, i64_w, i32_w]
      rfl
     refine pure_ (i := 1) (N := some 19) (v := ?_) (a' := ?_) #[true, true, false, false, false, false, false, false, false, false, false, false, false, false, false] rfl rfl (any_of HT_.out zz14_11) (fun _ _ _ h => h) (Or.inl ⟨by rfl, ?_⟩) ?_ ?_
     rotate_left
     ·intro w'
      go_simp
      with_reducible rfl
     rotate_left
     ·simp only [Act.put, qsA, qsZ, qsS, i64_w, i32_w]
      rfl
     refine pure_ (i := 3) (N := some 21) (v := ?_) (a' := ?_) #[true, true, false, true, false, false, false, false, false, false, false, false, false, false, false] rfl rfl (any_of HT_.out zz14_11) (fun _ _ _ h => h) (Or.inl ⟨by rfl, ?_⟩) ?_ ?_
     rotate_left
     ·intro w'
      go_simp
      with_reducible rfl
     rotate_left
     ·simp only [Act.put, qsA, qsZ, qsS, i64_w, i32_w]
      rfl
     refine pure_ (i := 4) (N := some 22) (v := ?_) (a' := ?_) #[true, true, false, true, true, false, false, false, false, false, false, false, false, false, false] rfl rfl (any_of HT_.out zz14_11) (fun _ _ _ h => h) (Or.inl ⟨by rfl, ?_⟩) ?_ ?_
     rotate_left
     ·intro w'
      go_simp
      with_reducible rfl
     rotate_left
     ·simp only [Act.put, qsA, qsZ, qsS, i64_w, i32_w]
      rfl
     refine take_ (i := 7) (N := some 25) (v := ?_) (a' := ?_) #[true, true, false, true, true, false, false, true, false, false, false, false, false, false, false] rfl rfl (take_ofW HT_.out HW_.out zz14_11) (fun _ _ _ h => h) (Or.inl ⟨by rfl, ?_⟩) hHeld ?_ ?_
     rotate_left
     ·rintro w' ⟨s0, s1, s2, s3⟩
      go_simp
      with_reducible rfl
     rotate_left
     ·simp only [Act.put, qsA, qsZ, qsS, i64_w, i32_w]
      rfl
     refine take_ (i := 8) (N := some 26) (v := ?_) (a' := ?_) #[true, true, false, true, true, false, false, true, true, false, false, false, false, false, false] rfl rfl (take_ofW HT_.out HW_.out zz14_11) (fun _ _ _ h => h) (Or.inl ⟨by rfl, ?_⟩) hHeld ?_ ?_
     rotate_left
     ·rintro w' ⟨s0, s1, s2, s3⟩
      go_simp
      with_reducible rfl
     rotate_left
     ·simp only [Act.put, qsA, qsZ, qsS, i64_w, i32_w]
      rfl
     refine one_ (i := 2) (N := some 20) #[true, true, true, true, true, false, false, true, true, false, false, false, false, false, false] rfl rfl (one_of HT_.out zz14_11) (by decide) (fun K hK => ?_)
     refine goes_ Try.func12 zz14_11 rfl #[.int .u64 (IntKind.u64.wrap (a0))] (by rfl) rfl rfl zz14_2 ?_
     with_reducible refine (spec_WideUint.calls k (IntKind.u64.wrap (a0)) t488 t489 _ A4.out).mono ?_
     rintro e w43 ⟨v490, rfl, ho0, hb⟩
     refine ⟨_, rfl, ?_⟩
     have n0_ := qaM (qvB zz14_4 hb)
     have n1_ := qaM (qvB zz14_5 hb)
     have n2_ := qaM (qvL (qvM (ok' := fun k_ => k_ ≠ gb486 ∧ k_ ≠ gb487) ho0 (fun k_ hk_ => ⟨(qfB (g := gb486) (o := .cells #[.bool t478, .slice Ao38 t479.length co38] 25 (0, 0)) zz14_1 k_ hk_), (qfB (g := gb487) (o := .cells #[.bool t482, .slice Ao40 t483.length co40] 25 (0, 0)) zz14_3 k_ hk_)⟩)) (qbS zz14_0))
     have n3_ := qaM (qbB (g := gb486) (o := .cells #[.bool t478, .slice Ao38 t479.length co38] 25 (0, 0)) zz14_1 hb)
     have n4_ := qaM (qbB (g := gb487) (o := .cells #[.bool t482, .slice Ao40 t483.length co40] 25 (0, 0)) zz14_3 hb)
     have n5_ := qaM (qbT zz14_0 hb)
     clear HO481
     clear HO485
     clear BK486
     clear BK487
     clear HB
     have HO481 := n0_
     have HO485 := n1_
     have HO491 := n2_
     have BK486 := n3_
     have BK487 := n4_
     have HB := n5_
     clear n0_ n1_ n2_ n3_ n4_ n5_
     (try clear hb)
     (try clear hb2)
     (try clear hk)
     (try clear hi)
     (try clear ho0)
     refine hK.out _ _ ⟨(qbC BK486.out 0).trans rfl, (qbC BK486.out 1).trans rfl, (qbC BK487.out 0).trans rfl, (qbC BK487.out 1).trans rfl⟩ (fun hHeld => ?_)
     clear hK K
     refine norm_ (a' := ?_) ?_ ?_
     rotate_left
     ·show Act.put _ (some 20) _ = _
      simp only [Act.put, qsA, qsZ, qsS, i64_w, i32_w]
      rfl
     refine one_ (i := 5) (N := some 23) #[true, true, true, true, true, true, false, true, true, false, false, false, false, false, false] rfl rfl (one_of HT_.out zz14_11) (by decide) (fun K hK => ?_)
     refine goes_ Try.func12 zz14_11 rfl #[.int .u64 (IntKind.u64.wrap (a1))] (by rfl) rfl rfl zz14_2 ?_
     with_reducible refine (spec_WideUint.calls k (IntKind.u64.wrap (a1)) t492 t493 _ A5.out).mono ?_
     rintro e w44 ⟨v494, rfl, ho0, hb⟩
     refine ⟨_, rfl, ?_⟩
     have n0_ := qaM (qvB zz14_4 hb)
     have n1_ := qaM (qvB zz14_5 hb)
     have n2_ := qaM (qvB zz14_7 hb)
     have n3_ := qaM (qvL (qvM (ok' := fun k_ => k_ ≠ gb486 ∧ k_ ≠ gb487) ho0 (fun k_ hk_ => ⟨(qfB (g := gb486) (o := .cells #[.bool t478, .slice Ao38 t479.length co38] 25 (0, 0)) zz14_1 k_ hk_), (qfB (g := gb487) (o := .cells #[.bool t482, .slice Ao40 t483.length co40] 25 (0, 0)) zz14_3 k_ hk_)⟩)) (qbS zz14_0))
     have n4_ := qaM (qbB (g := gb486) (o := .cells #[.bool t478, .slice Ao38 t479.length co38] 25 (0, 0)) zz14_1 hb)
     have n5_ := qaM (qbB (g := gb487) (o := .cells #[.bool t482, .slice Ao40 t483.length co40] 25 (0, 0)) zz14_3 hb)
     have n6_ := qaM (qbT zz14_0 hb)
     clear HO481
     clear HO485
     clear HO491
     clear BK486
     clear BK487
     clear HB
     have HO481 := n0_
     have HO485 := n1_
     have HO491 := n2_
     have HO495 := n3_
     have BK486 := n4_
     have BK487 := n5_
     have HB := n6_
     clear n0_ n1_ n2_ n3_ n4_ n5_ n6_
     (try clear hb)
     (try clear hb2)
     (try clear hk)
     (try clear hi)
     (try clear ho0)
     obtain ⟨Ao45, co45, eo45⟩ := Kd.V_slice HO491.out
     (first | subst eo45 | (injection eo45 with f1_ f2_ f3_; have f4_ := f1_.symm; have f5_ := f3_.symm; clear f1_ f2_ f3_; subst f4_; subst f5_))
     obtain ⟨Ao46, co46, eo46⟩ := Kd.V_slice HO495.out
     (first | subst eo46 | (injection eo46 with f1_ f2_ f3_; have f4_ := f1_.symm; have f5_ := f3_.symm; clear f1_ f2_ f3_; subst f4_; subst f5_))
     refine hK.out _ _ ⟨(qbC BK486.out 0).trans rfl, (qbC BK486.out 1).trans rfl, (qbC BK487.out 0).trans rfl, (qbC BK487.out 1).trans rfl⟩ (fun hHeld => ?_)
     clear hK K
     refine norm_ (a' := ?_) ?_ ?_
     rotate_left
     ·show Act.put _ (some 23) _ = _
      simp only [Act.put, qsA, qsZ, qsS, i64_w, i32_w]
      rfl
     refine one_ (i := 6) (N := some 24) #[true, true, true, true, true, true, true, true, true, false, false, false, false, false, false] rfl rfl (one_of HT_.out zz14_11) (by decide) (fun K hK => ?_)
     refine goes_ Try.func11 zz14_11 rfl #[.agg #[.bool t488, .slice Ao45 t489.length co45], .agg #[.bool t492, .slice Ao46 t493.length co46]] (by rfl) rfl rfl zz14_2 ?_
     with_reducible refine (spec_WideAdd.calls k t488 _ _ t489 t492 _ _ t493 t496 t497 _ ?side1 ?side2 ?side3 ?side4 A6.out).mono ?_
     (case side1 => repeat (first | exact (qvR HO491.out).2.2 | (with_reducible refine Kd.C_alloc ?_ _) | (with_reducible refine Kd.C_drewN ?_ _) | (with_reducible refine Kd.C_drew ?_)))
     (case side2 => exact (qvR HO491.out).2.1)
     (case side3 => repeat (first | exact (qvR HO495.out).2.2 | (with_reducible refine Kd.C_alloc ?_ _) | (with_reducible refine Kd.C_drewN ?_ _) | (with_reducible refine Kd.C_drew ?_)))
     (case side4 => exact (qvR HO495.out).2.1)
     rintro e w47 ⟨v498, rfl, ho0, hb⟩
     refine ⟨_, rfl, ?_⟩
     have n0_ := qaM (qvB zz14_4 hb)
     have n1_ := qaM (qvB zz14_5 hb)
     have n2_ := qaM (qvB zz14_7 hb)
     have n3_ := qaM (qvB zz14_9 hb)
     have n4_ := qaM (qvL (qvM (ok' := fun k_ => k_ ≠ gb486 ∧ k_ ≠ gb487) ho0 (fun k_ hk_ => ⟨(qfB (g := gb486) (o := .cells #[.bool t478, .slice Ao38 t479.length co38] 25 (0, 0)) zz14_1 k_ hk_), (qfB (g := gb487) (o := .cells #[.bool t482, .slice Ao40 t483.length co40] 25 (0, 0)) zz14_3 k_ hk_)⟩)) (qbS zz14_0))
     have n5_ := qaM (qbB (g := gb486) (o := .cells #[.bool t478, .slice Ao38 t479.length co38] 25 (0, 0)) zz14_1 hb)
     have n6_ := qaM (qbB (g := gb487) (o := .cells #[.bool t482, .slice Ao40 t483.length co40] 25 (0, 0)) zz14_3 hb)
     have n7_ := qaM (qbT zz14_0 hb)
     clear HO481
     clear HO485
     clear HO491
     clear HO495
     clear BK486
     clear BK487
     clear HB
     have HO481 := n0_
     have HO485 := n1_
     have HO491 := n2_
     have HO495 := n3_
     have HO499 := n4_
     have BK486 := n5_
     have BK487 := n6_
     have HB := n7_
     clear n0_ n1_ n2_ n3_ n4_ n5_ n6_ n7_
     (try clear hb)
     (try clear hb2)
     (try clear hk)
     (try clear hi)
     (try clear ho0)
     obtain ⟨Ao48, co48, eo48⟩ := Kd.V_slice HO499.out
     (first | subst eo48 | (injection eo48 with f1_ f2_ f3_; have f4_ := f1_.symm; have f5_ := f3_.symm; clear f1_ f2_ f3_; subst f4_; subst f5_))
     refine hK.out _ _ ⟨(qbC BK486.out 0).trans rfl, (qbC BK486.out 1).trans rfl, (qbC BK487.out 0).trans rfl, (qbC BK487.out 1).trans rfl⟩ (fun hHeld => ?_)
     clear hK K
     refine norm_ (a' := ?_) ?_ ?_
     rotate_left
     ·show Act.put _ (some 24) _ = _
      simp only [Act.put, qsA, qsZ, qsS, i64_w, i32_w]
      rfl
     refine one_ (i := 9) (N := some 27) #[true, true, true, true, true, true, true, true, true, true, false, false, false, false, false] rfl rfl (one_of HT_.out zz14_11) (by decide) (fun K hK => ?_)
     refine goes_ Try.func10 zz14_11 rfl #[.agg #[.bool t496, .slice Ao48 t497.length co48], .agg #[.bool t478, .slice Ao38 t479.length co38], .agg #[.bool t482, .slice Ao40 t483.length co40]] (by rfl) rfl rfl zz14_2 ?_
     with_reducible refine (laws_fitted.calls k t496 _ _ t497 t478 _ _ t479 t482 _ _ t483 t500 true _ ?side1 ?side2 ?side3 ?side4 ?side5 ?side6 A7.out).mono ?_
     (case side1 => repeat (first | exact (qvR HO499.out).2.2 | (with_reducible refine Kd.C_alloc ?_ _) | (with_reducible refine Kd.C_drewN ?_ _) | (with_reducible refine Kd.C_drew ?_)))
     (case side2 => exact (qvR HO499.out).2.1)
     (case side3 => repeat (first | exact (qvR HO481.out).2.2 | (with_reducible refine Kd.C_alloc ?_ _) | (with_reducible refine Kd.C_drewN ?_ _) | (with_reducible refine Kd.C_drew ?_)))
     (case side4 => exact (qvR HO481.out).2.1)
     (case side5 => repeat (first | exact (qvR HO485.out).2.2 | (with_reducible refine Kd.C_alloc ?_ _) | (with_reducible refine Kd.C_drewN ?_ _) | (with_reducible refine Kd.C_drew ?_)))
     (case side6 => exact (qvR HO485.out).2.1)
     rintro e w49 ⟨rfl, hb⟩
     refine ⟨_, rfl, ?_⟩
     have n0_ := qaM (qvB zz14_4 hb)
     have n1_ := qaM (qvB zz14_5 hb)
     have n2_ := qaM (qvB zz14_7 hb)
     have n3_ := qaM (qvB zz14_9 hb)
     have n4_ := qaM (qvB zz14_10 hb)
     have n5_ := qaM (qbB (g := gb486) (o := .cells #[.bool t478, .slice Ao38 t479.length co38] 25 (0, 0)) zz14_1 hb)
     have n6_ := qaM (qbB (g := gb487) (o := .cells #[.bool t482, .slice Ao40 t483.length co40] 25 (0, 0)) zz14_3 hb)
     have n7_ := qaM (qbT zz14_0 hb)
     clear HO481
     clear HO485
     clear HO491
     clear HO495
     clear HO499
     clear BK486
     clear BK487
     clear HB
     have HO481 := n0_
     have HO485 := n1_
     have HO491 := n2_
     have HO495 := n3_
     have HO499 := n4_
     have BK486 := n5_
     have BK487 := n6_
     have HB := n7_
     clear n0_ n1_ n2_ n3_ n4_ n5_ n6_ n7_
     (try clear hb)
     (try clear hb2)
     (try clear hk)
     (try clear hi)
     refine hK.out _ _ ⟨(qbC BK486.out 0).trans rfl, (qbC BK486.out 1).trans rfl, (qbC BK487.out 0).trans rfl, (qbC BK487.out 1).trans rfl⟩ (fun hHeld => ?_)
     clear hK K
     refine norm_ (a' := ?_) ?_ ?_
     rotate_left
     ·show Act.put _ (some 27) _ = _
      simp only [Act.put, qsA, qsZ, qsS, i64_w, i32_w]
      rfl
     refine pure_ (i := 10) (N := some 17) (v := ?_) (a' := ?_) #[true, true, true, true, true, true, true, true, true, true, true, false, false, false, false] rfl rfl (any_of HT_.out zz14_11) (fun _ _ _ h => h) (Or.inl ⟨by rfl, ?_⟩) ?_ ?_
     rotate_left
     ·intro w'
      go_simp
      with_reducible rfl
     rotate_left
     ·simp only [Act.put, qsA, qsZ, qsS, i64_w, i32_w]
      rfl
     refine pure_ (i := 11) (N := some 28) (v := ?_) (a' := ?_) #[true, true, true, true, true, true, true, true, true, true, true, true, false, false, false] rfl rfl (any_of HT_.out zz14_11) (fun _ _ _ h => h) (Or.inl ⟨by rfl, ?_⟩) ?_ ?_
     rotate_left
     ·intro w'
      go_simp
      with_reducible rfl
     rotate_left
     ·simp only [Act.put, qsA, qsZ, qsS, i64_w, i32_w]
      rfl
     refine pure_ (i := 12) (N := some 29) (v := ?_) (a' := ?_) #[true, true, true, true, true, true, true, true, true, true, true, true, true, false, false] rfl rfl (any_of HT_.out zz14_11) (fun _ _ _ h => h) (Or.inl ⟨by rfl, ?_⟩) ?_ ?_
     rotate_left
     ·intro w'
      go_simp
      with_reducible rfl
     rotate_left
     ·simp only [Act.put, qsA, qsZ, qsS, i64_w, i32_w]
      rfl
     refine pure_ (i := 13) (N := some 7) (v := ?_) (a' := ?_) #[true, true, true, true, true, true, true, true, true, true, true, true, true, true, false] rfl rfl (any_of HT_.out zz14_11) (fun _ _ _ h => h) (Or.inl ⟨by rfl, ?_⟩) ?_ ?_
     rotate_left
     ·intro w'
      go_simp
      with_reducible rfl
     rotate_left
     ·simp only [Act.put, qsA, qsZ, qsS, i64_w, i32_w]
      rfl
     refine pure_ (i := 14) (N := some 8) (v := ?_) (a' := ?_) #[true, true, true, true, true, true, true, true, true, true, true, true, true, true, true] rfl rfl (any_of HT_.out zz14_11) (fun _ _ _ h => h) (Or.inl ⟨by rfl, ?_⟩) ?_ ?_
     rotate_left
     ·intro w'
      go_simp
      with_reducible rfl
     rotate_left
     ·simp only [Act.put, qsA, qsZ, qsS, i64_w, i32_w]
      rfl
     refine done_ (done_of HT_.out zz14_11) ?_
     try go_wp2_with (first | ((with_reducible refine gate_callee (f := 14) rfl ?_); refine goesL_ (some 33) rfl rfl Try.func14 zz14_11 rfl #[.int .u8 a0, .int .u8 a1] rfl zz14_2 ?_; (with_reducible refine (impl_AddUint8.calls a0 a1 t502 t503 _ A8.out).mono ?_); rintro e w50 ⟨rfl, hb⟩; refine ⟨_, rfl, ?_⟩; have n0_ := qaM (qvB zz14_4 hb); have n1_ := qaM (qvB zz14_5 hb); have n2_ := qaM (qvB zz14_7 hb); have n3_ := qaM (qvB zz14_9 hb); have n4_ := qaM (qvB zz14_10 hb); have n5_ := qaM (qbB (g := gb486) (o := .cells #[.bool t478, .slice Ao38 t479.length co38] 25 (0, 0)) zz14_1 hb); have n6_ := qaM (qbB (g := gb487) (o := .cells #[.bool t482, .slice Ao40 t483.length co40] 25 (0, 0)) zz14_3 hb); have n7_ := qaM (qbT zz14_0 hb); clear HO481; clear HO485; clear HO491; clear HO495; clear HO499; clear BK486; clear BK487; clear HB; have HO481 := n0_; have HO485 := n1_; have HO491 := n2_; have HO495 := n3_; have HO499 := n4_; have BK486 := n5_; have BK487 := n6_; have HB := n7_; clear n0_ n1_ n2_ n3_ n4_ n5_ n6_ n7_; (try clear hb); (try clear hb2); (try clear hk); (try clear hi)) | ((with_reducible refine gate_callee (f := 14) rfl ?_); refine goesL_ (some 37) rfl rfl Try.func14 zz14_11 rfl #[.int .u8 2, .int .u8 3] rfl zz14_2 ?_; (with_reducible refine (impl_AddUint8.calls 2 3 t504 false _ A9.out).mono ?_); rintro e w51 ⟨rfl, hb⟩; refine ⟨_, rfl, ?_⟩; have n0_ := qaM (qvB zz14_4 hb); have n1_ := qaM (qvB zz14_5 hb); have n2_ := qaM (qvB zz14_7 hb); have n3_ := qaM (qvB zz14_9 hb); have n4_ := qaM (qvB zz14_10 hb); have n5_ := qaM (qbB (g := gb486) (o := .cells #[.bool t478, .slice Ao38 t479.length co38] 25 (0, 0)) zz14_1 hb); have n6_ := qaM (qbB (g := gb487) (o := .cells #[.bool t482, .slice Ao40 t483.length co40] 25 (0, 0)) zz14_3 hb); have n7_ := qaM (qbT zz14_0 hb); clear HO481; clear HO485; clear HO491; clear HO495; clear HO499; clear BK486; clear BK487; clear HB; have HO481 := n0_; have HO485 := n1_; have HO491 := n2_; have HO495 := n3_; have HO499 := n4_; have BK486 := n5_; have BK487 := n6_; have HB := n7_; clear n0_ n1_ n2_ n3_ n4_ n5_ n6_ n7_; (try clear hb); (try clear hb2); (try clear hk); (try clear hi)))
     go_ret
     exact ⟨by first | rfl | (simp [errW_none, errW_some] <;> rfl) | (simp [*, errW_none, errW_some] <;> rfl), by repeat (first | (with_reducible first | exact HB.out | apply qwA | apply qwN | apply qwD | refine qwS ?_ GE486.out | refine qwS ?_ GE487.out) | exact HB.out)⟩
   ·rw [if_neg c12] at H
    have c12b0 : (t502 == ((t500) % 256)) = false := beq_eq_false_iff_ne.mpr c12
    have c12b1 : (t502 != ((t500) % 256)) = true := bne_iff_ne.mpr c12
    obtain rfl := Option.some.inj H
    go_enter Try.func4, Try.ntmps4
    try go_wp2_with (first | ((with_reducible refine gate_callee (f := 9) rfl ?_); refine goesL_ (some 14) rfl rfl Try.func9 zz14_11 rfl #[.int .i64 8, .bool false] rfl zz14_2 ?_; (with_reducible refine (laws_bounds.calls k 8 false t478 t479 t482 t483 _ A3.out).mono ?_); rintro e w52 ⟨v480, v484, rfl, ho0, ho1, hb⟩; refine ⟨_, rfl, ?_⟩; have n0_ := qaM (qvL (qvM (ok' := fun k_ => True) ho0 (fun k_ hk_ => trivial)) (qbS zz14_6)); have n1_ := qaM (qvL (qvM (ok' := fun k_ => True) ho1 (fun k_ hk_ => trivial)) (qbS zz14_6)); have n2_ := qaM (qbT zz14_6 hb); clear HB; have HO481 := n0_; have HO485 := n1_; have HB := n2_; clear n0_ n1_ n2_; (try clear hb); (try clear hb2); (try clear hk); (try clear hi); (try clear ho0); (try clear ho1)) | ((with_reducible refine gate_dst (N := 5) rfl ?_); refine box_event ?hg (N := 5) ?hd (cs := #[.bool false, .slice none 0 0]) (t := 25) ?hr ?_; (case hd => rfl); (case hg => rfl); (case hr => first | (go_simp; done) | (go_simp; rfl)); intro gb486 hg w53 hbox hb; have n0_ := qaM (qvB (qvE zz14_4 gb486 (Nat.le_of_eq hg.symm)) hb); have n1_ := qaM (qvB (qvE zz14_5 gb486 (Nat.le_of_eq hg.symm)) hb); have n2_ := qaM (qbT zz14_6 hb); have n3_ := qaM (hbox); have n4_ := qaM ((by rw [hg]; exact (qbS zz14_6) : w.heap.size ≤ gb486)); have n5_ := qaM ((by rw [hg]; exact (qbS zz14_6) : w.heap.size ≤ gb486)); clear HO481; clear HO485; clear HB; have HO481 := n0_; have HO485 := n1_; have HB := n2_; have BK486 := n3_; have GW486 := n4_; have GE486 := n5_; clear n0_ n1_ n2_ n3_ n4_ n5_; clear hb hbox hg) | ((with_reducible refine gate_dst (N := 6) rfl ?_); refine box_event ?hg (N := 6) ?hd (cs := #[.bool false, .slice none 0 0]) (t := 25) ?hr ?_; (case hd => rfl); (case hg => rfl); (case hr => first | (go_simp; done) | (go_simp; rfl)); intro gb487 hg w54 hbox hb; have n0_ := qaM (qvB (qvE zz14_4 gb487 (Nat.le_of_eq hg.symm)) hb); have n1_ := qaM (qvB (qvE zz14_5 gb487 (Nat.le_of_eq hg.symm)) hb); have n2_ := qaM (qbB (g := gb486) (o := .cells #[.bool false, .slice none 0 0] 25 (0, 0)) zz14_1 hb); have n3_ := qaM (qbT zz14_8 hb); have n4_ := qaM (hbox); have n5_ := qaM ((by rw [hg]; exact (qbS zz14_8) : w.heap.size ≤ gb487)); have n6_ := qaM ((by rw [hg]; exact (qbS zz14_8) : w.heap.size ≤ gb487)); have n7_ := qaM ((by rw [hg]; exact qnL (qbL (g := gb486) (o := .cells #[.bool false, .slice none 0 0] 25 (0, 0)) zz14_1) : gb486 ≠ gb487)); have n8_ := qaM ((by rw [hg]; exact qnG (qbL (g := gb486) (o := .cells #[.bool false, .slice none 0 0] 25 (0, 0)) zz14_1) : gb487 ≠ gb486)); clear HO481; clear HO485; clear BK486; clear HB; have HO481 := n0_; have HO485 := n1_; have BK486 := n2_; have HB := n3_; have BK487 := n4_; have GW487 := n5_; have GE487 := n6_; have NB486_487 := n7_; have NB487_486 := n8_; clear n0_ n1_ n2_ n3_ n4_ n5_ n6_ n7_ n8_; clear hb hbox hg; have hnb55 := NB486_487.out; have hnc55 := NB487_486.out; have hcz56_0 : w54.cell? ⟨gb486, 0, none⟩ = some (.bool false) := (qbC BK486.out 0).trans rfl; have hcz56_1 : w54.cell? ⟨gb486, 1, none⟩ = some (.slice none 0 0) := (qbC BK486.out 1).trans rfl; have hfz56_0 := blk_frozen BK486.out 0; have hfz56_1 := blk_frozen BK486.out 1; obtain ⟨Ao57, co57, eo57⟩ := Kd.V_slice HO481.out; subst eo57; have hcz58_0 : w54.cell? ⟨gb487, 0, none⟩ = some (.bool false) := (qbC BK487.out 0).trans rfl; have hcz58_1 : w54.cell? ⟨gb487, 1, none⟩ = some (.slice none 0 0) := (qbC BK487.out 1).trans rfl; have hfz58_0 := blk_frozen BK487.out 0; have hfz58_1 := blk_frozen BK487.out 1; obtain ⟨Ao59, co59, eo59⟩ := Kd.V_slice HO485.out; subst eo59))
    have n0_ : Aside0 (Kd.V (Kd.int .u32) 22 ((((w54.setCell ⟨gb486, 0, none⟩ (.bool t478)).setCell ⟨gb486, 1, none⟩ (.slice Ao57 t479.length co57)).setCell ⟨gb487, 0, none⟩ (.bool t482)).setCell ⟨gb487, 1, none⟩ (.slice Ao59 t483.length co59)) w.heap.size (fun k_ => k_ ≠ gb486 ∧ k_ ≠ gb487) (.slice Ao57 t479.length co57) t479) := ⟨by (with_reducible repeat (first | apply qvA | apply qvN | apply qvD)); exact qvM (qvF (p := ⟨gb487, 1, none⟩) (qvF (p := ⟨gb487, 0, none⟩) (qvF (p := ⟨gb486, 1, none⟩) (qvF (p := ⟨gb486, 0, none⟩) (qvM (qvM HO481.out (fun k_ hk => (⟨hk, hk.1.2⟩ : _ ∧ k_ ≠ gb486))) (fun k_ hk => (⟨hk, hk.1.2⟩ : _ ∧ k_ ≠ gb487))) (fun _ hk => hk.1.2) (.bool t478)) (fun _ hk => hk.1.2) (.slice Ao57 t479.length co57)) (fun _ hk => hk.2) (.bool t482)) (fun _ hk => hk.2) (.slice Ao59 t483.length co59)) (fun _ hk => ⟨hk.1.1.1.2, hk.1.1.2⟩)⟩
    have n1_ : Aside0 (Kd.V (Kd.int .u32) 22 ((((w54.setCell ⟨gb486, 0, none⟩ (.bool t478)).setCell ⟨gb486, 1, none⟩ (.slice Ao57 t479.length co57)).setCell ⟨gb487, 0, none⟩ (.bool t482)).setCell ⟨gb487, 1, none⟩ (.slice Ao59 t483.length co59)) w.heap.size (fun k_ => k_ ≠ gb486 ∧ k_ ≠ gb487) (.slice Ao59 t483.length co59) t483) := ⟨by (with_reducible repeat (first | apply qvA | apply qvN | apply qvD)); exact qvM (qvF (p := ⟨gb487, 1, none⟩) (qvF (p := ⟨gb487, 0, none⟩) (qvF (p := ⟨gb486, 1, none⟩) (qvF (p := ⟨gb486, 0, none⟩) (qvM (qvM HO485.out (fun k_ hk => (⟨hk, hk.1.2⟩ : _ ∧ k_ ≠ gb486))) (fun k_ hk => (⟨hk, hk.1.2⟩ : _ ∧ k_ ≠ gb487))) (fun _ hk => hk.1.2) (.bool t478)) (fun _ hk => hk.1.2) (.slice Ao57 t479.length co57)) (fun _ hk => hk.2) (.bool t482)) (fun _ hk => hk.2) (.slice Ao59 t483.length co59)) (fun _ hk => ⟨hk.1.1.1.2, hk.1.1.2⟩)⟩
    have n2_ : Aside0 (((((w54.setCell ⟨gb486, 0, none⟩ (.bool t478)).setCell ⟨gb486, 1, none⟩ (.slice Ao57 t479.length co57)).setCell ⟨gb487, 0, none⟩ (.bool t482)).setCell ⟨gb487, 1, none⟩ (.slice Ao59 t483.length co59)).heap[gb486]? = some (.cells #[.bool t478, .slice Ao57 t479.length co57] 25 (0, 0))) := ⟨by (with_reducible repeat (first | refine qbN ?_ _ | refine qbD ?_ | refine qbA ?_ _)); refine qbF ?_ NB486_487.out _; (with_reducible repeat (first | refine qbN ?_ _ | refine qbD ?_ | refine qbA ?_ _)); refine qbF ?_ NB486_487.out _; (with_reducible repeat (first | refine qbN ?_ _ | refine qbD ?_ | refine qbA ?_ _)); refine qbP (cs := #[.bool t478, .slice none 0 0]) ?_ 1 _ rfl; (with_reducible repeat (first | refine qbN ?_ _ | refine qbD ?_ | refine qbA ?_ _)); refine qbP (cs := #[.bool false, .slice none 0 0]) ?_ 0 _ rfl; (with_reducible repeat (first | refine qbN ?_ _ | refine qbD ?_ | refine qbA ?_ _)); exact BK486.out⟩
    have n3_ : Aside0 (((((w54.setCell ⟨gb486, 0, none⟩ (.bool t478)).setCell ⟨gb486, 1, none⟩ (.slice Ao57 t479.length co57)).setCell ⟨gb487, 0, none⟩ (.bool t482)).setCell ⟨gb487, 1, none⟩ (.slice Ao59 t483.length co59)).heap[gb487]? = some (.cells #[.bool t482, .slice Ao59 t483.length co59] 25 (0, 0))) := ⟨by (with_reducible repeat (first | refine qbN ?_ _ | refine qbD ?_ | refine qbA ?_ _)); refine qbP (cs := #[.bool t482, .slice none 0 0]) ?_ 1 _ rfl; (with_reducible repeat (first | refine qbN ?_ _ | refine qbD ?_ | refine qbA ?_ _)); refine qbP (cs := #[.bool false, .slice none 0 0]) ?_ 0 _ rfl; (with_reducible repeat (first | refine qbN ?_ _ | refine qbD ?_ | refine qbA ?_ _)); refine qbF ?_ NB487_486.out _; (with_reducible repeat (first | refine qbN ?_ _ | refine qbD ?_ | refine qbA ?_ _)); refine qbF ?_ NB487_486.out _; (with_reducible repeat (first | refine qbN ?_ _ | refine qbD ?_ | refine qbA ?_ _)); exact BK487.out⟩
    have n4_ : Aside0 (Below w.heap.size w ((((w54.setCell ⟨gb486, 0, none⟩ (.bool t478)).setCell ⟨gb486, 1, none⟩ (.slice Ao57 t479.length co57)).setCell ⟨gb487, 0, none⟩ (.bool t482)).setCell ⟨gb487, 1, none⟩ (.slice Ao59 t483.length co59))) := ⟨by repeat (first | (with_reducible first | exact HB.out | apply qwA | apply qwN | apply qwD | refine qwS ?_ GE486.out | refine qwS ?_ GE487.out) | exact HB.out)⟩
    (try clear HO481)
    (try clear HO485)
    (try clear BK486)
    (try clear BK487)
    (try clear HB)
    generalize ((((w54.setCell ⟨gb486, 0, none⟩ (.bool t478)).setCell ⟨gb486, 1, none⟩ (.slice Ao57 t479.length co57)).setCell ⟨gb487, 0, none⟩ (.bool t482)).setCell ⟨gb487, 1, none⟩ (.slice Ao59 t483.length co59)) = w60 at n0_ n1_ n2_ n3_ n4_ ⊢
    have HO481 := n0_
    have HO485 := n1_
    have BK486 := n2_
    have BK487 := n3_
    have HB := n4_
    clear n0_ n1_ n2_ n3_ n4_
    have n0_ := qaM (qvD HO481.out)
    have n1_ := qaM (qvD HO485.out)
    have n2_ := qaM (qbD BK486.out)
    have n3_ := qaM (qbD BK487.out)
    have n4_ := qaM (qwD HB.out)
    clear HO481
    clear HO485
    clear BK486
    clear BK487
    clear HB
    have HO481 := n0_
    have HO485 := n1_
    have BK486 := n2_
    have BK487 := n3_
    have HB := n4_
    clear n0_ n1_ n2_ n3_ n4_
    refine start_ (n := 15) (S := fun w' => w'.cell? ⟨gb486, 0, none⟩ = some (.bool t478) ∧ w'.cell? ⟨gb486, 1, none⟩ = some (.slice Ao57 t479.length co57) ∧ w'.cell? ⟨gb487, 0, none⟩ = some (.bool t482) ∧ w'.cell? ⟨gb487, 1, none⟩ = some (.slice Ao59 t483.length co59)) (ds := []) #[false, false, false, false, false, false, false, false, false, false, false, false, false, false, false] zz14_11 rfl rfl ⟨(qbC BK486.out 0).trans rfl, (qbC BK486.out 1).trans rfl, (qbC BK487.out 0).trans rfl, (qbC BK487.out 1).trans rfl⟩ (fun hHeld => ?_); refine with_tabW laws_FnAddUint8.tab2 laws_FnAddUint8.bits2 (fun HT_ HW_ => ?_)
    generalize w60.drew = w61 at HO481 HO485 BK486 BK487 HB hHeld ⊢
    refine pure_ (i := 0) (N := some 18) (v := ?_) (a' := ?_) #[true, false, false, false, false, false, false, false, false, false, false, false, false, false, false] rfl rfl (any_of HT_.out zz14_11) (fun _ _ _ h => h) (Or.inl ⟨by rfl, ?_⟩) ?_ ?_
    rotate_left
    ·intro w'
     go_simp
     with_reducible rfl
    rotate_left
    ·simp only [Act.put, qsA, qsZ, qsS, i64_w, i32_w]
     rfl
    refine pure_ (i := 1) (N := some 19) (v := ?_) (a' := ?_) #[true, true, false, false, false, false, false, false, false, false, false, false, false, false, false] rfl rfl (any_of HT_.out zz14_11) (fun _ _ _ h => h) (Or.inl ⟨by rfl, ?_⟩) ?_ ?_
    rotate_left
    ·intro w'
     go_simp
     with_reducible rfl
    rotate_left
    ·simp only [Act.put, qsA, qsZ, qsS, i64_w, i32_w]
     rfl
    refine pure_ (i := 3) (N := some 21) (v := ?_) (a' := ?_) #[true, true, false, true, false, false, false, false, false, false, false, false, false, false, false] rfl rfl (any_of HT_.out zz14_11) (fun _ _ _ h => h) (Or.inl ⟨by rfl, ?_⟩) ?_ ?_
    rotate_left
    ·intro w'
     go_simp
     with_reducible rfl
    rotate_left
    ·simp only [Act.put, qsA, qsZ, qsS, i64_w, i32_w]
     rfl
    refine pure_ (i := 4) (N := some 22) (v := ?_) (a' := ?_) #[true, true, false, true, true, false, false, false, false, false, false, false, false, false, false] rfl rfl (any_of HT_.out zz14_11) (fun _ _ _ h => h) (Or.inl ⟨by rfl, ?_⟩) ?_ ?_
    rotate_left
    ·intro w'
     go_simp
     with_reducible rfl
    rotate_left
    ·simp only [Act.put, qsA, qsZ, qsS, i64_w, i32_w]
     rfl
    refine take_ (i := 7) (N := some 25) (v := ?_) (a' := ?_) #[true, true, false, true, true, false, false, true, false, false, false, false, false, false, false] rfl rfl (take_ofW HT_.out HW_.out zz14_11) (fun _ _ _ h => h) (Or.inl ⟨by rfl, ?_⟩) hHeld ?_ ?_
    rotate_left
    ·rintro w' ⟨s0, s1, s2, s3⟩
     go_simp
     with_reducible rfl
    rotate_left
    ·simp only [Act.put, qsA, qsZ, qsS, i64_w, i32_w]
     rfl
    refine take_ (i := 8) (N := some 26) (v := ?_) (a' := ?_) #[true, true, false, true, true, false, false, true, true, false, false, false, false, false, false] rfl rfl (take_ofW HT_.out HW_.out zz14_11) (fun _ _ _ h => h) (Or.inl ⟨by rfl, ?_⟩) hHeld ?_ ?_
    rotate_left
    ·rintro w' ⟨s0, s1, s2, s3⟩
     go_simp
     with_reducible rfl
    rotate_left
    ·simp only [Act.put, qsA, qsZ, qsS, i64_w, i32_w]
     rfl
    refine one_ (i := 2) (N := some 20) #[true, true, true, true, true, false, false, true, true, false, false, false, false, false, false] rfl rfl (one_of HT_.out zz14_11) (by decide) (fun K hK => ?_)
    refine goes_ Try.func12 zz14_11 rfl #[.int .u64 (IntKind.u64.wrap (a0))] (by rfl) rfl rfl zz14_2 ?_
    with_reducible refine (spec_WideUint.calls k (IntKind.u64.wrap (a0)) t488 t489 _ A4.out).mono ?_
    rintro e w62 ⟨v490, rfl, ho0, hb⟩
    refine ⟨_, rfl, ?_⟩
    have n0_ := qaM (qvB zz14_4 hb)
    have n1_ := qaM (qvB zz14_5 hb)
    have n2_ := qaM (qvL (qvM (ok' := fun k_ => k_ ≠ gb486 ∧ k_ ≠ gb487) ho0 (fun k_ hk_ => ⟨(qfB (g := gb486) (o := .cells #[.bool t478, .slice Ao57 t479.length co57] 25 (0, 0)) zz14_1 k_ hk_), (qfB (g := gb487) (o := .cells #[.bool t482, .slice Ao59 t483.length co59] 25 (0, 0)) zz14_3 k_ hk_)⟩)) (qbS zz14_0))
    have n3_ := qaM (qbB (g := gb486) (o := .cells #[.bool t478, .slice Ao57 t479.length co57] 25 (0, 0)) zz14_1 hb)
    have n4_ := qaM (qbB (g := gb487) (o := .cells #[.bool t482, .slice Ao59 t483.length co59] 25 (0, 0)) zz14_3 hb)
    have n5_ := qaM (qbT zz14_0 hb)
    clear HO481
    clear HO485
    clear BK486
    clear BK487
    clear HB
    have HO481 := n0_
    have HO485 := n1_
    have HO491 := n2_
    have BK486 := n3_
    have BK487 := n4_
    have HB := n5_
    clear n0_ n1_ n2_ n3_ n4_ n5_
    (try clear hb)
    (try clear hb2)
    (try clear hk)
    (try clear hi)
    (try clear ho0)
    refine hK.out _ _ ⟨(qbC BK486.out 0).trans rfl, (qbC BK486.out 1).trans rfl, (qbC BK487.out 0).trans rfl, (qbC BK487.out 1).trans rfl⟩ (fun hHeld => ?_)
    clear hK K
    refine norm_ (a' := ?_) ?_ ?_
    rotate_left
    ·show Act.put _ (some 20) _ = _
     simp only [Act.put, qsA, qsZ, qsS, i64_w, i32_w]
     rfl
    refine one_ (i := 5) (N := some 23) #[true, true, true, true, true, true, false, true, true, false, false, false, false, false, false] rfl rfl (one_of HT_.out zz14_11) (by decide) (fun K hK => ?_)
    refine goes_ Try.func12 zz14_11 rfl #[.int .u64 (IntKind.u64.wrap (a1))] (by rfl) rfl rfl zz14_2 ?_
    with_reducible refine (spec_WideUint.calls k (IntKind.u64.wrap (a1)) t492 t493 _ A5.out).mono ?_
    rintro e w63 ⟨v494, rfl, ho0, hb⟩
    refine ⟨_, rfl, ?_⟩
    have n0_ := qaM (qvB zz14_4 hb)
    have n1_ := qaM (qvB zz14_5 hb)
    have n2_ := qaM (qvB zz14_7 hb)
    have n3_ := qaM (qvL (qvM (ok' := fun k_ => k_ ≠ gb486 ∧ k_ ≠ gb487) ho0 (fun k_ hk_ => ⟨(qfB (g := gb486) (o := .cells #[.bool t478, .slice Ao57 t479.length co57] 25 (0, 0)) zz14_1 k_ hk_), (qfB (g := gb487) (o := .cells #[.bool t482, .slice Ao59 t483.length co59] 25 (0, 0)) zz14_3 k_ hk_)⟩)) (qbS zz14_0))
    have n4_ := qaM (qbB (g := gb486) (o := .cells #[.bool t478, .slice Ao57 t479.length co57] 25 (0, 0)) zz14_1 hb)
    have n5_ := qaM (qbB (g := gb487) (o := .cells #[.bool t482, .slice Ao59 t483.length co59] 25 (0, 0)) zz14_3 hb)
    have n6_ := qaM (qbT zz14_0 hb)
    clear HO481
    clear HO485
    clear HO491
    clear BK486
    clear BK487
    clear HB
    have HO481 := n0_
    have HO485 := n1_
    have HO491 := n2_
    have HO495 := n3_
    have BK486 := n4_
    have BK487 := n5_
    have HB := n6_
    clear n0_ n1_ n2_ n3_ n4_ n5_ n6_
    (try clear hb)
    (try clear hb2)
    (try clear hk)
    (try clear hi)
    (try clear ho0)
    obtain ⟨Ao64, co64, eo64⟩ := Kd.V_slice HO491.out
    (first | subst eo64 | (injection eo64 with f1_ f2_ f3_; have f4_ := f1_.symm; have f5_ := f3_.symm; clear f1_ f2_ f3_; subst f4_; subst f5_))
    obtain ⟨Ao65, co65, eo65⟩ := Kd.V_slice HO495.out
    (first | subst eo65 | (injection eo65 with f1_ f2_ f3_; have f4_ := f1_.symm; have f5_ := f3_.symm; clear f1_ f2_ f3_; subst f4_; subst f5_))
    refine hK.out _ _ ⟨(qbC BK486.out 0).trans rfl, (qbC BK486.out 1).trans rfl, (qbC BK487.out 0).trans rfl, (qbC BK487.out 1).trans rfl⟩ (fun hHeld => ?_)
    clear hK K
    refine norm_ (a' := ?_) ?_ ?_
    rotate_left
    ·show Act.put _ (some 23) _ = _
     simp only [Act.put, qsA, qsZ, qsS, i64_w, i32_w]
     rfl
    refine one_ (i := 6) (N := some 24) #[true, true, true, true, true, true, true, true, true, false, false, false, false, false, false] rfl rfl (one_of HT_.out zz14_11) (by decide) (fun K hK => ?_)
    refine goes_ Try.func11 zz14_11 rfl #[.agg #[.bool t488, .slice Ao64 t489.length co64], .agg #[.bool t492, .slice Ao65 t493.length co65]] (by rfl) rfl rfl zz14_2 ?_
    with_reducible refine (spec_WideAdd.calls k t488 _ _ t489 t492 _ _ t493 t496 t497 _ ?side1 ?side2 ?side3 ?side4 A6.out).mono ?_
    (case side1 => repeat (first | exact (qvR HO491.out).2.2 | (with_reducible refine Kd.C_alloc ?_ _) | (with_reducible refine Kd.C_drewN ?_ _) | (with_reducible refine Kd.C_drew ?_)))
    (case side2 => exact (qvR HO491.out).2.1)
    (case side3 => repeat (first | exact (qvR HO495.out).2.2 | (with_reducible refine Kd.C_alloc ?_ _) | (with_reducible refine Kd.C_drewN ?_ _) | (with_reducible refine Kd.C_drew ?_)))
    (case side4 => exact (qvR HO495.out).2.1)
    rintro e w66 ⟨v498, rfl, ho0, hb⟩
    refine ⟨_, rfl, ?_⟩
    have n0_ := qaM (qvB zz14_4 hb)
    have n1_ := qaM (qvB zz14_5 hb)
    have n2_ := qaM (qvB zz14_7 hb)
    have n3_ := qaM (qvB zz14_9 hb)
    have n4_ := qaM (qvL (qvM (ok' := fun k_ => k_ ≠ gb486 ∧ k_ ≠ gb487) ho0 (fun k_ hk_ => ⟨(qfB (g := gb486) (o := .cells #[.bool t478, .slice Ao57 t479.length co57] 25 (0, 0)) zz14_1 k_ hk_), (qfB (g := gb487) (o := .cells #[.bool t482, .slice Ao59 t483.length co59] 25 (0, 0)) zz14_3 k_ hk_)⟩)) (qbS zz14_0))
    have n5_ := qaM (qbB (g := gb486) (o := .cells #[.bool t478, .slice Ao57 t479.length co57] 25 (0, 0)) zz14_1 hb)
    have n6_ := qaM (qbB (g := gb487) (o := .cells #[.bool t482, .slice Ao59 t483.length co59] 25 (0, 0)) zz14_3 hb)
    have n7_ := qaM (qbT zz14_0 hb)
    clear HO481
    clear HO485
    clear HO491
    clear HO495
    clear BK486
    clear BK487
    clear HB
    have HO481 := n0_
    have HO485 := n1_
    have HO491 := n2_
    have HO495 := n3_
    have HO499 := n4_
    have BK486 := n5_
    have BK487 := n6_
    have HB := n7_
    clear n0_ n1_ n2_ n3_ n4_ n5_ n6_ n7_
    (try clear hb)
    (try clear hb2)
    (try clear hk)
    (try clear hi)
    (try clear ho0)
    obtain ⟨Ao67, co67, eo67⟩ := Kd.V_slice HO499.out
    (first | subst eo67 | (injection eo67 with f1_ f2_ f3_; have f4_ := f1_.symm; have f5_ := f3_.symm; clear f1_ f2_ f3_; subst f4_; subst f5_))
    refine hK.out _ _ ⟨(qbC BK486.out 0).trans rfl, (qbC BK486.out 1).trans rfl, (qbC BK487.out 0).trans rfl, (qbC BK487.out 1).trans rfl⟩ (fun hHeld => ?_)
    clear hK K
    refine norm_ (a' := ?_) ?_ ?_
    rotate_left
    ·show Act.put _ (some 24) _ = _
     simp only [Act.put, qsA, qsZ, qsS, i64_w, i32_w]
     rfl
    refine one_ (i := 9) (N := some 27) #[true, true, true, true, true, true, true, true, true, true, false, false, false, false, false] rfl rfl (one_of HT_.out zz14_11) (by decide) (fun K hK => ?_)
    refine goes_ Try.func10 zz14_11 rfl #[.agg #[.bool t496, .slice Ao67 t497.length co67], .agg #[.bool t478, .slice Ao57 t479.length co57], .agg #[.bool t482, .slice Ao59 t483.length co59]] (by rfl) rfl rfl zz14_2 ?_
    with_reducible refine (laws_fitted.calls k t496 _ _ t497 t478 _ _ t479 t482 _ _ t483 t500 true _ ?side1 ?side2 ?side3 ?side4 ?side5 ?side6 A7.out).mono ?_
    (case side1 => repeat (first | exact (qvR HO499.out).2.2 | (with_reducible refine Kd.C_alloc ?_ _) | (with_reducible refine Kd.C_drewN ?_ _) | (with_reducible refine Kd.C_drew ?_)))
    (case side2 => exact (qvR HO499.out).2.1)
    (case side3 => repeat (first | exact (qvR HO481.out).2.2 | (with_reducible refine Kd.C_alloc ?_ _) | (with_reducible refine Kd.C_drewN ?_ _) | (with_reducible refine Kd.C_drew ?_)))
    (case side4 => exact (qvR HO481.out).2.1)
    (case side5 => repeat (first | exact (qvR HO485.out).2.2 | (with_reducible refine Kd.C_alloc ?_ _) | (with_reducible refine Kd.C_drewN ?_ _) | (with_reducible refine Kd.C_drew ?_)))
    (case side6 => exact (qvR HO485.out).2.1)
    rintro e w68 ⟨rfl, hb⟩
    refine ⟨_, rfl, ?_⟩
    have n0_ := qaM (qvB zz14_4 hb)
    have n1_ := qaM (qvB zz14_5 hb)
    have n2_ := qaM (qvB zz14_7 hb)
    have n3_ := qaM (qvB zz14_9 hb)
    have n4_ := qaM (qvB zz14_10 hb)
    have n5_ := qaM (qbB (g := gb486) (o := .cells #[.bool t478, .slice Ao57 t479.length co57] 25 (0, 0)) zz14_1 hb)
    have n6_ := qaM (qbB (g := gb487) (o := .cells #[.bool t482, .slice Ao59 t483.length co59] 25 (0, 0)) zz14_3 hb)
    have n7_ := qaM (qbT zz14_0 hb)
    clear HO481
    clear HO485
    clear HO491
    clear HO495
    clear HO499
    clear BK486
    clear BK487
    clear HB
    have HO481 := n0_
    have HO485 := n1_
    have HO491 := n2_
    have HO495 := n3_
    have HO499 := n4_
    have BK486 := n5_
    have BK487 := n6_
    have HB := n7_
    clear n0_ n1_ n2_ n3_ n4_ n5_ n6_ n7_
    (try clear hb)
    (try clear hb2)
    (try clear hk)
    (try clear hi)
    refine hK.out _ _ ⟨(qbC BK486.out 0).trans rfl, (qbC BK486.out 1).trans rfl, (qbC BK487.out 0).trans rfl, (qbC BK487.out 1).trans rfl⟩ (fun hHeld => ?_)
    clear hK K
    refine norm_ (a' := ?_) ?_ ?_
    rotate_left
    ·show Act.put _ (some 27) _ = _
     simp only [Act.put, qsA, qsZ, qsS, i64_w, i32_w]
     rfl
    refine pure_ (i := 10) (N := some 17) (v := ?_) (a' := ?_) #[true, true, true, true, true, true, true, true, true, true, true, false, false, false, false] rfl rfl (any_of HT_.out zz14_11) (fun _ _ _ h => h) (Or.inl ⟨by rfl, ?_⟩) ?_ ?_
    rotate_left
    ·intro w'
     go_simp
     with_reducible rfl
    rotate_left
    ·simp only [Act.put, qsA, qsZ, qsS, i64_w, i32_w]
     rfl
    refine pure_ (i := 11) (N := some 28) (v := ?_) (a' := ?_) #[true, true, true, true, true, true, true, true, true, true, true, true, false, false, false] rfl rfl (any_of HT_.out zz14_11) (fun _ _ _ h => h) (Or.inl ⟨by rfl, ?_⟩) ?_ ?_
    rotate_left
    ·intro w'
     go_simp
     with_reducible rfl
    rotate_left
    ·simp only [Act.put, qsA, qsZ, qsS, i64_w, i32_w]
     rfl
    refine pure_ (i := 12) (N := some 29) (v := ?_) (a' := ?_) #[true, true, true, true, true, true, true, true, true, true, true, true, true, false, false] rfl rfl (any_of HT_.out zz14_11) (fun _ _ _ h => h) (Or.inl ⟨by rfl, ?_⟩) ?_ ?_
    rotate_left
    ·intro w'
     go_simp
     with_reducible rfl
    rotate_left
    ·simp only [Act.put, qsA, qsZ, qsS, i64_w, i32_w]
     rfl
    refine pure_ (i := 13) (N := some 7) (v := ?_) (a' := ?_) #[true, true, true, true, true, true, true, true, true, true, true, true, true, true, false] rfl rfl (any_of HT_.out zz14_11) (fun _ _ _ h => h) (Or.inl ⟨by rfl, ?_⟩) ?_ ?_
    rotate_left
    ·intro w'
     go_simp
     with_reducible rfl
    rotate_left
    ·simp only [Act.put, qsA, qsZ, qsS, i64_w, i32_w]
     rfl
    refine pure_ (i := 14) (N := some 8) (v := ?_) (a' := ?_) #[true, true, true, true, true, true, true, true, true, true, true, true, true, true, true] rfl rfl (any_of HT_.out zz14_11) (fun _ _ _ h => h) (Or.inl ⟨by rfl, ?_⟩) ?_ ?_
    rotate_left
    ·intro w'
     go_simp
     with_reducible rfl
    rotate_left
    ·simp only [Act.put, qsA, qsZ, qsS, i64_w, i32_w]
     rfl
    refine done_ (done_of HT_.out zz14_11) ?_
    try go_wp2_with (first | ((with_reducible refine gate_callee (f := 14) rfl ?_); refine goesL_ (some 33) rfl rfl Try.func14 zz14_11 rfl #[.int .u8 a0, .int .u8 a1] rfl zz14_2 ?_; (with_reducible refine (impl_AddUint8.calls a0 a1 t502 t503 _ A8.out).mono ?_); rintro e w69 ⟨rfl, hb⟩; refine ⟨_, rfl, ?_⟩; have n0_ := qaM (qvB zz14_4 hb); have n1_ := qaM (qvB zz14_5 hb); have n2_ := qaM (qvB zz14_7 hb); have n3_ := qaM (qvB zz14_9 hb); have n4_ := qaM (qvB zz14_10 hb); have n5_ := qaM (qbB (g := gb486) (o := .cells #[.bool t478, .slice Ao57 t479.length co57] 25 (0, 0)) zz14_1 hb); have n6_ := qaM (qbB (g := gb487) (o := .cells #[.bool t482, .slice Ao59 t483.length co59] 25 (0, 0)) zz14_3 hb); have n7_ := qaM (qbT zz14_0 hb); clear HO481; clear HO485; clear HO491; clear HO495; clear HO499; clear BK486; clear BK487; clear HB; have HO481 := n0_; have HO485 := n1_; have HO491 := n2_; have HO495 := n3_; have HO499 := n4_; have BK486 := n5_; have BK487 := n6_; have HB := n7_; clear n0_ n1_ n2_ n3_ n4_ n5_ n6_ n7_; (try clear hb); (try clear hb2); (try clear hk); (try clear hi)) | ((with_reducible refine gate_callee (f := 14) rfl ?_); refine goesL_ (some 37) rfl rfl Try.func14 zz14_11 rfl #[.int .u8 2, .int .u8 3] rfl zz14_2 ?_; (with_reducible refine (impl_AddUint8.calls 2 3 t504 t505 _ A9.out).mono ?_); rintro e w70 ⟨rfl, hb⟩; refine ⟨_, rfl, ?_⟩; have n0_ := qaM (qvB zz14_4 hb); have n1_ := qaM (qvB zz14_5 hb); have n2_ := qaM (qvB zz14_7 hb); have n3_ := qaM (qvB zz14_9 hb); have n4_ := qaM (qvB zz14_10 hb); have n5_ := qaM (qbB (g := gb486) (o := .cells #[.bool t478, .slice Ao57 t479.length co57] 25 (0, 0)) zz14_1 hb); have n6_ := qaM (qbB (g := gb487) (o := .cells #[.bool t482, .slice Ao59 t483.length co59] 25 (0, 0)) zz14_3 hb); have n7_ := qaM (qbT zz14_0 hb); clear HO481; clear HO485; clear HO491; clear HO495; clear HO499; clear BK486; clear BK487; clear HB; have HO481 := n0_; have HO485 := n1_; have HO491 := n2_; have HO495 := n3_; have HO499 := n4_; have BK486 := n5_; have BK487 := n6_; have HB := n7_; clear n0_ n1_ n2_ n3_ n4_ n5_ n6_ n7_; (try clear hb); (try clear hb2); (try clear hk); (try clear hi)))
    go_ret
    exact ⟨by first | rfl | (simp [errW_none, errW_some] <;> rfl) | (simp [*, errW_none, errW_some] <;> rfl), by repeat (first | (with_reducible first | exact HB.out | apply qwA | apply qwN | apply qwD | refine qwS ?_ GE486.out | refine qwS ?_ GE487.out) | exact HB.out)⟩
  ·replace c11 := Bool.eq_false_iff.mpr c11
   subst c11
   have H1 : (if t505 = true then (some (t504 == 5)) else (some false)) = some r := by rw [if_neg (show ¬ (false = true) by decide)] at H; exact H
   clear H
   have H := H1
   clear H1
   by_cases c71 : t505 = true
   ·subst c71
    have H1 : (some (t504 == 5)) = some r := by rw [if_pos rfl] at H; exact H
    clear H
    have H := H1
    clear H1
    obtain rfl := Option.some.inj H
    go_enter Try.func4, Try.ntmps4
    try go_wp2_with (first | ((with_reducible refine gate_callee (f := 9) rfl ?_); refine goesL_ (some 14) rfl rfl Try.func9 zz14_11 rfl #[.int .i64 8, .bool false] rfl zz14_2 ?_; (with_reducible refine (laws_bounds.calls k 8 false t478 t479 t482 t483 _ A3.out).mono ?_); rintro e w72 ⟨v480, v484, rfl, ho0, ho1, hb⟩; refine ⟨_, rfl, ?_⟩; have n0_ := qaM (qvL (qvM (ok' := fun k_ => True) ho0 (fun k_ hk_ => trivial)) (qbS zz14_6)); have n1_ := qaM (qvL (qvM (ok' := fun k_ => True) ho1 (fun k_ hk_ => trivial)) (qbS zz14_6)); have n2_ := qaM (qbT zz14_6 hb); clear HB; have HO481 := n0_; have HO485 := n1_; have HB := n2_; clear n0_ n1_ n2_; (try clear hb); (try clear hb2); (try clear hk); (try clear hi); (try clear ho0); (try clear ho1)) | ((with_reducible refine gate_dst (N := 5) rfl ?_); refine box_event ?hg (N := 5) ?hd (cs := #[.bool false, .slice none 0 0]) (t := 25) ?hr ?_; (case hd => rfl); (case hg => rfl); (case hr => first | (go_simp; done) | (go_simp; rfl)); intro gb486 hg w73 hbox hb; have n0_ := qaM (qvB (qvE zz14_4 gb486 (Nat.le_of_eq hg.symm)) hb); have n1_ := qaM (qvB (qvE zz14_5 gb486 (Nat.le_of_eq hg.symm)) hb); have n2_ := qaM (qbT zz14_6 hb); have n3_ := qaM (hbox); have n4_ := qaM ((by rw [hg]; exact (qbS zz14_6) : w.heap.size ≤ gb486)); have n5_ := qaM ((by rw [hg]; exact (qbS zz14_6) : w.heap.size ≤ gb486)); clear HO481; clear HO485; clear HB; have HO481 := n0_; have HO485 := n1_; have HB := n2_; have BK486 := n3_; have GW486 := n4_; have GE486 := n5_; clear n0_ n1_ n2_ n3_ n4_ n5_; clear hb hbox hg) | ((with_reducible refine gate_dst (N := 6) rfl ?_); refine box_event ?hg (N := 6) ?hd (cs := #[.bool false, .slice none 0 0]) (t := 25) ?hr ?_; (case hd => rfl); (case hg => rfl); (case hr => first | (go_simp; done) | (go_simp; rfl)); intro gb487 hg w74 hbox hb; have n0_ := qaM (qvB (qvE zz14_4 gb487 (Nat.le_of_eq hg.symm)) hb); have n1_ := qaM (qvB (qvE zz14_5 gb487 (Nat.le_of_eq hg.symm)) hb); have n2_ := qaM (qbB (g := gb486) (o := .cells #[.bool false, .slice none 0 0] 25 (0, 0)) zz14_1 hb); have n3_ := qaM (qbT zz14_8 hb); have n4_ := qaM (hbox); have n5_ := qaM ((by rw [hg]; exact (qbS zz14_8) : w.heap.size ≤ gb487)); have n6_ := qaM ((by rw [hg]; exact (qbS zz14_8) : w.heap.size ≤ gb487)); have n7_ := qaM ((by rw [hg]; exact qnL (qbL (g := gb486) (o := .cells #[.bool false, .slice none 0 0] 25 (0, 0)) zz14_1) : gb486 ≠ gb487)); have n8_ := qaM ((by rw [hg]; exact qnG (qbL (g := gb486) (o := .cells #[.bool false, .slice none 0 0] 25 (0, 0)) zz14_1) : gb487 ≠ gb486)); clear HO481; clear HO485; clear BK486; clear HB; have HO481 := n0_; have HO485 := n1_; have BK486 := n2_; have HB := n3_; have BK487 := n4_; have GW487 := n5_; have GE487 := n6_; have NB486_487 := n7_; have NB487_486 := n8_; clear n0_ n1_ n2_ n3_ n4_ n5_ n6_ n7_ n8_; clear hb hbox hg; have hnb75 := NB486_487.out; have hnc75 := NB487_486.out; have hcz76_0 : w74.cell? ⟨gb486, 0, none⟩ = some (.bool false) := (qbC BK486.out 0).trans rfl; have hcz76_1 : w74.cell? ⟨gb486, 1, none⟩ = some (.slice none 0 0) := (qbC BK486.out 1).trans rfl; have hfz76_0 := blk_frozen BK486.out 0; have hfz76_1 := blk_frozen BK486.out 1; obtain ⟨Ao77, co77, eo77⟩ := Kd.V_slice HO481.out; subst eo77; have hcz78_0 : w74.cell? ⟨gb487, 0, none⟩ = some (.bool false) := (qbC BK487.out 0).trans rfl; have hcz78_1 : w74.cell? ⟨gb487, 1, none⟩ = some (.slice none 0 0) := (qbC BK487.out 1).trans rfl; have hfz78_0 := blk_frozen BK487.out 0; have hfz78_1 := blk_frozen BK487.out 1; obtain ⟨Ao79, co79, eo79⟩ := Kd.V_slice HO485.out; subst eo79))
    have n0_ : Aside0 (Kd.V (Kd.int .u32) 22 ((((w74.setCell ⟨gb486, 0, none⟩ (.bool t478)).setCell ⟨gb486, 1, none⟩ (.slice Ao77 t479.length co77)).setCell ⟨gb487, 0, none⟩ (.bool t482)).setCell ⟨gb487, 1, none⟩ (.slice Ao79 t483.length co79)) w.heap.size (fun k_ => k_ ≠ gb486 ∧ k_ ≠ gb487) (.slice Ao77 t479.length co77) t479) := ⟨by (with_reducible repeat (first | apply qvA | apply qvN | apply qvD)); exact qvM (qvF (p := ⟨gb487, 1, none⟩) (qvF (p := ⟨gb487, 0, none⟩) (qvF (p := ⟨gb486, 1, none⟩) (qvF (p := ⟨gb486, 0, none⟩) (qvM (qvM HO481.out (fun k_ hk => (⟨hk, hk.1.2⟩ : _ ∧ k_ ≠ gb486))) (fun k_ hk => (⟨hk, hk.1.2⟩ : _ ∧ k_ ≠ gb487))) (fun _ hk => hk.1.2) (.bool t478)) (fun _ hk => hk.1.2) (.slice Ao77 t479.length co77)) (fun _ hk => hk.2) (.bool t482)) (fun _ hk => hk.2) (.slice Ao79 t483.length co79)) (fun _ hk => ⟨hk.1.1.1.2, hk.1.1.2⟩)⟩
    have n1_ : Aside0 (Kd.V (Kd.int .u32) 22 ((((w74.setCell ⟨gb486, 0, none⟩ (.bool t478)).setCell ⟨gb486, 1, none⟩ (.slice Ao77 t479.length co77)).setCell ⟨gb487, 0, none⟩ (.bool t482)).setCell ⟨gb487, 1, none⟩ (.slice Ao79 t483.length co79)) w.heap.size (fun k_ => k_ ≠ gb486 ∧ k_ ≠ gb487) (.slice Ao79 t483.length co79) t483) := ⟨by (with_reducible repeat (first | apply qvA | apply qvN | apply qvD)); exact qvM (qvF (p := ⟨gb487, 1, none⟩) (qvF (p := ⟨gb487, 0, none⟩) (qvF (p := ⟨gb486, 1, none⟩) (qvF (p := ⟨gb486, 0, none⟩) (qvM (qvM HO485.out (fun k_ hk => (⟨hk, hk.1.2⟩ : _ ∧ k_ ≠ gb486))) (fun k_ hk => (⟨hk, hk.1.2⟩ : _ ∧ k_ ≠ gb487))) (fun _ hk => hk.1.2) (.bool t478)) (fun _ hk => hk.1.2) (.slice Ao77 t479.length co77)) (fun _ hk => hk.2) (.bool t482)) (fun _ hk => hk.2) (.slice Ao79 t483.length co79)) (fun _ hk => ⟨hk.1.1.1.2, hk.1.1.2⟩)⟩
    have n2_ : Aside0 (((((w74.setCell ⟨gb486, 0, none⟩ (.bool t478)).setCell ⟨gb486, 1, none⟩ (.slice Ao77 t479.length co77)).setCell ⟨gb487, 0, none⟩ (.bool t482)).setCell ⟨gb487, 1, none⟩ (.slice Ao79 t483.length co79)).heap[gb486]? = some (.cells #[.bool t478, .slice Ao77 t479.length co77] 25 (0, 0))) := ⟨by (with_reducible repeat (first | refine qbN ?_ _ | refine qbD ?_ | refine qbA ?_ _)); refine qbF ?_ NB486_487.out _; (with_reducible repeat (first | refine qbN ?_ _ | refine qbD ?_ | refine qbA ?_ _)); refine qbF ?_ NB486_487.out _; (with_reducible repeat (first | refine qbN ?_ _ | refine qbD ?_ | refine qbA ?_ _)); refine qbP (cs := #[.bool t478, .slice none 0 0]) ?_ 1 _ rfl; (with_reducible repeat (first | refine qbN ?_ _ | refine qbD ?_ | refine qbA ?_ _)); refine qbP (cs := #[.bool false, .slice none 0 0]) ?_ 0 _ rfl; (with_reducible repeat (first | refine qbN ?_ _ | refine qbD ?_ | refine qbA ?_ _)); exact BK486.out⟩
    have n3_ : Aside0 (((((w74.setCell ⟨gb486, 0, none⟩ (.bool t478)).setCell ⟨gb486, 1, none⟩ (.slice Ao77 t479.length co77)).setCell ⟨gb487, 0, none⟩ (.bool t482)).setCell ⟨gb487, 1, none⟩ (.slice Ao79 t483.length co79)).heap[gb487]? = some (.cells #[.bool t482, .slice Ao79 t483.length co79] 25 (0, 0))) := ⟨by (with_reducible repeat (first | refine qbN ?_ _ | refine qbD ?_ | refine qbA ?_ _)); refine qbP (cs := #[.bool t482, .slice none 0 0]) ?_ 1 _ rfl; (with_reducible repeat (first | refine qbN ?_ _ | refine qbD ?_ | refine qbA ?_ _)); refine qbP (cs := #[.bool false, .slice none 0 0]) ?_ 0 _ rfl; (with_reducible repeat (first | refine qbN ?_ _ | refine qbD ?_ | refine qbA ?_ _)); refine qbF ?_ NB487_486.out _; (with_reducible repeat (first | refine qbN ?_ _ | refine qbD ?_ | refine qbA ?_ _)); refine qbF ?_ NB487_486.out _; (with_reducible repeat (first | refine qbN ?_ _ | refine qbD ?_ | refine qbA ?_ _)); exact BK487.out⟩
    have n4_ : Aside0 (Below w.heap.size w ((((w74.setCell ⟨gb486, 0, none⟩ (.bool t478)).setCell ⟨gb486, 1, none⟩ (.slice Ao77 t479.length co77)).setCell ⟨gb487, 0, none⟩ (.bool t482)).setCell ⟨gb487, 1, none⟩ (.slice Ao79 t483.length co79))) := ⟨by repeat (first | (with_reducible first | exact HB.out | apply qwA | apply qwN | apply qwD | refine qwS ?_ GE486.out | refine qwS ?_ GE487.out) | exact HB.out)⟩
    (try clear HO481)
    (try clear HO485)
    (try clear BK486)
    (try clear BK487)
    (try clear HB)
    generalize ((((w74.setCell ⟨gb486, 0, none⟩ (.bool t478)).setCell ⟨gb486, 1, none⟩ (.slice Ao77 t479.length co77)).setCell ⟨gb487, 0, none⟩ (.bool t482)).setCell ⟨gb487, 1, none⟩ (.slice Ao79 t483.length co79)) = w80 at n0_ n1_ n2_ n3_ n4_ ⊢
    have HO481 := n0_
    have HO485 := n1_
    have BK486 := n2_
    have BK487 := n3_
    have HB := n4_
    clear n0_ n1_ n2_ n3_ n4_
    have n0_ := qaM (qvD HO481.out)
    have n1_ := qaM (qvD HO485.out)
    have n2_ := qaM (qbD BK486.out)
    have n3_ := qaM (qbD BK487.out)
    have n4_ := qaM (qwD HB.out)
    clear HO481
    clear HO485
    clear BK486
    clear BK487
    clear HB
    have HO481 := n0_
    have HO485 := n1_
    have BK486 := n2_
    have BK487 := n3_
    have HB := n4_
    clear n0_ n1_ n2_ n3_ n4_
    refine start_ (n := 15) (S := fun w' => w'.cell? ⟨gb486, 0, none⟩ = some (.bool t478) ∧ w'.cell? ⟨gb486, 1, none⟩ = some (.slice Ao77 t479.length co77) ∧ w'.cell? ⟨gb487, 0, none⟩ = some (.bool t482) ∧ w'.cell? ⟨gb487, 1, none⟩ = some (.slice Ao79 t483.length co79)) (ds := []) #[false, false, false, false, false, false, false, false, false, false, false, false, false, false, false] zz14_11 rfl rfl ⟨(qbC BK486.out 0).trans rfl, (qbC BK486.out 1).trans rfl, (qbC BK487.out 0).trans rfl, (qbC BK487.out 1).trans rfl⟩ (fun hHeld => ?_); refine with_tabW laws_FnAddUint8.tab2 laws_FnAddUint8.bits2 (fun HT_ HW_ => ?_)
    generalize w80.drew = w81 at HO481 HO485 BK486 BK487 HB hHeld ⊢
    refine pure_ (i := 0) (N := some 18) (v := ?_) (a' := ?_) #[true, false, false, false, false, false, false, false, false, false, false, false, false, false, false] rfl rfl (any_of HT_.out zz14_11) (fun _ _ _ h => h) (Or.inl ⟨by rfl, ?_⟩) ?_ ?_
    rotate_left
    ·intro w'
     go_simp
     with_reducible rfl
    rotate_left
    ·simp only [Act.put, qsA, qsZ, qsS, i64_w, i32_w]
     rfl
    refine pure_ (i := 1) (N := some 19) (v := ?_) (a' := ?_) #[true, true, false, false, false, false, false, false, false, false, false, false, false, false, false] rfl rfl (any_of HT_.out zz14_11) (fun _ _ _ h => h) (Or.inl ⟨by rfl, ?_⟩) ?_ ?_
    rotate_left
    ·intro w'
     go_simp
     with_reducible rfl
    rotate_left
    ·simp only [Act.put, qsA, qsZ, qsS, i64_w, i32_w]
     rfl
    refine pure_ (i := 3) (N := some 21) (v := ?_) (a' := ?_) #[true, true, false, true, false, false, false, false, false, false, false, false, false, false, false] rfl rfl (any_of HT_.out zz14_11) (fun _ _ _ h => h) (Or.inl ⟨by rfl, ?_⟩) ?_ ?_
    rotate_left
    ·intro w'
     go_simp
     with_reducible rfl
    rotate_left
    ·simp only [Act.put, qsA, qsZ, qsS, i64_w, i32_w]
     rfl
    refine pure_ (i := 4) (N := some 22) (v := ?_) (a' := ?_) #[true, true, false, true, true, false, false, false, false, false, false, false, false, false, false] rfl rfl (any_of HT_.out zz14_11) (fun _ _ _ h => h) (Or.inl ⟨by rfl, ?_⟩) ?_ ?_
    rotate_left
    ·intro w'
     go_simp
     with_reducible rfl
    rotate_left
    ·simp only [Act.put, qsA, qsZ, qsS, i64_w, i32_w]
     rfl
    refine take_ (i := 7) (N := some 25) (v := ?_) (a' := ?_) #[true, true, false, true, true, false, false, true, false, false, false, false, false, false, false] rfl rfl (take_ofW HT_.out HW_.out zz14_11) (fun _ _ _ h => h) (Or.inl ⟨by rfl, ?_⟩) hHeld ?_ ?_
    rotate_left
    ·rintro w' ⟨s0, s1, s2, s3⟩
     go_simp
     with_reducible rfl
    rotate_left
    ·simp only [Act.put, qsA, qsZ, qsS, i64_w, i32_w]
     rfl
    refine take_ (i := 8) (N := some 26) (v := ?_) (a' := ?_) #[true, true, false, true, true, false, false, true, true, false, false, false, false, false, false] rfl rfl (take_ofW HT_.out HW_.out zz14_11) (fun _ _ _ h => h) (Or.inl ⟨by rfl, ?_⟩) hHeld ?_ ?_
    rotate_left
    ·rintro w' ⟨s0, s1, s2, s3⟩
     go_simp
     with_reducible rfl
    rotate_left
    ·simp only [Act.put, qsA, qsZ, qsS, i64_w, i32_w]
     rfl
    refine one_ (i := 2) (N := some 20) #[true, true, true, true, true, false, false, true, true, false, false, false, false, false, false] rfl rfl (one_of HT_.out zz14_11) (by decide) (fun K hK => ?_)
    refine goes_ Try.func12 zz14_11 rfl #[.int .u64 (IntKind.u64.wrap (a0))] (by rfl) rfl rfl zz14_2 ?_
    with_reducible refine (spec_WideUint.calls k (IntKind.u64.wrap (a0)) t488 t489 _ A4.out).mono ?_
    rintro e w82 ⟨v490, rfl, ho0, hb⟩
    refine ⟨_, rfl, ?_⟩
    have n0_ := qaM (qvB zz14_4 hb)
    have n1_ := qaM (qvB zz14_5 hb)
    have n2_ := qaM (qvL (qvM (ok' := fun k_ => k_ ≠ gb486 ∧ k_ ≠ gb487) ho0 (fun k_ hk_ => ⟨(qfB (g := gb486) (o := .cells #[.bool t478, .slice Ao77 t479.length co77] 25 (0, 0)) zz14_1 k_ hk_), (qfB (g := gb487) (o := .cells #[.bool t482, .slice Ao79 t483.length co79] 25 (0, 0)) zz14_3 k_ hk_)⟩)) (qbS zz14_0))
    have n3_ := qaM (qbB (g := gb486) (o := .cells #[.bool t478, .slice Ao77 t479.length co77] 25 (0, 0)) zz14_1 hb)
    have n4_ := qaM (qbB (g := gb487) (o := .cells #[.bool t482, .slice Ao79 t483.length co79] 25 (0, 0)) zz14_3 hb)
    have n5_ := qaM (qbT zz14_0 hb)
    clear HO481
    clear HO485
    clear BK486
    clear BK487
    clear HB
    have HO481 := n0_
    have HO485 := n1_
    have HO491 := n2_
    have BK486 := n3_
    have BK487 := n4_
    have HB := n5_
    clear n0_ n1_ n2_ n3_ n4_ n5_
    (try clear hb)
    (try clear hb2)
    (try clear hk)
    (try clear hi)
    (try clear ho0)
    refine hK.out _ _ ⟨(qbC BK486.out 0).trans rfl, (qbC BK486.out 1).trans rfl, (qbC BK487.out 0).trans rfl, (qbC BK487.out 1).trans rfl⟩ (fun hHeld => ?_)
    clear hK K
    refine norm_ (a' := ?_) ?_ ?_
    rotate_left
    ·show Act.put _ (some 20) _ = _
     simp only [Act.put, qsA, qsZ, qsS, i64_w, i32_w]
     rfl
    refine one_ (i := 5) (N := some 23) #[true, true, true, true, true, true, false, true, true, false, false, false, false, false, false] rfl rfl (one_of HT_.out zz14_11) (by decide) (fun K hK => ?_)
    refine goes_ Try.func12 zz14_11 rfl #[.int .u64 (IntKind.u64.wrap (a1))] (by rfl) rfl rfl zz14_2 ?_
    with_reducible refine (spec_WideUint.calls k (IntKind.u64.wrap (a1)) t492 t493 _ A5.out).mono ?_
    rintro e w83 ⟨v494, rfl, ho0, hb⟩
    refine ⟨_, rfl, ?_⟩
    have n0_ := qaM (qvB zz14_4 hb)
    have n1_ := qaM (qvB zz14_5 hb)
    have n2_ := qaM (qvB zz14_7 hb)
    have n3_ := qaM (qvL (qvM (ok' := fun k_ => k_ ≠ gb486 ∧ k_ ≠ gb487) ho0 (fun k_ hk_ => ⟨(qfB (g := gb486) (o := .cells #[.bool t478, .slice Ao77 t479.length co77] 25 (0, 0)) zz14_1 k_ hk_), (qfB (g := gb487) (o := .cells #[.bool t482, .slice Ao79 t483.length co79] 25 (0, 0)) zz14_3 k_ hk_)⟩)) (qbS zz14_0))
    have n4_ := qaM (qbB (g := gb486) (o := .cells #[.bool t478, .slice Ao77 t479.length co77] 25 (0, 0)) zz14_1 hb)
    have n5_ := qaM (qbB (g := gb487) (o := .cells #[.bool t482, .slice Ao79 t483.length co79] 25 (0, 0)) zz14_3 hb)
    have n6_ := qaM (qbT zz14_0 hb)
    clear HO481
    clear HO485
    clear HO491
    clear BK486
    clear BK487
    clear HB
    have HO481 := n0_
    have HO485 := n1_
    have HO491 := n2_
    have HO495 := n3_
    have BK486 := n4_
    have BK487 := n5_
    have HB := n6_
    clear n0_ n1_ n2_ n3_ n4_ n5_ n6_
    (try clear hb)
    (try clear hb2)
    (try clear hk)
    (try clear hi)
    (try clear ho0)
    obtain ⟨Ao84, co84, eo84⟩ := Kd.V_slice HO491.out
    (first | subst eo84 | (injection eo84 with f1_ f2_ f3_; have f4_ := f1_.symm; have f5_ := f3_.symm; clear f1_ f2_ f3_; subst f4_; subst f5_))
    obtain ⟨Ao85, co85, eo85⟩ := Kd.V_slice HO495.out
    (first | subst eo85 | (injection eo85 with f1_ f2_ f3_; have f4_ := f1_.symm; have f5_ := f3_.symm; clear f1_ f2_ f3_; subst f4_; subst f5_))
    refine hK.out _ _ ⟨(qbC BK486.out 0).trans rfl, (qbC BK486.out 1).trans rfl, (qbC BK487.out 0).trans rfl, (qbC BK487.out 1).trans rfl⟩ (fun hHeld => ?_)
    clear hK K
    refine norm_ (a' := ?_) ?_ ?_
    rotate_left
    ·show Act.put _ (some 23) _ = _
     simp only [Act.put, qsA, qsZ, qsS, i64_w, i32_w]
     rfl
    refine one_ (i := 6) (N := some 24) #[true, true, true, true, true, true, true, true, true, false, false, false, false, false, false] rfl rfl (one_of HT_.out zz14_11) (by decide) (fun K hK => ?_)
    refine goes_ Try.func11 zz14_11 rfl #[.agg #[.bool t488, .slice Ao84 t489.length co84], .agg #[.bool t492, .slice Ao85 t493.length co85]] (by rfl) rfl rfl zz14_2 ?_
    with_reducible refine (spec_WideAdd.calls k t488 _ _ t489 t492 _ _ t493 t496 t497 _ ?side1 ?side2 ?side3 ?side4 A6.out).mono ?_
    (case side1 => repeat (first | exact (qvR HO491.out).2.2 | (with_reducible refine Kd.C_alloc ?_ _) | (with_reducible refine Kd.C_drewN ?_ _) | (with_reducible refine Kd.C_drew ?_)))
    (case side2 => exact (qvR HO491.out).2.1)
    (case side3 => repeat (first | exact (qvR HO495.out).2.2 | (with_reducible refine Kd.C_alloc ?_ _) | (with_reducible refine Kd.C_drewN ?_ _) | (with_reducible refine Kd.C_drew ?_)))
    (case side4 => exact (qvR HO495.out).2.1)
    rintro e w86 ⟨v498, rfl, ho0, hb⟩
    refine ⟨_, rfl, ?_⟩
    have n0_ := qaM (qvB zz14_4 hb)
    have n1_ := qaM (qvB zz14_5 hb)
    have n2_ := qaM (qvB zz14_7 hb)
    have n3_ := qaM (qvB zz14_9 hb)
    have n4_ := qaM (qvL (qvM (ok' := fun k_ => k_ ≠ gb486 ∧ k_ ≠ gb487) ho0 (fun k_ hk_ => ⟨(qfB (g := gb486) (o := .cells #[.bool t478, .slice Ao77 t479.length co77] 25 (0, 0)) zz14_1 k_ hk_), (qfB (g := gb487) (o := .cells #[.bool t482, .slice Ao79 t483.length co79] 25 (0, 0)) zz14_3 k_ hk_)⟩)) (qbS zz14_0))
    have n5_ := qaM (qbB (g := gb486) (o := .cells #[.bool t478, .slice Ao77 t479.length co77] 25 (0, 0)) zz14_1 hb)
    have n6_ := qaM (qbB (g := gb487) (o := .cells #[.bool t482, .slice Ao79 t483.length co79] 25 (0, 0)) zz14_3 hb)
    have n7_ := qaM (qbT zz14_0 hb)
    clear HO481
    clear HO485
    clear HO491
    clear HO495
    clear BK486
    clear BK487
    clear HB
    have HO481 := n0_
    have HO485 := n1_
    have HO491 := n2_
    have HO495 := n3_
    have HO499 := n4_
    have BK486 := n5_
    have BK487 := n6_
    have HB := n7_
    clear n0_ n1_ n2_ n3_ n4_ n5_ n6_ n7_
    (try clear hb)
    (try clear hb2)
    (try clear hk)
    (try clear hi)
    (try clear ho0)
    obtain ⟨Ao87, co87, eo87⟩ := Kd.V_slice HO499.out
    (first | subst eo87 | (injection eo87 with f1_ f2_ f3_; have f4_ := f1_.symm; have f5_ := f3_.symm; clear f1_ f2_ f3_; subst f4_; subst f5_))
    refine hK.out _ _ ⟨(qbC BK486.out 0).trans rfl, (qbC BK486.out 1).trans rfl, (qbC BK487.out 0).trans rfl, (qbC BK487.out 1).trans rfl⟩ (fun hHeld => ?_)
    clear hK K
    refine norm_ (a' := ?_) ?_ ?_
    rotate_left
    ·show Act.put _ (some 24) _ = _
     simp only [Act.put, qsA, qsZ, qsS, i64_w, i32_w]
     rfl
    refine one_ (i := 9) (N := some 27) #[true, true, true, true, true, true, true, true, true, true, false, false, false, false, false] rfl rfl (one_of HT_.out zz14_11) (by decide) (fun K hK => ?_)
    refine goes_ Try.func10 zz14_11 rfl #[.agg #[.bool t496, .slice Ao87 t497.length co87], .agg #[.bool t478, .slice Ao77 t479.length co77], .agg #[.bool t482, .slice Ao79 t483.length co79]] (by rfl) rfl rfl zz14_2 ?_
    with_reducible refine (laws_fitted.calls k t496 _ _ t497 t478 _ _ t479 t482 _ _ t483 t500 false _ ?side1 ?side2 ?side3 ?side4 ?side5 ?side6 A7.out).mono ?_
    (case side1 => repeat (first | exact (qvR HO499.out).2.2 | (with_reducible refine Kd.C_alloc ?_ _) | (with_reducible refine Kd.C_drewN ?_ _) | (with_reducible refine Kd.C_drew ?_)))
    (case side2 => exact (qvR HO499.out).2.1)
    (case side3 => repeat (first | exact (qvR HO481.out).2.2 | (with_reducible refine Kd.C_alloc ?_ _) | (with_reducible refine Kd.C_drewN ?_ _) | (with_reducible refine Kd.C_drew ?_)))
    (case side4 => exact (qvR HO481.out).2.1)
    (case side5 => repeat (first | exact (qvR HO485.out).2.2 | (with_reducible refine Kd.C_alloc ?_ _) | (with_reducible refine Kd.C_drewN ?_ _) | (with_reducible refine Kd.C_drew ?_)))
    (case side6 => exact (qvR HO485.out).2.1)
    rintro e w88 ⟨rfl, hb⟩
    refine ⟨_, rfl, ?_⟩
    have n0_ := qaM (qvB zz14_4 hb)
    have n1_ := qaM (qvB zz14_5 hb)
    have n2_ := qaM (qvB zz14_7 hb)
    have n3_ := qaM (qvB zz14_9 hb)
    have n4_ := qaM (qvB zz14_10 hb)
    have n5_ := qaM (qbB (g := gb486) (o := .cells #[.bool t478, .slice Ao77 t479.length co77] 25 (0, 0)) zz14_1 hb)
    have n6_ := qaM (qbB (g := gb487) (o := .cells #[.bool t482, .slice Ao79 t483.length co79] 25 (0, 0)) zz14_3 hb)
    have n7_ := qaM (qbT zz14_0 hb)
    clear HO481
    clear HO485
    clear HO491
    clear HO495
    clear HO499
    clear BK486
    clear BK487
    clear HB
    have HO481 := n0_
    have HO485 := n1_
    have HO491 := n2_
    have HO495 := n3_
    have HO499 := n4_
    have BK486 := n5_
    have BK487 := n6_
    have HB := n7_
    clear n0_ n1_ n2_ n3_ n4_ n5_ n6_ n7_
    (try clear hb)
    (try clear hb2)
    (try clear hk)
    (try clear hi)
    refine hK.out _ _ ⟨(qbC BK486.out 0).trans rfl, (qbC BK486.out 1).trans rfl, (qbC BK487.out 0).trans rfl, (qbC BK487.out 1).trans rfl⟩ (fun hHeld => ?_)
    clear hK K
    refine norm_ (a' := ?_) ?_ ?_
    rotate_left
    ·show Act.put _ (some 27) _ = _
     simp only [Act.put, qsA, qsZ, qsS, i64_w, i32_w]
     rfl
    refine pure_ (i := 10) (N := some 17) (v := ?_) (a' := ?_) #[true, true, true, true, true, true, true, true, true, true, true, false, false, false, false] rfl rfl (any_of HT_.out zz14_11) (fun _ _ _ h => h) (Or.inl ⟨by rfl, ?_⟩) ?_ ?_
    rotate_left
    ·intro w'
     go_simp
     with_reducible rfl
    rotate_left
    ·simp only [Act.put, qsA, qsZ, qsS, i64_w, i32_w]
     rfl
    refine pure_ (i := 11) (N := some 28) (v := ?_) (a' := ?_) #[true, true, true, true, true, true, true, true, true, true, true, true, false, false, false] rfl rfl (any_of HT_.out zz14_11) (fun _ _ _ h => h) (Or.inl ⟨by rfl, ?_⟩) ?_ ?_
    rotate_left
    ·intro w'
     go_simp
     with_reducible rfl
    rotate_left
    ·simp only [Act.put, qsA, qsZ, qsS, i64_w, i32_w]
     rfl
    refine pure_ (i := 12) (N := some 29) (v := ?_) (a' := ?_) #[true, true, true, true, true, true, true, true, true, true, true, true, true, false, false] rfl rfl (any_of HT_.out zz14_11) (fun _ _ _ h => h) (Or.inl ⟨by rfl, ?_⟩) ?_ ?_
    rotate_left
    ·intro w'
     go_simp
     with_reducible rfl
    rotate_left
    ·simp only [Act.put, qsA, qsZ, qsS, i64_w, i32_w]
     rfl
    refine pure_ (i := 13) (N := some 7) (v := ?_) (a' := ?_) #[true, true, true, true, true, true, true, true, true, true, true, true, true, true, false] rfl rfl (any_of HT_.out zz14_11) (fun _ _ _ h => h) (Or.inl ⟨by rfl, ?_⟩) ?_ ?_
    rotate_left
    ·intro w'
     go_simp
     with_reducible rfl
    rotate_left
    ·simp only [Act.put, qsA, qsZ, qsS, i64_w, i32_w]
     rfl
    refine pure_ (i := 14) (N := some 8) (v := ?_) (a' := ?_) #[true, true, true, true, true, true, true, true, true, true, true, true, true, true, true] rfl rfl (any_of HT_.out zz14_11) (fun _ _ _ h => h) (Or.inl ⟨by rfl, ?_⟩) ?_ ?_
    rotate_left
    ·intro w'
     go_simp
     with_reducible rfl
    rotate_left
    ·simp only [Act.put, qsA, qsZ, qsS, i64_w, i32_w]
     rfl
    refine done_ (done_of HT_.out zz14_11) ?_
    try go_wp2_with (first | ((with_reducible refine gate_callee (f := 14) rfl ?_); refine goesL_ (some 33) rfl rfl Try.func14 zz14_11 rfl #[.int .u8 a0, .int .u8 a1] rfl zz14_2 ?_; (with_reducible refine (impl_AddUint8.calls a0 a1 t502 t503 _ A8.out).mono ?_); rintro e w89 ⟨rfl, hb⟩; refine ⟨_, rfl, ?_⟩; have n0_ := qaM (qvB zz14_4 hb); have n1_ := qaM (qvB zz14_5 hb); have n2_ := qaM (qvB zz14_7 hb); have n3_ := qaM (qvB zz14_9 hb); have n4_ := qaM (qvB zz14_10 hb); have n5_ := qaM (qbB (g := gb486) (o := .cells #[.bool t478, .slice Ao77 t479.length co77] 25 (0, 0)) zz14_1 hb); have n6_ := qaM (qbB (g := gb487) (o := .cells #[.bool t482, .slice Ao79 t483.length co79] 25 (0, 0)) zz14_3 hb); have n7_ := qaM (qbT zz14_0 hb); clear HO481; clear HO485; clear HO491; clear HO495; clear HO499; clear BK486; clear BK487; clear HB; have HO481 := n0_; have HO485 := n1_; have HO491 := n2_; have HO495 := n3_; have HO499 := n4_; have BK486 := n5_; have BK487 := n6_; have HB := n7_; clear n0_ n1_ n2_ n3_ n4_ n5_ n6_ n7_; (try clear hb); (try clear hb2); (try clear hk); (try clear hi)) | ((with_reducible refine gate_callee (f := 14) rfl ?_); refine goesL_ (some 37) rfl rfl Try.func14 zz14_11 rfl #[.int .u8 2, .int .u8 3] rfl zz14_2 ?_; (with_reducible refine (impl_AddUint8.calls 2 3 t504 true _ A9.out).mono ?_); rintro e w90 ⟨rfl, hb⟩; refine ⟨_, rfl, ?_⟩; have n0_ := qaM (qvB zz14_4 hb); have n1_ := qaM (qvB zz14_5 hb); have n2_ := qaM (qvB zz14_7 hb); have n3_ := qaM (qvB zz14_9 hb); have n4_ := qaM (qvB zz14_10 hb); have n5_ := qaM (qbB (g := gb486) (o := .cells #[.bool t478, .slice Ao77 t479.length co77] 25 (0, 0)) zz14_1 hb); have n6_ := qaM (qbB (g := gb487) (o := .cells #[.bool t482, .slice Ao79 t483.length co79] 25 (0, 0)) zz14_3 hb); have n7_ := qaM (qbT zz14_0 hb); clear HO481; clear HO485; clear HO491; clear HO495; clear HO499; clear BK486; clear BK487; clear HB; have HO481 := n0_; have HO485 := n1_; have HO491 := n2_; have HO495 := n3_; have HO499 := n4_; have BK486 := n5_; have BK487 := n6_; have HB := n7_; clear n0_ n1_ n2_ n3_ n4_ n5_ n6_ n7_; (try clear hb); (try clear hb2); (try clear hk); (try clear hi)))
    go_ret
    exact ⟨by first | rfl | (simp [errW_none, errW_some] <;> rfl) | (simp [*, errW_none, errW_some] <;> rfl), by repeat (first | (with_reducible first | exact HB.out | apply qwA | apply qwN | apply qwD | refine qwS ?_ GE486.out | refine qwS ?_ GE487.out) | exact HB.out)⟩
   ·replace c71 := Bool.eq_false_iff.mpr c71
    subst c71
    have H1 : (some false) = some r := by rw [if_neg (show ¬ (false = true) by decide)] at H; exact H
    clear H
    have H := H1
    clear H1
    obtain rfl := Option.some.inj H
    go_enter Try.func4, Try.ntmps4
    try go_wp2_with (first | ((with_reducible refine gate_callee (f := 9) rfl ?_); refine goesL_ (some 14) rfl rfl Try.func9 zz14_11 rfl #[.int .i64 8, .bool false] rfl zz14_2 ?_; (with_reducible refine (laws_bounds.calls k 8 false t478 t479 t482 t483 _ A3.out).mono ?_); rintro e w91 ⟨v480, v484, rfl, ho0, ho1, hb⟩; refine ⟨_, rfl, ?_⟩; have n0_ := qaM (qvL (qvM (ok' := fun k_ => True) ho0 (fun k_ hk_ => trivial)) (qbS zz14_6)); have n1_ := qaM (qvL (qvM (ok' := fun k_ => True) ho1 (fun k_ hk_ => trivial)) (qbS zz14_6)); have n2_ := qaM (qbT zz14_6 hb); clear HB; have HO481 := n0_; have HO485 := n1_; have HB := n2_; clear n0_ n1_ n2_; (try clear hb); (try clear hb2); (try clear hk); (try clear hi); (try clear ho0); (try clear ho1)) | ((with_reducible refine gate_dst (N := 5) rfl ?_); refine box_event ?hg (N := 5) ?hd (cs := #[.bool false, .slice none 0 0]) (t := 25) ?hr ?_; (case hd => rfl); (case hg => rfl); (case hr => first | (go_simp; done) | (go_simp; rfl)); intro gb486 hg w92 hbox hb; have n0_ := qaM (qvB (qvE zz14_4 gb486 (Nat.le_of_eq hg.symm)) hb); have n1_ := qaM (qvB (qvE zz14_5 gb486 (Nat.le_of_eq hg.symm)) hb); have n2_ := qaM (qbT zz14_6 hb); have n3_ := qaM (hbox); have n4_ := qaM ((by rw [hg]; exact (qbS zz14_6) : w.heap.size ≤ gb486)); have n5_ := qaM ((by rw [hg]; exact (qbS zz14_6) : w.heap.size ≤ gb486)); clear HO481; clear HO485; clear HB; have HO481 := n0_; have HO485 := n1_; have HB := n2_; have BK486 := n3_; have GW486 := n4_; have GE486 := n5_; clear n0_ n1_ n2_ n3_ n4_ n5_; clear hb hbox hg) | ((with_reducible refine gate_dst (N := 6) rfl ?_); refine box_event ?hg (N := 6) ?hd (cs := #[.bool false, .slice none 0 0]) (t := 25) ?hr ?_; (case hd => rfl); (case hg => rfl); (case hr => first | (go_simp; done) | (go_simp; rfl)); intro gb487 hg w93 hbox hb; have n0_ := qaM (qvB (qvE zz14_4 gb487 (Nat.le_of_eq hg.symm)) hb); have n1_ := qaM (qvB (qvE zz14_5 gb487 (Nat.le_of_eq hg.symm)) hb); have n2_ := qaM (qbB (g := gb486) (o := .cells #[.bool false, .slice none 0 0] 25 (0, 0)) zz14_1 hb); have n3_ := qaM (qbT zz14_8 hb); have n4_ := qaM (hbox); have n5_ := qaM ((by rw [hg]; exact (qbS zz14_8) : w.heap.size ≤ gb487)); have n6_ := qaM ((by rw [hg]; exact (qbS zz14_8) : w.heap.size ≤ gb487)); have n7_ := qaM ((by rw [hg]; exact qnL (qbL (g := gb486) (o := .cells #[.bool false, .slice none 0 0] 25 (0, 0)) zz14_1) : gb486 ≠ gb487)); have n8_ := qaM ((by rw [hg]; exact qnG (qbL (g := gb486) (o := .cells #[.bool false, .slice none 0 0] 25 (0, 0)) zz14_1) : gb487 ≠ gb486)); clear HO481; clear HO485; clear BK486; clear HB; have HO481 := n0_; have HO485 := n1_; have BK486 := n2_; have HB := n3_; have BK487 := n4_; have GW487 := n5_; have GE487 := n6_; have NB486_487 := n7_; have NB487_486 := n8_; clear n0_ n1_ n2_ n3_ n4_ n5_ n6_ n7_ n8_; clear hb hbox hg; have hnb94 := NB486_487.out; have hnc94 := NB487_486.out; have hcz95_0 : w93.cell? ⟨gb486, 0, none⟩ = some (.bool false) := (qbC BK486.out 0).trans rfl; have hcz95_1 : w93.cell? ⟨gb486, 1, none⟩ = some (.slice none 0 0) := (qbC BK486.out 1).trans rfl; have hfz95_0 := blk_frozen BK486.out 0; have hfz95_1 := blk_frozen BK486.out 1; obtain ⟨Ao96, co96, eo96⟩ := Kd.V_slice HO481.out; subst eo96; have hcz97_0 : w93.cell? ⟨gb487, 0, none⟩ = some (.bool false) := (qbC BK487.out 0).trans rfl; have hcz97_1 : w93.cell? ⟨gb487, 1, none⟩ = some (.slice none 0 0) := (qbC BK487.out 1).trans rfl; have hfz97_0 := blk_frozen BK487.out 0; have hfz97_1 := blk_frozen BK487.out 1; obtain ⟨Ao98, co98, eo98⟩ := Kd.V_slice HO485.out; subst eo98))
    have n0_ : Aside0 (Kd.V (Kd.int .u32) 22 ((((w93.setCell ⟨gb486, 0, none⟩ (.bool t478)).setCell ⟨gb486, 1, none⟩ (.slice Ao96 t479.length co96)).setCell ⟨gb487, 0, none⟩ (.bool t482)).setCell ⟨gb487, 1, none⟩ (.slice Ao98 t483.length co98)) w.heap.size (fun k_ => k_ ≠ gb486 ∧ k_ ≠ gb487) (.slice Ao96 t479.length co96) t479) := ⟨by (with_reducible repeat (first | apply qvA | apply qvN | apply qvD)); exact qvM (qvF (p := ⟨gb487, 1, none⟩) (qvF (p := ⟨gb487, 0, none⟩) (qvF (p := ⟨gb486, 1, none⟩) (qvF (p := ⟨gb486, 0, none⟩) (qvM (qvM HO481.out (fun k_ hk => (⟨hk, hk.1.2⟩ : _ ∧ k_ ≠ gb486))) (fun k_ hk => (⟨hk, hk.1.2⟩ : _ ∧ k_ ≠ gb487))) (fun _ hk => hk.1.2) (.bool t478)) (fun _ hk => hk.1.2) (.slice Ao96 t479.length co96)) (fun _ hk => hk.2) (.bool t482)) (fun _ hk => hk.2) (.slice Ao98 t483.length co98)) (fun _ hk => ⟨hk.1.1.1.2, hk.1.1.2⟩)⟩
    have n1_ : Aside0 (Kd.V (Kd.int .u32) 22 ((((w93.setCell ⟨gb486, 0, none⟩ (.bool t478)).setCell ⟨gb486, 1, none⟩ (.slice Ao96 t479.length co96)).setCell ⟨gb487, 0, none⟩ (.bool t482)).setCell ⟨gb487, 1, none⟩ (.slice Ao98 t483.length co98)) w.heap.size (fun k_ => k_ ≠ gb486 ∧ k_ ≠ gb487) (.slice Ao98 t483.length co98) t483) := ⟨by (with_reducible repeat (first | apply qvA | apply qvN | apply qvD)); exact qvM (qvF (p := ⟨gb487, 1, none⟩) (qvF (p := ⟨gb487, 0, none⟩) (qvF (p := ⟨gb486, 1, none⟩) (qvF (p := ⟨gb486, 0, none⟩) (qvM (qvM HO485.out (fun k_ hk => (⟨hk, hk.1.2⟩ : _ ∧ k_ ≠ gb486))) (fun k_ hk => (⟨hk, hk.1.2⟩ : _ ∧ k_ ≠ gb487))) (fun _ hk => hk.1.2) (.bool t478)) (fun _ hk => hk.1.2) (.slice Ao96 t479.length co96)) (fun _ hk => hk.2) (.bool t482)) (fun _ hk => hk.2) (.slice Ao98 t483.length co98)) (fun _ hk => ⟨hk.1.1.1.2, hk.1.1.2⟩)⟩
    have n2_ : Aside0 (((((w93.setCell ⟨gb486, 0, none⟩ (.bool t478)).setCell ⟨gb486, 1, none⟩ (.slice Ao96 t479.length co96)).setCell ⟨gb487, 0, none⟩ (.bool t482)).setCell ⟨gb487, 1, none⟩ (.slice Ao98 t483.length co98)).heap[gb486]? = some (.cells #[.bool t478, .slice Ao96 t479.length co96] 25 (0, 0))) := ⟨by (with_reducible repeat (first | refine qbN ?_ _ | refine qbD ?_ | refine qbA ?_ _)); refine qbF ?_ NB486_487.out _; (with_reducible repeat (first | refine qbN ?_ _ | refine qbD ?_ | refine qbA ?_ _)); refine qbF ?_ NB486_487.out _; (with_reducible repeat (first | refine qbN ?_ _ | refine qbD ?_ | refine qbA ?_ _)); refine qbP (cs := #[.bool t478, .slice none 0 0]) ?_ 1 _ rfl; (with_reducible repeat (first | refine qbN ?_ _ | refine qbD ?_ | refine qbA ?_ _)); refine qbP (cs := #[.bool false, .slice none 0 0]) ?_ 0 _ rfl; (with_reducible repeat (first | refine qbN ?_ _ | refine qbD ?_ | refine qbA ?_ _)); exact BK486.out⟩
    have n3_ : Aside0 (((((w93.setCell ⟨gb486, 0, none⟩ (.bool t478)).setCell ⟨gb486, 1, none⟩ (.slice Ao96 t479.length co96)).setCell ⟨gb487, 0, none⟩ (.bool t482)).setCell ⟨gb487, 1, none⟩ (.slice Ao98 t483.length co98)).heap[gb487]? = some (.cells #[.bool t482, .slice Ao98 t483.length co98] 25 (0, 0))) := ⟨by (with_reducible repeat (first | refine qbN ?_ _ | refine qbD ?_ | refine qbA ?_ _)); refine qbP (cs := #[.bool t482, .slice none 0 0]) ?_ 1 _ rfl; (with_reducible repeat (first | refine qbN ?_ _ | refine qbD ?_ | refine qbA ?_ _)); refine qbP (cs := #[.bool false, .slice none 0 0]) ?_ 0 _ rfl; (with_reducible repeat (first | refine qbN ?_ _ | refine qbD ?_ | refine qbA ?_ _)); refine qbF ?_ NB487_486.out _; (with_reducible repeat (first | refine qbN ?_ _ | refine qbD ?_ | refine qbA ?_ _)); refine qbF ?_ NB487_486.out _; (with_reducible repeat (first | refine qbN ?_ _ | refine qbD ?_ | refine qbA ?_ _)); exact BK487.out⟩
    have n4_ : Aside0 (Below w.heap.size w ((((w93.setCell ⟨gb486, 0, none⟩ (.bool t478)).setCell ⟨gb486, 1, none⟩ (.slice Ao96 t479.length co96)).setCell ⟨gb487, 0, none⟩ (.bool t482)).setCell ⟨gb487, 1, none⟩ (.slice Ao98 t483.length co98))) := ⟨by repeat (first | (with_reducible first | exact HB.out | apply qwA | apply qwN | apply qwD | refine qwS ?_ GE486.out | refine qwS ?_ GE487.out) | exact HB.out)⟩
    (try clear HO481)
    (try clear HO485)
    (try clear BK486)
    (try clear BK487)
    (try clear HB)
    generalize ((((w93.setCell ⟨gb486, 0, none⟩ (.bool t478)).setCell ⟨gb486, 1, none⟩ (.slice Ao96 t479.length co96)).setCell ⟨gb487, 0, none⟩ (.bool t482)).setCell ⟨gb487, 1, none⟩ (.slice Ao98 t483.length co98)) = w99 at n0_ n1_ n2_ n3_ n4_ ⊢
    have HO481 := n0_
    have HO485 := n1_
    have BK486 := n2_
    have BK487 := n3_
    have HB := n4_
    clear n0_ n1_ n2_ n3_ n4_
    have n0_ := qaM (qvD HO481.out)
    have n1_ := qaM (qvD HO485.out)
    have n2_ := qaM (qbD BK486.out)
    have n3_ := qaM (qbD BK487.out)
    have n4_ := qaM (qwD HB.out)
    clear HO481
    clear HO485
    clear BK486
    clear BK487
    clear HB
    have HO481 := n0_
    have HO485 := n1_
    have BK486 := n2_
    have BK487 := n3_
    have HB := n4_
    clear n0_ n1_ n2_ n3_ n4_
    refine start_ (n := 15) (S := fun w' => w'.cell? ⟨gb486, 0, none⟩ = some (.bool t478) ∧ w'.cell? ⟨gb486, 1, none⟩ = some (.slice Ao96 t479.length co96) ∧ w'.cell? ⟨gb487, 0, none⟩ = some (.bool t482) ∧ w'.cell? ⟨gb487, 1, none⟩ = some (.slice Ao98 t483.length co98)) (ds := []) #[false, false, false, false, false, false, false, false, false, false, false, false, false, false, false] zz14_11 rfl rfl ⟨(qbC BK486.out 0).trans rfl, (qbC BK486.out 1).trans rfl, (qbC BK487.out 0).trans rfl, (qbC BK487.out 1).trans rfl⟩ (fun hHeld => ?_); refine with_tabW laws_FnAddUint8.tab2 laws_FnAddUint8.bits2 (fun HT_ HW_ => ?_)
    generalize w99.drew = w100 at HO481 HO485 BK486 BK487 HB hHeld ⊢
    refine pure_ (i := 0) (N := some 18) (v := ?_) (a' := ?_) #[true, false, false, false, false, false, false, false, false, false, false, false, false, false, false] rfl rfl (any_of HT_.out zz14_11) (fun _ _ _ h => h) (Or.inl ⟨by rfl, ?_⟩) ?_ ?_
    rotate_left
    ·intro w'
     go_simp
     with_reducible rfl
    rotate_left
    ·simp only [Act.put, qsA, qsZ, qsS, i64_w, i32_w]
     rfl
    refine pure_ (i := 1) (N := some 19) (v := ?_) (a' := ?_) #[true, true, false, false, false, false, false, false, false, false, false, false, false, false, false] rfl rfl (any_of HT_.out zz14_11) (fun _ _ _ h => h) (Or.inl ⟨by rfl, ?_⟩) ?_ ?_
    rotate_left
    ·intro w'
     go_simp
     with_reducible rfl
    rotate_left
    ·simp only [Act.put, qsA, qsZ, qsS, i64_w, i32_w]
     rfl
    refine pure_ (i := 3) (N := some 21) (v := ?_) (a' := ?_) #[true, true, false, true, false, false, false, false, false, false, false, false, false, false, false] rfl rfl (any_of HT_.out zz14_11) (fun _ _ _ h => h) (Or.inl ⟨by rfl, ?_⟩) ?_ ?_
    rotate_left
    ·intro w'
     go_simp
     with_reducible rfl
    rotate_left
    ·simp only [Act.put, qsA, qsZ, qsS, i64_w, i32_w]
     rfl
    refine pure_ (i := 4) (N := some 22) (v := ?_) (a' := ?_) #[true, true, false, true, true, false, false, false, false, false, false, false, false, false, false] rfl rfl (any_of HT_.out zz14_11) (fun _ _ _ h => h) (Or.inl ⟨by rfl, ?_⟩) ?_ ?_
    rotate_left
    ·intro w'
     go_simp
     with_reducible rfl
    rotate_left
    ·simp only [Act.put, qsA, qsZ, qsS, i64_w, i32_w]
     rfl
    refine take_ (i := 7) (N := some 25) (v := ?_) (a' := ?_) #[true, true, false, true, true, false, false, true, false, false, false, false, false, false, false] rfl rfl (take_ofW HT_.out HW_.out zz14_11) (fun _ _ _ h => h) (Or.inl ⟨by rfl, ?_⟩) hHeld ?_ ?_
    rotate_left
    ·rintro w' ⟨s0, s1, s2, s3⟩
     go_simp
     with_reducible rfl
    rotate_left
    ·simp only [Act.put, qsA, qsZ, qsS, i64_w, i32_w]
     rfl
    refine take_ (i := 8) (N := some 26) (v := ?_) (a' := ?_) #[true, true, false, true, true, false, false, true, true, false, false, false, false, false, false] rfl rfl (take_ofW HT_.out HW_.out zz14_11) (fun _ _ _ h => h) (Or.inl ⟨by rfl, ?_⟩) hHeld ?_ ?_
    rotate_left
    ·rintro w' ⟨s0, s1, s2, s3⟩
     go_simp
     with_reducible rfl
    rotate_left
    ·simp only [Act.put, qsA, qsZ, qsS, i64_w, i32_w]
     rfl
    refine one_ (i := 2) (N := some 20) #[true, true, true, true, true, false, false, true, true, false, false, false, false, false, false] rfl rfl (one_of HT_.out zz14_11) (by decide) (fun K hK => ?_)
    refine goes_ Try.func12 zz14_11 rfl #[.int .u64 (IntKind.u64.wrap (a0))] (by rfl) rfl rfl zz14_2 ?_
    with_reducible refine (spec_WideUint.calls k (IntKind.u64.wrap (a0)) t488 t489 _ A4.out).mono ?_
    rintro e w101 ⟨v490, rfl, ho0, hb⟩
    refine ⟨_, rfl, ?_⟩
    have n0_ := qaM (qvB zz14_4 hb)
    have n1_ := qaM (qvB zz14_5 hb)
    have n2_ := qaM (qvL (qvM (ok' := fun k_ => k_ ≠ gb486 ∧ k_ ≠ gb487) ho0 (fun k_ hk_ => ⟨(qfB (g := gb486) (o := .cells #[.bool t478, .slice Ao96 t479.length co96] 25 (0, 0)) zz14_1 k_ hk_), (qfB (g := gb487) (o := .cells #[.bool t482, .slice Ao98 t483.length co98] 25 (0, 0)) zz14_3 k_ hk_)⟩)) (qbS zz14_0))
    have n3_ := qaM (qbB (g := gb486) (o := .cells #[.bool t478, .slice Ao96 t479.length co96] 25 (0, 0)) zz14_1 hb)
    have n4_ := qaM (qbB (g := gb487) (o := .cells #[.bool t482, .slice Ao98 t483.length co98] 25 (0, 0)) zz14_3 hb)
    have n5_ := qaM (qbT zz14_0 hb)
    clear HO481
    clear HO485
    clear BK486
    clear BK487
    clear HB
    have HO481 := n0_
    have HO485 := n1_
    have HO491 := n2_
    have BK486 := n3_
    have BK487 := n4_
    have HB := n5_
    clear n0_ n1_ n2_ n3_ n4_ n5_
    (try clear hb)
    (try clear hb2)
    (try clear hk)
    (try clear hi)
    (try clear ho0)
    refine hK.out _ _ ⟨(qbC BK486.out 0).trans rfl, (qbC BK486.out 1).trans rfl, (qbC BK487.out 0).trans rfl, (qbC BK487.out 1).trans rfl⟩ (fun hHeld => ?_)
    clear hK K
    refine norm_ (a' := ?_) ?_ ?_
    rotate_left
    ·show Act.put _ (some 20) _ = _
     simp only [Act.put, qsA, qsZ, qsS, i64_w, i32_w]
     rfl
    refine one_ (i := 5) (N := some 23) #[true, true, true, true, true, true, false, true, true, false, false, false, false, false, false] rfl rfl (one_of HT_.out zz14_11) (by decide) (fun K hK => ?_)
    refine goes_ Try.func12 zz14_11 rfl #[.int .u64 (IntKind.u64.wrap (a1))] (by rfl) rfl rfl zz14_2 ?_
    with_reducible refine (spec_WideUint.calls k (IntKind.u64.wrap (a1)) t492 t493 _ A5.out).mono ?_
    rintro e w102 ⟨v494, rfl, ho0, hb⟩
    refine ⟨_, rfl, ?_⟩
    have n0_ := qaM (qvB zz14_4 hb)
    have n1_ := qaM (qvB zz14_5 hb)
    have n2_ := qaM (qvB zz14_7 hb)
    have n3_ := qaM (qvL (qvM (ok' := fun k_ => k_ ≠ gb486 ∧ k_ ≠ gb487) ho0 (fun k_ hk_ => ⟨(qfB (g := gb486) (o := .cells #[.bool t478, .slice Ao96 t479.length co96] 25 (0, 0)) zz14_1 k_ hk_), (qfB (g := gb487) (o := .cells #[.bool t482, .slice Ao98 t483.length co98] 25 (0, 0)) zz14_3 k_ hk_)⟩)) (qbS zz14_0))
    have n4_ := qaM (qbB (g := gb486) (o := .cells #[.bool t478, .slice Ao96 t479.length co96] 25 (0, 0)) zz14_1 hb)
    have n5_ := qaM (qbB (g := gb487) (o := .cells #[.bool t482, .slice Ao98 t483.length co98] 25 (0, 0)) zz14_3 hb)
    have n6_ := qaM (qbT zz14_0 hb)
    clear HO481
    clear HO485
    clear HO491
    clear BK486
    clear BK487
    clear HB
    have HO481 := n0_
    have HO485 := n1_
    have HO491 := n2_
    have HO495 := n3_
    have BK486 := n4_
    have BK487 := n5_
    have HB := n6_
    clear n0_ n1_ n2_ n3_ n4_ n5_ n6_
    (try clear hb)
    (try clear hb2)
    (try clear hk)
    (try clear hi)
    (try clear ho0)
    obtain ⟨Ao103, co103, eo103⟩ := Kd.V_slice HO491.out
    (first | subst eo103 | (injection eo103 with f1_ f2_ f3_; have f4_ := f1_.symm; have f5_ := f3_.symm; clear f1_ f2_ f3_; subst f4_; subst f5_))
    obtain ⟨Ao104, co104, eo104⟩ := Kd.V_slice HO495.out
    (first | subst eo104 | (injection eo104 with f1_ f2_ f3_; have f4_ := f1_.symm; have f5_ := f3_.symm; clear f1_ f2_ f3_; subst f4_; subst f5_))
    refine hK.out _ _ ⟨(qbC BK486.out 0).trans rfl, (qbC BK486.out 1).trans rfl, (qbC BK487.out 0).trans rfl, (qbC BK487.out 1).trans rfl⟩ (fun hHeld => ?_)
    clear hK K
    refine norm_ (a' := ?_) ?_ ?_
    rotate_left
    ·show Act.put _ (some 23) _ = _
     simp only [Act.put, qsA, qsZ, qsS, i64_w, i32_w]
     rfl
    refine one_ (i := 6) (N := some 24) #[true, true, true, true, true, true, true, true, true, false, false, false, false, false, false] rfl rfl (one_of HT_.out zz14_11) (by decide) (fun K hK => ?_)
    refine goes_ Try.func11 zz14_11 rfl #[.agg #[.bool t488, .slice Ao103 t489.length co103], .agg #[.bool t492, .slice Ao104 t493.length co104]] (by rfl) rfl rfl zz14_2 ?_
    with_reducible refine (spec_WideAdd.calls k t488 _ _ t489 t492 _ _ t493 t496 t497 _ ?side1 ?side2 ?side3 ?side4 A6.out).mono ?_
    (case side1 => repeat (first | exact (qvR HO491.out).2.2 | (with_reducible refine Kd.C_alloc ?_ _) | (with_reducible refine Kd.C_drewN ?_ _) | (with_reducible refine Kd.C_drew ?_)))
    (case side2 => exact (qvR HO491.out).2.1)
    (case side3 => repeat (first | exact (qvR HO495.out).2.2 | (with_reducible refine Kd.C_alloc ?_ _) | (with_reducible refine Kd.C_drewN ?_ _) | (with_reducible refine Kd.C_drew ?_)))
    (case side4 => exact (qvR HO495.out).2.1)
    rintro e w105 ⟨v498, rfl, ho0, hb⟩
    refine ⟨_, rfl, ?_⟩
    have n0_ := qaM (qvB zz14_4 hb)
    have n1_ := qaM (qvB zz14_5 hb)
    have n2_ := qaM (qvB zz14_7 hb)
    have n3_ := qaM (qvB zz14_9 hb)
    have n4_ := qaM (qvL (qvM (ok' := fun k_ => k_ ≠ gb486 ∧ k_ ≠ gb487) ho0 (fun k_ hk_ => ⟨(qfB (g := gb486) (o := .cells #[.bool t478, .slice Ao96 t479.length co96] 25 (0, 0)) zz14_1 k_ hk_), (qfB (g := gb487) (o := .cells #[.bool t482, .slice Ao98 t483.length co98] 25 (0, 0)) zz14_3 k_ hk_)⟩)) (qbS zz14_0))
    have n5_ := qaM (qbB (g := gb486) (o := .cells #[.bool t478, .slice Ao96 t479.length co96] 25 (0, 0)) zz14_1 hb)
    have n6_ := qaM (qbB (g := gb487) (o := .cells #[.bool t482, .slice Ao98 t483.length co98] 25 (0, 0)) zz14_3 hb)
    have n7_ := qaM (qbT zz14_0 hb)
    clear HO481
    clear HO485
    clear HO491
    clear HO495
    clear BK486
    clear BK487
    clear HB
    have HO481 := n0_
    have HO485 := n1_
    have HO491 := n2_
    have HO495 := n3_
    have HO499 := n4_
    have BK486 := n5_
    have BK487 := n6_
    have HB := n7_
    clear n0_ n1_ n2_ n3_ n4_ n5_ n6_ n7_
    (try clear hb)
    (try clear hb2)
    (try clear hk)
    (try clear hi)
    (try clear ho0)
    obtain ⟨Ao106, co106, eo106⟩ := Kd.V_slice HO499.out
    (first | subst eo106 | (injection eo106 with f1_ f2_ f3_; have f4_ := f1_.symm; have f5_ := f3_.symm; clear f1_ f2_ f3_; subst f4_; subst f5_))
    refine hK.out _ _ ⟨(qbC BK486.out 0).trans rfl, (qbC BK486.out 1).trans rfl, (qbC BK487.out 0).trans rfl, (qbC BK487.out 1).trans rfl⟩ (fun hHeld => ?_)
    clear hK K
    refine norm_ (a' := ?_) ?_ ?_
    rotate_left
    ·show Act.put _ (some 24) _ = _
     simp only [Act.put, qsA, qsZ, qsS, i64_w, i32_w]
     rfl
    refine one_ (i := 9) (N := some 27) #[true, true, true, true, true, true, true, true, true, true, false, false, false, false, false] rfl rfl (one_of HT_.out zz14_11) (by decide) (fun K hK => ?_)
    refine goes_ Try.func10 zz14_11 rfl #[.agg #[.bool t496, .slice Ao106 t497.length co106], .agg #[.bool t478, .slice Ao96 t479.length co96], .agg #[.bool t482, .slice Ao98 t483.length co98]] (by rfl) rfl rfl zz14_2 ?_
    with_reducible refine (laws_fitted.calls k t496 _ _ t497 t478 _ _ t479 t482 _ _ t483 t500 false _ ?side1 ?side2 ?side3 ?side4 ?side5 ?side6 A7.out).mono ?_
    (case side1 => repeat (first | exact (qvR HO499.out).2.2 | (with_reducible refine Kd.C_alloc ?_ _) | (with_reducible refine Kd.C_drewN ?_ _) | (with_reducible refine Kd.C_drew ?_)))
    (case side2 => exact (qvR HO499.out).2.1)
    (case side3 => repeat (first | exact (qvR HO481.out).2.2 | (with_reducible refine Kd.C_alloc ?_ _) | (with_reducible refine Kd.C_drewN ?_ _) | (with_reducible refine Kd.C_drew ?_)))
    (case side4 => exact (qvR HO481.out).2.1)
    (case side5 => repeat (first | exact (qvR HO485.out).2.2 | (with_reducible refine Kd.C_alloc ?_ _) | (with_reducible refine Kd.C_drewN ?_ _) | (with_reducible refine Kd.C_drew ?_)))
    (case side6 => exact (qvR HO485.out).2.1)
    rintro e w107 ⟨rfl, hb⟩
    refine ⟨_, rfl, ?_⟩
    have n0_ := qaM (qvB zz14_4 hb)
    have n1_ := qaM (qvB zz14_5 hb)
    have n2_ := qaM (qvB zz14_7 hb)
    have n3_ := qaM (qvB zz14_9 hb)
    have n4_ := qaM (qvB zz14_10 hb)
    have n5_ := qaM (qbB (g := gb486) (o := .cells #[.bool t478, .slice Ao96 t479.length co96] 25 (0, 0)) zz14_1 hb)
    have n6_ := qaM (qbB (g := gb487) (o := .cells #[.bool t482, .slice Ao98 t483.length co98] 25 (0, 0)) zz14_3 hb)
    have n7_ := qaM (qbT zz14_0 hb)
    clear HO481
    clear HO485
    clear HO491
    clear HO495
    clear HO499
    clear BK486
    clear BK487
    clear HB
    have HO481 := n0_
    have HO485 := n1_
    have HO491 := n2_
    have HO495 := n3_
    have HO499 := n4_
    have BK486 := n5_
    have BK487 := n6_
    have HB := n7_
    clear n0_ n1_ n2_ n3_ n4_ n5_ n6_ n7_
    (try clear hb)
    (try clear hb2)
    (try clear hk)
    (try clear hi)
    refine hK.out _ _ ⟨(qbC BK486.out 0).trans rfl, (qbC BK486.out 1).trans rfl, (qbC BK487.out 0).trans rfl, (qbC BK487.out 1).trans rfl⟩ (fun hHeld => ?_)
    clear hK K
    refine norm_ (a' := ?_) ?_ ?_
    rotate_left
    ·show Act.put _ (some 27) _ = _
     simp only [Act.put, qsA, qsZ, qsS, i64_w, i32_w]
     rfl
    refine pure_ (i := 10) (N := some 17) (v := ?_) (a' := ?_) #[true, true, true, true, true, true, true, true, true, true, true, false, false, false, false] rfl rfl (any_of HT_.out zz14_11) (fun _ _ _ h => h) (Or.inl ⟨by rfl, ?_⟩) ?_ ?_
    rotate_left
    ·intro w'
     go_simp
     with_reducible rfl
    rotate_left
    ·simp only [Act.put, qsA, qsZ, qsS, i64_w, i32_w]
     rfl
    refine pure_ (i := 11) (N := some 28) (v := ?_) (a' := ?_) #[true, true, true, true, true, true, true, true, true, true, true, true, false, false, false] rfl rfl (any_of HT_.out zz14_11) (fun _ _ _ h => h) (Or.inl ⟨by rfl, ?_⟩) ?_ ?_
    rotate_left
    ·intro w'
     go_simp
     with_reducible rfl
    rotate_left
    ·simp only [Act.put, qsA, qsZ, qsS, i64_w, i32_w]
     rfl
    refine pure_ (i := 12) (N := some 29) (v := ?_) (a' := ?_) #[true, true, true, true, true, true, true, true, true, true, true, true, true, false, false] rfl rfl (any_of HT_.out zz14_11) (fun _ _ _ h => h) (Or.inl ⟨by rfl, ?_⟩) ?_ ?_
    rotate_left
    ·intro w'
     go_simp
     with_reducible rfl
    rotate_left
    ·simp only [Act.put, qsA, qsZ, qsS, i64_w, i32_w]
     rfl
    refine pure_ (i := 13) (N := some 7) (v := ?_) (a' := ?_) #[true, true, true, true, true, true, true, true, true, true, true, true, true, true, false] rfl rfl (any_of HT_.out zz14_11) (fun _ _ _ h => h) (Or.inl ⟨by rfl, ?_⟩) ?_ ?_
    rotate_left
    ·intro w'
     go_simp
     with_reducible rfl
    rotate_left
    ·simp only [Act.put, qsA, qsZ, qsS, i64_w, i32_w]
     rfl
    refine pure_ (i := 14) (N := some 8) (v := ?_) (a' := ?_) #[true, true, true, true, true, true, true, true, true, true, true, true, true, true, true] rfl rfl (any_of HT_.out zz14_11) (fun _ _ _ h => h) (Or.inl ⟨by rfl, ?_⟩) ?_ ?_
    rotate_left
    ·intro w'
     go_simp
     with_reducible rfl
    rotate_left
    ·simp only [Act.put, qsA, qsZ, qsS, i64_w, i32_w]
     rfl
    refine done_ (done_of HT_.out zz14_11) ?_
    try go_wp2_with (first | ((with_reducible refine gate_callee (f := 14) rfl ?_); refine goesL_ (some 33) rfl rfl Try.func14 zz14_11 rfl #[.int .u8 a0, .int .u8 a1] rfl zz14_2 ?_; (with_reducible refine (impl_AddUint8.calls a0 a1 t502 t503 _ A8.out).mono ?_); rintro e w108 ⟨rfl, hb⟩; refine ⟨_, rfl, ?_⟩; have n0_ := qaM (qvB zz14_4 hb); have n1_ := qaM (qvB zz14_5 hb); have n2_ := qaM (qvB zz14_7 hb); have n3_ := qaM (qvB zz14_9 hb); have n4_ := qaM (qvB zz14_10 hb); have n5_ := qaM (qbB (g := gb486) (o := .cells #[.bool t478, .slice Ao96 t479.length co96] 25 (0, 0)) zz14_1 hb); have n6_ := qaM (qbB (g := gb487) (o := .cells #[.bool t482, .slice Ao98 t483.length co98] 25 (0, 0)) zz14_3 hb); have n7_ := qaM (qbT zz14_0 hb); clear HO481; clear HO485; clear HO491; clear HO495; clear HO499; clear BK486; clear BK487; clear HB; have HO481 := n0_; have HO485 := n1_; have HO491 := n2_; have HO495 := n3_; have HO499 := n4_; have BK486 := n5_; have BK487 := n6_; have HB := n7_; clear n0_ n1_ n2_ n3_ n4_ n5_ n6_ n7_; (try clear hb); (try clear hb2); (try clear hk); (try clear hi)) | ((with_reducible refine gate_callee (f := 14) rfl ?_); refine goesL_ (some 37) rfl rfl Try.func14 zz14_11 rfl #[.int .u8 2, .int .u8 3] rfl zz14_2 ?_; (with_reducible refine (impl_AddUint8.calls 2 3 t504 false _ A9.out).mono ?_); rintro e w109 ⟨rfl, hb⟩; refine ⟨_, rfl, ?_⟩; have n0_ := qaM (qvB zz14_4 hb); have n1_ := qaM (qvB zz14_5 hb); have n2_ := qaM (qvB zz14_7 hb); have n3_ := qaM (qvB zz14_9 hb); have n4_ := qaM (qvB zz14_10 hb); have n5_ := qaM (qbB (g := gb486) (o := .cells #[.bool t478, .slice Ao96 t479.length co96] 25 (0, 0)) zz14_1 hb); have n6_ := qaM (qbB (g := gb487) (o := .cells #[.bool t482, .slice Ao98 t483.length co98] 25 (0, 0)) zz14_3 hb); have n7_ := qaM (qbT zz14_0 hb); clear HO481; clear HO485; clear HO491; clear HO495; clear HO499; clear BK486; clear BK487; clear HB; have HO481 := n0_; have HO485 := n1_; have HO491 := n2_; have HO495 := n3_; have HO499 := n4_; have BK486 := n5_; have BK487 := n6_; have HB := n7_; clear n0_ n1_ n2_ n3_ n4_ n5_ n6_ n7_; (try clear hb); (try clear hb2); (try clear hk); (try clear hi)))
    go_ret
    exact ⟨by first | rfl | (simp [errW_none, errW_some] <;> rfl) | (simp [*, errW_none, errW_some] <;> rfl), by repeat (first | (with_reducible first | exact HB.out | apply qwA | apply qwN | apply qwD | refine qwS ?_ GE486.out | refine qwS ?_ GE487.out) | exact HB.out)⟩
 ·rw [if_neg c10] at H
  have c10b0 : (t503 == t501) = false := by simpa using c10
  (try (have c10b1 : decide (t503 = t501) = false := by simpa using c10))
  (try (have c10b2 : (t503 == t501) = false := by simpa using c10))
  (try (have c10b3 : ¬ (t503 = t501) := by simpa using c10))
  clear c10
  obtain rfl := Option.some.inj H
  go_enter Try.func4, Try.ntmps4
  try go_wp2_with (first | ((with_reducible refine gate_callee (f := 9) rfl ?_); refine goesL_ (some 14) rfl rfl Try.func9 zz14_11 rfl #[.int .i64 8, .bool false] rfl zz14_2 ?_; (with_reducible refine (laws_bounds.calls k 8 false t478 t479 t482 t483 _ A3.out).mono ?_); rintro e w110 ⟨v480, v484, rfl, ho0, ho1, hb⟩; refine ⟨_, rfl, ?_⟩; have n0_ := qaM (qvL (qvM (ok' := fun k_ => True) ho0 (fun k_ hk_ => trivial)) (qbS zz14_6)); have n1_ := qaM (qvL (qvM (ok' := fun k_ => True) ho1 (fun k_ hk_ => trivial)) (qbS zz14_6)); have n2_ := qaM (qbT zz14_6 hb); clear HB; have HO481 := n0_; have HO485 := n1_; have HB := n2_; clear n0_ n1_ n2_; (try clear hb); (try clear hb2); (try clear hk); (try clear hi); (try clear ho0); (try clear ho1)) | ((with_reducible refine gate_dst (N := 5) rfl ?_); refine box_event ?hg (N := 5) ?hd (cs := #[.bool false, .slice none 0 0]) (t := 25) ?hr ?_; (case hd => rfl); (case hg => rfl); (case hr => first | (go_simp; done) | (go_simp; rfl)); intro gb486 hg w111 hbox hb; have n0_ := qaM (qvB (qvE zz14_4 gb486 (Nat.le_of_eq hg.symm)) hb); have n1_ := qaM (qvB (qvE zz14_5 gb486 (Nat.le_of_eq hg.symm)) hb); have n2_ := qaM (qbT zz14_6 hb); have n3_ := qaM (hbox); have n4_ := qaM ((by rw [hg]; exact (qbS zz14_6) : w.heap.size ≤ gb486)); have n5_ := qaM ((by rw [hg]; exact (qbS zz14_6) : w.heap.size ≤ gb486)); clear HO481; clear HO485; clear HB; have HO481 := n0_; have HO485 := n1_; have HB := n2_; have BK486 := n3_; have GW486 := n4_; have GE486 := n5_; clear n0_ n1_ n2_ n3_ n4_ n5_; clear hb hbox hg) | ((with_reducible refine gate_dst (N := 6) rfl ?_); refine box_event ?hg (N := 6) ?hd (cs := #[.bool false, .slice none 0 0]) (t := 25) ?hr ?_; (case hd => rfl); (case hg => rfl); (case hr => first | (go_simp; done) | (go_simp; rfl)); intro gb487 hg w112 hbox hb; have n0_ := qaM (qvB (qvE zz14_4 gb487 (Nat.le_of_eq hg.symm)) hb); have n1_ := qaM (qvB (qvE zz14_5 gb487 (Nat.le_of_eq hg.symm)) hb); have n2_ := qaM (qbB (g := gb486) (o := .cells #[.bool false, .slice none 0 0] 25 (0, 0)) zz14_1 hb); have n3_ := qaM (qbT zz14_8 hb); have n4_ := qaM (hbox); have n5_ := qaM ((by rw [hg]; exact (qbS zz14_8) : w.heap.size ≤ gb487)); have n6_ := qaM ((by rw [hg]; exact (qbS zz14_8) : w.heap.size ≤ gb487)); have n7_ := qaM ((by rw [hg]; exact qnL (qbL (g := gb486) (o := .cells #[.bool false, .slice none 0 0] 25 (0, 0)) zz14_1) : gb486 ≠ gb487)); have n8_ := qaM ((by rw [hg]; exact qnG (qbL (g := gb486) (o := .cells #[.bool false, .slice none 0 0] 25 (0, 0)) zz14_1) : gb487 ≠ gb486)); clear HO481; clear HO485; clear BK486; clear HB; have HO481 := n0_; have HO485 := n1_; have BK486 := n2_; have HB := n3_; have BK487 := n4_; have GW487 := n5_; have GE487 := n6_; have NB486_487 := n7_; have NB487_486 := n8_; clear n0_ n1_ n2_ n3_ n4_ n5_ n6_ n7_ n8_; clear hb hbox hg; have hnb113 := NB486_487.out; have hnc113 := NB487_486.out; have hcz114_0 : w112.cell? ⟨gb486, 0, none⟩ = some (.bool false) := (qbC BK486.out 0).trans rfl; have hcz114_1 : w112.cell? ⟨gb486, 1, none⟩ = some (.slice none 0 0) := (qbC BK486.out 1).trans rfl; have hfz114_0 := blk_frozen BK486.out 0; have hfz114_1 := blk_frozen BK486.out 1; obtain ⟨Ao115, co115, eo115⟩ := Kd.V_slice HO481.out; subst eo115; have hcz116_0 : w112.cell? ⟨gb487, 0, none⟩ = some (.bool false) := (qbC BK487.out 0).trans rfl; have hcz116_1 : w112.cell? ⟨gb487, 1, none⟩ = some (.slice none 0 0) := (qbC BK487.out 1).trans rfl; have hfz116_0 := blk_frozen BK487.out 0; have hfz116_1 := blk_frozen BK487.out 1; obtain ⟨Ao117, co117, eo117⟩ := Kd.V_slice HO485.out; subst eo117))
  have n0_ : Aside0 (Kd.V (Kd.int .u32) 22 ((((w112.setCell ⟨gb486, 0, none⟩ (.bool t478)).setCell ⟨gb486, 1, none⟩ (.slice Ao115 t479.length co115)).setCell ⟨gb487, 0, none⟩ (.bool t482)).setCell ⟨gb487, 1, none⟩ (.slice Ao117 t483.length co117)) w.heap.size (fun k_ => k_ ≠ gb486 ∧ k_ ≠ gb487) (.slice Ao115 t479.length co115) t479) := ⟨by (with_reducible repeat (first | apply qvA | apply qvN | apply qvD)); exact qvM (qvF (p := ⟨gb487, 1, none⟩) (qvF (p := ⟨gb487, 0, none⟩) (qvF (p := ⟨gb486, 1, none⟩) (qvF (p := ⟨gb486, 0, none⟩) (qvM (qvM HO481.out (fun k_ hk => (⟨hk, hk.1.2⟩ : _ ∧ k_ ≠ gb486))) (fun k_ hk => (⟨hk, hk.1.2⟩ : _ ∧ k_ ≠ gb487))) (fun _ hk => hk.1.2) (.bool t478)) (fun _ hk => hk.1.2) (.slice Ao115 t479.length co115)) (fun _ hk => hk.2) (.bool t482)) (fun _ hk => hk.2) (.slice Ao117 t483.length co117)) (fun _ hk => ⟨hk.1.1.1.2, hk.1.1.2⟩)⟩
  have n1_ : Aside0 (Kd.V (Kd.int .u32) 22 ((((w112.setCell ⟨gb486, 0, none⟩ (.bool t478)).setCell ⟨gb486, 1, none⟩ (.slice Ao115 t479.length co115)).setCell ⟨gb487, 0, none⟩ (.bool t482)).setCell ⟨gb487, 1, none⟩ (.slice Ao117 t483.length co117)) w.heap.size (fun k_ => k_ ≠ gb486 ∧ k_ ≠ gb487) (.slice Ao117 t483.length co117) t483) := ⟨by (with_reducible repeat (first | apply qvA | apply qvN | apply qvD)); exact qvM (qvF (p := ⟨gb487, 1, none⟩) (qvF (p := ⟨gb487, 0, none⟩) (qvF (p := ⟨gb486, 1, none⟩) (qvF (p := ⟨gb486, 0, none⟩) (qvM (qvM HO485.out (fun k_ hk => (⟨hk, hk.1.2⟩ : _ ∧ k_ ≠ gb486))) (fun k_ hk => (⟨hk, hk.1.2⟩ : _ ∧ k_ ≠ gb487))) (fun _ hk => hk.1.2) (.bool t478)) (fun _ hk => hk.1.2) (.slice Ao115 t479.length co115)) (fun _ hk => hk.2) (.bool t482)) (fun _ hk => hk.2) (.slice Ao117 t483.length co117)) (fun _ hk => ⟨hk.1.1.1.2, hk.1.1.2⟩)⟩
  have n2_ : Aside0 (((((w112.setCell ⟨gb486, 0, none⟩ (.bool t478)).setCell ⟨gb486, 1, none⟩ (.slice Ao115 t479.length co115)).setCell ⟨gb487, 0, none⟩ (.bool t482)).setCell ⟨gb487, 1, none⟩ (.slice Ao117 t483.length co117)).heap[gb486]? = some (.cells #[.bool t478, .slice Ao115 t479.length co115] 25 (0, 0))) := ⟨by (with_reducible repeat (first | refine qbN ?_ _ | refine qbD ?_ | refine qbA ?_ _)); refine qbF ?_ NB486_487.out _; (with_reducible repeat (first | refine qbN ?_ _ | refine qbD ?_ | refine qbA ?_ _)); refine qbF ?_ NB486_487.out _; (with_reducible repeat (first | refine qbN ?_ _ | refine qbD ?_ | refine qbA ?_ _)); refine qbP (cs := #[.bool t478, .slice none 0 0]) ?_ 1 _ rfl; (with_reducible repeat (first | refine qbN ?_ _ | refine qbD ?_ | refine qbA ?_ _)); refine qbP (cs := #[.bool false, .slice none 0 0]) ?_ 0 _ rfl; (with_reducible repeat (first | refine qbN ?_ _ | refine qbD ?_ | refine qbA ?_ _)); exact BK486.out⟩
  have n3_ : Aside0 (((((w112.setCell ⟨gb486, 0, none⟩ (.bool t478)).setCell ⟨gb486, 1, none⟩ (.slice Ao115 t479.length co115)).setCell ⟨gb487, 0, none⟩ (.bool t482)).setCell ⟨gb487, 1, none⟩ (.slice Ao117 t483.length co117)).heap[gb487]? = some (.cells #[.bool t482, .slice Ao117 t483.length co117] 25 (0, 0))) := ⟨by (with_reducible repeat (first | refine qbN ?_ _ | refine qbD ?_ | refine qbA ?_ _)); refine qbP (cs := #[.bool t482, .slice none 0 0]) ?_ 1 _ rfl; (with_reducible repeat (first | refine qbN ?_ _ | refine qbD ?_ | refine qbA ?_ _)); refine qbP (cs := #[.bool false, .slice none 0 0]) ?_ 0 _ rfl; (with_reducible repeat (first | refine qbN ?_ _ | refine qbD ?_ | refine qbA ?_ _)); refine qbF ?_ NB487_486.out _; (with_reducible repeat (first | refine qbN ?_ _ | refine qbD ?_ | refine qbA ?_ _)); refine qbF ?_ NB487_486.out _; (with_reducible repeat (first | refine qbN ?_ _ | refine qbD ?_ | refine qbA ?_ _)); exact BK487.out⟩
  have n4_ : Aside0 (Below w.heap.size w ((((w112.setCell ⟨gb486, 0, none⟩ (.bool t478)).setCell ⟨gb486, 1, none⟩ (.slice Ao115 t479.length co115)).setCell ⟨gb487, 0, none⟩ (.bool t482)).setCell ⟨gb487, 1, none⟩ (.slice Ao117 t483.length co117))) := ⟨by repeat (first | (with_reducible first | exact HB.out | apply qwA | apply qwN | apply qwD | refine qwS ?_ GE486.out | refine qwS ?_ GE487.out) | exact HB.out)⟩
  (try clear HO481)
  (try clear HO485)
  (try clear BK486)
  (try clear BK487)
  (try clear HB)
  generalize ((((w112.setCell ⟨gb486, 0, none⟩ (.bool t478)).setCell ⟨gb486, 1, none⟩ (.slice Ao115 t479.length co115)).setCell ⟨gb487, 0, none⟩ (.bool t482)).setCell ⟨gb487, 1, none⟩ (.slice Ao117 t483.length co117)) = w118 at n0_ n1_ n2_ n3_ n4_ ⊢
  have HO481 := n0_
  have HO485 := n1_
  have BK486 := n2_
  have BK487 := n3_
  have HB := n4_
  clear n0_ n1_ n2_ n3_ n4_
  have n0_ := qaM (qvD HO481.out)
  have n1_ := qaM (qvD HO485.out)
  have n2_ := qaM (qbD BK486.out)
  have n3_ := qaM (qbD BK487.out)
  have n4_ := qaM (qwD HB.out)
  clear HO481
  clear HO485
  clear BK486
  clear BK487
  clear HB
  have HO481 := n0_
  have HO485 := n1_
  have BK486 := n2_
  have BK487 := n3_
  have HB := n4_
  clear n0_ n1_ n2_ n3_ n4_
  refine start_ (n := 15) (S := fun w' => w'.cell? ⟨gb486, 0, none⟩ = some (.bool t478) ∧ w'.cell? ⟨gb486, 1, none⟩ = some (.slice Ao115 t479.length co115) ∧ w'.cell? ⟨gb487, 0, none⟩ = some (.bool t482) ∧ w'.cell? ⟨gb487, 1, none⟩ = some (.slice Ao117 t483.length co117)) (ds := []) #[false, false, false, false, false, false, false, false, false, false, false, false, false, false, false] zz14_11 rfl rfl ⟨(qbC BK486.out 0).trans rfl, (qbC BK486.out 1).trans rfl, (qbC BK487.out 0).trans rfl, (qbC BK487.out 1).trans rfl⟩ (fun hHeld => ?_); refine with_tabW laws_FnAddUint8.tab2 laws_FnAddUint8.bits2 (fun HT_ HW_ => ?_)
  generalize w118.drew = w119 at HO481 HO485 BK486 BK487 HB hHeld ⊢
  refine pure_ (i := 0) (N := some 18) (v := ?_) (a' := ?_) #[true, false, false, false, false, false, false, false, false, false, false, false, false, false, false] rfl rfl (any_of HT_.out zz14_11) (fun _ _ _ h => h) (Or.inl ⟨by rfl, ?_⟩) ?_ ?_
  rotate_left
  ·intro w'
   go_simp
   with_reducible rfl
  rotate_left
  ·simp only [Act.put, qsA, qsZ, qsS, i64_w, i32_w]
   rfl
  refine pure_ (i := 1) (N := some 19) (v := ?_) (a' := ?_) #[true, true, false, false, false, false, false, false, false, false, false, false, false, false, false] rfl rfl (any_of HT_.out zz14_11) (fun _ _ _ h => h) (Or.inl ⟨by rfl, ?_⟩) ?_ ?_
  rotate_left
  ·intro w'
   go_simp
   with_reducible rfl
  rotate_left
  ·simp only [Act.put, qsA, qsZ, qsS, i64_w, i32_w]
   rfl
  refine pure_ (i := 3) (N := some 21) (v := ?_) (a' := ?_) #[true, true, false, true, false, false, false, false, false, false, false, false, false, false, false] rfl rfl (any_of HT_.out zz14_11) (fun _ _ _ h => h) (Or.inl ⟨by rfl, ?_⟩) ?_ ?_
  rotate_left
  ·intro w'
   go_simp
   with_reducible rfl
  rotate_left
  ·simp only [Act.put, qsA, qsZ, qsS, i64_w, i32_w]
   rfl
  refine pure_ (i := 4) (N := some 22) (v := ?_) (a' := ?_) #[true, true, false, true, true, false, false, false, false, false, false, false, false, false, false] rfl rfl (any_of HT_.out zz14_11) (fun _ _ _ h => h) (Or.inl ⟨by rfl, ?_⟩) ?_ ?_
  rotate_left
  ·intro w'
   go_simp
   with_reducible rfl
  rotate_left
  ·simp only [Act.put, qsA, qsZ, qsS, i64_w, i32_w]
   rfl
  refine take_ (i := 7) (N := some 25) (v := ?_) (a' := ?_) #[true, true, false, true, true, false, false, true, false, false, false, false, false, false, false] rfl rfl (take_ofW HT_.out HW_.out zz14_11) (fun _ _ _ h => h) (Or.inl ⟨by rfl, ?_⟩) hHeld ?_ ?_
  rotate_left
  ·rintro w' ⟨s0, s1, s2, s3⟩
   go_simp
   with_reducible rfl
  rotate_left
  ·simp only [Act.put, qsA, qsZ, qsS, i64_w, i32_w]
   rfl
  refine take_ (i := 8) (N := some 26) (v := ?_) (a' := ?_) #[true, true, false, true, true, false, false, true, true, false, false, false, false, false, false] rfl rfl (take_ofW HT_.out HW_.out zz14_11) (fun _ _ _ h => h) (Or.inl ⟨by rfl, ?_⟩) hHeld ?_ ?_
  rotate_left
  ·rintro w' ⟨s0, s1, s2, s3⟩
   go_simp
   with_reducible rfl
  rotate_left
  ·simp only [Act.put, qsA, qsZ, qsS, i64_w, i32_w]
   rfl
  refine one_ (i := 2) (N := some 20) #[true, true, true, true, true, false, false, true, true, false, false, false, false, false, false] rfl rfl (one_of HT_.out zz14_11) (by decide) (fun K hK => ?_)
  refine goes_ Try.func12 zz14_11 rfl #[.int .u64 (IntKind.u64.wrap (a0))] (by rfl) rfl rfl zz14_2 ?_
  with_reducible refine (spec_WideUint.calls k (IntKind.u64.wrap (a0)) t488 t489 _ A4.out).mono ?_
  rintro e w120 ⟨v490, rfl, ho0, hb⟩
  refine ⟨_, rfl, ?_⟩
  have n0_ := qaM (qvB zz14_4 hb)
  have n1_ := qaM (qvB zz14_5 hb)
  have n2_ := qaM (qvL (qvM (ok' := fun k_ => k_ ≠ gb486 ∧ k_ ≠ gb487) ho0 (fun k_ hk_ => ⟨(qfB (g := gb486) (o := .cells #[.bool t478, .slice Ao115 t479.length co115] 25 (0, 0)) zz14_1 k_ hk_), (qfB (g := gb487) (o := .cells #[.bool t482, .slice Ao117 t483.length co117] 25 (0, 0)) zz14_3 k_ hk_)⟩)) (qbS zz14_0))
  have n3_ := qaM (qbB (g := gb486) (o := .cells #[.bool t478, .slice Ao115 t479.length co115] 25 (0, 0)) zz14_1 hb)
  have n4_ := qaM (qbB (g := gb487) (o := .cells #[.bool t482, .slice Ao117 t483.length co117] 25 (0, 0)) zz14_3 hb)
  have n5_ := qaM (qbT zz14_0 hb)
  clear HO481
  clear HO485
  clear BK486
  clear BK487
  clear HB
  have HO481 := n0_
  have HO485 := n1_
  have HO491 := n2_
  have BK486 := n3_
  have BK487 := n4_
  have HB := n5_
  clear n0_ n1_ n2_ n3_ n4_ n5_
  (try clear hb)
  (try clear hb2)
  (try clear hk)
  (try clear hi)
  (try clear ho0)
  refine hK.out _ _ ⟨(qbC BK486.out 0).trans rfl, (qbC BK486.out 1).trans rfl, (qbC BK487.out 0).trans rfl, (qbC BK487.out 1).trans rfl⟩ (fun hHeld => ?_)
  clear hK K
  refine norm_ (a' := ?_) ?_ ?_
  rotate_left
  ·show Act.put _ (some 20) _ = _
   simp only [Act.put, qsA, qsZ, qsS, i64_w, i32_w]
   rfl
  refine one_ (i := 5) (N := some 23) #[true, true, true, true, true, true, false, true, true, false, false, false, false, false, false] rfl rfl (one_of HT_.out zz14_11) (by decide) (fun K hK => ?_)
  refine goes_ Try.func12 zz14_11 rfl #[.int .u64 (IntKind.u64.wrap (a1))] (by rfl) rfl rfl zz14_2 ?_
  with_reducible refine (spec_WideUint.calls k (IntKind.u64.wrap (a1)) t492 t493 _ A5.out).mono ?_
  rintro e w121 ⟨v494, rfl, ho0, hb⟩
  refine ⟨_, rfl, ?_⟩
  have n0_ := qaM (qvB zz14_4 hb)
  have n1_ := qaM (qvB zz14_5 hb)
  have n2_ := qaM (qvB zz14_7 hb)
  have n3_ := qaM (qvL (qvM (ok' := fun k_ => k_ ≠ gb486 ∧ k_ ≠ gb487) ho0 (fun k_ hk_ => ⟨(qfB (g := gb486) (o := .cells #[.bool t478, .slice Ao115 t479.length co115] 25 (0, 0)) zz14_1 k_ hk_), (qfB (g := gb487) (o := .cells #[.bool t482, .slice Ao117 t483.length co117] 25 (0, 0)) zz14_3 k_ hk_)⟩)) (qbS zz14_0))
  have n4_ := qaM (qbB (g := gb486) (o := .cells #[.bool t478, .slice Ao115 t479.length co115] 25 (0, 0)) zz14_1 hb)
  have n5_ := qaM (qbB (g := gb487) (o := .cells #[.bool t482, .slice Ao117 t483.length co117] 25 (0, 0)) zz14_3 hb)
  have n6_ := qaM (qbT zz14_0 hb)
  clear HO481
  clear HO485
  clear HO491
  clear BK486
  clear BK487
  clear HB
  have HO481 := n0_
  have HO485 := n1_
  have HO491 := n2_
  have HO495 := n3_
  have BK486 := n4_
  have BK487 := n5_
  have HB := n6_
  clear n0_ n1_ n2_ n3_ n4_ n5_ n6_
  (try clear hb)
  (try clear hb2)
  (try clear hk)
  (try clear hi)
  (try clear ho0)
  obtain ⟨Ao122, co122, eo122⟩ := Kd.V_slice HO491.out
  (first | subst eo122 | (injection eo122 with f1_ f2_ f3_; have f4_ := f1_.symm; have f5_ := f3_.symm; clear f1_ f2_ f3_; subst f4_; subst f5_))
  obtain ⟨Ao123, co123, eo123⟩ := Kd.V_slice HO495.out
  (first | subst eo123 | (injection eo123 with f1_ f2_ f3_; have f4_ := f1_.symm; have f5_ := f3_.symm; clear f1_ f2_ f3_; subst f4_; subst f5_))
  refine hK.out _ _ ⟨(qbC BK486.out 0).trans rfl, (qbC BK486.out 1).trans rfl, (qbC BK487.out 0).trans rfl, (qbC BK487.out 1).trans rfl⟩ (fun hHeld => ?_)
  clear hK K
  refine norm_ (a' := ?_) ?_ ?_
  rotate_left
  ·show Act.put _ (some 23) _ = _
   simp only [Act.put, qsA, qsZ, qsS, i64_w, i32_w]
   rfl
  refine one_ (i := 6) (N := some 24) #[true, true, true, true, true, true, true, true, true, false, false, false, false, false, false] rfl rfl (one_of HT_.out zz14_11) (by decide) (fun K hK => ?_)
  refine goes_ Try.func11 zz14_11 rfl #[.agg #[.bool t488, .slice Ao122 t489.length co122], .agg #[.bool t492, .slice Ao123 t493.length co123]] (by rfl) rfl rfl zz14_2 ?_
  with_reducible refine (spec_WideAdd.calls k t488 _ _ t489 t492 _ _ t493 t496 t497 _ ?side1 ?side2 ?side3 ?side4 A6.out).mono ?_
  (case side1 => repeat (first | exact (qvR HO491.out).2.2 | (with_reducible refine Kd.C_alloc ?_ _) | (with_reducible refine Kd.C_drewN ?_ _) | (with_reducible refine Kd.C_drew ?_)))
  (case side2 => exact (qvR HO491.out).2.1)
  (case side3 => repeat (first | exact (qvR HO495.out).2.2 | (with_reducible refine Kd.C_alloc ?_ _) | (with_reducible refine Kd.C_drewN ?_ _) | (with_reducible refine Kd.C_drew ?_)))
  (case side4 => exact (qvR HO495.out).2.1)
  rintro e w124 ⟨v498, rfl, ho0, hb⟩
  refine ⟨_, rfl, ?_⟩
  have n0_ := qaM (qvB zz14_4 hb)
  have n1_ := qaM (qvB zz14_5 hb)
  have n2_ := qaM (qvB zz14_7 hb)
  have n3_ := qaM (qvB zz14_9 hb)
  have n4_ := qaM (qvL (qvM (ok' := fun k_ => k_ ≠ gb486 ∧ k_ ≠ gb487) ho0 (fun k_ hk_ => ⟨(qfB (g := gb486) (o := .cells #[.bool t478, .slice Ao115 t479.length co115] 25 (0, 0)) zz14_1 k_ hk_), (qfB (g := gb487) (o := .cells #[.bool t482, .slice Ao117 t483.length co117] 25 (0, 0)) zz14_3 k_ hk_)⟩)) (qbS zz14_0))
  have n5_ := qaM (qbB (g := gb486) (o := .cells #[.bool t478, .slice Ao115 t479.length co115] 25 (0, 0)) zz14_1 hb)
  have n6_ := qaM (qbB (g := gb487) (o := .cells #[.bool t482, .slice Ao117 t483.length co117] 25 (0, 0)) zz14_3 hb)
  have n7_ := qaM (qbT zz14_0 hb)
  clear HO481
  clear HO485
  clear HO491
  clear HO495
  clear BK486
  clear BK487
  clear HB
  have HO481 := n0_
  have HO485 := n1_
  have HO491 := n2_
  have HO495 := n3_
  have HO499 := n4_
  have BK486 := n5_
  have BK487 := n6_
  have HB := n7_
  clear n0_ n1_ n2_ n3_ n4_ n5_ n6_ n7_
  (try clear hb)
  (try clear hb2)
  (try clear hk)
  (try clear hi)
  (try clear ho0)
  obtain ⟨Ao125, co125, eo125⟩ := Kd.V_slice HO499.out
  (first | subst eo125 | (injection eo125 with f1_ f2_ f3_; have f4_ := f1_.symm; have f5_ := f3_.symm; clear f1_ f2_ f3_; subst f4_; subst f5_))
  refine hK.out _ _ ⟨(qbC BK486.out 0).trans rfl, (qbC BK486.out 1).trans rfl, (qbC BK487.out 0).trans rfl, (qbC BK487.out 1).trans rfl⟩ (fun hHeld => ?_)
  clear hK K
  refine norm_ (a' := ?_) ?_ ?_
  rotate_left
  ·show Act.put _ (some 24) _ = _
   simp only [Act.put, qsA, qsZ, qsS, i64_w, i32_w]
   rfl
  refine one_ (i := 9) (N := some 27) #[true, true, true, true, true, true, true, true, true, true, false, false, false, false, false] rfl rfl (one_of HT_.out zz14_11) (by decide) (fun K hK => ?_)
  refine goes_ Try.func10 zz14_11 rfl #[.agg #[.bool t496, .slice Ao125 t497.length co125], .agg #[.bool t478, .slice Ao115 t479.length co115], .agg #[.bool t482, .slice Ao117 t483.length co117]] (by rfl) rfl rfl zz14_2 ?_
  with_reducible refine (laws_fitted.calls k t496 _ _ t497 t478 _ _ t479 t482 _ _ t483 t500 t501 _ ?side1 ?side2 ?side3 ?side4 ?side5 ?side6 A7.out).mono ?_
  (case side1 => repeat (first | exact (qvR HO499.out).2.2 | (with_reducible refine Kd.C_alloc ?_ _) | (with_reducible refine Kd.C_drewN ?_ _) | (with_reducible refine Kd.C_drew ?_)))
  (case side2 => exact (qvR HO499.out).2.1)
  (case side3 => repeat (first | exact (qvR HO481.out).2.2 | (with_reducible refine Kd.C_alloc ?_ _) | (with_reducible refine Kd.C_drewN ?_ _) | (with_reducible refine Kd.C_drew ?_)))
  (case side4 => exact (qvR HO481.out).2.1)
  (case side5 => repeat (first | exact (qvR HO485.out).2.2 | (with_reducible refine Kd.C_alloc ?_ _) | (with_reducible refine Kd.C_drewN ?_ _) | (with_reducible refine Kd.C_drew ?_)))
  (case side6 => exact (qvR HO485.out).2.1)
  rintro e w126 ⟨rfl, hb⟩
  refine ⟨_, rfl, ?_⟩
  have n0_ := qaM (qvB zz14_4 hb)
  have n1_ := qaM (qvB zz14_5 hb)
  have n2_ := qaM (qvB zz14_7 hb)
  have n3_ := qaM (qvB zz14_9 hb)
  have n4_ := qaM (qvB zz14_10 hb)
  have n5_ := qaM (qbB (g := gb486) (o := .cells #[.bool t478, .slice Ao115 t479.length co115] 25 (0, 0)) zz14_1 hb)
  have n6_ := qaM (qbB (g := gb487) (o := .cells #[.bool t482, .slice Ao117 t483.length co117] 25 (0, 0)) zz14_3 hb)
  have n7_ := qaM (qbT zz14_0 hb)
  clear HO481
  clear HO485
  clear HO491
  clear HO495
  clear HO499
  clear BK486
  clear BK487
  clear HB
  have HO481 := n0_
  have HO485 := n1_
  have HO491 := n2_
  have HO495 := n3_
  have HO499 := n4_
  have BK486 := n5_
  have BK487 := n6_
  have HB := n7_
  clear n0_ n1_ n2_ n3_ n4_ n5_ n6_ n7_
  (try clear hb)
  (try clear hb2)
  (try clear hk)
  (try clear hi)
  refine hK.out _ _ ⟨(qbC BK486.out 0).trans rfl, (qbC BK486.out 1).trans rfl, (qbC BK487.out 0).trans rfl, (qbC BK487.out 1).trans rfl⟩ (fun hHeld => ?_)
  clear hK K
  refine norm_ (a' := ?_) ?_ ?_
  rotate_left
  ·show Act.put _ (some 27) _ = _
   simp only [Act.put, qsA, qsZ, qsS, i64_w, i32_w]
   rfl
  refine pure_ (i := 10) (N := some 17) (v := ?_) (a' := ?_) #[true, true, true, true, true, true, true, true, true, true, true, false, false, false, false] rfl rfl (any_of HT_.out zz14_11) (fun _ _ _ h => h) (Or.inl ⟨by rfl, ?_⟩) ?_ ?_
  rotate_left
  ·intro w'
   go_simp
   with_reducible rfl
  rotate_left
  ·simp only [Act.put, qsA, qsZ, qsS, i64_w, i32_w]
   rfl
  refine pure_ (i := 11) (N := some 28) (v := ?_) (a' := ?_) #[true, true, true, true, true, true, true, true, true, true, true, true, false, false, false] rfl rfl (any_of HT_.out zz14_11) (fun _ _ _ h => h) (Or.inl ⟨by rfl, ?_⟩) ?_ ?_
  rotate_left
  ·intro w'
   go_simp
   with_reducible rfl
  rotate_left
  ·simp only [Act.put, qsA, qsZ, qsS, i64_w, i32_w]
   rfl
  refine pure_ (i := 12) (N := some 29) (v := ?_) (a' := ?_) #[true, true, true, true, true, true, true, true, true, true, true, true, true, false, false] rfl rfl (any_of HT_.out zz14_11) (fun _ _ _ h => h) (Or.inl ⟨by rfl, ?_⟩) ?_ ?_
  rotate_left
  ·intro w'
   go_simp
   with_reducible rfl
  rotate_left
  ·simp only [Act.put, qsA, qsZ, qsS, i64_w, i32_w]
   rfl
  refine pure_ (i := 13) (N := some 7) (v := ?_) (a' := ?_) #[true, true, true, true, true, true, true, true, true, true, true, true, true, true, false] rfl rfl (any_of HT_.out zz14_11) (fun _ _ _ h => h) (Or.inl ⟨by rfl, ?_⟩) ?_ ?_
  rotate_left
  ·intro w'
   go_simp
   with_reducible rfl
  rotate_left
  ·simp only [Act.put, qsA, qsZ, qsS, i64_w, i32_w]
   rfl
  refine pure_ (i := 14) (N := some 8) (v := ?_) (a' := ?_) #[true, true, true, true, true, true, true, true, true, true, true, true, true, true, true] rfl rfl (any_of HT_.out zz14_11) (fun _ _ _ h => h) (Or.inl ⟨by rfl, ?_⟩) ?_ ?_
  rotate_left
  ·intro w'
   go_simp
   with_reducible rfl
  rotate_left
  ·simp only [Act.put, qsA, qsZ, qsS, i64_w, i32_w]
   rfl
  refine done_ (done_of HT_.out zz14_11) ?_
  try go_wp2_with (first | ((with_reducible refine gate_callee (f := 14) rfl ?_); refine goesL_ (some 33) rfl rfl Try.func14 zz14_11 rfl #[.int .u8 a0, .int .u8 a1] rfl zz14_2 ?_; (with_reducible refine (impl_AddUint8.calls a0 a1 t502 t503 _ A8.out).mono ?_); rintro e w127 ⟨rfl, hb⟩; refine ⟨_, rfl, ?_⟩; have n0_ := qaM (qvB zz14_4 hb); have n1_ := qaM (qvB zz14_5 hb); have n2_ := qaM (qvB zz14_7 hb); have n3_ := qaM (qvB zz14_9 hb); have n4_ := qaM (qvB zz14_10 hb); have n5_ := qaM (qbB (g := gb486) (o := .cells #[.bool t478, .slice Ao115 t479.length co115] 25 (0, 0)) zz14_1 hb); have n6_ := qaM (qbB (g := gb487) (o := .cells #[.bool t482, .slice Ao117 t483.length co117] 25 (0, 0)) zz14_3 hb); have n7_ := qaM (qbT zz14_0 hb); clear HO481; clear HO485; clear HO491; clear HO495; clear HO499; clear BK486; clear BK487; clear HB; have HO481 := n0_; have HO485 := n1_; have HO491 := n2_; have HO495 := n3_; have HO499 := n4_; have BK486 := n5_; have BK487 := n6_; have HB := n7_; clear n0_ n1_ n2_ n3_ n4_ n5_ n6_ n7_; (try clear hb); (try clear hb2); (try clear hk); (try clear hi)) | ((with_reducible refine gate_callee (f := 14) rfl ?_); refine goesL_ (some 37) rfl rfl Try.func14 zz14_11 rfl #[.int .u8 2, .int .u8 3] rfl zz14_2 ?_; (with_reducible refine (impl_AddUint8.calls 2 3 t504 t505 _ A9.out).mono ?_); rintro e w128 ⟨rfl, hb⟩; refine ⟨_, rfl, ?_⟩; have n0_ := qaM (qvB zz14_4 hb); have n1_ := qaM (qvB zz14_5 hb); have n2_ := qaM (qvB zz14_7 hb); have n3_ := qaM (qvB zz14_9 hb); have n4_ := qaM (qvB zz14_10 hb); have n5_ := qaM (qbB (g := gb486) (o := .cells #[.bool t478, .slice Ao115 t479.length co115] 25 (0, 0)) zz14_1 hb); have n6_ := qaM (qbB (g := gb487) (o := .cells #[.bool t482, .slice Ao117 t483.length co117] 25 (0, 0)) zz14_3 hb); have n7_ := qaM (qbT zz14_0 hb); clear HO481; clear HO485; clear HO491; clear HO495; clear HO499; clear BK486; clear BK487; clear HB; have HO481 := n0_; have HO485 := n1_; have HO491 := n2_; have HO495 := n3_; have HO499 := n4_; have BK486 := n5_; have BK487 := n6_; have HB := n7_; clear n0_ n1_ n2_ n3_ n4_ n5_ n6_ n7_; (try clear hb); (try clear hb2); (try clear hk); (try clear hi)))
  go_ret
  exact ⟨by first | rfl | (simp [errW_none, errW_some] <;> rfl) | (simp [*, errW_none, errW_some] <;> rfl), by repeat (first | (with_reducible first | exact HB.out | apply qwA | apply qwN | apply qwD | refine qwS ?_ GE486.out | refine qwS ?_ GE487.out) | exact HB.out)⟩

/-- THE ONE PURE STATEMENT of laws_FnAddUint8: yours. -/
def laws_FnAddUint8.Pure : Prop := ∀ (a0 : Int) (a1 : Int), (Lit.int .u8 a0).wf = true → (Lit.int .u8 a1).wf = true → ∃ k, laws_FnAddUint8.f k a0 a1 = some true
theorem laws_FnAddUint8.walk (P : laws_FnAddUint8.Pure) (a0 : Int) (a1 : Int) (w : World) (w0 : (Lit.int .u8 a0).wf = true) (w1 : (Lit.int .u8 a1).wf = true) :
  Calls Try.prog 4 #[.int .u8 a0, .int .u8 a1] w fun e w' => e = .returned (.bool true) ∧ Below w.heap.size w w' := by
 obtain ⟨k, h⟩ := P a0 a1 w0 w1
 refine (laws_FnAddUint8.calls k a0 a1 true w h).mono ?_
 rintro e w' ⟨rfl, hd⟩
 exact ⟨rfl, hd⟩

end Go.Proofs.Ytelpdndlmhcdoaa.QAll
