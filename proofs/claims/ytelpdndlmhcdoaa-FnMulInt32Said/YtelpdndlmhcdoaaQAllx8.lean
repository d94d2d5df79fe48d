/- Printed by a program of this session (print2.py) over the kit's print: the functions that a law reaches, over contracts proved by hand. Lean checks it. -/
import Derived.Test.YtelpdndlmhcdoaaQAllx0
import Derived.Test.YtelpdndlmhcdoaaQAllx6
import Derived.Test.YtelpdndlmhcdoaaQAllx7
namespace Go.Proofs.Ytelpdndlmhcdoaa.QAll
open Go.RowKit Go.Proofs.YtelpdndlmhcdoaaW.PrintWords Go.Proofs.YtelpdndlmhcdoaaW.PrintLast Go.Proofs.YtelpdndlmhcdoaaW.PrintMore
attribute [local go_sem] max2_int min2_int max_two min_two max_three min_three max_four min_four   -- for this text's walks alone
set_option linter.unusedVariables false
set_option linter.unusedSimpArgs false

theorem zz8_0 {p : Prop} (h : p := by repeat (first | (with_reducible first | exact HB.out | apply qwA | apply qwN | apply qwD | refine qwS ?_ GE394.out | refine qwS ?_ GE395.out) | exact HB.out)) : p := h
theorem zz8_1 {p : Prop} (h : p := by (with_reducible repeat (first | refine qbN ?_ _ | refine qbD ?_ | refine qbA ?_ _)); exact BK394.out) : p := h
theorem zz8_2 {p : Prop} (h : p := by (try simp only [List.map_toArray, List.map_cons, List.map_nil]); first | done | rfl | (simp only [List.length_drop, List.length_take]; rfl)) : p := h
theorem zz8_3 {p : Prop} (h : p := by (with_reducible repeat (first | refine qbN ?_ _ | refine qbD ?_ | refine qbA ?_ _)); exact BK395.out) : p := h
theorem zz8_4 {p : Prop} (h : p := by (with_reducible repeat (first | apply qvA | apply qvN | apply qvD)); exact HO389.out) : p := h
theorem zz8_5 {p : Prop} (h : p := by (with_reducible repeat (first | apply qvA | apply qvN | apply qvD)); exact HO393.out) : p := h
theorem zz8_6 {p : Prop} (h : p := by repeat (first | (with_reducible first | exact HB.out | apply qwA | apply qwN | apply qwD) | exact HB.out)) : p := h
theorem zz8_7 {p : Prop} (h : p := by (with_reducible repeat (first | apply qvA | apply qvN | apply qvD)); exact HO399.out) : p := h
theorem zz8_8 {p : Prop} (h : p := by repeat (first | (with_reducible first | exact HB.out | apply qwA | apply qwN | apply qwD | refine qwS ?_ GE394.out) | exact HB.out)) : p := h
theorem zz8_9 {p : Prop} (h : p := by (with_reducible repeat (first | apply qvA | apply qvN | apply qvD)); exact HO403.out) : p := h
theorem zz8_10 {p : Prop} (h : p := by (with_reducible repeat (first | apply qvA | apply qvN | apply qvD)); exact HO407.out) : p := h
theorem zz8_11 {p : Prop} (h : p := by kernel_rfl) : p := h
theorem zz8_12 {p : Prop} (h : p := by decide) : p := h
/-! ### laws_FnMulInt32: function 6 -/
def laws_FnMulInt32.f (k : Nat) (a0 : Int) (a1 : Int) : Option (Bool) := (laws_bounds.f k 32 true).bind fun bt386 => ((spec_WideInt.f k (wrap64 (a0))).bind fun bt396 => ((spec_WideInt.f k (wrap64 (a1))).bind fun bt400 => ((spec_WideMul.f k bt396.1 bt396.2 bt400.1 bt400.2).bind fun bt404 => ((laws_fitted.f k bt404.1 bt404.2 bt386.1 bt386.2.1 bt386.2.2.1 bt386.2.2.2).bind fun bt408 => ((impl_MulInt32.f a0 a1).bind fun bt410 => ((impl_MulInt32.f 2 3).bind fun bt412 => (if (bt410.2 == bt408.2) = true then (if bt408.2 = true then (if bt410.1 = (wrap32 (bt408.1)) then (if bt412.2 = true then (some (bt412.1 == 6)) else (some false)) else (some false)) else (if bt412.2 = true then (some (bt412.1 == 6)) else (some false))) else (some false))))))))
theorem laws_FnMulInt32.mono : ∀ a0 a1 k, LeO (laws_FnMulInt32.f k a0 a1) (laws_FnMulInt32.f (k + 1) a0 a1) := by
 intro a0 a1 k
 unfold laws_FnMulInt32.f
 repeat' first
   | (with_reducible exact laws_bounds.mono _ _ _)
   | (with_reducible exact laws_fitted.mono _ _ _ _ _ _ _)
   | (with_reducible exact spec_WideInt.mono _ _)
   | (with_reducible exact spec_WideMul.mono _ _ _ _ _)
   | (with_reducible exact LeO.refl _)
   | (with_reducible exact LeO.none _)
   | (with_reducible refine LeO.ite ?_ ?_)
   | (with_reducible refine LeO.bind ?_ (fun _ => ?_))
   | exact laws_bounds.mono _ _ _
   | exact laws_fitted.mono _ _ _ _ _ _ _
   | exact spec_WideInt.mono _ _
   | exact spec_WideMul.mono _ _ _ _ _
   | exact LeO.none _
   | refine LeO.ite ?_ ?_
   | refine LeO.bind ?_ (fun _ => ?_)
def laws_FnMulInt32.T2 : Bool × List (List Nat × List Nat) := (true, [([], []), ([0], [0]), ([1], [1]), ([], []), ([3], [3]), ([4, 2], [4]), ([2, 5, 5], [2, 5]), ([], []), ([], []), ([6, 7, 8, 6], [6, 7, 8]), ([9], [9]), ([10], [10]), ([10], [10]), ([11, 9, 0, 1, 2, 3, 4, 5, 6, 7, 8, 9, 10, 11], [11]), ([12, 13, 0, 1, 2, 3, 4, 5, 6, 7, 8, 9, 10, 11, 12, 13], [12])])
def laws_FnMulInt32.B2 : List Nat := [0, 1, 3, 0, 8, 31, 63, 0, 0, 511, 1023, 2047, 2047, 4095, 16383]
theorem laws_FnMulInt32.tab2 : rtab .any (opsOf Try.f6 2) = laws_FnMulInt32.T2 := by kernel_rfl
theorem laws_FnMulInt32.bits2 : waitsOk laws_FnMulInt32.T2.2 laws_FnMulInt32.B2 = true := by kernel_rfl
set_option maxHeartbeats 8000000 in
set_option maxRecDepth 100000 in
theorem laws_FnMulInt32.calls (k : Nat) (a0 : Int) (a1 : Int) (r : Bool) (w : World) (h : laws_FnMulInt32.f k a0 a1 = some r) :
  Calls Try.prog 6 #[.int .i32 a0, .int .i32 a1] w fun e w' => e = .returned (.bool r) ∧ Below w.heap.size w w' := by
 have hu25 := Try.underlying25
 have HB := qaM (Below.refl w.heap.size w)
 have H : ((laws_bounds.f k 32 true).bind fun bt386 => ((spec_WideInt.f k (wrap64 (a0))).bind fun bt396 => ((spec_WideInt.f k (wrap64 (a1))).bind fun bt400 => ((spec_WideMul.f k bt396.1 bt396.2 bt400.1 bt400.2).bind fun bt404 => ((laws_fitted.f k bt404.1 bt404.2 bt386.1 bt386.2.1 bt386.2.2.1 bt386.2.2.2).bind fun bt408 => ((impl_MulInt32.f a0 a1).bind fun bt410 => ((impl_MulInt32.f 2 3).bind fun bt412 => (if (bt410.2 == bt408.2) = true then (if bt408.2 = true then (if bt410.1 = (wrap32 (bt408.1)) then (if bt412.2 = true then (some (bt412.1 == 6)) else (some false)) else (some false)) else (if bt412.2 = true then (some (bt412.1 == 6)) else (some false))) else (some false))))))))) = some r := h
 clear h
 replace H := Option.bind_eq_some_iff.mp H
 obtain ⟨⟨t386, t387, t390, t391⟩, A30, H⟩ := H
 replace H : ((spec_WideInt.f k (wrap64 (a0))).bind fun bt396 => ((spec_WideInt.f k (wrap64 (a1))).bind fun bt400 => ((spec_WideMul.f k bt396.1 bt396.2 bt400.1 bt400.2).bind fun bt404 => ((laws_fitted.f k bt404.1 bt404.2 t386 t387 t390 t391).bind fun bt408 => ((impl_MulInt32.f a0 a1).bind fun bt410 => ((impl_MulInt32.f 2 3).bind fun bt412 => (if (bt410.2 == bt408.2) = true then (if bt408.2 = true then (if bt410.1 = (wrap32 (bt408.1)) then (if bt412.2 = true then (some (bt412.1 == 6)) else (some false)) else (some false)) else (if bt412.2 = true then (some (bt412.1 == 6)) else (some false))) else (some false)))))))) = some r := H
 have A3 := qaM A30
 clear A30
 replace H := Option.bind_eq_some_iff.mp H
 obtain ⟨⟨t396, t397⟩, A40, H⟩ := H
 replace H : ((spec_WideInt.f k (wrap64 (a1))).bind fun bt400 => ((spec_WideMul.f k t396 t397 bt400.1 bt400.2).bind fun bt404 => ((laws_fitted.f k bt404.1 bt404.2 t386 t387 t390 t391).bind fun bt408 => ((impl_MulInt32.f a0 a1).bind fun bt410 => ((impl_MulInt32.f 2 3).bind fun bt412 => (if (bt410.2 == bt408.2) = true then (if bt408.2 = true then (if bt410.1 = (wrap32 (bt408.1)) then (if bt412.2 = true then (some (bt412.1 == 6)) else (some false)) else (some false)) else (if bt412.2 = true then (some (bt412.1 == 6)) else (some false))) else (some false))))))) = some r := H
 have A4 := qaM A40
 clear A40
 replace H := Option.bind_eq_some_iff.mp H
 obtain ⟨⟨t400, t401⟩, A50, H⟩ := H
 replace H : ((spec_WideMul.f k t396 t397 t400 t401).bind fun bt404 => ((laws_fitted.f k bt404.1 bt404.2 t386 t387 t390 t391).bind fun bt408 => ((impl_MulInt32.f a0 a1).bind fun bt410 => ((impl_MulInt32.f 2 3).bind fun bt412 => (if (bt410.2 == bt408.2) = true then (if bt408.2 = true then (if bt410.1 = (wrap32 (bt408.1)) then (if bt412.2 = true then (some (bt412.1 == 6)) else (some false)) else (some false)) else (if bt412.2 = true then (some (bt412.1 == 6)) else (some false))) else (some false)))))) = some r := H
 have A5 := qaM A50
 clear A50
 replace H := Option.bind_eq_some_iff.mp H
 obtain ⟨⟨t404, t405⟩, A60, H⟩ := H
 replace H : ((laws_fitted.f k t404 t405 t386 t387 t390 t391).bind fun bt408 => ((impl_MulInt32.f a0 a1).bind fun bt410 => ((impl_MulInt32.f 2 3).bind fun bt412 => (if (bt410.2 == bt408.2) = true then (if bt408.2 = true then (if bt410.1 = (wrap32 (bt408.1)) then (if bt412.2 = true then (some (bt412.1 == 6)) else (some false)) else (some false)) else (if bt412.2 = true then (some (bt412.1 == 6)) else (some false))) else (some false))))) = some r := H
 have A6 := qaM A60
 clear A60
 replace H := Option.bind_eq_some_iff.mp H
 obtain ⟨⟨t408, t409⟩, A70, H⟩ := H
 replace H : ((impl_MulInt32.f a0 a1).bind fun bt410 => ((impl_MulInt32.f 2 3).bind fun bt412 => (if (bt410.2 == t409) = true then (if t409 = true then (if bt410.1 = (wrap32 (t408)) then (if bt412.2 = true then (some (bt412.1 == 6)) else (some false)) else (some false)) else (if bt412.2 = true then (some (bt412.1 == 6)) else (some false))) else (some false)))) = some r := H
 have A7 := qaM A70
 clear A70
 replace H := Option.bind_eq_some_iff.mp H
 obtain ⟨⟨t410, t411⟩, A80, H⟩ := H
 replace H : ((impl_MulInt32.f 2 3).bind fun bt412 => (if (t411 == t409) = true then (if t409 = true then (if t410 = (wrap32 (t408)) then (if bt412.2 = true then (some (bt412.1 == 6)) else (some false)) else (some false)) else (if bt412.2 = true then (some (bt412.1 == 6)) else (some false))) else (some false))) = some r := H
 have A8 := qaM A80
 clear A80
 replace H := Option.bind_eq_some_iff.mp H
 obtain ⟨⟨t412, t413⟩, A90, H⟩ := H
 replace H : (if (t411 == t409) = true then (if t409 = true then (if t410 = (wrap32 (t408)) then (if t413 = true then (some (t412 == 6)) else (some false)) else (some false)) else (if t413 = true then (some (t412 == 6)) else (some false))) else (some false)) = some r := H
 have A9 := qaM A90
 clear A90
 by_cases c10 : (t411 == t409) = true
 ·rw [if_pos c10] at H
  have c10b0 : (t411 == t409) = true := c10
  (try (have c10b1 : decide (t411 = t409) = true := by simpa using c10))
  (try (have c10b2 : (t411 == t409) = true := by simpa using c10))
  clear c10
  by_cases c11 : t409 = true
  ·subst c11
   have H1 : (if t410 = (wrap32 (t408)) then (if t413 = true then (some (t412 == 6)) else (some false)) else (some false)) = some r := by rw [if_pos rfl] at H; exact H
   clear H
   have H := H1
   clear H1
   by_cases c12 : t410 = (wrap32 (t408))
   ·rw [if_pos c12] at H
    have c12b0 : (t410 == (wrap32 (t408))) = true := beq_iff_eq.mpr c12
    have c12b1 : (t410 != (wrap32 (t408))) = false := bne_eq_false_iff_eq.mpr c12
    clear c12
    by_cases c13 : t413 = true
    ·subst c13
     have H1 : (some (t412 == 6)) = some r := by rw [if_pos rfl] at H; exact H
     clear H
     have H := H1
     clear H1
     obtain rfl := Option.some.inj H
     go_enter Try.func6, Try.ntmps6
     try go_wp2_with (first | ((with_reducible refine gate_callee (f := 9) rfl ?_); refine goesL_ (some 14) rfl rfl Try.func9 zz8_11 rfl #[.int .i64 32, .bool true] rfl zz8_2 ?_; (with_reducible refine (laws_bounds.calls k 32 true t386 t387 t390 t391 _ A3.out).mono ?_); rintro e w14 ⟨v388, v392, rfl, ho0, ho1, hb⟩; refine ⟨_, rfl, ?_⟩; have n0_ := qaM (qvL (qvM (ok' := fun k_ => True) ho0 (fun k_ hk_ => trivial)) (qbS zz8_6)); have n1_ := qaM (qvL (qvM (ok' := fun k_ => True) ho1 (fun k_ hk_ => trivial)) (qbS zz8_6)); have n2_ := qaM (qbT zz8_6 hb); clear HB; have HO389 := n0_; have HO393 := n1_; have HB := n2_; clear n0_ n1_ n2_; (try clear hb); (try clear hb2); (try clear hk); (try clear hi); (try clear ho0); (try clear ho1)) | ((with_reducible refine gate_dst (N := 5) rfl ?_); refine box_event ?hg (N := 5) ?hd (cs := #[.bool false, .slice none 0 0]) (t := 25) ?hr ?_; (case hd => rfl); (case hg => rfl); (case hr => first | (go_simp; done) | (go_simp; rfl)); intro gb394 hg w15 hbox hb; have n0_ := qaM (qvB (qvE zz8_4 gb394 (Nat.le_of_eq hg.symm)) hb); have n1_ := qaM (qvB (qvE zz8_5 gb394 (Nat.le_of_eq hg.symm)) hb); have n2_ := qaM (qbT zz8_6 hb); have n3_ := qaM (hbox); have n4_ := qaM ((by rw [hg]; exact (qbS zz8_6) : w.heap.size ≤ gb394)); have n5_ := qaM ((by rw [hg]; exact (qbS zz8_6) : w.heap.size ≤ gb394)); clear HO389; clear HO393; clear HB; have HO389 := n0_; have HO393 := n1_; have HB := n2_; have BK394 := n3_; have GW394 := n4_; have GE394 := n5_; clear n0_ n1_ n2_ n3_ n4_ n5_; clear hb hbox hg) | ((with_reducible refine gate_dst (N := 6) rfl ?_); refine box_event ?hg (N := 6) ?hd (cs := #[.bool false, .slice none 0 0]) (t := 25) ?hr ?_; (case hd => rfl); (case hg => rfl); (case hr => first | (go_simp; done) | (go_simp; rfl)); intro gb395 hg w16 hbox hb; have n0_ := qaM (qvB (qvE zz8_4 gb395 (Nat.le_of_eq hg.symm)) hb); have n1_ := qaM (qvB (qvE zz8_5 gb395 (Nat.le_of_eq hg.symm)) hb); have n2_ := qaM (qbB (g := gb394) (o := .cells #[.bool false, .slice none 0 0] 25 (0, 0)) zz8_1 hb); have n3_ := qaM (qbT zz8_8 hb); have n4_ := qaM (hbox); have n5_ := qaM ((by rw [hg]; exact (qbS zz8_8) : w.heap.size ≤ gb395)); have n6_ := qaM ((by rw [hg]; exact (qbS zz8_8) : w.heap.size ≤ gb395)); have n7_ := qaM ((by rw [hg]; exact qnL (qbL (g := gb394) (o := .cells #[.bool false, .slice none 0 0] 25 (0, 0)) zz8_1) : gb394 ≠ gb395)); have n8_ := qaM ((by rw [hg]; exact qnG (qbL (g := gb394) (o := .cells #[.bool false, .slice none 0 0] 25 (0, 0)) zz8_1) : gb395 ≠ gb394)); clear HO389; clear HO393; clear BK394; clear HB; have HO389 := n0_; have HO393 := n1_; have BK394 := n2_; have HB := n3_; have BK395 := n4_; have GW395 := n5_; have GE395 := n6_; have NB394_395 := n7_; have NB395_394 := n8_; clear n0_ n1_ n2_ n3_ n4_ n5_ n6_ n7_ n8_; clear hb hbox hg; have hnb17 := NB394_395.out; have hnc17 := NB395_394.out; have hcz18_0 : w16.cell? ⟨gb394, 0, none⟩ = some (.bool false) := (qbC BK394.out 0).trans rfl; have hcz18_1 : w16.cell? ⟨gb394, 1, none⟩ = some (.slice none 0 0) := (qbC BK394.out 1).trans rfl; have hfz18_0 := blk_frozen BK394.out 0; have hfz18_1 := blk_frozen BK394.out 1; obtain ⟨Ao19, co19, eo19⟩ := Kd.V_slice HO389.out; subst eo19; have hcz20_0 : w16.cell? ⟨gb395, 0, none⟩ = some (.bool false) := (qbC BK395.out 0).trans rfl; have hcz20_1 : w16.cell? ⟨gb395, 1, none⟩ = some (.slice none 0 0) := (qbC BK395.out 1).trans rfl; have hfz20_0 := blk_frozen BK395.out 0; have hfz20_1 := blk_frozen BK395.out 1; obtain ⟨Ao21, co21, eo21⟩ := Kd.V_slice HO393.out; subst eo21))
     have n0_ : Aside0 (Kd.V (Kd.int .u32) 22 ((((w16.setCell ⟨gb394, 0, none⟩ (.bool t386)).setCell ⟨gb394, 1, none⟩ (.slice Ao19 t387.length co19)).setCell ⟨gb395, 0, none⟩ (.bool t390)).setCell ⟨gb395, 1, none⟩ (.slice Ao21 t391.length co21)) w.heap.size (fun k_ => k_ ≠ gb394 ∧ k_ ≠ gb395) (.slice Ao19 t387.length co19) t387) := ⟨by (with_reducible repeat (first | apply qvA | apply qvN | apply qvD)); exact qvM (qvF (p := ⟨gb395, 1, none⟩) (qvF (p := ⟨gb395, 0, none⟩) (qvF (p := ⟨gb394, 1, none⟩) (qvF (p := ⟨gb394, 0, none⟩) (qvM (qvM HO389.out (fun k_ hk => (⟨hk, hk.1.2⟩ : _ ∧ k_ ≠ gb394))) (fun k_ hk => (⟨hk, hk.1.2⟩ : _ ∧ k_ ≠ gb395))) (fun _ hk => hk.1.2) (.bool t386)) (fun _ hk => hk.1.2) (.slice Ao19 t387.length co19)) (fun _ hk => hk.2) (.bool t390)) (fun _ hk => hk.2) (.slice Ao21 t391.length co21)) (fun _ hk => ⟨hk.1.1.1.2, hk.1.1.2⟩)⟩
     have n1_ : Aside0 (Kd.V (Kd.int .u32) 22 ((((w16.setCell ⟨gb394, 0, none⟩ (.bool t386)).setCell ⟨gb394, 1, none⟩ (.slice Ao19 t387.length co19)).setCell ⟨gb395, 0, none⟩ (.bool t390)).setCell ⟨gb395, 1, none⟩ (.slice Ao21 t391.length co21)) w.heap.size (fun k_ => k_ ≠ gb394 ∧ k_ ≠ gb395) (.slice Ao21 t391.length co21) t391) := ⟨by (with_reducible repeat (first | apply qvA | apply qvN | apply qvD)); exact qvM (qvF (p := ⟨gb395, 1, none⟩) (qvF (p := ⟨gb395, 0, none⟩) (qvF (p := ⟨gb394, 1, none⟩) (qvF (p := ⟨gb394, 0, none⟩) (qvM (qvM HO393.out (fun k_ hk => (⟨hk, hk.1.2⟩ : _ ∧ k_ ≠ gb394))) (fun k_ hk => (⟨hk, hk.1.2⟩ : _ ∧ k_ ≠ gb395))) (fun _ hk => hk.1.2) (.bool t386)) (fun _ hk => hk.1.2) (.slice Ao19 t387.length co19)) (fun _ hk => hk.2) (.bool t390)) (fun _ hk => hk.2) (.slice Ao21 t391.length co21)) (fun _ hk => ⟨hk.1.1.1.2, hk.1.1.2⟩)⟩
     have n2_ : Aside0 (((((w16.setCell ⟨gb394, 0, none⟩ (.bool t386)).setCell ⟨gb394, 1, none⟩ (.slice Ao19 t387.length co19)).setCell ⟨gb395, 0, none⟩ (.bool t390)).setCell ⟨gb395, 1, none⟩ (.slice Ao21 t391.length co21)).heap[gb394]? = some (.cells #[.bool t386, .slice Ao19 t387.length co19] 25 (0, 0))) := ⟨by (with_reducible repeat (first | refine qbN ?_ _ | refine qbD ?_ | refine qbA ?_ _)); refine qbF ?_ NB394_395.out _; (with_reducible repeat (first | refine qbN ?_ _ | refine qbD ?_ | refine qbA ?_ _)); refine qbF ?_ NB394_395.out _; (with_reducible repeat (first | refine qbN ?_ _ | refine qbD ?_ | refine qbA ?_ _)); refine qbP (cs := #[.bool t386, .slice none 0 0]) ?_ 1 _ rfl; (with_reducible repeat (first | refine qbN ?_ _ | refine qbD ?_ | refine qbA ?_ _)); refine qbP (cs := #[.bool false, .slice none 0 0]) ?_ 0 _ rfl; (with_reducible repeat (first | refine qbN ?_ _ | refine qbD ?_ | refine qbA ?_ _)); exact BK394.out⟩
     have n3_ : Aside0 (((((w16.setCell ⟨gb394, 0, none⟩ (.bool t386)).setCell ⟨gb394, 1, none⟩ (.slice Ao19 t387.length co19)).setCell ⟨gb395, 0, none⟩ (.bool t390)).setCell ⟨gb395, 1, none⟩ (.slice Ao21 t391.length co21)).heap[gb395]? = some (.cells #[.bool t390, .slice Ao21 t391.length co21] 25 (0, 0))) := ⟨by (with_reducible repeat (first | refine qbN ?_ _ | refine qbD ?_ | refine qbA ?_ _)); refine qbP (cs := #[.bool t390, .slice none 0 0]) ?_ 1 _ rfl; (with_reducible repeat (first | refine qbN ?_ _ | refine qbD ?_ | refine qbA ?_ _)); refine qbP (cs := #[.bool false, .slice none 0 0]) ?_ 0 _ rfl; (with_reducible repeat (first | refine qbN ?_ _ | refine qbD ?_ | refine qbA ?_ _)); refine qbF ?_ NB395_394.out _; (with_reducible repeat (first | refine qbN ?_ _ | refine qbD ?_ | refine qbA ?_ _)); refine qbF ?_ NB395_394.out _; (with_reducible repeat (first | refine qbN ?_ _ | refine qbD ?_ | refine qbA ?_ _)); exact BK395.out⟩
     have n4_ : Aside0 (Below w.heap.size w ((((w16.setCell ⟨gb394, 0, none⟩ (.bool t386)).setCell ⟨gb394, 1, none⟩ (.slice Ao19 t387.length co19)).setCell ⟨gb395, 0, none⟩ (.bool t390)).setCell ⟨gb395, 1, none⟩ (.slice Ao21 t391.length co21))) := ⟨by repeat (first | (with_reducible first | exact HB.out | apply qwA | apply qwN | apply qwD | refine qwS ?_ GE394.out | refine qwS ?_ GE395.out) | exact HB.out)⟩
     (try clear HO389)
     (try clear HO393)
     (try clear BK394)
     (try clear BK395)
     (try clear HB)
     generalize ((((w16.setCell ⟨gb394, 0, none⟩ (.bool t386)).setCell ⟨gb394, 1, none⟩ (.slice Ao19 t387.length co19)).setCell ⟨gb395, 0, none⟩ (.bool t390)).setCell ⟨gb395, 1, none⟩ (.slice Ao21 t391.length co21)) = w22 at n0_ n1_ n2_ n3_ n4_ ⊢
     have HO389 := n0_
     have HO393 := n1_
     have BK394 := n2_
     have BK395 := n3_
     have HB := n4_
     clear n0_ n1_ n2_ n3_ n4_
     have n0_ := qaM (qvD HO389.out)
     have n1_ := qaM (qvD HO393.out)
     have n2_ := qaM (qbD BK394.out)
     have n3_ := qaM (qbD BK395.out)
     have n4_ := qaM (qwD HB.out)
     clear HO389
     clear HO393
     clear BK394
     clear BK395
     clear HB
     have HO389 := n0_
     have HO393 := n1_
     have BK394 := n2_
     have BK395 := n3_
     have HB := n4_
     clear n0_ n1_ n2_ n3_ n4_
     refine start_ (n := 15) (S := fun w' => w'.cell? ⟨gb394, 0, none⟩ = some (.bool t386) ∧ w'.cell? ⟨gb394, 1, none⟩ = some (.slice Ao19 t387.length co19) ∧ w'.cell? ⟨gb395, 0, none⟩ = some (.bool t390) ∧ w'.cell? ⟨gb395, 1, none⟩ = some (.slice Ao21 t391.length co21)) (ds := []) #[false, false, false, false, false, false, false, false, false, false, false, false, false, false, false] zz8_11 rfl rfl ⟨(qbC BK394.out 0).trans rfl, (qbC BK394.out 1).trans rfl, (qbC BK395.out 0).trans rfl, (qbC BK395.out 1).trans rfl⟩ (fun hHeld => ?_); refine with_tabW laws_FnMulInt32.tab2 laws_FnMulInt32.bits2 (fun HT_ HW_ => ?_)
     generalize w22.drew = w23 at HO389 HO393 BK394 BK395 HB hHeld ⊢
     refine pure_ (i := 0) (N := some 18) (v := ?_) (a' := ?_) #[true, false, false, false, false, false, false, false, false, false, false, false, false, false, false] rfl rfl (any_of HT_.out zz8_11) (fun _ _ _ h => h) (Or.inl ⟨by rfl, ?_⟩) ?_ ?_
     rotate_left
     ·intro w'
      go_simp
      with_reducible rfl
     rotate_left
     ·simp only [Act.put, qsA, qsZ, qsS, i64_w, i32_w]
      rfl
     refine pure_ (i := 1) (N := some 19) (v := ?_) (a' := ?_) #[true, true, false, false, false, false, false, false, false, false, false, false, false, false, false] rfl rfl (any_of HT_.out zz8_11) (fun _ _ _ h => h) (Or.inl ⟨by rfl, ?_⟩) ?_ ?_
     rotate_left
     ·intro w'
      go_simp
      with_reducible rfl
     rotate_left
     ·simp only [Act.put, qsA, qsZ, qsS, i64_w, i32_w]
      rfl
     refine pure_ (i := 3) (N := some 21) (v := ?_) (a' := ?_) #[true, true, false, true, false, false, false, false, false, false, false, false, false, false, false] rfl rfl (any_of HT_.out zz8_11) (fun _ _ _ h => h) (Or.inl ⟨by rfl, ?_⟩) ?_ ?_
     rotate_left
     ·intro w'
      go_simp
      with_reducible rfl
     rotate_left
     ·simp only [Act.put, qsA, qsZ, qsS, i64_w, i32_w]
      rfl
     refine pure_ (i := 4) (N := some 22) (v := ?_) (a' := ?_) #[true, true, false, true, true, false, false, false, false, false, false, false, false, false, false] rfl rfl (any_of HT_.out zz8_11) (fun _ _ _ h => h) (Or.inl ⟨by rfl, ?_⟩) ?_ ?_
     rotate_left
     ·intro w'
      go_simp
      with_reducible rfl
     rotate_left
     ·simp only [Act.put, qsA, qsZ, qsS, i64_w, i32_w]
      rfl
     refine take_ (i := 7) (N := some 25) (v := ?_) (a' := ?_) #[true, true, false, true, true, false, false, true, false, false, false, false, false, false, false] rfl rfl (take_ofW HT_.out HW_.out zz8_11) (fun _ _ _ h => h) (Or.inl ⟨by rfl, ?_⟩) hHeld ?_ ?_
     rotate_left
     ·rintro w' ⟨s0, s1, s2, s3⟩
      go_simp
      with_reducible rfl
     rotate_left
     ·simp only [Act.put, qsA, qsZ, qsS, i64_w, i32_w]
      rfl
     refine take_ (i := 8) (N := some 26) (v := ?_) (a' := ?_) #[true, true, false, true, true, false, false, true, true, false, false, false, false, false, false] rfl rfl (take_ofW HT_.out HW_.out zz8_11) (fun _ _ _ h => h) (Or.inl ⟨by rfl, ?_⟩) hHeld ?_ ?_
     rotate_left
     ·rintro w' ⟨s0, s1, s2, s3⟩
      go_simp
      with_reducible rfl
     rotate_left
     ·simp only [Act.put, qsA, qsZ, qsS, i64_w, i32_w]
      rfl
     refine one_ (i := 2) (N := some 20) #[true, true, true, true, true, false, false, true, true, false, false, false, false, false, false] rfl rfl (one_of HT_.out zz8_11) zz8_12 (fun K hK => ?_)
     refine goes_ Try.func17 zz8_11 rfl #[.int .i64 (wrap64 (a0))] (by rfl) rfl rfl zz8_2 ?_
     with_reducible refine (spec_WideInt.calls k (wrap64 (a0)) t396 t397 _ A4.out).mono ?_
     rintro e w24 ⟨v398, rfl, ho0, hb⟩
     refine ⟨_, rfl, ?_⟩
     have n0_ := qaM (qvB zz8_4 hb)
     have n1_ := qaM (qvB zz8_5 hb)
     have n2_ := qaM (qvL (qvM (ok' := fun k_ => k_ ≠ gb394 ∧ k_ ≠ gb395) ho0 (fun k_ hk_ => ⟨(qfB (g := gb394) (o := .cells #[.bool t386, .slice Ao19 t387.length co19] 25 (0, 0)) zz8_1 k_ hk_), (qfB (g := gb395) (o := .cells #[.bool t390, .slice Ao21 t391.length co21] 25 (0, 0)) zz8_3 k_ hk_)⟩)) (qbS zz8_0))
     have n3_ := qaM (qbB (g := gb394) (o := .cells #[.bool t386, .slice Ao19 t387.length co19] 25 (0, 0)) zz8_1 hb)
     have n4_ := qaM (qbB (g := gb395) (o := .cells #[.bool t390, .slice Ao21 t391.length co21] 25 (0, 0)) zz8_3 hb)
     have n5_ := qaM (qbT zz8_0 hb)
     clear HO389
     clear HO393
     clear BK394
     clear BK395
     clear HB
     have HO389 := n0_
     have HO393 := n1_
     have HO399 := n2_
     have BK394 := n3_
     have BK395 := n4_
     have HB := n5_
     clear n0_ n1_ n2_ n3_ n4_ n5_
     (try clear hb)
     (try clear hb2)
     (try clear hk)
     (try clear hi)
     (try clear ho0)
     refine hK.out _ _ ⟨(qbC BK394.out 0).trans rfl, (qbC BK394.out 1).trans rfl, (qbC BK395.out 0).trans rfl, (qbC BK395.out 1).trans rfl⟩ (fun hHeld => ?_)
     clear hK K
     refine norm_ (a' := ?_) ?_ ?_
     rotate_left
     ·show Act.put _ (some 20) _ = _
      simp only [Act.put, qsA, qsZ, qsS, i64_w, i32_w]
      rfl
     refine one_ (i := 5) (N := some 23) #[true, true, true, true, true, true, false, true, true, false, false, false, false, false, false] rfl rfl (one_of HT_.out zz8_11) zz8_12 (fun K hK => ?_)
     refine goes_ Try.func17 zz8_11 rfl #[.int .i64 (wrap64 (a1))] (by rfl) rfl rfl zz8_2 ?_
     with_reducible refine (spec_WideInt.calls k (wrap64 (a1)) t400 t401 _ A5.out).mono ?_
     rintro e w25 ⟨v402, rfl, ho0, hb⟩
     refine ⟨_, rfl, ?_⟩
     have n0_ := qaM (qvB zz8_4 hb)
     have n1_ := qaM (qvB zz8_5 hb)
     have n2_ := qaM (qvB zz8_7 hb)
     have n3_ := qaM (qvL (qvM (ok' := fun k_ => k_ ≠ gb394 ∧ k_ ≠ gb395) ho0 (fun k_ hk_ => ⟨(qfB (g := gb394) (o := .cells #[.bool t386, .slice Ao19 t387.length co19] 25 (0, 0)) zz8_1 k_ hk_), (qfB (g := gb395) (o := .cells #[.bool t390, .slice Ao21 t391.length co21] 25 (0, 0)) zz8_3 k_ hk_)⟩)) (qbS zz8_0))
     have n4_ := qaM (qbB (g := gb394) (o := .cells #[.bool t386, .slice Ao19 t387.length co19] 25 (0, 0)) zz8_1 hb)
     have n5_ := qaM (qbB (g := gb395) (o := .cells #[.bool t390, .slice Ao21 t391.length co21] 25 (0, 0)) zz8_3 hb)
     have n6_ := qaM (qbT zz8_0 hb)
     clear HO389
     clear HO393
     clear HO399
     clear BK394
     clear BK395
     clear HB
     have HO389 := n0_
     have HO393 := n1_
     have HO399 := n2_
     have HO403 := n3_
     have BK394 := n4_
     have BK395 := n5_
     have HB := n6_
     clear n0_ n1_ n2_ n3_ n4_ n5_ n6_
     (try clear hb)
     (try clear hb2)
     (try clear hk)
     (try clear hi)
     (try clear ho0)
     obtain ⟨Ao26, co26, eo26⟩ := Kd.V_slice HO399.out
     (first | subst eo26 | (injection eo26 with f1_ f2_ f3_; have f4_ := f1_.symm; have f5_ := f3_.symm; clear f1_ f2_ f3_; subst f4_; subst f5_))
     obtain ⟨Ao27, co27, eo27⟩ := Kd.V_slice HO403.out
     (first | subst eo27 | (injection eo27 with f1_ f2_ f3_; have f4_ := f1_.symm; have f5_ := f3_.symm; clear f1_ f2_ f3_; subst f4_; subst f5_))
     refine hK.out _ _ ⟨(qbC BK394.out 0).trans rfl, (qbC BK394.out 1).trans rfl, (qbC BK395.out 0).trans rfl, (qbC BK395.out 1).trans rfl⟩ (fun hHeld => ?_)
     clear hK K
     refine norm_ (a' := ?_) ?_ ?_
     rotate_left
     ·show Act.put _ (some 23) _ = _
      simp only [Act.put, qsA, qsZ, qsS, i64_w, i32_w]
      rfl
     refine one_ (i := 6) (N := some 24) #[true, true, true, true, true, true, true, true, true, false, false, false, false, false, false] rfl rfl (one_of HT_.out zz8_11) zz8_12 (fun K hK => ?_)
     refine goes_ Try.func16 zz8_11 rfl #[.agg #[.bool t396, .slice Ao26 t397.length co26], .agg #[.bool t400, .slice Ao27 t401.length co27]] (by rfl) rfl rfl zz8_2 ?_
     with_reducible refine (spec_WideMul.calls k t396 _ _ t397 t400 _ _ t401 t404 t405 _ ?side1 ?side2 ?side3 ?side4 A6.out).mono ?_
     (case side1 => repeat (first | exact (qvR HO399.out).2.2 | (with_reducible refine Kd.C_alloc ?_ _) | (with_reducible refine Kd.C_drewN ?_ _) | (with_reducible refine Kd.C_drew ?_)))
     (case side2 => exact (qvR HO399.out).2.1)
     (case side3 => repeat (first | exact (qvR HO403.out).2.2 | (with_reducible refine Kd.C_alloc ?_ _) | (with_reducible refine Kd.C_drewN ?_ _) | (with_reducible refine Kd.C_drew ?_)))
     (case side4 => exact (qvR HO403.out).2.1)
     rintro e w28 ⟨v406, rfl, ho0, hb⟩
     refine ⟨_, rfl, ?_⟩
     have n0_ := qaM (qvB zz8_4 hb)
     have n1_ := qaM (qvB zz8_5 hb)
     have n2_ := qaM (qvB zz8_7 hb)
     have n3_ := qaM (qvB zz8_9 hb)
     have n4_ := qaM (qvL (qvM (ok' := fun k_ => k_ ≠ gb394 ∧ k_ ≠ gb395) ho0 (fun k_ hk_ => ⟨(qfB (g := gb394) (o := .cells #[.bool t386, .slice Ao19 t387.length co19] 25 (0, 0)) zz8_1 k_ hk_), (qfB (g := gb395) (o := .cells #[.bool t390, .slice Ao21 t391.length co21] 25 (0, 0)) zz8_3 k_ hk_)⟩)) (qbS zz8_0))
     have n5_ := qaM (qbB (g := gb394) (o := .cells #[.bool t386, .slice Ao19 t387.length co19] 25 (0, 0)) zz8_1 hb)
     have n6_ := qaM (qbB (g := gb395) (o := .cells #[.bool t390, .slice Ao21 t391.length co21] 25 (0, 0)) zz8_3 hb)
     have n7_ := qaM (qbT zz8_0 hb)
     clear HO389
     clear HO393
     clear HO399
     clear HO403
     clear BK394
     clear BK395
     clear HB
     have HO389 := n0_
     have HO393 := n1_
     have HO399 := n2_
     have HO403 := n3_
     have HO407 := n4_
     have BK394 := n5_
     have BK395 := n6_
     have HB := n7_
     clear n0_ n1_ n2_ n3_ n4_ n5_ n6_ n7_
     (try clear hb)
     (try clear hb2)
     (try clear hk)
     (try clear hi)
     (try clear ho0)
     obtain ⟨Ao29, co29, eo29⟩ := Kd.V_slice HO407.out
     (first | subst eo29 | (injection eo29 with f1_ f2_ f3_; have f4_ := f1_.symm; have f5_ := f3_.symm; clear f1_ f2_ f3_; subst f4_; subst f5_))
     refine hK.out _ _ ⟨(qbC BK394.out 0).trans rfl, (qbC BK394.out 1).trans rfl, (qbC BK395.out 0).trans rfl, (qbC BK395.out 1).trans rfl⟩ (fun hHeld => ?_)
     clear hK K
     refine norm_ (a' := ?_) ?_ ?_
     rotate_left
     ·show Act.put _ (some 24) _ = _
      simp only [Act.put, qsA, qsZ, qsS, i64_w, i32_w]
      rfl
     refine one_ (i := 9) (N := some 27) #[true, true, true, true, true, true, true, true, true, true, false, false, false, false, false] rfl rfl (one_of HT_.out zz8_11) zz8_12 (fun K hK => ?_)
     refine goes_ Try.func10 zz8_11 rfl #[.agg #[.bool t404, .slice Ao29 t405.length co29], .agg #[.bool t386, .slice Ao19 t387.length co19], .agg #[.bool t390, .slice Ao21 t391.length co21]] (by rfl) rfl rfl zz8_2 ?_
     with_reducible refine (laws_fitted.calls k t404 _ _ t405 t386 _ _ t387 t390 _ _ t391 t408 true _ ?side1 ?side2 ?side3 ?side4 ?side5 ?side6 A7.out).mono ?_
     (case side1 => repeat (first | exact (qvR HO407.out).2.2 | (with_reducible refine Kd.C_alloc ?_ _) | (with_reducible refine Kd.C_drewN ?_ _) | (with_reducible refine Kd.C_drew ?_)))
     (case side2 => exact (qvR HO407.out).2.1)
     (case side3 => repeat (first | exact (qvR HO389.out).2.2 | (with_reducible refine Kd.C_alloc ?_ _) | (with_reducible refine Kd.C_drewN ?_ _) | (with_reducible refine Kd.C_drew ?_)))
     (case side4 => exact (qvR HO389.out).2.1)
     (case side5 => repeat (first | exact (qvR HO393.out).2.2 | (with_reducible refine Kd.C_alloc ?_ _) | (with_reducible refine Kd.C_drewN ?_ _) | (with_reducible refine Kd.C_drew ?_)))
     (case side6 => exact (qvR HO393.out).2.1)
     rintro e w30 ⟨rfl, hb⟩
     refine ⟨_, rfl, ?_⟩
     have n0_ := qaM (qvB zz8_4 hb)
     have n1_ := qaM (qvB zz8_5 hb)
     have n2_ := qaM (qvB zz8_7 hb)
     have n3_ := qaM (qvB zz8_9 hb)
     have n4_ := qaM (qvB zz8_10 hb)
     have n5_ := qaM (qbB (g := gb394) (o := .cells #[.bool t386, .slice Ao19 t387.length co19] 25 (0, 0)) zz8_1 hb)
     have n6_ := qaM (qbB (g := gb395) (o := .cells #[.bool t390, .slice Ao21 t391.length co21] 25 (0, 0)) zz8_3 hb)
     have n7_ := qaM (qbT zz8_0 hb)
     clear HO389
     clear HO393
     clear HO399
     clear HO403
     clear HO407
     clear BK394
     clear BK395
     clear HB
     have HO389 := n0_
     have HO393 := n1_
     have HO399 := n2_
     have HO403 := n3_
     have HO407 := n4_
     have BK394 := n5_
     have BK395 := n6_
     have HB := n7_
     clear n0_ n1_ n2_ n3_ n4_ n5_ n6_ n7_
     (try clear hb)
     (try clear hb2)
     (try clear hk)
     (try clear hi)
     refine hK.out _ _ ⟨(qbC BK394.out 0).trans rfl, (qbC BK394.out 1).trans rfl, (qbC BK395.out 0).trans rfl, (qbC BK395.out 1).trans rfl⟩ (fun hHeld => ?_)
     clear hK K
     refine norm_ (a' := ?_) ?_ ?_
     rotate_left
     ·show Act.put _ (some 27) _ = _
      simp only [Act.put, qsA, qsZ, qsS, i64_w, i32_w]
      rfl
     refine pure_ (i := 10) (N := some 17) (v := ?_) (a' := ?_) #[true, true, true, true, true, true, true, true, true, true, true, false, false, false, false] rfl rfl (any_of HT_.out zz8_11) (fun _ _ _ h => h) (Or.inl ⟨by rfl, ?_⟩) ?_ ?_
     rotate_left
     ·intro w'
      go_simp
      with_reducible rfl
     rotate_left
     ·simp only [Act.put, qsA, qsZ, qsS, i64_w, i32_w]
      rfl
     refine pure_ (i := 11) (N := some 28) (v := ?_) (a' := ?_) #[true, true, true, true, true, true, true, true, true, true, true, true, false, false, false] rfl rfl (any_of HT_.out zz8_11) (fun _ _ _ h => h) (Or.inl ⟨by rfl, ?_⟩) ?_ ?_
     rotate_left
     ·intro w'
      go_simp
      with_reducible rfl
     rotate_left
     ·simp only [Act.put, qsA, qsZ, qsS, i64_w, i32_w]
      rfl
     refine pure_ (i := 12) (N := some 29) (v := ?_) (a' := ?_) #[true, true, true, true, true, true, true, true, true, true, true, true, true, false, false] rfl rfl (any_of HT_.out zz8_11) (fun _ _ _ h => h) (Or.inl ⟨by rfl, ?_⟩) ?_ ?_
     rotate_left
     ·intro w'
      go_simp
      with_reducible rfl
     rotate_left
     ·simp only [Act.put, qsA, qsZ, qsS, i64_w, i32_w]
      rfl
     refine pure_ (i := 13) (N := some 7) (v := ?_) (a' := ?_) #[true, true, true, true, true, true, true, true, true, true, true, true, true, true, false] rfl rfl (any_of HT_.out zz8_11) (fun _ _ _ h => h) (Or.inl ⟨by rfl, ?_⟩) ?_ ?_
     rotate_left
     ·intro w'
      go_simp
      with_reducible rfl
     rotate_left
     ·simp only [Act.put, qsA, qsZ, qsS, i64_w, i32_w]
      rfl
     refine pure_ (i := 14) (N := some 8) (v := ?_) (a' := ?_) #[true, true, true, true, true, true, true, true, true, true, true, true, true, true, true] rfl rfl (any_of HT_.out zz8_11) (fun _ _ _ h => h) (Or.inl ⟨by rfl, ?_⟩) ?_ ?_
     rotate_left
     ·intro w'
      go_simp
      with_reducible rfl
     rotate_left
     ·simp only [Act.put, qsA, qsZ, qsS, i64_w, i32_w]
      rfl
     refine done_ (done_of HT_.out zz8_11) ?_
     try go_wp2_with (first | ((with_reducible refine gate_callee (f := 19) rfl ?_); refine goesL_ (some 33) rfl rfl Try.func19 zz8_11 rfl #[.int .i32 a0, .int .i32 a1] rfl zz8_2 ?_; (with_reducible refine (impl_MulInt32.calls a0 a1 t410 t411 _ A8.out).mono ?_); rintro e w31 ⟨rfl, hb⟩; refine ⟨_, rfl, ?_⟩; have n0_ := qaM (qvB zz8_4 hb); have n1_ := qaM (qvB zz8_5 hb); have n2_ := qaM (qvB zz8_7 hb); have n3_ := qaM (qvB zz8_9 hb); have n4_ := qaM (qvB zz8_10 hb); have n5_ := qaM (qbB (g := gb394) (o := .cells #[.bool t386, .slice Ao19 t387.length co19] 25 (0, 0)) zz8_1 hb); have n6_ := qaM (qbB (g := gb395) (o := .cells #[.bool t390, .slice Ao21 t391.length co21] 25 (0, 0)) zz8_3 hb); have n7_ := qaM (qbT zz8_0 hb); clear HO389; clear HO393; clear HO399; clear HO403; clear HO407; clear BK394; clear BK395; clear HB; have HO389 := n0_; have HO393 := n1_; have HO399 := n2_; have HO403 := n3_; have HO407 := n4_; have BK394 := n5_; have BK395 := n6_; have HB := n7_; clear n0_ n1_ n2_ n3_ n4_ n5_ n6_ n7_; (try clear hb); (try clear hb2); (try clear hk); (try clear hi)) | ((with_reducible refine gate_callee (f := 19) rfl ?_); refine goesL_ (some 37) rfl rfl Try.func19 zz8_11 rfl #[.int .i32 2, .int .i32 3] rfl zz8_2 ?_; (with_reducible refine (impl_MulInt32.calls 2 3 t412 true _ A9.out).mono ?_); rintro e w32 ⟨rfl, hb⟩; refine ⟨_, rfl, ?_⟩; have n0_ := qaM (qvB zz8_4 hb); have n1_ := qaM (qvB zz8_5 hb); have n2_ := qaM (qvB zz8_7 hb); have n3_ := qaM (qvB zz8_9 hb); have n4_ := qaM (qvB zz8_10 hb); have n5_ := qaM (qbB (g := gb394) (o := .cells #[.bool t386, .slice Ao19 t387.length co19] 25 (0, 0)) zz8_1 hb); have n6_ := qaM (qbB (g := gb395) (o := .cells #[.bool t390, .slice Ao21 t391.length co21] 25 (0, 0)) zz8_3 hb); have n7_ := qaM (qbT zz8_0 hb); clear HO389; clear HO393; clear HO399; clear HO403; clear HO407; clear BK394; clear BK395; clear HB; have HO389 := n0_; have HO393 := n1_; have HO399 := n2_; have HO403 := n3_; have HO407 := n4_; have BK394 := n5_; have BK395 := n6_; have HB := n7_; clear n0_ n1_ n2_ n3_ n4_ n5_ n6_ n7_; (try clear hb); (try clear hb2); (try clear hk); (try clear hi)))
     go_ret
     exact ⟨by first | rfl | (simp [errW_none, errW_some] <;> rfl) | (simp [*, errW_none, errW_some] <;> rfl), by repeat (first | (with_reducible first | exact HB.out | apply qwA | apply qwN | apply qwD | refine qwS ?_ GE394.out | refine qwS ?_ GE395.out) | exact HB.out)⟩
    ·replace c13 := Bool.eq_false_iff.mpr c13
     subst c13
     have H1 : (some false) = some r := by rw [if_neg (show ¬ (false = true) by decide)] at H; exact H
     clear H
     have H := H1
     clear H1
     obtain rfl := Option.some.inj H
     go_enter Try.func6, Try.ntmps6
     try go_wp2_with (first | ((with_reducible refine gate_callee (f := 9) rfl ?_); refine goesL_ (some 14) rfl rfl Try.func9 zz8_11 rfl #[.int .i64 32, .bool true] rfl zz8_2 ?_; (with_reducible refine (laws_bounds.calls k 32 true t386 t387 t390 t391 _ A3.out).mono ?_); rintro e w33 ⟨v388, v392, rfl, ho0, ho1, hb⟩; refine ⟨_, rfl, ?_⟩; have n0_ := qaM (qvL (qvM (ok' := fun k_ => True) ho0 (fun k_ hk_ => trivial)) (qbS zz8_6)); have n1_ := qaM (qvL (qvM (ok' := fun k_ => True) ho1 (fun k_ hk_ => trivial)) (qbS zz8_6)); have n2_ := qaM (qbT zz8_6 hb); clear HB; have HO389 := n0_; have HO393 := n1_; have HB := n2_; clear n0_ n1_ n2_; (try clear hb); (try clear hb2); (try clear hk); (try clear hi); (try clear ho0); (try clear ho1)) | ((with_reducible refine gate_dst (N := 5) rfl ?_); refine box_event ?hg (N := 5) ?hd (cs := #[.bool false, .slice none 0 0]) (t := 25) ?hr ?_; (case hd => rfl); (case hg => rfl); (case hr => first | (go_simp; done) | (go_simp; rfl)); intro gb394 hg w34 hbox hb; have n0_ := qaM (qvB (qvE zz8_4 gb394 (Nat.le_of_eq hg.symm)) hb); have n1_ := qaM (qvB (qvE zz8_5 gb394 (Nat.le_of_eq hg.symm)) hb); have n2_ := qaM (qbT zz8_6 hb); have n3_ := qaM (hbox); have n4_ := qaM ((by rw [hg]; exact (qbS zz8_6) : w.heap.size ≤ gb394)); have n5_ := qaM ((by rw [hg]; exact (qbS zz8_6) : w.heap.size ≤ gb394)); clear HO389; clear HO393; clear HB; have HO389 := n0_; have HO393 := n1_; have HB := n2_; have BK394 := n3_; have GW394 := n4_; have GE394 := n5_; clear n0_ n1_ n2_ n3_ n4_ n5_; clear hb hbox hg) | ((with_reducible refine gate_dst (N := 6) rfl ?_); refine box_event ?hg (N := 6) ?hd (cs := #[.bool false, .slice none 0 0]) (t := 25) ?hr ?_; (case hd => rfl); (case hg => rfl); (case hr => first | (go_simp; done) | (go_simp; rfl)); intro gb395 hg w35 hbox hb; have n0_ := qaM (qvB (qvE zz8_4 gb395 (Nat.le_of_eq hg.symm)) hb); have n1_ := qaM (qvB (qvE zz8_5 gb395 (Nat.le_of_eq hg.symm)) hb); have n2_ := qaM (qbB (g := gb394) (o := .cells #[.bool false, .slice none 0 0] 25 (0, 0)) zz8_1 hb); have n3_ := qaM (qbT zz8_8 hb); have n4_ := qaM (hbox); have n5_ := qaM ((by rw [hg]; exact (qbS zz8_8) : w.heap.size ≤ gb395)); have n6_ := qaM ((by rw [hg]; exact (qbS zz8_8) : w.heap.size ≤ gb395)); have n7_ := qaM ((by rw [hg]; exact qnL (qbL (g := gb394) (o := .cells #[.bool false, .slice none 0 0] 25 (0, 0)) zz8_1) : gb394 ≠ gb395)); have n8_ := qaM ((by rw [hg]; exact qnG (qbL (g := gb394) (o := .cells #[.bool false, .slice none 0 0] 25 (0, 0)) zz8_1) : gb395 ≠ gb394)); clear HO389; clear HO393; clear BK394; clear HB; have HO389 := n0_; have HO393 := n1_; have BK394 := n2_; have HB := n3_; have BK395 := n4_; have GW395 := n5_; have GE395 := n6_; have NB394_395 := n7_; have NB395_394 := n8_; clear n0_ n1_ n2_ n3_ n4_ n5_ n6_ n7_ n8_; clear hb hbox hg; have hnb36 := NB394_395.out; have hnc36 := NB395_394.out; have hcz37_0 : w35.cell? ⟨gb394, 0, none⟩ = some (.bool false) := (qbC BK394.out 0).trans rfl; have hcz37_1 : w35.cell? ⟨gb394, 1, none⟩ = some (.slice none 0 0) := (qbC BK394.out 1).trans rfl; have hfz37_0 := blk_frozen BK394.out 0; have hfz37_1 := blk_frozen BK394.out 1; obtain ⟨Ao38, co38, eo38⟩ := Kd.V_slice HO389.out; subst eo38; have hcz39_0 : w35.cell? ⟨gb395, 0, none⟩ = some (.bool false) := (qbC BK395.out 0).trans rfl; have hcz39_1 : w35.cell? ⟨gb395, 1, none⟩ = some (.slice none 0 0) := (qbC BK395.out 1).trans rfl; have hfz39_0 := blk_frozen BK395.out 0; have hfz39_1 := blk_frozen BK395.out 1; obtain ⟨Ao40, co40, eo40⟩ := Kd.V_slice HO393.out; subst eo40))
     have n0_ : Aside0 (Kd.V (Kd.int .u32) 22 ((((w35.setCell ⟨gb394, 0, none⟩ (.bool t386)).setCell ⟨gb394, 1, none⟩ (.slice Ao38 t387.length co38)).setCell ⟨gb395, 0, none⟩ (.bool t390)).setCell ⟨gb395, 1, none⟩ (.slice Ao40 t391.length co40)) w.heap.size (fun k_ => k_ ≠ gb394 ∧ k_ ≠ gb395) (.slice Ao38 t387.length co38) t387) := ⟨by (with_reducible repeat (first | apply qvA | apply qvN | apply qvD)); exact qvM (qvF (p := ⟨gb395, 1, none⟩) (qvF (p := ⟨gb395, 0, none⟩) (qvF (p := ⟨gb394, 1, none⟩) (qvF (p := ⟨gb394, 0, none⟩) (qvM (qvM HO389.out (fun k_ hk => (⟨hk, hk.1.2⟩ : _ ∧ k_ ≠ gb394))) (fun k_ hk => (⟨hk, hk.1.2⟩ : _ ∧ k_ ≠ gb395))) (fun _ hk => hk.1.2) (.bool t386)) (fun _ hk => hk.1.2) (.slice Ao38 t387.length co38)) (fun _ hk => hk.2) (.bool t390)) (fun _ hk => hk.2) (.slice Ao40 t391.length co40)) (fun _ hk => ⟨hk.1.1.1.2, hk.1.1.2⟩)⟩
     have n1_ : Aside0 (Kd.V (Kd.int .u32) 22 ((((w35.setCell ⟨gb394, 0, none⟩ (.bool t386)).setCell ⟨gb394, 1, none⟩ (.slice Ao38 t387.length co38)).setCell ⟨gb395, 0, none⟩ (.bool t390)).setCell ⟨gb395, 1, none⟩ (.slice Ao40 t391.length co40)) w.heap.size (fun k_ => k_ ≠ gb394 ∧ k_ ≠ gb395) (.slice Ao40 t391.length co40) t391) := ⟨by (with_reducible repeat (first | apply qvA | apply qvN | apply qvD)); exact qvM (qvF (p := ⟨gb395, 1, none⟩) (qvF (p := ⟨gb395, 0, none⟩) (qvF (p := ⟨gb394, 1, none⟩) (qvF (p := ⟨gb394, 0, none⟩) (qvM (qvM HO393.out (fun k_ hk => (⟨hk, hk.1.2⟩ : _ ∧ k_ ≠ gb394))) (fun k_ hk => (⟨hk, hk.1.2⟩ : _ ∧ k_ ≠ gb395))) (fun _ hk => hk.1.2) (.bool t386)) (fun _ hk => hk.1.2) (.slice Ao38 t387.length co38)) (fun _ hk => hk.2) (.bool t390)) (fun _ hk => hk.2) (.slice Ao40 t391.length co40)) (fun _ hk => ⟨hk.1.1.1.2, hk.1.1.2⟩)⟩
     have n2_ : Aside0 (((((w35.setCell ⟨gb394, 0, none⟩ (.bool t386)).setCell ⟨gb394, 1, none⟩ (.slice Ao38 t387.length co38)).setCell ⟨gb395, 0, none⟩ (.bool t390)).setCell ⟨gb395, 1, none⟩ (.slice Ao40 t391.length co40)).heap[gb394]? = some (.cells #[.bool t386, .slice Ao38 t387.length co38] 25 (0, 0))) := ⟨by (with_reducible repeat (first | refine qbN ?_ _ | refine qbD ?_ | refine qbA ?_ _)); refine qbF ?_ NB394_395.out _; (with_reducible repeat (first | refine qbN ?_ _ | refine qbD ?_ | refine qbA ?_ _)); refine qbF ?_ NB394_395.out _; (with_reducible repeat (first | refine qbN ?_ _ | refine qbD ?_ | refine qbA ?_ _)); refine qbP (cs := #[.bool t386, .slice none 0 0]) ?_ 1 _ rfl; (with_reducible repeat (first | refine qbN ?_ _ | refine qbD ?_ | refine qbA ?_ _)); refine qbP (cs := #[.bool false, .slice none 0 0]) ?_ 0 _ rfl; (with_reducible repeat (first | refine qbN ?_ _ | refine qbD ?_ | refine qbA ?_ _)); exact BK394.out⟩
     have n3_ : Aside0 (((((w35.setCell ⟨gb394, 0, none⟩ (.bool t386)).setCell ⟨gb394, 1, none⟩ (.slice Ao38 t387.length co38)).setCell ⟨gb395, 0, none⟩ (.bool t390)).setCell ⟨gb395, 1, none⟩ (.slice Ao40 t391.length co40)).heap[gb395]? = some (.cells #[.bool t390, .slice Ao40 t391.length co40] 25 (0, 0))) := ⟨by (with_reducible repeat (first | refine qbN ?_ _ | refine qbD ?_ | refine qbA ?_ _)); refine qbP (cs := #[.bool t390, .slice none 0 0]) ?_ 1 _ rfl; (with_reducible repeat (first | refine qbN ?_ _ | refine qbD ?_ | refine qbA ?_ _)); refine qbP (cs := #[.bool false, .slice none 0 0]) ?_ 0 _ rfl; (with_reducible repeat (first | refine qbN ?_ _ | refine qbD ?_ | refine qbA ?_ _)); refine qbF ?_ NB395_394.out _; (with_reducible repeat (first | refine qbN ?_ _ | refine qbD ?_ | refine qbA ?_ _)); refine qbF ?_ NB395_394.out _; (with_reducible repeat (first | refine qbN ?_ _ | refine qbD ?_ | refine qbA ?_ _)); exact BK395.out⟩
     have n4_ : Aside0 (Below w.heap.size w ((((w35.setCell ⟨gb394, 0, none⟩ (.bool t386)).setCell ⟨gb394, 1, none⟩ (.slice Ao38 t387.length co38)).setCell ⟨gb395, 0, none⟩ (.bool t390)).setCell ⟨gb395, 1, none⟩ (.slice Ao40 t391.length co40))) := ⟨by repeat (first | (with_reducible first | exact HB.out | apply qwA | apply qwN | apply qwD | refine qwS ?_ GE394.out | refine qwS ?_ GE395.out) | exact HB.out)⟩
     (try clear HO389)
     (try clear HO393)
     (try clear BK394)
     (try clear BK395)
     (try clear HB)
     generalize ((((w35.setCell ⟨gb394, 0, none⟩ (.bool t386)).setCell ⟨gb394, 1, none⟩ (.slice Ao38 t387.length co38)).setCell ⟨gb395, 0, none⟩ (.bool t390)).setCell ⟨gb395, 1, none⟩ (.slice Ao40 t391.length co40)) = w41 at n0_ n1_ n2_ n3_ n4_ ⊢
     have HO389 := n0_
     have HO393 := n1_
     have BK394 := n2_
     have BK395 := n3_
     have HB := n4_
     clear n0_ n1_ n2_ n3_ n4_
     have n0_ := qaM (qvD HO389.out)
     have n1_ := qaM (qvD HO393.out)
     have n2_ := qaM (qbD BK394.out)
     have n3_ := qaM (qbD BK395.out)
     have n4_ := qaM (qwD HB.out)
     clear HO389
     clear HO393
     clear BK394
     clear BK395
     clear HB
     have HO389 := n0_
     have HO393 := n1_
     have BK394 := n2_
     have BK395 := n3_
     have HB := n4_
     clear n0_ n1_ n2_ n3_ n4_
     refine start_ (n := 15) (S := fun w' => w'.cell? ⟨gb394, 0, none⟩ = some (.bool t386) ∧ w'.cell? ⟨gb394, 1, none⟩ = some (.slice Ao38 t387.length co38) ∧ w'.cell? ⟨gb395, 0, none⟩ = some (.bool t390) ∧ w'.cell? ⟨gb395, 1, none⟩ = some (.slice Ao40 t391.length co40)) (ds := []) #[false, false, false, false, false, false, false, false, false, false, false, false, false, false, false] zz8_11 rfl rfl ⟨(qbC BK394.out 0).trans rfl, (qbC BK394.out 1).trans rfl, (qbC BK395.out 0).trans rfl, (qbC BK395.out 1).trans rfl⟩ (fun hHeld => ?_); refine with_tabW laws_FnMulInt32.tab2 laws_FnMulInt32.bits2 (fun HT_ HW_ => ?_)
     generalize w41.drew = w42 at HO389 HO393 BK394 BK395 HB hHeld ⊢
     refine pure_ (i := 0) (N := some 18) (v := ?_) (a' := ?_) #[true, false, false, false, false, false, false, false, false, false, false, false, false, false, false] rfl rfl (any_of HT_.out zz8_11) (fun _ _ _ h => h) (Or.inl ⟨by rfl, ?_⟩) ?_ ?_
     rotate_left
     ·intro w'
      go_simp
      with_reducible rfl
     rotate_left
     ·simp only [Act.put, qsA, qsZ, qsS, i64_w, i32_w]
      rfl
     refine pure_ (i := 1) (N := some 19) (v := ?_) (a' := ?_) #[true, true, false, false, false, false, false, false, false, false, false, false, false, false, false] rfl rfl (any_of HT_.out zz8_11) (fun _ _ _ h => h) (Or.inl ⟨by rfl, ?_⟩) ?_ ?_
     rotate_left
     ·intro w'
      go_simp
      with_reducible rfl
     rotate_left
     ·simp only [Act.put, qsA, qsZ, qsS, i64_w, i32_w]
      rfl
     refine pure_ (i := 3) (N := some 21) (v := ?_) (a' := ?_) #[true, true, false, true, false, false, false, false, false, false, false, false, false, false, false] rfl rfl (any_of HT_.out zz8_11) (fun _ _ _ h => h) (Or.inl ⟨by rfl, ?_⟩) ?_ ?_
     rotate_left
     ·intro w'
      go_simp
      with_reducible rfl
     rotate_left
     ·simp only [Act.put, qsA, qsZ, qsS, i64_w, i32_w]
      rfl
     refine pure_ (i := 4) (N := some 22) (v := ?_) (a' := ?_) #[true, true, false, true, true, false, false, false, false, false, false, false, false, false, false] rfl rfl (any_of HT_.out zz8_11) (fun _ _ _ h => h) (Or.inl ⟨by rfl, ?_⟩) ?_ ?_
     rotate_left
     ·intro w'
      go_simp
      with_reducible rfl
     rotate_left
     ·simp only [Act.put, qsA, qsZ, qsS, i64_w, i32_w]
      rfl
     refine take_ (i := 7) (N := some 25) (v := ?_) (a' := ?_) #[true, true, false, true, true, false, false, true, false, false, false, false, false, false, false] rfl rfl (take_ofW HT_.out HW_.out zz8_11) (fun _ _ _ h => h) (Or.inl ⟨by rfl, ?_⟩) hHeld ?_ ?_
     rotate_left
     ·rintro w' ⟨s0, s1, s2, s3⟩
      go_simp
      with_reducible rfl
     rotate_left
     ·simp only [Act.put, qsA, qsZ, qsS, i64_w, i32_w]
      rfl
     refine take_ (i := 8) (N := some 26) (v := ?_) (a' := ?_) #[true, true, false, true, true, false, false, true, true, false, false, false, false, false, false] rfl rfl (take_ofW HT_.out HW_.out zz8_11) (fun _ _ _ h => h) (Or.inl ⟨by rfl, ?_⟩) hHeld ?_ ?_
     rotate_left
     ·rintro w' ⟨s0, s1, s2, s3⟩
      go_simp
      with_reducible rfl
     rotate_left
     ·simp only [Act.put, qsA, qsZ, qsS, i64_w, i32_w]
      rfl
     refine one_ (i := 2) (N := some 20) #[true, true, true, true, true, false, false, true, true, false, false, false, false, false, false] rfl rfl (one_of HT_.out zz8_11) zz8_12 (fun K hK => ?_)
     refine goes_ Try.func17 zz8_11 rfl #[.int .i64 (wrap64 (a0))] (by rfl) rfl rfl zz8_2 ?_
     with_reducible refine (spec_WideInt.calls k (wrap64 (a0)) t396 t397 _ A4.out).mono ?_
     rintro e w43 ⟨v398, rfl, ho0, hb⟩
     refine ⟨_, rfl, ?_⟩
     have n0_ := qaM (qvB zz8_4 hb)
     have n1_ := qaM (qvB zz8_5 hb)
     have n2_ := qaM (qvL (qvM (ok' := fun k_ => k_ ≠ gb394 ∧ k_ ≠ gb395) ho0 (fun k_ hk_ => ⟨(qfB (g := gb394) (o := .cells #[.bool t386, .slice Ao38 t387.length co38] 25 (0, 0)) zz8_1 k_ hk_), (qfB (g := gb395) (o := .cells #[.bool t390, .slice Ao40 t391.length co40] 25 (0, 0)) zz8_3 k_ hk_)⟩)) (qbS zz8_0))
     have n3_ := qaM (qbB (g := gb394) (o := .cells #[.bool t386, .slice Ao38 t387.length co38] 25 (0, 0)) zz8_1 hb)
     have n4_ := qaM (qbB (g := gb395) (o := .cells #[.bool t390, .slice Ao40 t391.length co40] 25 (0, 0)) zz8_3 hb)
     have n5_ := qaM (qbT zz8_0 hb)
     clear HO389
     clear HO393
     clear BK394
     clear BK395
     clear HB
     have HO389 := n0_
     have HO393 := n1_
     have HO399 := n2_
     have BK394 := n3_
     have BK395 := n4_
     have HB := n5_
     clear n0_ n1_ n2_ n3_ n4_ n5_
     (try clear hb)
     (try clear hb2)
     (try clear hk)
     (try clear hi)
     (try clear ho0)
     refine hK.out _ _ ⟨(qbC BK394.out 0).trans rfl, (qbC BK394.out 1).trans rfl, (qbC BK395.out 0).trans rfl, (qbC BK395.out 1).trans rfl⟩ (fun hHeld => ?_)
     clear hK K
     refine norm_ (a' := ?_) ?_ ?_
     rotate_left
     ·show Act.put _ (some 20) _ = _
      simp only [Act.put, qsA, qsZ, qsS, i64_w, i32_w]
      rfl
     refine one_ (i := 5) (N := some 23) #[true, true, true, true, true, true, false, true, true, false, false, false, false, false, false] rfl rfl (one_of HT_.out zz8_11) zz8_12 (fun K hK => ?_)
     refine goes_ Try.func17 zz8_11 rfl #[.int .i64 (wrap64 (a1))] (by rfl) rfl rfl zz8_2 ?_
     with_reducible refine (spec_WideInt.calls k (wrap64 (a1)) t400 t401 _ A5.out).mono ?_
     rintro e w44 ⟨v402, rfl, ho0, hb⟩
     refine ⟨_, rfl, ?_⟩
     have n0_ := qaM (qvB zz8_4 hb)
     have n1_ := qaM (qvB zz8_5 hb)
     have n2_ := qaM (qvB zz8_7 hb)
     have n3_ := qaM (qvL (qvM (ok' := fun k_ => k_ ≠ gb394 ∧ k_ ≠ gb395) ho0 (fun k_ hk_ => ⟨(qfB (g := gb394) (o := .cells #[.bool t386, .slice Ao38 t387.length co38] 25 (0, 0)) zz8_1 k_ hk_), (qfB (g := gb395) (o := .cells #[.bool t390, .slice Ao40 t391.length co40] 25 (0, 0)) zz8_3 k_ hk_)⟩)) (qbS zz8_0))
     have n4_ := qaM (qbB (g := gb394) (o := .cells #[.bool t386, .slice Ao38 t387.length co38] 25 (0, 0)) zz8_1 hb)
     have n5_ := qaM (qbB (g := gb395) (o := .cells #[.bool t390, .slice Ao40 t391.length co40] 25 (0, 0)) zz8_3 hb)
     have n6_ := qaM (qbT zz8_0 hb)
     clear HO389
     clear HO393
     clear HO399
     clear BK394
     clear BK395
     clear HB
     have HO389 := n0_
     have HO393 := n1_
     have HO399 := n2_
     have HO403 := n3_
     have BK394 := n4_
     have BK395 := n5_
     have HB := n6_
     clear n0_ n1_ n2_ n3_ n4_ n5_ n6_
     (try clear hb)
     (try clear hb2)
     (try clear hk)
     (try clear hi)
     (try clear ho0)
     obtain ⟨Ao45, co45, eo45⟩ := Kd.V_slice HO399.out
     (first | subst eo45 | (injection eo45 with f1_ f2_ f3_; have f4_ := f1_.symm; have f5_ := f3_.symm; clear f1_ f2_ f3_; subst f4_; subst f5_))
     obtain ⟨Ao46, co46, eo46⟩ := Kd.V_slice HO403.out
     (first | subst eo46 | (injection eo46 with f1_ f2_ f3_; have f4_ := f1_.symm; have f5_ := f3_.symm; clear f1_ f2_ f3_; subst f4_; subst f5_))
     refine hK.out _ _ ⟨(qbC BK394.out 0).trans rfl, (qbC BK394.out 1).trans rfl, (qbC BK395.out 0).trans rfl, (qbC BK395.out 1).trans rfl⟩ (fun hHeld => ?_)
     clear hK K
     refine norm_ (a' := ?_) ?_ ?_
     rotate_left
     ·show Act.put _ (some 23) _ = _
      simp only [Act.put, qsA, qsZ, qsS, i64_w, i32_w]
      rfl
     refine one_ (i := 6) (N := some 24) #[true, true, true, true, true, true, true, true, true, false, false, false, false, false, false] rfl rfl (one_of HT_.out zz8_11) zz8_12 (fun K hK => ?_)
     refine goes_ Try.func16 zz8_11 rfl #[.agg #[.bool t396, .slice Ao45 t397.length co45], .agg #[.bool t400, .slice Ao46 t401.length co46]] (by rfl) rfl rfl zz8_2 ?_
     with_reducible refine (spec_WideMul.calls k t396 _ _ t397 t400 _ _ t401 t404 t405 _ ?side1 ?side2 ?side3 ?side4 A6.out).mono ?_
     (case side1 => repeat (first | exact (qvR HO399.out).2.2 | (with_reducible refine Kd.C_alloc ?_ _) | (with_reducible refine Kd.C_drewN ?_ _) | (with_reducible refine Kd.C_drew ?_)))
     (case side2 => exact (qvR HO399.out).2.1)
     (case side3 => repeat (first | exact (qvR HO403.out).2.2 | (with_reducible refine Kd.C_alloc ?_ _) | (with_reducible refine Kd.C_drewN ?_ _) | (with_reducible refine Kd.C_drew ?_)))
     (case side4 => exact (qvR HO403.out).2.1)
     rintro e w47 ⟨v406, rfl, ho0, hb⟩
     refine ⟨_, rfl, ?_⟩
     have n0_ := qaM (qvB zz8_4 hb)
     have n1_ := qaM (qvB zz8_5 hb)
     have n2_ := qaM (qvB zz8_7 hb)
     have n3_ := qaM (qvB zz8_9 hb)
     have n4_ := qaM (qvL (qvM (ok' := fun k_ => k_ ≠ gb394 ∧ k_ ≠ gb395) ho0 (fun k_ hk_ => ⟨(qfB (g := gb394) (o := .cells #[.bool t386, .slice Ao38 t387.length co38] 25 (0, 0)) zz8_1 k_ hk_), (qfB (g := gb395) (o := .cells #[.bool t390, .slice Ao40 t391.length co40] 25 (0, 0)) zz8_3 k_ hk_)⟩)) (qbS zz8_0))
     have n5_ := qaM (qbB (g := gb394) (o := .cells #[.bool t386, .slice Ao38 t387.length co38] 25 (0, 0)) zz8_1 hb)
     have n6_ := qaM (qbB (g := gb395) (o := .cells #[.bool t390, .slice Ao40 t391.length co40] 25 (0, 0)) zz8_3 hb)
     have n7_ := qaM (qbT zz8_0 hb)
     clear HO389
     clear HO393
     clear HO399
     clear HO403
     clear BK394
     clear BK395
     clear HB
     have HO389 := n0_
     have HO393 := n1_
     have HO399 := n2_
     have HO403 := n3_
     have HO407 := n4_
     have BK394 := n5_
     have BK395 := n6_
     have HB := n7_
     clear n0_ n1_ n2_ n3_ n4_ n5_ n6_ n7_
     (try clear hb)
     (try clear hb2)
     (try clear hk)
     (try clear hi)
     (try clear ho0)
     obtain ⟨Ao48, co48, eo48⟩ := Kd.V_slice HO407.out
     (first | subst eo48 | (injection eo48 with f1_ f2_ f3_; have f4_ := f1_.symm; have f5_ := f3_.symm; clear f1_ f2_ f3_; subst f4_; subst f5_))
     refine hK.out _ _ ⟨(qbC BK394.out 0).trans rfl, (qbC BK394.out 1).trans rfl, (qbC BK395.out 0).trans rfl, (qbC BK395.out 1).trans rfl⟩ (fun hHeld => ?_)
     clear hK K
     refine norm_ (a' := ?_) ?_ ?_
     rotate_left
     ·show Act.put _ (some 24) _ = _
      simp only [Act.put, qsA, qsZ, qsS, i64_w, i32_w]
      rfl
     refine one_ (i := 9) (N := some 27) #[true, true, true, true, true, true, true, true, true, true, false, false, false, false, false] rfl rfl (one_of HT_.out zz8_11) zz8_12 (fun K hK => ?_)
     refine goes_ Try.func10 zz8_11 rfl #[.agg #[.bool t404, .slice Ao48 t405.length co48], .agg #[.bool t386, .slice Ao38 t387.length co38], .agg #[.bool t390, .slice Ao40 t391.length co40]] (by rfl) rfl rfl zz8_2 ?_
     with_reducible refine (laws_fitted.calls k t404 _ _ t405 t386 _ _ t387 t390 _ _ t391 t408 true _ ?side1 ?side2 ?side3 ?side4 ?side5 ?side6 A7.out).mono ?_
     (case side1 => repeat (first | exact (qvR HO407.out).2.2 | (with_reducible refine Kd.C_alloc ?_ _) | (with_reducible refine Kd.C_drewN ?_ _) | (with_reducible refine Kd.C_drew ?_)))
     (case side2 => exact (qvR HO407.out).2.1)
     (case side3 => repeat (first | exact (qvR HO389.out).2.2 | (with_reducible refine Kd.C_alloc ?_ _) | (with_reducible refine Kd.C_drewN ?_ _) | (with_reducible refine Kd.C_drew ?_)))
     (case side4 => exact (qvR HO389.out).2.1)
     (case side5 => repeat (first | exact (qvR HO393.out).2.2 | (with_reducible refine Kd.C_alloc ?_ _) | (with_reducible refine Kd.C_drewN ?_ _) | (with_reducible refine Kd.C_drew ?_)))
     (case side6 => exact (qvR HO393.out).2.1)
     rintro e w49 ⟨rfl, hb⟩
     refine ⟨_, rfl, ?_⟩
     have n0_ := qaM (qvB zz8_4 hb)
     have n1_ := qaM (qvB zz8_5 hb)
     have n2_ := qaM (qvB zz8_7 hb)
     have n3_ := qaM (qvB zz8_9 hb)
     have n4_ := qaM (qvB zz8_10 hb)
     have n5_ := qaM (qbB (g := gb394) (o := .cells #[.bool t386, .slice Ao38 t387.length co38] 25 (0, 0)) zz8_1 hb)
     have n6_ := qaM (qbB (g := gb395) (o := .cells #[.bool t390, .slice Ao40 t391.length co40] 25 (0, 0)) zz8_3 hb)
     have n7_ := qaM (qbT zz8_0 hb)
     clear HO389
     clear HO393
     clear HO399
     clear HO403
     clear HO407
     clear BK394
     clear BK395
     clear HB
     have HO389 := n0_
     have HO393 := n1_
     have HO399 := n2_
     have HO403 := n3_
     have HO407 := n4_
     have BK394 := n5_
     have BK395 := n6_
     have HB := n7_
     clear n0_ n1_ n2_ n3_ n4_ n5_ n6_ n7_
     (try clear hb)
     (try clear hb2)
     (try clear hk)
     (try clear hi)
     refine hK.out _ _ ⟨(qbC BK394.out 0).trans rfl, (qbC BK394.out 1).trans rfl, (qbC BK395.out 0).trans rfl, (qbC BK395.out 1).trans rfl⟩ (fun hHeld => ?_)
     clear hK K
     refine norm_ (a' := ?_) ?_ ?_
     rotate_left
     ·show Act.put _ (some 27) _ = _
      simp only [Act.put, qsA, qsZ, qsS, i64_w, i32_w]
      rfl
     refine pure_ (i := 10) (N := some 17) (v := ?_) (a' := ?_) #[true, true, true, true, true, true, true, true, true, true, true, false, false, false, false] rfl rfl (any_of HT_.out zz8_11) (fun _ _ _ h => h) (Or.inl ⟨by rfl, ?_⟩) ?_ ?_
     rotate_left
     ·intro w'
      go_simp
      with_reducible rfl
     rotate_left
     ·simp only [Act.put, qsA, qsZ, qsS, i64_w, i32_w]
      rfl
     refine pure_ (i := 11) (N := some 28) (v := ?_) (a' := ?_) #[true, true, true, true, true, true, true, true, true, true, true, true, false, false, false] rfl rfl (any_of HT_.out zz8_11) (fun _ _ _ h => h) (Or.inl ⟨by rfl, ?_⟩) ?_ ?_
     rotate_left
     ·intro w'
      go_simp
      with_reducible rfl
     rotate_left
     ·simp only [Act.put, qsA, qsZ, qsS, i64_w, i32_w]
      rfl
     refine pure_ (i := 12) (N := some 29) (v := ?_) (a' := ?_) #[true, true, true, true, true, true, true, true, true, true, true, true, true, false, false] rfl rfl (any_of HT_.out zz8_11) (fun _ _ _ h => h) (Or.inl ⟨by rfl, ?_⟩) ?_ ?_
     rotate_left
     ·intro w'
      go_simp
      with_reducible rfl
     rotate_left
     ·simp only [Act.put, qsA, qsZ, qsS, i64_w, i32_w]
      rfl
     refine pure_ (i := 13) (N := some 7) (v := ?_) (a' := ?_) #[true, true, true, true, true, true, true, true, true, true, true, true, true, true, false] rfl rfl (any_of HT_.out zz8_11) (fun _ _ _ h => h) (Or.inl ⟨by rfl, ?_⟩) ?_ ?_
     rotate_left
     ·intro w'
      go_simp
      with_reducible rfl
     rotate_left
     ·simp only [Act.put, qsA, qsZ, qsS, i64_w, i32_w]
      rfl
     refine pure_ (i := 14) (N := some 8) (v := ?_) (a' := ?_) #[true, true, true, true, true, true, true, true, true, true, true, true, true, true, true] rfl rfl (any_of HT_.out zz8_11) (fun _ _ _ h => h) (Or.inl ⟨by rfl, ?_⟩) ?_ ?_
     rotate_left
     ·intro w'
      go_simp
      with_reducible rfl
     rotate_left
     ·simp only [Act.put, qsA, qsZ, qsS, i64_w, i32_w]
      rfl
     refine done_ (done_of HT_.out zz8_11) ?_
     try go_wp2_with (first | ((with_reducible refine gate_callee (f := 19) rfl ?_); refine goesL_ (some 33) rfl rfl Try.func19 zz8_11 rfl #[.int .i32 a0, .int .i32 a1] rfl zz8_2 ?_; (with_reducible refine (impl_MulInt32.calls a0 a1 t410 t411 _ A8.out).mono ?_); rintro e w50 ⟨rfl, hb⟩; refine ⟨_, rfl, ?_⟩; have n0_ := qaM (qvB zz8_4 hb); have n1_ := qaM (qvB zz8_5 hb); have n2_ := qaM (qvB zz8_7 hb); have n3_ := qaM (qvB zz8_9 hb); have n4_ := qaM (qvB zz8_10 hb); have n5_ := qaM (qbB (g := gb394) (o := .cells #[.bool t386, .slice Ao38 t387.length co38] 25 (0, 0)) zz8_1 hb); have n6_ := qaM (qbB (g := gb395) (o := .cells #[.bool t390, .slice Ao40 t391.length co40] 25 (0, 0)) zz8_3 hb); have n7_ := qaM (qbT zz8_0 hb); clear HO389; clear HO393; clear HO399; clear HO403; clear HO407; clear BK394; clear BK395; clear HB; have HO389 := n0_; have HO393 := n1_; have HO399 := n2_; have HO403 := n3_; have HO407 := n4_; have BK394 := n5_; have BK395 := n6_; have HB := n7_; clear n0_ n1_ n2_ n3_ n4_ n5_ n6_ n7_; (try clear hb); (try clear hb2); (try clear hk); (try clear hi)) | ((with_reducible refine gate_callee (f := 19) rfl ?_); refine goesL_ (some 37) rfl rfl Try.func19 zz8_11 rfl #[.int .i32 2, .int .i32 3] rfl zz8_2 ?_; (with_reducible refine (impl_MulInt32.calls 2 3 t412 false _ A9.out).mono ?_); rintro e w51 ⟨rfl, hb⟩; refine ⟨_, rfl, ?_⟩; have n0_ := qaM (qvB zz8_4 hb); have n1_ := qaM (qvB zz8_5 hb); have n2_ := qaM (qvB zz8_7 hb); have n3_ := qaM (qvB zz8_9 hb); have n4_ := qaM (qvB zz8_10 hb); have n5_ := qaM (qbB (g := gb394) (o := .cells #[.bool t386, .slice Ao38 t387.length co38] 25 (0, 0)) zz8_1 hb); have n6_ := qaM (qbB (g := gb395) (o := .cells #[.bool t390, .slice Ao40 t391.length co40] 25 (0, 0)) zz8_3 hb); have n7_ := qaM (qbT zz8_0 hb); clear HO389; clear HO393; clear HO399; clear HO403; clear HO407; clear BK394; clear BK395; clear HB; have HO389 := n0_; have HO393 := n1_; have HO399 := n2_; have HO403 := n3_; have HO407 := n4_; have BK394 := n5_; have BK395 := n6_; have HB := n7_; clear n0_ n1_ n2_ n3_ n4_ n5_ n6_ n7_; (try clear hb); (try clear hb2); (try clear hk); (try clear hi)))
     go_ret
     exact ⟨by first | rfl | (simp [errW_none, errW_some] <;> rfl) | (simp [*, errW_none, errW_some] <;> rfl), by repeat (first | (with_reducible first | exact HB.out | apply qwA | apply qwN | apply qwD | refine qwS ?_ GE394.out | refine qwS ?_ GE395.out) | exact HB.out)⟩
   ·rw [if_neg c12] at H
    have c12b0 : (t410 == (wrap32 (t408))) = false := beq_eq_false_iff_ne.mpr c12
    have c12b1 : (t410 != (wrap32 (t408))) = true := bne_iff_ne.mpr c12
    obtain rfl := Option.some.inj H
    go_enter Try.func6, Try.ntmps6
    try go_wp2_with (first | ((with_reducible refine gate_callee (f := 9) rfl ?_); refine goesL_ (some 14) rfl rfl Try.func9 zz8_11 rfl #[.int .i64 32, .bool true] rfl zz8_2 ?_; (with_reducible refine (laws_bounds.calls k 32 true t386 t387 t390 t391 _ A3.out).mono ?_); rintro e w52 ⟨v388, v392, rfl, ho0, ho1, hb⟩; refine ⟨_, rfl, ?_⟩; have n0_ := qaM (qvL (qvM (ok' := fun k_ => True) ho0 (fun k_ hk_ => trivial)) (qbS zz8_6)); have n1_ := qaM (qvL (qvM (ok' := fun k_ => True) ho1 (fun k_ hk_ => trivial)) (qbS zz8_6)); have n2_ := qaM (qbT zz8_6 hb); clear HB; have HO389 := n0_; have HO393 := n1_; have HB := n2_; clear n0_ n1_ n2_; (try clear hb); (try clear hb2); (try clear hk); (try clear hi); (try clear ho0); (try clear ho1)) | ((with_reducible refine gate_dst (N := 5) rfl ?_); refine box_event ?hg (N := 5) ?hd (cs := #[.bool false, .slice none 0 0]) (t := 25) ?hr ?_; (case hd => rfl); (case hg => rfl); (case hr => first | (go_simp; done) | (go_simp; rfl)); intro gb394 hg w53 hbox hb; have n0_ := qaM (qvB (qvE zz8_4 gb394 (Nat.le_of_eq hg.symm)) hb); have n1_ := qaM (qvB (qvE zz8_5 gb394 (Nat.le_of_eq hg.symm)) hb); have n2_ := qaM (qbT zz8_6 hb); have n3_ := qaM (hbox); have n4_ := qaM ((by rw [hg]; exact (qbS zz8_6) : w.heap.size ≤ gb394)); have n5_ := qaM ((by rw [hg]; exact (qbS zz8_6) : w.heap.size ≤ gb394)); clear HO389; clear HO393; clear HB; have HO389 := n0_; have HO393 := n1_; have HB := n2_; have BK394 := n3_; have GW394 := n4_; have GE394 := n5_; clear n0_ n1_ n2_ n3_ n4_ n5_; clear hb hbox hg) | ((with_reducible refine gate_dst (N := 6) rfl ?_); refine box_event ?hg (N := 6) ?hd (cs := #[.bool false, .slice none 0 0]) (t := 25) ?hr ?_; (case hd => rfl); (case hg => rfl); (case hr => first | (go_simp; done) | (go_simp; rfl)); intro gb395 hg w54 hbox hb; have n0_ := qaM (qvB (qvE zz8_4 gb395 (Nat.le_of_eq hg.symm)) hb); have n1_ := qaM (qvB (qvE zz8_5 gb395 (Nat.le_of_eq hg.symm)) hb); have n2_ := qaM (qbB (g := gb394) (o := .cells #[.bool false, .slice none 0 0] 25 (0, 0)) zz8_1 hb); have n3_ := qaM (qbT zz8_8 hb); have n4_ := qaM (hbox); have n5_ := qaM ((by rw [hg]; exact (qbS zz8_8) : w.heap.size ≤ gb395)); have n6_ := qaM ((by rw [hg]; exact (qbS zz8_8) : w.heap.size ≤ gb395)); have n7_ := qaM ((by rw [hg]; exact qnL (qbL (g := gb394) (o := .cells #[.bool false, .slice none 0 0] 25 (0, 0)) zz8_1) : gb394 ≠ gb395)); have n8_ := qaM ((by rw [hg]; exact qnG (qbL (g := gb394) (o := .cells #[.bool false, .slice none 0 0] 25 (0, 0)) zz8_1) : gb395 ≠ gb394)); clear HO389; clear HO393; clear BK394; clear HB; have HO389 := n0_; have HO393 := n1_; have BK394 := n2_; have HB := n3_; have BK395 := n4_; have GW395 := n5_; have GE395 := n6_; have NB394_395 := n7_; have NB395_394 := n8_; clear n0_ n1_ n2_ n3_ n4_ n5_ n6_ n7_ n8_; clear hb hbox hg; have hnb55 := NB394_395.out; have hnc55 := NB395_394.out; have hcz56_0 : w54.cell? ⟨gb394, 0, none⟩ = some (.bool false) := (qbC BK394.out 0).trans rfl; have hcz56_1 : w54.cell? ⟨gb394, 1, none⟩ = some (.slice none 0 0) := (qbC BK394.out 1).trans rfl; have hfz56_0 := blk_frozen BK394.out 0; have hfz56_1 := blk_frozen BK394.out 1; obtain ⟨Ao57, co57, eo57⟩ := Kd.V_slice HO389.out; subst eo57; have hcz58_0 : w54.cell? ⟨gb395, 0, none⟩ = some (.bool false) := (qbC BK395.out 0).trans rfl; have hcz58_1 : w54.cell? ⟨gb395, 1, none⟩ = some (.slice none 0 0) := (qbC BK395.out 1).trans rfl; have hfz58_0 := blk_frozen BK395.out 0; have hfz58_1 := blk_frozen BK395.out 1; obtain ⟨Ao59, co59, eo59⟩ := Kd.V_slice HO393.out; subst eo59))
    have n0_ : Aside0 (Kd.V (Kd.int .u32) 22 ((((w54.setCell ⟨gb394, 0, none⟩ (.bool t386)).setCell ⟨gb394, 1, none⟩ (.slice Ao57 t387.length co57)).setCell ⟨gb395, 0, none⟩ (.bool t390)).setCell ⟨gb395, 1, none⟩ (.slice Ao59 t391.length co59)) w.heap.size (fun k_ => k_ ≠ gb394 ∧ k_ ≠ gb395) (.slice Ao57 t387.length co57) t387) := ⟨by (with_reducible repeat (first | apply qvA | apply qvN | apply qvD)); exact qvM (qvF (p := ⟨gb395, 1, none⟩) (qvF (p := ⟨gb395, 0, none⟩) (qvF (p := ⟨gb394, 1, none⟩) (qvF (p := ⟨gb394, 0, none⟩) (qvM (qvM HO389.out (fun k_ hk => (⟨hk, hk.1.2⟩ : _ ∧ k_ ≠ gb394))) (fun k_ hk => (⟨hk, hk.1.2⟩ : _ ∧ k_ ≠ gb395))) (fun _ hk => hk.1.2) (.bool t386)) (fun _ hk => hk.1.2) (.slice Ao57 t387.length co57)) (fun _ hk => hk.2) (.bool t390)) (fun _ hk => hk.2) (.slice Ao59 t391.length co59)) (fun _ hk => ⟨hk.1.1.1.2, hk.1.1.2⟩)⟩
    have n1_ : Aside0 (Kd.V (Kd.int .u32) 22 ((((w54.setCell ⟨gb394, 0, none⟩ (.bool t386)).setCell ⟨gb394, 1, none⟩ (.slice Ao57 t387.length co57)).setCell ⟨gb395, 0, none⟩ (.bool t390)).setCell ⟨gb395, 1, none⟩ (.slice Ao59 t391.length co59)) w.heap.size (fun k_ => k_ ≠ gb394 ∧ k_ ≠ gb395) (.slice Ao59 t391.length co59) t391) := ⟨by (with_reducible repeat (first | apply qvA | apply qvN | apply qvD)); exact qvM (qvF (p := ⟨gb395, 1, none⟩) (qvF (p := ⟨gb395, 0, none⟩) (qvF (p := ⟨gb394, 1, none⟩) (qvF (p := ⟨gb394, 0, none⟩) (qvM (qvM HO393.out (fun k_ hk => (⟨hk, hk.1.2⟩ : _ ∧ k_ ≠ gb394))) (fun k_ hk => (⟨hk, hk.1.2⟩ : _ ∧ k_ ≠ gb395))) (fun _ hk => hk.1.2) (.bool t386)) (fun _ hk => hk.1.2) (.slice Ao57 t387.length co57)) (fun _ hk => hk.2) (.bool t390)) (fun _ hk => hk.2) (.slice Ao59 t391.length co59)) (fun _ hk => ⟨hk.1.1.1.2, hk.1.1.2⟩)⟩
    have n2_ : Aside0 (((((w54.setCell ⟨gb394, 0, none⟩ (.bool t386)).setCell ⟨gb394, 1, none⟩ (.slice Ao57 t387.length co57)).setCell ⟨gb395, 0, none⟩ (.bool t390)).setCell ⟨gb395, 1, none⟩ (.slice Ao59 t391.length co59)).heap[gb394]? = some (.cells #[.bool t386, .slice Ao57 t387.length co57] 25 (0, 0))) := ⟨by (with_reducible repeat (first | refine qbN ?_ _ | refine qbD ?_ | refine qbA ?_ _)); refine qbF ?_ NB394_395.out _; (with_reducible repeat (first | refine qbN ?_ _ | refine qbD ?_ | refine qbA ?_ _)); refine qbF ?_ NB394_395.out _; (with_reducible repeat (first | refine qbN ?_ _ | refine qbD ?_ | refine qbA ?_ _)); refine qbP (cs := #[.bool t386, .slice none 0 0]) ?_ 1 _ rfl; (with_reducible repeat (first | refine qbN ?_ _ | refine qbD ?_ | refine qbA ?_ _)); refine qbP (cs := #[.bool false, .slice none 0 0]) ?_ 0 _ rfl; (with_reducible repeat (first | refine qbN ?_ _ | refine qbD ?_ | refine qbA ?_ _)); exact BK394.out⟩
    have n3_ : Aside0 (((((w54.setCell ⟨gb394, 0, none⟩ (.bool t386)).setCell ⟨gb394, 1, none⟩ (.slice Ao57 t387.length co57)).setCell ⟨gb395, 0, none⟩ (.bool t390)).setCell ⟨gb395, 1, none⟩ (.slice Ao59 t391.length co59)).heap[gb395]? = some (.cells #[.bool t390, .slice Ao59 t391.length co59] 25 (0, 0))) := ⟨by (with_reducible repeat (first | refine qbN ?_ _ | refine qbD ?_ | refine qbA ?_ _)); refine qbP (cs := #[.bool t390, .slice none 0 0]) ?_ 1 _ rfl; (with_reducible repeat (first | refine qbN ?_ _ | refine qbD ?_ | refine qbA ?_ _)); refine qbP (cs := #[.bool false, .slice none 0 0]) ?_ 0 _ rfl; (with_reducible repeat (first | refine qbN ?_ _ | refine qbD ?_ | refine qbA ?_ _)); refine qbF ?_ NB395_394.out _; (with_reducible repeat (first | refine qbN ?_ _ | refine qbD ?_ | refine qbA ?_ _)); refine qbF ?_ NB395_394.out _; (with_reducible repeat (first | refine qbN ?_ _ | refine qbD ?_ | refine qbA ?_ _)); exact BK395.out⟩
    have n4_ : Aside0 (Below w.heap.size w ((((w54.setCell ⟨gb394, 0, none⟩ (.bool t386)).setCell ⟨gb394, 1, none⟩ (.slice Ao57 t387.length co57)).setCell ⟨gb395, 0, none⟩ (.bool t390)).setCell ⟨gb395, 1, none⟩ (.slice Ao59 t391.length co59))) := ⟨by repeat (first | (with_reducible first | exact HB.out | apply qwA | apply qwN | apply qwD | refine qwS ?_ GE394.out | refine qwS ?_ GE395.out) | exact HB.out)⟩
    (try clear HO389)
    (try clear HO393)
    (try clear BK394)
    (try clear BK395)
    (try clear HB)
    generalize ((((w54.setCell ⟨gb394, 0, none⟩ (.bool t386)).setCell ⟨gb394, 1, none⟩ (.slice Ao57 t387.length co57)).setCell ⟨gb395, 0, none⟩ (.bool t390)).setCell ⟨gb395, 1, none⟩ (.slice Ao59 t391.length co59)) = w60 at n0_ n1_ n2_ n3_ n4_ ⊢
    have HO389 := n0_
    have HO393 := n1_
    have BK394 := n2_
    have BK395 := n3_
    have HB := n4_
    clear n0_ n1_ n2_ n3_ n4_
    have n0_ := qaM (qvD HO389.out)
    have n1_ := qaM (qvD HO393.out)
    have n2_ := qaM (qbD BK394.out)
    have n3_ := qaM (qbD BK395.out)
    have n4_ := qaM (qwD HB.out)
    clear HO389
    clear HO393
    clear BK394
    clear BK395
    clear HB
    have HO389 := n0_
    have HO393 := n1_
    have BK394 := n2_
    have BK395 := n3_
    have HB := n4_
    clear n0_ n1_ n2_ n3_ n4_
    refine start_ (n := 15) (S := fun w' => w'.cell? ⟨gb394, 0, none⟩ = some (.bool t386) ∧ w'.cell? ⟨gb394, 1, none⟩ = some (.slice Ao57 t387.length co57) ∧ w'.cell? ⟨gb395, 0, none⟩ = some (.bool t390) ∧ w'.cell? ⟨gb395, 1, none⟩ = some (.slice Ao59 t391.length co59)) (ds := []) #[false, false, false, false, false, false, false, false, false, false, false, false, false, false, false] zz8_11 rfl rfl ⟨(qbC BK394.out 0).trans rfl, (qbC BK394.out 1).trans rfl, (qbC BK395.out 0).trans rfl, (qbC BK395.out 1).trans rfl⟩ (fun hHeld => ?_); refine with_tabW laws_FnMulInt32.tab2 laws_FnMulInt32.bits2 (fun HT_ HW_ => ?_)
    generalize w60.drew = w61 at HO389 HO393 BK394 BK395 HB hHeld ⊢
    refine pure_ (i := 0) (N := some 18) (v := ?_) (a' := ?_) #[true, false, false, false, false, false, false, false, false, false, false, false, false, false, false] rfl rfl (any_of HT_.out zz8_11) (fun _ _ _ h => h) (Or.inl ⟨by rfl, ?_⟩) ?_ ?_
    rotate_left
    ·intro w'
     go_simp
     with_reducible rfl
    rotate_left
    ·simp only [Act.put, qsA, qsZ, qsS, i64_w, i32_w]
     rfl
    refine pure_ (i := 1) (N := some 19) (v := ?_) (a' := ?_) #[true, true, false, false, false, false, false, false, false, false, false, false, false, false, false] rfl rfl (any_of HT_.out zz8_11) (fun _ _ _ h => h) (Or.inl ⟨by rfl, ?_⟩) ?_ ?_
    rotate_left
    ·intro w'
     go_simp
     with_reducible rfl
    rotate_left
    ·simp only [Act.put, qsA, qsZ, qsS, i64_w, i32_w]
     rfl
    refine pure_ (i := 3) (N := some 21) (v := ?_) (a' := ?_) #[true, true, false, true, false, false, false, false, false, false, false, false, false, false, false] rfl rfl (any_of HT_.out zz8_11) (fun _ _ _ h => h) (Or.inl ⟨by rfl, ?_⟩) ?_ ?_
    rotate_left
    ·intro w'
     go_simp
     with_reducible rfl
    rotate_left
    ·simp only [Act.put, qsA, qsZ, qsS, i64_w, i32_w]
     rfl
    refine pure_ (i := 4) (N := some 22) (v := ?_) (a' := ?_) #[true, true, false, true, true, false, false, false, false, false, false, false, false, false, false] rfl rfl (any_of HT_.out zz8_11) (fun _ _ _ h => h) (Or.inl ⟨by rfl, ?_⟩) ?_ ?_
    rotate_left
    ·intro w'
     go_simp
     with_reducible rfl
    rotate_left
    ·simp only [Act.put, qsA, qsZ, qsS, i64_w, i32_w]
     rfl
    refine take_ (i := 7) (N := some 25) (v := ?_) (a' := ?_) #[true, true, false, true, true, false, false, true, false, false, false, false, false, false, false] rfl rfl (take_ofW HT_.out HW_.out zz8_11) (fun _ _ _ h => h) (Or.inl ⟨by rfl, ?_⟩) hHeld ?_ ?_
    rotate_left
    ·rintro w' ⟨s0, s1, s2, s3⟩
     go_simp
     with_reducible rfl
    rotate_left
    ·simp only [Act.put, qsA, qsZ, qsS, i64_w, i32_w]
     rfl
    refine take_ (i := 8) (N := some 26) (v := ?_) (a' := ?_) #[true, true, false, true, true, false, false, true, true, false, false, false, false, false, false] rfl rfl (take_ofW HT_.out HW_.out zz8_11) (fun _ _ _ h => h) (Or.inl ⟨by rfl, ?_⟩) hHeld ?_ ?_
    rotate_left
    ·rintro w' ⟨s0, s1, s2, s3⟩
     go_simp
     with_reducible rfl
    rotate_left
    ·simp only [Act.put, qsA, qsZ, qsS, i64_w, i32_w]
     rfl
    refine one_ (i := 2) (N := some 20) #[true, true, true, true, true, false, false, true, true, false, false, false, false, false, false] rfl rfl (one_of HT_.out zz8_11) zz8_12 (fun K hK => ?_)
    refine goes_ Try.func17 zz8_11 rfl #[.int .i64 (wrap64 (a0))] (by rfl) rfl rfl zz8_2 ?_
    with_reducible refine (spec_WideInt.calls k (wrap64 (a0)) t396 t397 _ A4.out).mono ?_
    rintro e w62 ⟨v398, rfl, ho0, hb⟩
    refine ⟨_, rfl, ?_⟩
    have n0_ := qaM (qvB zz8_4 hb)
    have n1_ := qaM (qvB zz8_5 hb)
    have n2_ := qaM (qvL (qvM (ok' := fun k_ => k_ ≠ gb394 ∧ k_ ≠ gb395) ho0 (fun k_ hk_ => ⟨(qfB (g := gb394) (o := .cells #[.bool t386, .slice Ao57 t387.length co57] 25 (0, 0)) zz8_1 k_ hk_), (qfB (g := gb395) (o := .cells #[.bool t390, .slice Ao59 t391.length co59] 25 (0, 0)) zz8_3 k_ hk_)⟩)) (qbS zz8_0))
    have n3_ := qaM (qbB (g := gb394) (o := .cells #[.bool t386, .slice Ao57 t387.length co57] 25 (0, 0)) zz8_1 hb)
    have n4_ := qaM (qbB (g := gb395) (o := .cells #[.bool t390, .slice Ao59 t391.length co59] 25 (0, 0)) zz8_3 hb)
    have n5_ := qaM (qbT zz8_0 hb)
    clear HO389
    clear HO393
    clear BK394
    clear BK395
    clear HB
    have HO389 := n0_
    have HO393 := n1_
    have HO399 := n2_
    have BK394 := n3_
    have BK395 := n4_
    have HB := n5_
    clear n0_ n1_ n2_ n3_ n4_ n5_
    (try clear hb)
    (try clear hb2)
    (try clear hk)
    (try clear hi)
    (try clear ho0)
    refine hK.out _ _ ⟨(qbC BK394.out 0).trans rfl, (qbC BK394.out 1).trans rfl, (qbC BK395.out 0).trans rfl, (qbC BK395.out 1).trans rfl⟩ (fun hHeld => ?_)
    clear hK K
    refine norm_ (a' := ?_) ?_ ?_
    rotate_left
    ·show Act.put _ (some 20) _ = _
     simp only [Act.put, qsA, qsZ, qsS, i64_w, i32_w]
     rfl
    refine one_ (i := 5) (N := some 23) #[true, true, true, true, true, true, false, true, true, false, false, false, false, false, false] rfl rfl (one_of HT_.out zz8_11) zz8_12 (fun K hK => ?_)
    refine goes_ Try.func17 zz8_11 rfl #[.int .i64 (wrap64 (a1))] (by rfl) rfl rfl zz8_2 ?_
    with_reducible refine (spec_WideInt.calls k (wrap64 (a1)) t400 t401 _ A5.out).mono ?_
    rintro e w63 ⟨v402, rfl, ho0, hb⟩
    refine ⟨_, rfl, ?_⟩
    have n0_ := qaM (qvB zz8_4 hb)
    have n1_ := qaM (qvB zz8_5 hb)
    have n2_ := qaM (qvB zz8_7 hb)
    have n3_ := qaM (qvL (qvM (ok' := fun k_ => k_ ≠ gb394 ∧ k_ ≠ gb395) ho0 (fun k_ hk_ => ⟨(qfB (g := gb394) (o := .cells #[.bool t386, .slice Ao57 t387.length co57] 25 (0, 0)) zz8_1 k_ hk_), (qfB (g := gb395) (o := .cells #[.bool t390, .slice Ao59 t391.length co59] 25 (0, 0)) zz8_3 k_ hk_)⟩)) (qbS zz8_0))
    have n4_ := qaM (qbB (g := gb394) (o := .cells #[.bool t386, .slice Ao57 t387.length co57] 25 (0, 0)) zz8_1 hb)
    have n5_ := qaM (qbB (g := gb395) (o := .cells #[.bool t390, .slice Ao59 t391.length co59] 25 (0, 0)) zz8_3 hb)
    have n6_ := qaM (qbT zz8_0 hb)
    clear HO389
    clear HO393
    clear HO399
    clear BK394
    clear BK395
    clear HB
    have HO389 := n0_
    have HO393 := n1_
    have HO399 := n2_
    have HO403 := n3_
    have BK394 := n4_
    have BK395 := n5_
    have HB := n6_
    clear n0_ n1_ n2_ n3_ n4_ n5_ n6_
    (try clear hb)
    (try clear hb2)
    (try clear hk)
    (try clear hi)
    (try clear ho0)
    obtain ⟨Ao64, co64, eo64⟩ := Kd.V_slice HO399.out
    (first | subst eo64 | (injection eo64 with f1_ f2_ f3_; have f4_ := f1_.symm; have f5_ := f3_.symm; clear f1_ f2_ f3_; subst f4_; subst f5_))
    obtain ⟨Ao65, co65, eo65⟩ := Kd.V_slice HO403.out
    (first | subst eo65 | (injection eo65 with f1_ f2_ f3_; have f4_ := f1_.symm; have f5_ := f3_.symm; clear f1_ f2_ f3_; subst f4_; subst f5_))
    refine hK.out _ _ ⟨(qbC BK394.out 0).trans rfl, (qbC BK394.out 1).trans rfl, (qbC BK395.out 0).trans rfl, (qbC BK395.out 1).trans rfl⟩ (fun hHeld => ?_)
    clear hK K
    refine norm_ (a' := ?_) ?_ ?_
    rotate_left
    ·show Act.put _ (some 23) _ = _
     simp only [Act.put, qsA, qsZ, qsS, i64_w, i32_w]
     rfl
    refine one_ (i := 6) (N := some 24) #[true, true, true, true, true, true, true, true, true, false, false, false, false, false, false] rfl rfl (one_of HT_.out zz8_11) zz8_12 (fun K hK => ?_)
    refine goes_ Try.func16 zz8_11 rfl #[.agg #[.bool t396, .slice Ao64 t397.length co64], .agg #[.bool t400, .slice Ao65 t401.length co65]] (by rfl) rfl rfl zz8_2 ?_
    with_reducible refine (spec_WideMul.calls k t396 _ _ t397 t400 _ _ t401 t404 t405 _ ?side1 ?side2 ?side3 ?side4 A6.out).mono ?_
    (case side1 => repeat (first | exact (qvR HO399.out).2.2 | (with_reducible refine Kd.C_alloc ?_ _) | (with_reducible refine Kd.C_drewN ?_ _) | (with_reducible refine Kd.C_drew ?_)))
    (case side2 => exact (qvR HO399.out).2.1)
    (case side3 => repeat (first | exact (qvR HO403.out).2.2 | (with_reducible refine Kd.C_alloc ?_ _) | (with_reducible refine Kd.C_drewN ?_ _) | (with_reducible refine Kd.C_drew ?_)))
    (case side4 => exact (qvR HO403.out).2.1)
    rintro e w66 ⟨v406, rfl, ho0, hb⟩
    refine ⟨_, rfl, ?_⟩
    have n0_ := qaM (qvB zz8_4 hb)
    have n1_ := qaM (qvB zz8_5 hb)
    have n2_ := qaM (qvB zz8_7 hb)
    have n3_ := qaM (qvB zz8_9 hb)
    have n4_ := qaM (qvL (qvM (ok' := fun k_ => k_ ≠ gb394 ∧ k_ ≠ gb395) ho0 (fun k_ hk_ => ⟨(qfB (g := gb394) (o := .cells #[.bool t386, .slice Ao57 t387.length co57] 25 (0, 0)) zz8_1 k_ hk_), (qfB (g := gb395) (o := .cells #[.bool t390, .slice Ao59 t391.length co59] 25 (0, 0)) zz8_3 k_ hk_)⟩)) (qbS zz8_0))
    have n5_ := qaM (qbB (g := gb394) (o := .cells #[.bool t386, .slice Ao57 t387.length co57] 25 (0, 0)) zz8_1 hb)
    have n6_ := qaM (qbB (g := gb395) (o := .cells #[.bool t390, .slice Ao59 t391.length co59] 25 (0, 0)) zz8_3 hb)
    have n7_ := qaM (qbT zz8_0 hb)
    clear HO389
    clear HO393
    clear HO399
    clear HO403
    clear BK394
    clear BK395
    clear HB
    have HO389 := n0_
    have HO393 := n1_
    have HO399 := n2_
    have HO403 := n3_
    have HO407 := n4_
    have BK394 := n5_
    have BK395 := n6_
    have HB := n7_
    clear n0_ n1_ n2_ n3_ n4_ n5_ n6_ n7_
    (try clear hb)
    (try clear hb2)
    (try clear hk)
    (try clear hi)
    (try clear ho0)
    obtain ⟨Ao67, co67, eo67⟩ := Kd.V_slice HO407.out
    (first | subst eo67 | (injection eo67 with f1_ f2_ f3_; have f4_ := f1_.symm; have f5_ := f3_.symm; clear f1_ f2_ f3_; subst f4_; subst f5_))
    refine hK.out _ _ ⟨(qbC BK394.out 0).trans rfl, (qbC BK394.out 1).trans rfl, (qbC BK395.out 0).trans rfl, (qbC BK395.out 1).trans rfl⟩ (fun hHeld => ?_)
    clear hK K
    refine norm_ (a' := ?_) ?_ ?_
    rotate_left
    ·show Act.put _ (some 24) _ = _
     simp only [Act.put, qsA, qsZ, qsS, i64_w, i32_w]
     rfl
    refine one_ (i := 9) (N := some 27) #[true, true, true, true, true, true, true, true, true, true, false, false, false, false, false] rfl rfl (one_of HT_.out zz8_11) zz8_12 (fun K hK => ?_)
    refine goes_ Try.func10 zz8_11 rfl #[.agg #[.bool t404, .slice Ao67 t405.length co67], .agg #[.bool t386, .slice Ao57 t387.length co57], .agg #[.bool t390, .slice Ao59 t391.length co59]] (by rfl) rfl rfl zz8_2 ?_
    with_reducible refine (laws_fitted.calls k t404 _ _ t405 t386 _ _ t387 t390 _ _ t391 t408 true _ ?side1 ?side2 ?side3 ?side4 ?side5 ?side6 A7.out).mono ?_
    (case side1 => repeat (first | exact (qvR HO407.out).2.2 | (with_reducible refine Kd.C_alloc ?_ _) | (with_reducible refine Kd.C_drewN ?_ _) | (with_reducible refine Kd.C_drew ?_)))
    (case side2 => exact (qvR HO407.out).2.1)
    (case side3 => repeat (first | exact (qvR HO389.out).2.2 | (with_reducible refine Kd.C_alloc ?_ _) | (with_reducible refine Kd.C_drewN ?_ _) | (with_reducible refine Kd.C_drew ?_)))
    (case side4 => exact (qvR HO389.out).2.1)
    (case side5 => repeat (first | exact (qvR HO393.out).2.2 | (with_reducible refine Kd.C_alloc ?_ _) | (with_reducible refine Kd.C_drewN ?_ _) | (with_reducible refine Kd.C_drew ?_)))
    (case side6 => exact (qvR HO393.out).2.1)
    rintro e w68 ⟨rfl, hb⟩
    refine ⟨_, rfl, ?_⟩
    have n0_ := qaM (qvB zz8_4 hb)
    have n1_ := qaM (qvB zz8_5 hb)
    have n2_ := qaM (qvB zz8_7 hb)
    have n3_ := qaM (qvB zz8_9 hb)
    have n4_ := qaM (qvB zz8_10 hb)
    have n5_ := qaM (qbB (g := gb394) (o := .cells #[.bool t386, .slice Ao57 t387.length co57] 25 (0, 0)) zz8_1 hb)
    have n6_ := qaM (qbB (g := gb395) (o := .cells #[.bool t390, .slice Ao59 t391.length co59] 25 (0, 0)) zz8_3 hb)
    have n7_ := qaM (qbT zz8_0 hb)
    clear HO389
    clear HO393
    clear HO399
    clear HO403
    clear HO407
    clear BK394
    clear BK395
    clear HB
    have HO389 := n0_
    have HO393 := n1_
    have HO399 := n2_
    have HO403 := n3_
    have HO407 := n4_
    have BK394 := n5_
    have BK395 := n6_
    have HB := n7_
    clear n0_ n1_ n2_ n3_ n4_ n5_ n6_ n7_
    (try clear hb)
    (try clear hb2)
    (try clear hk)
    (try clear hi)
    refine hK.out _ _ ⟨(qbC BK394.out 0).trans rfl, (qbC BK394.out 1).trans rfl, (qbC BK395.out 0).trans rfl, (qbC BK395.out 1).trans rfl⟩ (fun hHeld => ?_)
    clear hK K
    refine norm_ (a' := ?_) ?_ ?_
    rotate_left
    ·show Act.put _ (some 27) _ = _
     simp only [Act.put, qsA, qsZ, qsS, i64_w, i32_w]
     rfl
    refine pure_ (i := 10) (N := some 17) (v := ?_) (a' := ?_) #[true, true, true, true, true, true, true, true, true, true, true, false, false, false, false] rfl rfl (any_of HT_.out zz8_11) (fun _ _ _ h => h) (Or.inl ⟨by rfl, ?_⟩) ?_ ?_
    rotate_left
    ·intro w'
     go_simp
     with_reducible rfl
    rotate_left
    ·simp only [Act.put, qsA, qsZ, qsS, i64_w, i32_w]
     rfl
    refine pure_ (i := 11) (N := some 28) (v := ?_) (a' := ?_) #[true, true, true, true, true, true, true, true, true, true, true, true, false, false, false] rfl rfl (any_of HT_.out zz8_11) (fun _ _ _ h => h) (Or.inl ⟨by rfl, ?_⟩) ?_ ?_
    rotate_left
    ·intro w'
     go_simp
     with_reducible rfl
    rotate_left
    ·simp only [Act.put, qsA, qsZ, qsS, i64_w, i32_w]
     rfl
    refine pure_ (i := 12) (N := some 29) (v := ?_) (a' := ?_) #[true, true, true, true, true, true, true, true, true, true, true, true, true, false, false] rfl rfl (any_of HT_.out zz8_11) (fun _ _ _ h => h) (Or.inl ⟨by rfl, ?_⟩) ?_ ?_
    rotate_left
    ·intro w'
     go_simp
     with_reducible rfl
    rotate_left
    ·simp only [Act.put, qsA, qsZ, qsS, i64_w, i32_w]
     rfl
    refine pure_ (i := 13) (N := some 7) (v := ?_) (a' := ?_) #[true, true, true, true, true, true, true, true, true, true, true, true, true, true, false] rfl rfl (any_of HT_.out zz8_11) (fun _ _ _ h => h) (Or.inl ⟨by rfl, ?_⟩) ?_ ?_
    rotate_left
    ·intro w'
     go_simp
     with_reducible rfl
    rotate_left
    ·simp only [Act.put, qsA, qsZ, qsS, i64_w, i32_w]
     rfl
    refine pure_ (i := 14) (N := some 8) (v := ?_) (a' := ?_) #[true, true, true, true, true, true, true, true, true, true, true, true, true, true, true] rfl rfl (any_of HT_.out zz8_11) (fun _ _ _ h => h) (Or.inl ⟨by rfl, ?_⟩) ?_ ?_
    rotate_left
    ·intro w'
     go_simp
     with_reducible rfl
    rotate_left
    ·simp only [Act.put, qsA, qsZ, qsS, i64_w, i32_w]
     rfl
    refine done_ (done_of HT_.out zz8_11) ?_
    try go_wp2_with (first | ((with_reducible refine gate_callee (f := 19) rfl ?_); refine goesL_ (some 33) rfl rfl Try.func19 zz8_11 rfl #[.int .i32 a0, .int .i32 a1] rfl zz8_2 ?_; (with_reducible refine (impl_MulInt32.calls a0 a1 t410 t411 _ A8.out).mono ?_); rintro e w69 ⟨rfl, hb⟩; refine ⟨_, rfl, ?_⟩; have n0_ := qaM (qvB zz8_4 hb); have n1_ := qaM (qvB zz8_5 hb); have n2_ := qaM (qvB zz8_7 hb); have n3_ := qaM (qvB zz8_9 hb); have n4_ := qaM (qvB zz8_10 hb); have n5_ := qaM (qbB (g := gb394) (o := .cells #[.bool t386, .slice Ao57 t387.length co57] 25 (0, 0)) zz8_1 hb); have n6_ := qaM (qbB (g := gb395) (o := .cells #[.bool t390, .slice Ao59 t391.length co59] 25 (0, 0)) zz8_3 hb); have n7_ := qaM (qbT zz8_0 hb); clear HO389; clear HO393; clear HO399; clear HO403; clear HO407; clear BK394; clear BK395; clear HB; have HO389 := n0_; have HO393 := n1_; have HO399 := n2_; have HO403 := n3_; have HO407 := n4_; have BK394 := n5_; have BK395 := n6_; have HB := n7_; clear n0_ n1_ n2_ n3_ n4_ n5_ n6_ n7_; (try clear hb); (try clear hb2); (try clear hk); (try clear hi)) | ((with_reducible refine gate_callee (f := 19) rfl ?_); refine goesL_ (some 37) rfl rfl Try.func19 zz8_11 rfl #[.int .i32 2, .int .i32 3] rfl zz8_2 ?_; (with_reducible refine (impl_MulInt32.calls 2 3 t412 t413 _ A9.out).mono ?_); rintro e w70 ⟨rfl, hb⟩; refine ⟨_, rfl, ?_⟩; have n0_ := qaM (qvB zz8_4 hb); have n1_ := qaM (qvB zz8_5 hb); have n2_ := qaM (qvB zz8_7 hb); have n3_ := qaM (qvB zz8_9 hb); have n4_ := qaM (qvB zz8_10 hb); have n5_ := qaM (qbB (g := gb394) (o := .cells #[.bool t386, .slice Ao57 t387.length co57] 25 (0, 0)) zz8_1 hb); have n6_ := qaM (qbB (g := gb395) (o := .cells #[.bool t390, .slice Ao59 t391.length co59] 25 (0, 0)) zz8_3 hb); have n7_ := qaM (qbT zz8_0 hb); clear HO389; clear HO393; clear HO399; clear HO403; clear HO407; clear BK394; clear BK395; clear HB; have HO389 := n0_; have HO393 := n1_; have HO399 := n2_; have HO403 := n3_; have HO407 := n4_; have BK394 := n5_; have BK395 := n6_; have HB := n7_; clear n0_ n1_ n2_ n3_ n4_ n5_ n6_ n7_; (try clear hb); (try clear hb2); (try clear hk); (try clear hi)))
    go_ret
    exact ⟨by first | rfl | (simp [errW_none, errW_some] <;> rfl) | (simp [*, errW_none, errW_some] <;> rfl), by repeat (first | (with_reducible first | exact HB.out | apply qwA | apply qwN | apply qwD | refine qwS ?_ GE394.out | refine qwS ?_ GE395.out) | exact HB.out)⟩
  ·replace c11 := Bool.eq_false_iff.mpr c11
   subst c11
   have H1 : (if t413 = true then (some (t412 == 6)) else (some false)) = some r := by rw [if_neg (show ¬ (false = true) by decide)] at H; exact H
   clear H
   have H := H1
   clear H1
   by_cases c71 : t413 = true
   ·subst c71
    have H1 : (some (t412 == 6)) = some r := by rw [if_pos rfl] at H; exact H
    clear H
    have H := H1
    clear H1
    obtain rfl := Option.some.inj H
    go_enter Try.func6, Try.ntmps6
    try go_wp2_with (first | ((with_reducible refine gate_callee (f := 9) rfl ?_); refine goesL_ (some 14) rfl rfl Try.func9 zz8_11 rfl #[.int .i64 32, .bool true] rfl zz8_2 ?_; (with_reducible refine (laws_bounds.calls k 32 true t386 t387 t390 t391 _ A3.out).mono ?_); rintro e w72 ⟨v388, v392, rfl, ho0, ho1, hb⟩; refine ⟨_, rfl, ?_⟩; have n0_ := qaM (qvL (qvM (ok' := fun k_ => True) ho0 (fun k_ hk_ => trivial)) (qbS zz8_6)); have n1_ := qaM (qvL (qvM (ok' := fun k_ => True) ho1 (fun k_ hk_ => trivial)) (qbS zz8_6)); have n2_ := qaM (qbT zz8_6 hb); clear HB; have HO389 := n0_; have HO393 := n1_; have HB := n2_; clear n0_ n1_ n2_; (try clear hb); (try clear hb2); (try clear hk); (try clear hi); (try clear ho0); (try clear ho1)) | ((with_reducible refine gate_dst (N := 5) rfl ?_); refine box_event ?hg (N := 5) ?hd (cs := #[.bool false, .slice none 0 0]) (t := 25) ?hr ?_; (case hd => rfl); (case hg => rfl); (case hr => first | (go_simp; done) | (go_simp; rfl)); intro gb394 hg w73 hbox hb; have n0_ := qaM (qvB (qvE zz8_4 gb394 (Nat.le_of_eq hg.symm)) hb); have n1_ := qaM (qvB (qvE zz8_5 gb394 (Nat.le_of_eq hg.symm)) hb); have n2_ := qaM (qbT zz8_6 hb); have n3_ := qaM (hbox); have n4_ := qaM ((by rw [hg]; exact (qbS zz8_6) : w.heap.size ≤ gb394)); have n5_ := qaM ((by rw [hg]; exact (qbS zz8_6) : w.heap.size ≤ gb394)); clear HO389; clear HO393; clear HB; have HO389 := n0_; have HO393 := n1_; have HB := n2_; have BK394 := n3_; have GW394 := n4_; have GE394 := n5_; clear n0_ n1_ n2_ n3_ n4_ n5_; clear hb hbox hg) | ((with_reducible refine gate_dst (N := 6) rfl ?_); refine box_event ?hg (N := 6) ?hd (cs := #[.bool false, .slice none 0 0]) (t := 25) ?hr ?_; (case hd => rfl); (case hg => rfl); (case hr => first | (go_simp; done) | (go_simp; rfl)); intro gb395 hg w74 hbox hb; have n0_ := qaM (qvB (qvE zz8_4 gb395 (Nat.le_of_eq hg.symm)) hb); have n1_ := qaM (qvB (qvE zz8_5 gb395 (Nat.le_of_eq hg.symm)) hb); have n2_ := qaM (qbB (g := gb394) (o := .cells #[.bool false, .slice none 0 0] 25 (0, 0)) zz8_1 hb); have n3_ := qaM (qbT zz8_8 hb); have n4_ := qaM (hbox); have n5_ := qaM ((by rw [hg]; exact (qbS zz8_8) : w.heap.size ≤ gb395)); have n6_ := qaM ((by rw [hg]; exact (qbS zz8_8) : w.heap.size ≤ gb395)); have n7_ := qaM ((by rw [hg]; exact qnL (qbL (g := gb394) (o := .cells #[.bool false, .slice none 0 0] 25 (0, 0)) zz8_1) : gb394 ≠ gb395)); have n8_ := qaM ((by rw [hg]; exact qnG (qbL (g := gb394) (o := .cells #[.bool false, .slice none 0 0] 25 (0, 0)) zz8_1) : gb395 ≠ gb394)); clear HO389; clear HO393; clear BK394; clear HB; have HO389 := n0_; have HO393 := n1_; have BK394 := n2_; have HB := n3_; have BK395 := n4_; have GW395 := n5_; have GE395 := n6_; have NB394_395 := n7_; have NB395_394 := n8_; clear n0_ n1_ n2_ n3_ n4_ n5_ n6_ n7_ n8_; clear hb hbox hg; have hnb75 := NB394_395.out; have hnc75 := NB395_394.out; have hcz76_0 : w74.cell? ⟨gb394, 0, none⟩ = some (.bool false) := (qbC BK394.out 0).trans rfl; have hcz76_1 : w74.cell? ⟨gb394, 1, none⟩ = some (.slice none 0 0) := (qbC BK394.out 1).trans rfl; have hfz76_0 := blk_frozen BK394.out 0; have hfz76_1 := blk_frozen BK394.out 1; obtain ⟨Ao77, co77, eo77⟩ := Kd.V_slice HO389.out; subst eo77; have hcz78_0 : w74.cell? ⟨gb395, 0, none⟩ = some (.bool false) := (qbC BK395.out 0).trans rfl; have hcz78_1 : w74.cell? ⟨gb395, 1, none⟩ = some (.slice none 0 0) := (qbC BK395.out 1).trans rfl; have hfz78_0 := blk_frozen BK395.out 0; have hfz78_1 := blk_frozen BK395.out 1; obtain ⟨Ao79, co79, eo79⟩ := Kd.V_slice HO393.out; subst eo79))
    have n0_ : Aside0 (Kd.V (Kd.int .u32) 22 ((((w74.setCell ⟨gb394, 0, none⟩ (.bool t386)).setCell ⟨gb394, 1, none⟩ (.slice Ao77 t387.length co77)).setCell ⟨gb395, 0, none⟩ (.bool t390)).setCell ⟨gb395, 1, none⟩ (.slice Ao79 t391.length co79)) w.heap.size (fun k_ => k_ ≠ gb394 ∧ k_ ≠ gb395) (.slice Ao77 t387.length co77) t387) := ⟨by (with_reducible repeat (first | apply qvA | apply qvN | apply qvD)); exact qvM (qvF (p := ⟨gb395, 1, none⟩) (qvF (p := ⟨gb395, 0, none⟩) (qvF (p := ⟨gb394, 1, none⟩) (qvF (p := ⟨gb394, 0, none⟩) (qvM (qvM HO389.out (fun k_ hk => (⟨hk, hk.1.2⟩ : _ ∧ k_ ≠ gb394))) (fun k_ hk => (⟨hk, hk.1.2⟩ : _ ∧ k_ ≠ gb395))) (fun _ hk => hk.1.2) (.bool t386)) (fun _ hk => hk.1.2) (.slice Ao77 t387.length co77)) (fun _ hk => hk.2) (.bool t390)) (fun _ hk => hk.2) (.slice Ao79 t391.length co79)) (fun _ hk => ⟨hk.1.1.1.2, hk.1.1.2⟩)⟩
    have n1_ : Aside0 (Kd.V (Kd.int .u32) 22 ((((w74.setCell ⟨gb394, 0, none⟩ (.bool t386)).setCell ⟨gb394, 1, none⟩ (.slice Ao77 t387.length co77)).setCell ⟨gb395, 0, none⟩ (.bool t390)).setCell ⟨gb395, 1, none⟩ (.slice Ao79 t391.length co79)) w.heap.size (fun k_ => k_ ≠ gb394 ∧ k_ ≠ gb395) (.slice Ao79 t391.length co79) t391) := ⟨by (with_reducible repeat (first | apply qvA | apply qvN | apply qvD)); exact qvM (qvF (p := ⟨gb395, 1, none⟩) (qvF (p := ⟨gb395, 0, none⟩) (qvF (p := ⟨gb394, 1, none⟩) (qvF (p := ⟨gb394, 0, none⟩) (qvM (qvM HO393.out (fun k_ hk => (⟨hk, hk.1.2⟩ : _ ∧ k_ ≠ gb394))) (fun k_ hk => (⟨hk, hk.1.2⟩ : _ ∧ k_ ≠ gb395))) (fun _ hk => hk.1.2) (.bool t386)) (fun _ hk => hk.1.2) (.slice Ao77 t387.length co77)) (fun _ hk => hk.2) (.bool t390)) (fun _ hk => hk.2) (.slice Ao79 t391.length co79)) (fun _ hk => ⟨hk.1.1.1.2, hk.1.1.2⟩)⟩
    have n2_ : Aside0 (((((w74.setCell ⟨gb394, 0, none⟩ (.bool t386)).setCell ⟨gb394, 1, none⟩ (.slice Ao77 t387.length co77)).setCell ⟨gb395, 0, none⟩ (.bool t390)).setCell ⟨gb395, 1, none⟩ (.slice Ao79 t391.length co79)).heap[gb394]? = some (.cells #[.bool t386, .slice Ao77 t387.length co77] 25 (0, 0))) := ⟨by (with_reducible repeat (first | refine qbN ?_ _ | refine qbD ?_ | refine qbA ?_ _)); refine qbF ?_ NB394_395.out _; (with_reducible repeat (first | refine qbN ?_ _ | refine qbD ?_ | refine qbA ?_ _)); refine qbF ?_ NB394_395.out _; (with_reducible repeat (first | refine qbN ?_ _ | refine qbD ?_ | refine qbA ?_ _)); refine qbP (cs := #[.bool t386, .slice none 0 0]) ?_ 1 _ rfl; (with_reducible repeat (first | refine qbN ?_ _ | refine qbD ?_ | refine qbA ?_ _)); refine qbP (cs := #[.bool false, .slice none 0 0]) ?_ 0 _ rfl; (with_reducible repeat (first | refine qbN ?_ _ | refine qbD ?_ | refine qbA ?_ _)); exact BK394.out⟩
    have n3_ : Aside0 (((((w74.setCell ⟨gb394, 0, none⟩ (.bool t386)).setCell ⟨gb394, 1, none⟩ (.slice Ao77 t387.length co77)).setCell ⟨gb395, 0, none⟩ (.bool t390)).setCell ⟨gb395, 1, none⟩ (.slice Ao79 t391.length co79)).heap[gb395]? = some (.cells #[.bool t390, .slice Ao79 t391.length co79] 25 (0, 0))) := ⟨by (with_reducible repeat (first | refine qbN ?_ _ | refine qbD ?_ | refine qbA ?_ _)); refine qbP (cs := #[.bool t390, .slice none 0 0]) ?_ 1 _ rfl; (with_reducible repeat (first | refine qbN ?_ _ | refine qbD ?_ | refine qbA ?_ _)); refine qbP (cs := #[.bool false, .slice none 0 0]) ?_ 0 _ rfl; (with_reducible repeat (first | refine qbN ?_ _ | refine qbD ?_ | refine qbA ?_ _)); refine qbF ?_ NB395_394.out _; (with_reducible repeat (first | refine qbN ?_ _ | refine qbD ?_ | refine qbA ?_ _)); refine qbF ?_ NB395_394.out _; (with_reducible repeat (first | refine qbN ?_ _ | refine qbD ?_ | refine qbA ?_ _)); exact BK395.out⟩
    have n4_ : Aside0 (Below w.heap.size w ((((w74.setCell ⟨gb394, 0, none⟩ (.bool t386)).setCell ⟨gb394, 1, none⟩ (.slice Ao77 t387.length co77)).setCell ⟨gb395, 0, none⟩ (.bool t390)).setCell ⟨gb395, 1, none⟩ (.slice Ao79 t391.length co79))) := ⟨by repeat (first | (with_reducible first | exact HB.out | apply qwA | apply qwN | apply qwD | refine qwS ?_ GE394.out | refine qwS ?_ GE395.out) | exact HB.out)⟩
    (try clear HO389)
    (try clear HO393)
    (try clear BK394)
    (try clear BK395)
    (try clear HB)
    generalize ((((w74.setCell ⟨gb394, 0, none⟩ (.bool t386)).setCell ⟨gb394, 1, none⟩ (.slice Ao77 t387.length co77)).setCell ⟨gb395, 0, none⟩ (.bool t390)).setCell ⟨gb395, 1, none⟩ (.slice Ao79 t391.length co79)) = w80 at n0_ n1_ n2_ n3_ n4_ ⊢
    have HO389 := n0_
    have HO393 := n1_
    have BK394 := n2_
    have BK395 := n3_
    have HB := n4_
    clear n0_ n1_ n2_ n3_ n4_
    have n0_ := qaM (qvD HO389.out)
    have n1_ := qaM (qvD HO393.out)
    have n2_ := qaM (qbD BK394.out)
    have n3_ := qaM (qbD BK395.out)
    have n4_ := qaM (qwD HB.out)
    clear HO389
    clear HO393
    clear BK394
    clear BK395
    clear HB
    have HO389 := n0_
    have HO393 := n1_
    have BK394 := n2_
    have BK395 := n3_
    have HB := n4_
    clear n0_ n1_ n2_ n3_ n4_
    refine start_ (n := 15) (S := fun w' => w'.cell? ⟨gb394, 0, none⟩ = some (.bool t386) ∧ w'.cell? ⟨gb394, 1, none⟩ = some (.slice Ao77 t387.length co77) ∧ w'.cell? ⟨gb395, 0, none⟩ = some (.bool t390) ∧ w'.cell? ⟨gb395, 1, none⟩ = some (.slice Ao79 t391.length co79)) (ds := []) #[false, false, false, false, false, false, false, false, false, false, false, false, false, false, false] zz8_11 rfl rfl ⟨(qbC BK394.out 0).trans rfl, (qbC BK394.out 1).trans rfl, (qbC BK395.out 0).trans rfl, (qbC BK395.out 1).trans rfl⟩ (fun hHeld => ?_); refine with_tabW laws_FnMulInt32.tab2 laws_FnMulInt32.bits2 (fun HT_ HW_ => ?_)
    generalize w80.drew = w81 at HO389 HO393 BK394 BK395 HB hHeld ⊢
    refine pure_ (i := 0) (N := some 18) (v := ?_) (a' := ?_) #[true, false, false, false, false, false, false, false, false, false, false, false, false, false, false] rfl rfl (any_of HT_.out zz8_11) (fun _ _ _ h => h) (Or.inl ⟨by rfl, ?_⟩) ?_ ?_
    rotate_left
    ·intro w'
     go_simp
     with_reducible rfl
    rotate_left
    ·simp only [Act.put, qsA, qsZ, qsS, i64_w, i32_w]
     rfl
    refine pure_ (i := 1) (N := some 19) (v := ?_) (a' := ?_) #[true, true, false, false, false, false, false, false, false, false, false, false, false, false, false] rfl rfl (any_of HT_.out zz8_11) (fun _ _ _ h => h) (Or.inl ⟨by rfl, ?_⟩) ?_ ?_
    rotate_left
    ·intro w'
     go_simp
     with_reducible rfl
    rotate_left
    ·simp only [Act.put, qsA, qsZ, qsS, i64_w, i32_w]
     rfl
    refine pure_ (i := 3) (N := some 21) (v := ?_) (a' := ?_) #[true, true, false, true, false, false, false, false, false, false, false, false, false, false, false] rfl rfl (any_of HT_.out zz8_11) (fun _ _ _ h => h) (Or.inl ⟨by rfl, ?_⟩) ?_ ?_
    rotate_left
    ·intro w'
     go_simp
     with_reducible rfl
    rotate_left
    ·simp only [Act.put, qsA, qsZ, qsS, i64_w, i32_w]
     rfl
    refine pure_ (i := 4) (N := some 22) (v := ?_) (a' := ?_) #[true, true, false, true, true, false, false, false, false, false, false, false, false, false, false] rfl rfl (any_of HT_.out zz8_11) (fun _ _ _ h => h) (Or.inl ⟨by rfl, ?_⟩) ?_ ?_
    rotate_left
    ·intro w'
     go_simp
     with_reducible rfl
    rotate_left
    ·simp only [Act.put, qsA, qsZ, qsS, i64_w, i32_w]
     rfl
    refine take_ (i := 7) (N := some 25) (v := ?_) (a' := ?_) #[true, true, false, true, true, false, false, true, false, false, false, false, false, false, false] rfl rfl (take_ofW HT_.out HW_.out zz8_11) (fun _ _ _ h => h) (Or.inl ⟨by rfl, ?_⟩) hHeld ?_ ?_
    rotate_left
    ·rintro w' ⟨s0, s1, s2, s3⟩
     go_simp
     with_reducible rfl
    rotate_left
    ·simp only [Act.put, qsA, qsZ, qsS, i64_w, i32_w]
     rfl
    refine take_ (i := 8) (N := some 26) (v := ?_) (a' := ?_) #[true, true, false, true, true, false, false, true, true, false, false, false, false, false, false] rfl rfl (take_ofW HT_.out HW_.out zz8_11) (fun _ _ _ h => h) (Or.inl ⟨by rfl, ?_⟩) hHeld ?_ ?_
    rotate_left
    ·rintro w' ⟨s0, s1, s2, s3⟩
     go_simp
     with_reducible rfl
    rotate_left
    ·simp only [Act.put, qsA, qsZ, qsS, i64_w, i32_w]
     rfl
    refine one_ (i := 2) (N := some 20) #[true, true, true, true, true, false, false, true, true, false, false, false, false, false, false] rfl rfl (one_of HT_.out zz8_11) zz8_12 (fun K hK => ?_)
    refine goes_ Try.func17 zz8_11 rfl #[.int .i64 (wrap64 (a0))] (by rfl) rfl rfl zz8_2 ?_
    with_reducible refine (spec_WideInt.calls k (wrap64 (a0)) t396 t397 _ A4.out).mono ?_
    rintro e w82 ⟨v398, rfl, ho0, hb⟩
    refine ⟨_, rfl, ?_⟩
    have n0_ := qaM (qvB zz8_4 hb)
    have n1_ := qaM (qvB zz8_5 hb)
    have n2_ := qaM (qvL (qvM (ok' := fun k_ => k_ ≠ gb394 ∧ k_ ≠ gb395) ho0 (fun k_ hk_ => ⟨(qfB (g := gb394) (o := .cells #[.bool t386, .slice Ao77 t387.length co77] 25 (0, 0)) zz8_1 k_ hk_), (qfB (g := gb395) (o := .cells #[.bool t390, .slice Ao79 t391.length co79] 25 (0, 0)) zz8_3 k_ hk_)⟩)) (qbS zz8_0))
    have n3_ := qaM (qbB (g := gb394) (o := .cells #[.bool t386, .slice Ao77 t387.length co77] 25 (0, 0)) zz8_1 hb)
    have n4_ := qaM (qbB (g := gb395) (o := .cells #[.bool t390, .slice Ao79 t391.length co79] 25 (0, 0)) zz8_3 hb)
    have n5_ := qaM (qbT zz8_0 hb)
    clear HO389
    clear HO393
    clear BK394
    clear BK395
    clear HB
    have HO389 := n0_
    have HO393 := n1_
    have HO399 := n2_
    have BK394 := n3_
    have BK395 := n4_
    have HB := n5_
    clear n0_ n1_ n2_ n3_ n4_ n5_
    (try clear hb)
    (try clear hb2)
    (try clear hk)
    (try clear hi)
    (try clear ho0)
    refine hK.out _ _ ⟨(qbC BK394.out 0).trans rfl, (qbC BK394.out 1).trans rfl, (qbC BK395.out 0).trans rfl, (qbC BK395.out 1).trans rfl⟩ (fun hHeld => ?_)
    clear hK K
    refine norm_ (a' := ?_) ?_ ?_
    rotate_left
    ·show Act.put _ (some 20) _ = _
     simp only [Act.put, qsA, qsZ, qsS, i64_w, i32_w]
     rfl
    refine one_ (i := 5) (N := some 23) #[true, true, true, true, true, true, false, true, true, false, false, false, false, false, false] rfl rfl (one_of HT_.out zz8_11) zz8_12 (fun K hK => ?_)
    refine goes_ Try.func17 zz8_11 rfl #[.int .i64 (wrap64 (a1))] (by rfl) rfl rfl zz8_2 ?_
    with_reducible refine (spec_WideInt.calls k (wrap64 (a1)) t400 t401 _ A5.out).mono ?_
    rintro e w83 ⟨v402, rfl, ho0, hb⟩
    refine ⟨_, rfl, ?_⟩
    have n0_ := qaM (qvB zz8_4 hb)
    have n1_ := qaM (qvB zz8_5 hb)
    have n2_ := qaM (qvB zz8_7 hb)
    have n3_ := qaM (qvL (qvM (ok' := fun k_ => k_ ≠ gb394 ∧ k_ ≠ gb395) ho0 (fun k_ hk_ => ⟨(qfB (g := gb394) (o := .cells #[.bool t386, .slice Ao77 t387.length co77] 25 (0, 0)) zz8_1 k_ hk_), (qfB (g := gb395) (o := .cells #[.bool t390, .slice Ao79 t391.length co79] 25 (0, 0)) zz8_3 k_ hk_)⟩)) (qbS zz8_0))
    have n4_ := qaM (qbB (g := gb394) (o := .cells #[.bool t386, .slice Ao77 t387.length co77] 25 (0, 0)) zz8_1 hb)
    have n5_ := qaM (qbB (g := gb395) (o := .cells #[.bool t390, .slice Ao79 t391.length co79] 25 (0, 0)) zz8_3 hb)
    have n6_ := qaM (qbT zz8_0 hb)
    clear HO389
    clear HO393
    clear HO399
    clear BK394
    clear BK395
    clear HB
    have HO389 := n0_
    have HO393 := n1_
    have HO399 := n2_
    have HO403 := n3_
    have BK394 := n4_
    have BK395 := n5_
    have HB := n6_
    clear n0_ n1_ n2_ n3_ n4_ n5_ n6_
    (try clear hb)
    (try clear hb2)
    (try clear hk)
    (try clear hi)
    (try clear ho0)
    obtain ⟨Ao84, co84, eo84⟩ := Kd.V_slice HO399.out
    (first | subst eo84 | (injection eo84 with f1_ f2_ f3_; have f4_ := f1_.symm; have f5_ := f3_.symm; clear f1_ f2_ f3_; subst f4_; subst f5_))
    obtain ⟨Ao85, co85, eo85⟩ := Kd.V_slice HO403.out
    (first | subst eo85 | (injection eo85 with f1_ f2_ f3_; have f4_ := f1_.symm; have f5_ := f3_.symm; clear f1_ f2_ f3_; subst f4_; subst f5_))
    refine hK.out _ _ ⟨(qbC BK394.out 0).trans rfl, (qbC BK394.out 1).trans rfl, (qbC BK395.out 0).trans rfl, (qbC BK395.out 1).trans rfl⟩ (fun hHeld => ?_)
    clear hK K
    refine norm_ (a' := ?_) ?_ ?_
    rotate_left
    ·show Act.put _ (some 23) _ = _
     simp only [Act.put, qsA, qsZ, qsS, i64_w, i32_w]
     rfl
    refine one_ (i := 6) (N := some 24) #[true, true, true, true, true, true, true, true, true, false, false, false, false, false, false] rfl rfl (one_of HT_.out zz8_11) zz8_12 (fun K hK => ?_)
    refine goes_ Try.func16 zz8_11 rfl #[.agg #[.bool t396, .slice Ao84 t397.length co84], .agg #[.bool t400, .slice Ao85 t401.length co85]] (by rfl) rfl rfl zz8_2 ?_
    with_reducible refine (spec_WideMul.calls k t396 _ _ t397 t400 _ _ t401 t404 t405 _ ?side1 ?side2 ?side3 ?side4 A6.out).mono ?_
    (case side1 => repeat (first | exact (qvR HO399.out).2.2 | (with_reducible refine Kd.C_alloc ?_ _) | (with_reducible refine Kd.C_drewN ?_ _) | (with_reducible refine Kd.C_drew ?_)))
    (case side2 => exact (qvR HO399.out).2.1)
    (case side3 => repeat (first | exact (qvR HO403.out).2.2 | (with_reducible refine Kd.C_alloc ?_ _) | (with_reducible refine Kd.C_drewN ?_ _) | (with_reducible refine Kd.C_drew ?_)))
    (case side4 => exact (qvR HO403.out).2.1)
    rintro e w86 ⟨v406, rfl, ho0, hb⟩
    refine ⟨_, rfl, ?_⟩
    have n0_ := qaM (qvB zz8_4 hb)
    have n1_ := qaM (qvB zz8_5 hb)
    have n2_ := qaM (qvB zz8_7 hb)
    have n3_ := qaM (qvB zz8_9 hb)
    have n4_ := qaM (qvL (qvM (ok' := fun k_ => k_ ≠ gb394 ∧ k_ ≠ gb395) ho0 (fun k_ hk_ => ⟨(qfB (g := gb394) (o := .cells #[.bool t386, .slice Ao77 t387.length co77] 25 (0, 0)) zz8_1 k_ hk_), (qfB (g := gb395) (o := .cells #[.bool t390, .slice Ao79 t391.length co79] 25 (0, 0)) zz8_3 k_ hk_)⟩)) (qbS zz8_0))
    have n5_ := qaM (qbB (g := gb394) (o := .cells #[.bool t386, .slice Ao77 t387.length co77] 25 (0, 0)) zz8_1 hb)
    have n6_ := qaM (qbB (g := gb395) (o := .cells #[.bool t390, .slice Ao79 t391.length co79] 25 (0, 0)) zz8_3 hb)
    have n7_ := qaM (qbT zz8_0 hb)
    clear HO389
    clear HO393
    clear HO399
    clear HO403
    clear BK394
    clear BK395
    clear HB
    have HO389 := n0_
    have HO393 := n1_
    have HO399 := n2_
    have HO403 := n3_
    have HO407 := n4_
    have BK394 := n5_
    have BK395 := n6_
    have HB := n7_
    clear n0_ n1_ n2_ n3_ n4_ n5_ n6_ n7_
    (try clear hb)
    (try clear hb2)
    (try clear hk)
    (try clear hi)
    (try clear ho0)
    obtain ⟨Ao87, co87, eo87⟩ := Kd.V_slice HO407.out
    (first | subst eo87 | (injection eo87 with f1_ f2_ f3_; have f4_ := f1_.symm; have f5_ := f3_.symm; clear f1_ f2_ f3_; subst f4_; subst f5_))
    refine hK.out _ _ ⟨(qbC BK394.out 0).trans rfl, (qbC BK394.out 1).trans rfl, (qbC BK395.out 0).trans rfl, (qbC BK395.out 1).trans rfl⟩ (fun hHeld => ?_)
    clear hK K
    refine norm_ (a' := ?_) ?_ ?_
    rotate_left
    ·show Act.put _ (some 24) _ = _
     simp only [Act.put, qsA, qsZ, qsS, i64_w, i32_w]
     rfl
    refine one_ (i := 9) (N := some 27) #[true, true, true, true, true, true, true, true, true, true, false, false, false, false, false] rfl rfl (one_of HT_.out zz8_11) zz8_12 (fun K hK => ?_)
    refine goes_ Try.func10 zz8_11 rfl #[.agg #[.bool t404, .slice Ao87 t405.length co87], .agg #[.bool t386, .slice Ao77 t387.length co77], .agg #[.bool t390, .slice Ao79 t391.length co79]] (by rfl) rfl rfl zz8_2 ?_
    with_reducible refine (laws_fitted.calls k t404 _ _ t405 t386 _ _ t387 t390 _ _ t391 t408 false _ ?side1 ?side2 ?side3 ?side4 ?side5 ?side6 A7.out).mono ?_
    (case side1 => repeat (first | exact (qvR HO407.out).2.2 | (with_reducible refine Kd.C_alloc ?_ _) | (with_reducible refine Kd.C_drewN ?_ _) | (with_reducible refine Kd.C_drew ?_)))
    (case side2 => exact (qvR HO407.out).2.1)
    (case side3 => repeat (first | exact (qvR HO389.out).2.2 | (with_reducible refine Kd.C_alloc ?_ _) | (with_reducible refine Kd.C_drewN ?_ _) | (with_reducible refine Kd.C_drew ?_)))
    (case side4 => exact (qvR HO389.out).2.1)
    (case side5 => repeat (first | exact (qvR HO393.out).2.2 | (with_reducible refine Kd.C_alloc ?_ _) | (with_reducible refine Kd.C_drewN ?_ _) | (with_reducible refine Kd.C_drew ?_)))
    (case side6 => exact (qvR HO393.out).2.1)
    rintro e w88 ⟨rfl, hb⟩
    refine ⟨_, rfl, ?_⟩
    have n0_ := qaM (qvB zz8_4 hb)
    have n1_ := qaM (qvB zz8_5 hb)
    have n2_ := qaM (qvB zz8_7 hb)
    have n3_ := qaM (qvB zz8_9 hb)
    have n4_ := qaM (qvB zz8_10 hb)
    have n5_ := qaM (qbB (g := gb394) (o := .cells #[.bool t386, .slice Ao77 t387.length co77] 25 (0, 0)) zz8_1 hb)
    have n6_ := qaM (qbB (g := gb395) (o := .cells #[.bool t390, .slice Ao79 t391.length co79] 25 (0, 0)) zz8_3 hb)
    have n7_ := qaM (qbT zz8_0 hb)
    clear HO389
    clear HO393
    clear HO399
    clear HO403
    clear HO407
    clear BK394
    clear BK395
    clear HB
    have HO389 := n0_
    have HO393 := n1_
    have HO399 := n2_
    have HO403 := n3_
    have HO407 := n4_
    have BK394 := n5_
    have BK395 := n6_
    have HB := n7_
    clear n0_ n1_ n2_ n3_ n4_ n5_ n6_ n7_
    (try clear hb)
    (try clear hb2)
    (try clear hk)
    (try clear hi)
    refine hK.out _ _ ⟨(qbC BK394.out 0).trans rfl, (qbC BK394.out 1).trans rfl, (qbC BK395.out 0).trans rfl, (qbC BK395.out 1).trans rfl⟩ (fun hHeld => ?_)
    clear hK K
    refine norm_ (a' := ?_) ?_ ?_
    rotate_left
    ·show Act.put _ (some 27) _ = _
     simp only [Act.put, qsA, qsZ, qsS, i64_w, i32_w]
     rfl
    refine pure_ (i := 10) (N := some 17) (v := ?_) (a' := ?_) #[true, true, true, true, true, true, true, true, true, true, true, false, false, false, false] rfl rfl (any_of HT_.out zz8_11) (fun _ _ _ h => h) (Or.inl ⟨by rfl, ?_⟩) ?_ ?_
    rotate_left
    ·intro w'
     go_simp
     with_reducible rfl
    rotate_left
    ·simp only [Act.put, qsA, qsZ, qsS, i64_w, i32_w]
     rfl
    refine pure_ (i := 11) (N := some 28) (v := ?_) (a' := ?_) #[true, true, true, true, true, true, true, true, true, true, true, true, false, false, false] rfl rfl (any_of HT_.out zz8_11) (fun _ _ _ h => h) (Or.inl ⟨by rfl, ?_⟩) ?_ ?_
    rotate_left
    ·intro w'
     go_simp
     with_reducible rfl
    rotate_left
    ·simp only [Act.put, qsA, qsZ, qsS, i64_w, i32_w]
     rfl
    refine pure_ (i := 12) (N := some 29) (v := ?_) (a' := ?_) #[true, true, true, true, true, true, true, true, true, true, true, true, true, false, false] rfl rfl (any_of HT_.out zz8_11) (fun _ _ _ h => h) (Or.inl ⟨by rfl, ?_⟩) ?_ ?_
    rotate_left
    ·intro w'
     go_simp
     with_reducible rfl
    rotate_left
    ·simp only [Act.put, qsA, qsZ, qsS, i64_w, i32_w]
     rfl
    refine pure_ (i := 13) (N := some 7) (v := ?_) (a' := ?_) #[true, true, true, true, true, true, true, true, true, true, true, true, true, true, false] rfl rfl (any_of HT_.out zz8_11) (fun _ _ _ h => h) (Or.inl ⟨by rfl, ?_⟩) ?_ ?_
    rotate_left
    ·intro w'
     go_simp
     with_reducible rfl
    rotate_left
    ·simp only [Act.put, qsA, qsZ, qsS, i64_w, i32_w]
     rfl
    refine pure_ (i := 14) (N := some 8) (v := ?_) (a' := ?_) #[true, true, true, true, true, true, true, true, true, true, true, true, true, true, true] rfl rfl (any_of HT_.out zz8_11) (fun _ _ _ h => h) (Or.inl ⟨by rfl, ?_⟩) ?_ ?_
    rotate_left
    ·intro w'
     go_simp
     with_reducible rfl
    rotate_left
    ·simp only [Act.put, qsA, qsZ, qsS, i64_w, i32_w]
     rfl
    refine done_ (done_of HT_.out zz8_11) ?_
    try go_wp2_with (first | ((with_reducible refine gate_callee (f := 19) rfl ?_); refine goesL_ (some 33) rfl rfl Try.func19 zz8_11 rfl #[.int .i32 a0, .int .i32 a1] rfl zz8_2 ?_; (with_reducible refine (impl_MulInt32.calls a0 a1 t410 t411 _ A8.out).mono ?_); rintro e w89 ⟨rfl, hb⟩; refine ⟨_, rfl, ?_⟩; have n0_ := qaM (qvB zz8_4 hb); have n1_ := qaM (qvB zz8_5 hb); have n2_ := qaM (qvB zz8_7 hb); have n3_ := qaM (qvB zz8_9 hb); have n4_ := qaM (qvB zz8_10 hb); have n5_ := qaM (qbB (g := gb394) (o := .cells #[.bool t386, .slice Ao77 t387.length co77] 25 (0, 0)) zz8_1 hb); have n6_ := qaM (qbB (g := gb395) (o := .cells #[.bool t390, .slice Ao79 t391.length co79] 25 (0, 0)) zz8_3 hb); have n7_ := qaM (qbT zz8_0 hb); clear HO389; clear HO393; clear HO399; clear HO403; clear HO407; clear BK394; clear BK395; clear HB; have HO389 := n0_; have HO393 := n1_; have HO399 := n2_; have HO403 := n3_; have HO407 := n4_; have BK394 := n5_; have BK395 := n6_; have HB := n7_; clear n0_ n1_ n2_ n3_ n4_ n5_ n6_ n7_; (try clear hb); (try clear hb2); (try clear hk); (try clear hi)) | ((with_reducible refine gate_callee (f := 19) rfl ?_); refine goesL_ (some 37) rfl rfl Try.func19 zz8_11 rfl #[.int .i32 2, .int .i32 3] rfl zz8_2 ?_; (with_reducible refine (impl_MulInt32.calls 2 3 t412 true _ A9.out).mono ?_); rintro e w90 ⟨rfl, hb⟩; refine ⟨_, rfl, ?_⟩; have n0_ := qaM (qvB zz8_4 hb); have n1_ := qaM (qvB zz8_5 hb); have n2_ := qaM (qvB zz8_7 hb); have n3_ := qaM (qvB zz8_9 hb); have n4_ := qaM (qvB zz8_10 hb); have n5_ := qaM (qbB (g := gb394) (o := .cells #[.bool t386, .slice Ao77 t387.length co77] 25 (0, 0)) zz8_1 hb); have n6_ := qaM (qbB (g := gb395) (o := .cells #[.bool t390, .slice Ao79 t391.length co79] 25 (0, 0)) zz8_3 hb); have n7_ := qaM (qbT zz8_0 hb); clear HO389; clear HO393; clear HO399; clear HO403; clear HO407; clear BK394; clear BK395; clear HB; have HO389 := n0_; have HO393 := n1_; have HO399 := n2_; have HO403 := n3_; have HO407 := n4_; have BK394 := n5_; have BK395 := n6_; have HB := n7_; clear n0_ n1_ n2_ n3_ n4_ n5_ n6_ n7_; (try clear hb); (try clear hb2); (try clear hk); (try clear hi)))
    go_ret
    exact ⟨by first | rfl | (simp [errW_none, errW_some] <;> rfl) | (simp [*, errW_none, errW_some] <;> rfl), by repeat (first | (with_reducible first | exact HB.out | apply qwA | apply qwN | apply qwD | refine qwS ?_ GE394.out | refine qwS ?_ GE395.out) | exact HB.out)⟩
   ·replace c71 := Bool.eq_false_iff.mpr c71
    subst c71
    have H1 : (some false) = some r := by rw [if_neg (show ¬ (false = true) by decide)] at H; exact H
    clear H
    have H := H1
    clear H1
    obtain rfl := Option.some.inj H
    go_enter Try.func6, Try.ntmps6
    try go_wp2_with (first | ((with_reducible refine gate_callee (f := 9) rfl ?_); refine goesL_ (some 14) rfl rfl Try.func9 zz8_11 rfl #[.int .i64 32, .bool true] rfl zz8_2 ?_; (with_reducible refine (laws_bounds.calls k 32 true t386 t387 t390 t391 _ A3.out).mono ?_); rintro e w91 ⟨v388, v392, rfl, ho0, ho1, hb⟩; refine ⟨_, rfl, ?_⟩; have n0_ := qaM (qvL (qvM (ok' := fun k_ => True) ho0 (fun k_ hk_ => trivial)) (qbS zz8_6)); have n1_ := qaM (qvL (qvM (ok' := fun k_ => True) ho1 (fun k_ hk_ => trivial)) (qbS zz8_6)); have n2_ := qaM (qbT zz8_6 hb); clear HB; have HO389 := n0_; have HO393 := n1_; have HB := n2_; clear n0_ n1_ n2_; (try clear hb); (try clear hb2); (try clear hk); (try clear hi); (try clear ho0); (try clear ho1)) | ((with_reducible refine gate_dst (N := 5) rfl ?_); refine box_event ?hg (N := 5) ?hd (cs := #[.bool false, .slice none 0 0]) (t := 25) ?hr ?_; (case hd => rfl); (case hg => rfl); (case hr => first | (go_simp; done) | (go_simp; rfl)); intro gb394 hg w92 hbox hb; have n0_ := qaM (qvB (qvE zz8_4 gb394 (Nat.le_of_eq hg.symm)) hb); have n1_ := qaM (qvB (qvE zz8_5 gb394 (Nat.le_of_eq hg.symm)) hb); have n2_ := qaM (qbT zz8_6 hb); have n3_ := qaM (hbox); have n4_ := qaM ((by rw [hg]; exact (qbS zz8_6) : w.heap.size ≤ gb394)); have n5_ := qaM ((by rw [hg]; exact (qbS zz8_6) : w.heap.size ≤ gb394)); clear HO389; clear HO393; clear HB; have HO389 := n0_; have HO393 := n1_; have HB := n2_; have BK394 := n3_; have GW394 := n4_; have GE394 := n5_; clear n0_ n1_ n2_ n3_ n4_ n5_; clear hb hbox hg) | ((with_reducible refine gate_dst (N := 6) rfl ?_); refine box_event ?hg (N := 6) ?hd (cs := #[.bool false, .slice none 0 0]) (t := 25) ?hr ?_; (case hd => rfl); (case hg => rfl); (case hr => first | (go_simp; done) | (go_simp; rfl)); intro gb395 hg w93 hbox hb; have n0_ := qaM (qvB (qvE zz8_4 gb395 (Nat.le_of_eq hg.symm)) hb); have n1_ := qaM (qvB (qvE zz8_5 gb395 (Nat.le_of_eq hg.symm)) hb); have n2_ := qaM (qbB (g := gb394) (o := .cells #[.bool false, .slice none 0 0] 25 (0, 0)) zz8_1 hb); have n3_ := qaM (qbT zz8_8 hb); have n4_ := qaM (hbox); have n5_ := qaM ((by rw [hg]; exact (qbS zz8_8) : w.heap.size ≤ gb395)); have n6_ := qaM ((by rw [hg]; exact (qbS zz8_8) : w.heap.size ≤ gb395)); have n7_ := qaM ((by rw [hg]; exact qnL (qbL (g := gb394) (o := .cells #[.bool false, .slice none 0 0] 25 (0, 0)) zz8_1) : gb394 ≠ gb395)); have n8_ := qaM ((by rw [hg]; exact qnG (qbL (g := gb394) (o := .cells #[.bool false, .slice none 0 0] 25 (0, 0)) zz8_1) : gb395 ≠ gb394)); clear HO389; clear HO393; clear BK394; clear HB; have HO389 := n0_; have HO393 := n1_; have BK394 := n2_; have HB := n3_; have BK395 := n4_; have GW395 := n5_; have GE395 := n6_; have NB394_395 := n7_; have NB395_394 := n8_; clear n0_ n1_ n2_ n3_ n4_ n5_ n6_ n7_ n8_; clear hb hbox hg; have hnb94 := NB394_395.out; have hnc94 := NB395_394.out; have hcz95_0 : w93.cell? ⟨gb394, 0, none⟩ = some (.bool false) := (qbC BK394.out 0).trans rfl; have hcz95_1 : w93.cell? ⟨gb394, 1, none⟩ = some (.slice none 0 0) := (qbC BK394.out 1).trans rfl; have hfz95_0 := blk_frozen BK394.out 0; have hfz95_1 := blk_frozen BK394.out 1; obtain ⟨Ao96, co96, eo96⟩ := Kd.V_slice HO389.out; subst eo96; have hcz97_0 : w93.cell? ⟨gb395, 0, none⟩ = some (.bool false) := (qbC BK395.out 0).trans rfl; have hcz97_1 : w93.cell? ⟨gb395, 1, none⟩ = some (.slice none 0 0) := (qbC BK395.out 1).trans rfl; have hfz97_0 := blk_frozen BK395.out 0; have hfz97_1 := blk_frozen BK395.out 1; obtain ⟨Ao98, co98, eo98⟩ := Kd.V_slice HO393.out; subst eo98))
    have n0_ : Aside0 (Kd.V (Kd.int .u32) 22 ((((w93.setCell ⟨gb394, 0, none⟩ (.bool t386)).setCell ⟨gb394, 1, none⟩ (.slice Ao96 t387.length co96)).setCell ⟨gb395, 0, none⟩ (.bool t390)).setCell ⟨gb395, 1, none⟩ (.slice Ao98 t391.length co98)) w.heap.size (fun k_ => k_ ≠ gb394 ∧ k_ ≠ gb395) (.slice Ao96 t387.length co96) t387) := ⟨by (with_reducible repeat (first | apply qvA | apply qvN | apply qvD)); exact qvM (qvF (p := ⟨gb395, 1, none⟩) (qvF (p := ⟨gb395, 0, none⟩) (qvF (p := ⟨gb394, 1, none⟩) (qvF (p := ⟨gb394, 0, none⟩) (qvM (qvM HO389.out (fun k_ hk => (⟨hk, hk.1.2⟩ : _ ∧ k_ ≠ gb394))) (fun k_ hk => (⟨hk, hk.1.2⟩ : _ ∧ k_ ≠ gb395))) (fun _ hk => hk.1.2) (.bool t386)) (fun _ hk => hk.1.2) (.slice Ao96 t387.length co96)) (fun _ hk => hk.2) (.bool t390)) (fun _ hk => hk.2) (.slice Ao98 t391.length co98)) (fun _ hk => ⟨hk.1.1.1.2, hk.1.1.2⟩)⟩
    have n1_ : Aside0 (Kd.V (Kd.int .u32) 22 ((((w93.setCell ⟨gb394, 0, none⟩ (.bool t386)).setCell ⟨gb394, 1, none⟩ (.slice Ao96 t387.length co96)).setCell ⟨gb395, 0, none⟩ (.bool t390)).setCell ⟨gb395, 1, none⟩ (.slice Ao98 t391.length co98)) w.heap.size (fun k_ => k_ ≠ gb394 ∧ k_ ≠ gb395) (.slice Ao98 t391.length co98) t391) := ⟨by (with_reducible repeat (first | apply qvA | apply qvN | apply qvD)); exact qvM (qvF (p := ⟨gb395, 1, none⟩) (qvF (p := ⟨gb395, 0, none⟩) (qvF (p := ⟨gb394, 1, none⟩) (qvF (p := ⟨gb394, 0, none⟩) (qvM (qvM HO393.out (fun k_ hk => (⟨hk, hk.1.2⟩ : _ ∧ k_ ≠ gb394))) (fun k_ hk => (⟨hk, hk.1.2⟩ : _ ∧ k_ ≠ gb395))) (fun _ hk => hk.1.2) (.bool t386)) (fun _ hk => hk.1.2) (.slice Ao96 t387.length co96)) (fun _ hk => hk.2) (.bool t390)) (fun _ hk => hk.2) (.slice Ao98 t391.length co98)) (fun _ hk => ⟨hk.1.1.1.2, hk.1.1.2⟩)⟩
    have n2_ : Aside0 (((((w93.setCell ⟨gb394, 0, none⟩ (.bool t386)).setCell ⟨gb394, 1, none⟩ (.slice Ao96 t387.length co96)).setCell ⟨gb395, 0, none⟩ (.bool t390)).setCell ⟨gb395, 1, none⟩ (.slice Ao98 t391.length co98)).heap[gb394]? = some (.cells #[.bool t386, .slice Ao96 t387.length co96] 25 (0, 0))) := ⟨by (with_reducible repeat (first | refine qbN ?_ _ | refine qbD ?_ | refine qbA ?_ _)); refine qbF ?_ NB394_395.out _; (with_reducible repeat (first | refine qbN ?_ _ | refine qbD ?_ | refine qbA ?_ _)); refine qbF ?_ NB394_395.out _; (with_reducible repeat (first | refine qbN ?_ _ | refine qbD ?_ | refine qbA ?_ _)); refine qbP (cs := #[.bool t386, .slice none 0 0]) ?_ 1 _ rfl; (with_reducible repeat (first | refine qbN ?_ _ | refine qbD ?_ | refine qbA ?_ _)); refine qbP (cs := #[.bool false, .slice none 0 0]) ?_ 0 _ rfl; (with_reducible repeat (first | refine qbN ?_ _ | refine qbD ?_ | refine qbA ?_ _)); exact BK394.out⟩
    have n3_ : Aside0 (((((w93.setCell ⟨gb394, 0, none⟩ (.bool t386)).setCell ⟨gb394, 1, none⟩ (.slice Ao96 t387.length co96)).setCell ⟨gb395, 0, none⟩ (.bool t390)).setCell ⟨gb395, 1, none⟩ (.slice Ao98 t391.length co98)).heap[gb395]? = some (.cells #[.bool t390, .slice Ao98 t391.length co98] 25 (0, 0))) := ⟨by (with_reducible repeat (first | refine qbN ?_ _ | refine qbD ?_ | refine qbA ?_ _)); refine qbP (cs := #[.bool t390, .slice none 0 0]) ?_ 1 _ rfl; (with_reducible repeat (first | refine qbN ?_ _ | refine qbD ?_ | refine qbA ?_ _)); refine qbP (cs := #[.bool false, .slice none 0 0]) ?_ 0 _ rfl; (with_reducible repeat (first | refine qbN ?_ _ | refine qbD ?_ | refine qbA ?_ _)); refine qbF ?_ NB395_394.out _; (with_reducible repeat (first | refine qbN ?_ _ | refine qbD ?_ | refine qbA ?_ _)); refine qbF ?_ NB395_394.out _; (with_reducible repeat (first | refine qbN ?_ _ | refine qbD ?_ | refine qbA ?_ _)); exact BK395.out⟩
    have n4_ : Aside0 (Below w.heap.size w ((((w93.setCell ⟨gb394, 0, none⟩ (.bool t386)).setCell ⟨gb394, 1, none⟩ (.slice Ao96 t387.length co96)).setCell ⟨gb395, 0, none⟩ (.bool t390)).setCell ⟨gb395, 1, none⟩ (.slice Ao98 t391.length co98))) := ⟨by repeat (first | (with_reducible first | exact HB.out | apply qwA | apply qwN | apply qwD | refine qwS ?_ GE394.out | refine qwS ?_ GE395.out) | exact HB.out)⟩
    (try clear HO389)
    (try clear HO393)
    (try clear BK394)
    (try clear BK395)
    (try clear HB)
    generalize ((((w93.setCell ⟨gb394, 0, none⟩ (.bool t386)).setCell ⟨gb394, 1, none⟩ (.slice Ao96 t387.length co96)).setCell ⟨gb395, 0, none⟩ (.bool t390)).setCell ⟨gb395, 1, none⟩ (.slice Ao98 t391.length co98)) = w99 at n0_ n1_ n2_ n3_ n4_ ⊢
    have HO389 := n0_
    have HO393 := n1_
    have BK394 := n2_
    have BK395 := n3_
    have HB := n4_
    clear n0_ n1_ n2_ n3_ n4_
    have n0_ := qaM (qvD HO389.out)
    have n1_ := qaM (qvD HO393.out)
    have n2_ := qaM (qbD BK394.out)
    have n3_ := qaM (qbD BK395.out)
    have n4_ := qaM (qwD HB.out)
    clear HO389
    clear HO393
    clear BK394
    clear BK395
    clear HB
    have HO389 := n0_
    have HO393 := n1_
    have BK394 := n2_
    have BK395 := n3_
    have HB := n4_
    clear n0_ n1_ n2_ n3_ n4_
    refine start_ (n := 15) (S := fun w' => w'.cell? ⟨gb394, 0, none⟩ = some (.bool t386) ∧ w'.cell? ⟨gb394, 1, none⟩ = some (.slice Ao96 t387.length co96) ∧ w'.cell? ⟨gb395, 0, none⟩ = some (.bool t390) ∧ w'.cell? ⟨gb395, 1, none⟩ = some (.slice Ao98 t391.length co98)) (ds := []) #[false, false, false, false, false, false, false, false, false, false, false, false, false, false, false] zz8_11 rfl rfl ⟨(qbC BK394.out 0).trans rfl, (qbC BK394.out 1).trans rfl, (qbC BK395.out 0).trans rfl, (qbC BK395.out 1).trans rfl⟩ (fun hHeld => ?_); refine with_tabW laws_FnMulInt32.tab2 laws_FnMulInt32.bits2 (fun HT_ HW_ => ?_)
    generalize w99.drew = w100 at HO389 HO393 BK394 BK395 HB hHeld ⊢
    refine pure_ (i := 0) (N := some 18) (v := ?_) (a' := ?_) #[true, false, false, false, false, false, false, false, false, false, false, false, false, false, false] rfl rfl (any_of HT_.out zz8_11) (fun _ _ _ h => h) (Or.inl ⟨by rfl, ?_⟩) ?_ ?_
    rotate_left
    ·intro w'
     go_simp
     with_reducible rfl
    rotate_left
    ·simp only [Act.put, qsA, qsZ, qsS, i64_w, i32_w]
     rfl
    refine pure_ (i := 1) (N := some 19) (v := ?_) (a' := ?_) #[true, true, false, false, false, false, false, false, false, false, false, false, false, false, false] rfl rfl (any_of HT_.out zz8_11) (fun _ _ _ h => h) (Or.inl ⟨by rfl, ?_⟩) ?_ ?_
    rotate_left
    ·intro w'
     go_simp
     with_reducible rfl
    rotate_left
    ·simp only [Act.put, qsA, qsZ, qsS, i64_w, i32_w]
     rfl
    refine pure_ (i := 3) (N := some 21) (v := ?_) (a' := ?_) #[true, true, false, true, false, false, false, false, false, false, false, false, false, false, false] rfl rfl (any_of HT_.out zz8_11) (fun _ _ _ h => h) (Or.inl ⟨by rfl, ?_⟩) ?_ ?_
    rotate_left
    ·intro w'
     go_simp
     with_reducible rfl
    rotate_left
    ·simp only [Act.put, qsA, qsZ, qsS, i64_w, i32_w]
     rfl
    refine pure_ (i := 4) (N := some 22) (v := ?_) (a' := ?_) #[true, true, false, true, true, false, false, false, false, false, false, false, false, false, false] rfl rfl (any_of HT_.out zz8_11) (fun _ _ _ h => h) (Or.inl ⟨by rfl, ?_⟩) ?_ ?_
    rotate_left
    ·intro w'
     go_simp
     with_reducible rfl
    rotate_left
    ·simp only [Act.put, qsA, qsZ, qsS, i64_w, i32_w]
     rfl
    refine take_ (i := 7) (N := some 25) (v := ?_) (a' := ?_) #[true, true, false, true, true, false, false, true, false, false, false, false, false, false, false] rfl rfl (take_ofW HT_.out HW_.out zz8_11) (fun _ _ _ h => h) (Or.inl ⟨by rfl, ?_⟩) hHeld ?_ ?_
    rotate_left
    ·rintro w' ⟨s0, s1, s2, s3⟩
     go_simp
     with_reducible rfl
    rotate_left
    ·simp only [Act.put, qsA, qsZ, qsS, i64_w, i32_w]
     rfl
    refine take_ (i := 8) (N := some 26) (v := ?_) (a' := ?_) #[true, true, false, true, true, false, false, true, true, false, false, false, false, false, false] rfl rfl (take_ofW HT_.out HW_.out zz8_11) (fun _ _ _ h => h) (Or.inl ⟨by rfl, ?_⟩) hHeld ?_ ?_
    rotate_left
    ·rintro w' ⟨s0, s1, s2, s3⟩
     go_simp
     with_reducible rfl
    rotate_left
    ·simp only [Act.put, qsA, qsZ, qsS, i64_w, i32_w]
     rfl
    refine one_ (i := 2) (N := some 20) #[true, true, true, true, true, false, false, true, true, false, false, false, false, false, false] rfl rfl (one_of HT_.out zz8_11) zz8_12 (fun K hK => ?_)
    refine goes_ Try.func17 zz8_11 rfl #[.int .i64 (wrap64 (a0))] (by rfl) rfl rfl zz8_2 ?_
    with_reducible refine (spec_WideInt.calls k (wrap64 (a0)) t396 t397 _ A4.out).mono ?_
    rintro e w101 ⟨v398, rfl, ho0, hb⟩
    refine ⟨_, rfl, ?_⟩
    have n0_ := qaM (qvB zz8_4 hb)
    have n1_ := qaM (qvB zz8_5 hb)
    have n2_ := qaM (qvL (qvM (ok' := fun k_ => k_ ≠ gb394 ∧ k_ ≠ gb395) ho0 (fun k_ hk_ => ⟨(qfB (g := gb394) (o := .cells #[.bool t386, .slice Ao96 t387.length co96] 25 (0, 0)) zz8_1 k_ hk_), (qfB (g := gb395) (o := .cells #[.bool t390, .slice Ao98 t391.length co98] 25 (0, 0)) zz8_3 k_ hk_)⟩)) (qbS zz8_0))
    have n3_ := qaM (qbB (g := gb394) (o := .cells #[.bool t386, .slice Ao96 t387.length co96] 25 (0, 0)) zz8_1 hb)
    have n4_ := qaM (qbB (g := gb395) (o := .cells #[.bool t390, .slice Ao98 t391.length co98] 25 (0, 0)) zz8_3 hb)
    have n5_ := qaM (qbT zz8_0 hb)
    clear HO389
    clear HO393
    clear BK394
    clear BK395
    clear HB
    have HO389 := n0_
    have HO393 := n1_
    have HO399 := n2_
    have BK394 := n3_
    have BK395 := n4_
    have HB := n5_
    clear n0_ n1_ n2_ n3_ n4_ n5_
    (try clear hb)
    (try clear hb2)
    (try clear hk)
    (try clear hi)
    (try clear ho0)
    refine hK.out _ _ ⟨(qbC BK394.out 0).trans rfl, (qbC BK394.out 1).trans rfl, (qbC BK395.out 0).trans rfl, (qbC BK395.out 1).trans rfl⟩ (fun hHeld => ?_)
    clear hK K
    refine norm_ (a' := ?_) ?_ ?_
    rotate_left
    ·show Act.put _ (some 20) _ = _
     simp only [Act.put, qsA, qsZ, qsS, i64_w, i32_w]
     rfl
    refine one_ (i := 5) (N := some 23) #[true, true, true, true, true, true, false, true, true, false, false, false, false, false, false] rfl rfl (one_of HT_.out zz8_11) zz8_12 (fun K hK => ?_)
    refine goes_ Try.func17 zz8_11 rfl #[.int .i64 (wrap64 (a1))] (by rfl) rfl rfl zz8_2 ?_
    with_reducible refine (spec_WideInt.calls k (wrap64 (a1)) t400 t401 _ A5.out).mono ?_
    rintro e w102 ⟨v402, rfl, ho0, hb⟩
    refine ⟨_, rfl, ?_⟩
    have n0_ := qaM (qvB zz8_4 hb)
    have n1_ := qaM (qvB zz8_5 hb)
    have n2_ := qaM (qvB zz8_7 hb)
    have n3_ := qaM (qvL (qvM (ok' := fun k_ => k_ ≠ gb394 ∧ k_ ≠ gb395) ho0 (fun k_ hk_ => ⟨(qfB (g := gb394) (o := .cells #[.bool t386, .slice Ao96 t387.length co96] 25 (0, 0)) zz8_1 k_ hk_), (qfB (g := gb395) (o := .cells #[.bool t390, .slice Ao98 t391.length co98] 25 (0, 0)) zz8_3 k_ hk_)⟩)) (qbS zz8_0))
    have n4_ := qaM (qbB (g := gb394) (o := .cells #[.bool t386, .slice Ao96 t387.length co96] 25 (0, 0)) zz8_1 hb)
    have n5_ := qaM (qbB (g := gb395) (o := .cells #[.bool t390, .slice Ao98 t391.length co98] 25 (0, 0)) zz8_3 hb)
    have n6_ := qaM (qbT zz8_0 hb)
    clear HO389
    clear HO393
    clear HO399
    clear BK394
    clear BK395
    clear HB
    have HO389 := n0_
    have HO393 := n1_
    have HO399 := n2_
    have HO403 := n3_
    have BK394 := n4_
    have BK395 := n5_
    have HB := n6_
    clear n0_ n1_ n2_ n3_ n4_ n5_ n6_
    (try clear hb)
    (try clear hb2)
    (try clear hk)
    (try clear hi)
    (try clear ho0)
    obtain ⟨Ao103, co103, eo103⟩ := Kd.V_slice HO399.out
    (first | subst eo103 | (injection eo103 with f1_ f2_ f3_; have f4_ := f1_.symm; have f5_ := f3_.symm; clear f1_ f2_ f3_; subst f4_; subst f5_))
    obtain ⟨Ao104, co104, eo104⟩ := Kd.V_slice HO403.out
    (first | subst eo104 | (injection eo104 with f1_ f2_ f3_; have f4_ := f1_.symm; have f5_ := f3_.symm; clear f1_ f2_ f3_; subst f4_; subst f5_))
    refine hK.out _ _ ⟨(qbC BK394.out 0).trans rfl, (qbC BK394.out 1).trans rfl, (qbC BK395.out 0).trans rfl, (qbC BK395.out 1).trans rfl⟩ (fun hHeld => ?_)
    clear hK K
    refine norm_ (a' := ?_) ?_ ?_
    rotate_left
    ·show Act.put _ (some 23) _ = _
     simp only [Act.put, qsA, qsZ, qsS, i64_w, i32_w]
     rfl
    refine one_ (i := 6) (N := some 24) #[true, true, true, true, true, true, true, true, true, false, false, false, false, false, false] rfl rfl (one_of HT_.out zz8_11) zz8_12 (fun K hK => ?_)
    refine goes_ Try.func16 zz8_11 rfl #[.agg #[.bool t396, .slice Ao103 t397.length co103], .agg #[.bool t400, .slice Ao104 t401.length co104]] (by rfl) rfl rfl zz8_2 ?_
    with_reducible refine (spec_WideMul.calls k t396 _ _ t397 t400 _ _ t401 t404 t405 _ ?side1 ?side2 ?side3 ?side4 A6.out).mono ?_
    (case side1 => repeat (first | exact (qvR HO399.out).2.2 | (with_reducible refine Kd.C_alloc ?_ _) | (with_reducible refine Kd.C_drewN ?_ _) | (with_reducible refine Kd.C_drew ?_)))
    (case side2 => exact (qvR HO399.out).2.1)
    (case side3 => repeat (first | exact (qvR HO403.out).2.2 | (with_reducible refine Kd.C_alloc ?_ _) | (with_reducible refine Kd.C_drewN ?_ _) | (with_reducible refine Kd.C_drew ?_)))
    (case side4 => exact (qvR HO403.out).2.1)
    rintro e w105 ⟨v406, rfl, ho0, hb⟩
    refine ⟨_, rfl, ?_⟩
    have n0_ := qaM (qvB zz8_4 hb)
    have n1_ := qaM (qvB zz8_5 hb)
    have n2_ := qaM (qvB zz8_7 hb)
    have n3_ := qaM (qvB zz8_9 hb)
    have n4_ := qaM (qvL (qvM (ok' := fun k_ => k_ ≠ gb394 ∧ k_ ≠ gb395) ho0 (fun k_ hk_ => ⟨(qfB (g := gb394) (o := .cells #[.bool t386, .slice Ao96 t387.length co96] 25 (0, 0)) zz8_1 k_ hk_), (qfB (g := gb395) (o := .cells #[.bool t390, .slice Ao98 t391.length co98] 25 (0, 0)) zz8_3 k_ hk_)⟩)) (qbS zz8_0))
    have n5_ := qaM (qbB (g := gb394) (o := .cells #[.bool t386, .slice Ao96 t387.length co96] 25 (0, 0)) zz8_1 hb)
    have n6_ := qaM (qbB (g := gb395) (o := .cells #[.bool t390, .slice Ao98 t391.length co98] 25 (0, 0)) zz8_3 hb)
    have n7_ := qaM (qbT zz8_0 hb)
    clear HO389
    clear HO393
    clear HO399
    clear HO403
    clear BK394
    clear BK395
    clear HB
    have HO389 := n0_
    have HO393 := n1_
    have HO399 := n2_
    have HO403 := n3_
    have HO407 := n4_
    have BK394 := n5_
    have BK395 := n6_
    have HB := n7_
    clear n0_ n1_ n2_ n3_ n4_ n5_ n6_ n7_
    (try clear hb)
    (try clear hb2)
    (try clear hk)
    (try clear hi)
    (try clear ho0)
    obtain ⟨Ao106, co106, eo106⟩ := Kd.V_slice HO407.out
    (first | subst eo106 | (injection eo106 with f1_ f2_ f3_; have f4_ := f1_.symm; have f5_ := f3_.symm; clear f1_ f2_ f3_; subst f4_; subst f5_))
    refine hK.out _ _ ⟨(qbC BK394.out 0).trans rfl, (qbC BK394.out 1).trans rfl, (qbC BK395.out 0).trans rfl, (qbC BK395.out 1).trans rfl⟩ (fun hHeld => ?_)
    clear hK K
    refine norm_ (a' := ?_) ?_ ?_
    rotate_left
    ·show Act.put _ (some 24) _ = _
     simp only [Act.put, qsA, qsZ, qsS, i64_w, i32_w]
     rfl
    refine one_ (i := 9) (N := some 27) #[true, true, true, true, true, true, true, true, true, true, false, false, false, false, false] rfl rfl (one_of HT_.out zz8_11) zz8_12 (fun K hK => ?_)
    refine goes_ Try.func10 zz8_11 rfl #[.agg #[.bool t404, .slice Ao106 t405.length co106], .agg #[.bool t386, .slice Ao96 t387.length co96], .agg #[.bool t390, .slice Ao98 t391.length co98]] (by rfl) rfl rfl zz8_2 ?_
    with_reducible refine (laws_fitted.calls k t404 _ _ t405 t386 _ _ t387 t390 _ _ t391 t408 false _ ?side1 ?side2 ?side3 ?side4 ?side5 ?side6 A7.out).mono ?_
    (case side1 => repeat (first | exact (qvR HO407.out).2.2 | (with_reducible refine Kd.C_alloc ?_ _) | (with_reducible refine Kd.C_drewN ?_ _) | (with_reducible refine Kd.C_drew ?_)))
    (case side2 => exact (qvR HO407.out).2.1)
    (case side3 => repeat (first | exact (qvR HO389.out).2.2 | (with_reducible refine Kd.C_alloc ?_ _) | (with_reducible refine Kd.C_drewN ?_ _) | (with_reducible refine Kd.C_drew ?_)))
    (case side4 => exact (qvR HO389.out).2.1)
    (case side5 => repeat (first | exact (qvR HO393.out).2.2 | (with_reducible refine Kd.C_alloc ?_ _) | (with_reducible refine Kd.C_drewN ?_ _) | (with_reducible refine Kd.C_drew ?_)))
    (case side6 => exact (qvR HO393.out).2.1)
    rintro e w107 ⟨rfl, hb⟩
    refine ⟨_, rfl, ?_⟩
    have n0_ := qaM (qvB zz8_4 hb)
    have n1_ := qaM (qvB zz8_5 hb)
    have n2_ := qaM (qvB zz8_7 hb)
    have n3_ := qaM (qvB zz8_9 hb)
    have n4_ := qaM (qvB zz8_10 hb)
    have n5_ := qaM (qbB (g := gb394) (o := .cells #[.bool t386, .slice Ao96 t387.length co96] 25 (0, 0)) zz8_1 hb)
    have n6_ := qaM (qbB (g := gb395) (o := .cells #[.bool t390, .slice Ao98 t391.length co98] 25 (0, 0)) zz8_3 hb)
    have n7_ := qaM (qbT zz8_0 hb)
    clear HO389
    clear HO393
    clear HO399
    clear HO403
    clear HO407
    clear BK394
    clear BK395
    clear HB
    have HO389 := n0_
    have HO393 := n1_
    have HO399 := n2_
    have HO403 := n3_
    have HO407 := n4_
    have BK394 := n5_
    have BK395 := n6_
    have HB := n7_
    clear n0_ n1_ n2_ n3_ n4_ n5_ n6_ n7_
    (try clear hb)
    (try clear hb2)
    (try clear hk)
    (try clear hi)
    refine hK.out _ _ ⟨(qbC BK394.out 0).trans rfl, (qbC BK394.out 1).trans rfl, (qbC BK395.out 0).trans rfl, (qbC BK395.out 1).trans rfl⟩ (fun hHeld => ?_)
    clear hK K
    refine norm_ (a' := ?_) ?_ ?_
    rotate_left
    ·show Act.put _ (some 27) _ = _
     simp only [Act.put, qsA, qsZ, qsS, i64_w, i32_w]
     rfl
    refine pure_ (i := 10) (N := some 17) (v := ?_) (a' := ?_) #[true, true, true, true, true, true, true, true, true, true, true, false, false, false, false] rfl rfl (any_of HT_.out zz8_11) (fun _ _ _ h => h) (Or.inl ⟨by rfl, ?_⟩) ?_ ?_
    rotate_left
    ·intro w'
     go_simp
     with_reducible rfl
    rotate_left
    ·simp only [Act.put, qsA, qsZ, qsS, i64_w, i32_w]
     rfl
    refine pure_ (i := 11) (N := some 28) (v := ?_) (a' := ?_) #[true, true, true, true, true, true, true, true, true, true, true, true, false, false, false] rfl rfl (any_of HT_.out zz8_11) (fun _ _ _ h => h) (Or.inl ⟨by rfl, ?_⟩) ?_ ?_
    rotate_left
    ·intro w'
     go_simp
     with_reducible rfl
    rotate_left
    ·simp only [Act.put, qsA, qsZ, qsS, i64_w, i32_w]
     rfl
    refine pure_ (i := 12) (N := some 29) (v := ?_) (a' := ?_) #[true, true, true, true, true, true, true, true, true, true, true, true, true, false, false] rfl rfl (any_of HT_.out zz8_11) (fun _ _ _ h => h) (Or.inl ⟨by rfl, ?_⟩) ?_ ?_
    rotate_left
    ·intro w'
     go_simp
     with_reducible rfl
    rotate_left
    ·simp only [Act.put, qsA, qsZ, qsS, i64_w, i32_w]
     rfl
    refine pure_ (i := 13) (N := some 7) (v := ?_) (a' := ?_) #[true, true, true, true, true, true, true, true, true, true, true, true, true, true, false] rfl rfl (any_of HT_.out zz8_11) (fun _ _ _ h => h) (Or.inl ⟨by rfl, ?_⟩) ?_ ?_
    rotate_left
    ·intro w'
     go_simp
     with_reducible rfl
    rotate_left
    ·simp only [Act.put, qsA, qsZ, qsS, i64_w, i32_w]
     rfl
    refine pure_ (i := 14) (N := some 8) (v := ?_) (a' := ?_) #[true, true, true, true, true, true, true, true, true, true, true, true, true, true, true] rfl rfl (any_of HT_.out zz8_11) (fun _ _ _ h => h) (Or.inl ⟨by rfl, ?_⟩) ?_ ?_
    rotate_left
    ·intro w'
     go_simp
     with_reducible rfl
    rotate_left
    ·simp only [Act.put, qsA, qsZ, qsS, i64_w, i32_w]
     rfl
    refine done_ (done_of HT_.out zz8_11) ?_
    try go_wp2_with (first | ((with_reducible refine gate_callee (f := 19) rfl ?_); refine goesL_ (some 33) rfl rfl Try.func19 zz8_11 rfl #[.int .i32 a0, .int .i32 a1] rfl zz8_2 ?_; (with_reducible refine (impl_MulInt32.calls a0 a1 t410 t411 _ A8.out).mono ?_); rintro e w108 ⟨rfl, hb⟩; refine ⟨_, rfl, ?_⟩; have n0_ := qaM (qvB zz8_4 hb); have n1_ := qaM (qvB zz8_5 hb); have n2_ := qaM (qvB zz8_7 hb); have n3_ := qaM (qvB zz8_9 hb); have n4_ := qaM (qvB zz8_10 hb); have n5_ := qaM (qbB (g := gb394) (o := .cells #[.bool t386, .slice Ao96 t387.length co96] 25 (0, 0)) zz8_1 hb); have n6_ := qaM (qbB (g := gb395) (o := .cells #[.bool t390, .slice Ao98 t391.length co98] 25 (0, 0)) zz8_3 hb); have n7_ := qaM (qbT zz8_0 hb); clear HO389; clear HO393; clear HO399; clear HO403; clear HO407; clear BK394; clear BK395; clear HB; have HO389 := n0_; have HO393 := n1_; have HO399 := n2_; have HO403 := n3_; have HO407 := n4_; have BK394 := n5_; have BK395 := n6_; have HB := n7_; clear n0_ n1_ n2_ n3_ n4_ n5_ n6_ n7_; (try clear hb); (try clear hb2); (try clear hk); (try clear hi)) | ((with_reducible refine gate_callee (f := 19) rfl ?_); refine goesL_ (some 37) rfl rfl Try.func19 zz8_11 rfl #[.int .i32 2, .int .i32 3] rfl zz8_2 ?_; (with_reducible refine (impl_MulInt32.calls 2 3 t412 false _ A9.out).mono ?_); rintro e w109 ⟨rfl, hb⟩; refine ⟨_, rfl, ?_⟩; have n0_ := qaM (qvB zz8_4 hb); have n1_ := qaM (qvB zz8_5 hb); have n2_ := qaM (qvB zz8_7 hb); have n3_ := qaM (qvB zz8_9 hb); have n4_ := qaM (qvB zz8_10 hb); have n5_ := qaM (qbB (g := gb394) (o := .cells #[.bool t386, .slice Ao96 t387.length co96] 25 (0, 0)) zz8_1 hb); have n6_ := qaM (qbB (g := gb395) (o := .cells #[.bool t390, .slice Ao98 t391.length co98] 25 (0, 0)) zz8_3 hb); have n7_ := qaM (qbT zz8_0 hb); clear HO389; clear HO393; clear HO399; clear HO403; clear HO407; clear BK394; clear BK395; clear HB; have HO389 := n0_; have HO393 := n1_; have HO399 := n2_; have HO403 := n3_; have HO407 := n4_; have BK394 := n5_; have BK395 := n6_; have HB := n7_; clear n0_ n1_ n2_ n3_ n4_ n5_ n6_ n7_; (try clear hb); (try clear hb2); (try clear hk); (try clear hi)))
    go_ret
    exact ⟨by first | rfl | (simp [errW_none, errW_some] <;> rfl) | (simp [*, errW_none, errW_some] <;> rfl), by repeat (first | (with_reducible first | exact HB.out | apply qwA | apply qwN | apply qwD | refine qwS ?_ GE394.out | refine qwS ?_ GE395.out) | exact HB.out)⟩
 ·rw [if_neg c10] at H
  have c10b0 : (t411 == t409) = false := by simpa using c10
  (try (have c10b1 : decide (t411 = t409) = false := by simpa using c10))
  (try (have c10b2 : (t411 == t409) = false := by simpa using c10))
  (try (have c10b3 : ¬ (t411 = t409) := by simpa using c10))
  clear c10
  obtain rfl := Option.some.inj H
  go_enter Try.func6, Try.ntmps6
  try go_wp2_with (first | ((with_reducible refine gate_callee (f := 9) rfl ?_); refine goesL_ (some 14) rfl rfl Try.func9 zz8_11 rfl #[.int .i64 32, .bool true] rfl zz8_2 ?_; (with_reducible refine (laws_bounds.calls k 32 true t386 t387 t390 t391 _ A3.out).mono ?_); rintro e w110 ⟨v388, v392, rfl, ho0, ho1, hb⟩; refine ⟨_, rfl, ?_⟩; have n0_ := qaM (qvL (qvM (ok' := fun k_ => True) ho0 (fun k_ hk_ => trivial)) (qbS zz8_6)); have n1_ := qaM (qvL (qvM (ok' := fun k_ => True) ho1 (fun k_ hk_ => trivial)) (qbS zz8_6)); have n2_ := qaM (qbT zz8_6 hb); clear HB; have HO389 := n0_; have HO393 := n1_; have HB := n2_; clear n0_ n1_ n2_; (try clear hb); (try clear hb2); (try clear hk); (try clear hi); (try clear ho0); (try clear ho1)) | ((with_reducible refine gate_dst (N := 5) rfl ?_); refine box_event ?hg (N := 5) ?hd (cs := #[.bool false, .slice none 0 0]) (t := 25) ?hr ?_; (case hd => rfl); (case hg => rfl); (case hr => first | (go_simp; done) | (go_simp; rfl)); intro gb394 hg w111 hbox hb; have n0_ := qaM (qvB (qvE zz8_4 gb394 (Nat.le_of_eq hg.symm)) hb); have n1_ := qaM (qvB (qvE zz8_5 gb394 (Nat.le_of_eq hg.symm)) hb); have n2_ := qaM (qbT zz8_6 hb); have n3_ := qaM (hbox); have n4_ := qaM ((by rw [hg]; exact (qbS zz8_6) : w.heap.size ≤ gb394)); have n5_ := qaM ((by rw [hg]; exact (qbS zz8_6) : w.heap.size ≤ gb394)); clear HO389; clear HO393; clear HB; have HO389 := n0_; have HO393 := n1_; have HB := n2_; have BK394 := n3_; have GW394 := n4_; have GE394 := n5_; clear n0_ n1_ n2_ n3_ n4_ n5_; clear hb hbox hg) | ((with_reducible refine gate_dst (N := 6) rfl ?_); refine box_event ?hg (N := 6) ?hd (cs := #[.bool false, .slice none 0 0]) (t := 25) ?hr ?_; (case hd => rfl); (case hg => rfl); (case hr => first | (go_simp; done) | (go_simp; rfl)); intro gb395 hg w112 hbox hb; have n0_ := qaM (qvB (qvE zz8_4 gb395 (Nat.le_of_eq hg.symm)) hb); have n1_ := qaM (qvB (qvE zz8_5 gb395 (Nat.le_of_eq hg.symm)) hb); have n2_ := qaM (qbB (g := gb394) (o := .cells #[.bool false, .slice none 0 0] 25 (0, 0)) zz8_1 hb); have n3_ := qaM (qbT zz8_8 hb); have n4_ := qaM (hbox); have n5_ := qaM ((by rw [hg]; exact (qbS zz8_8) : w.heap.size ≤ gb395)); have n6_ := qaM ((by rw [hg]; exact (qbS zz8_8) : w.heap.size ≤ gb395)); have n7_ := qaM ((by rw [hg]; exact qnL (qbL (g := gb394) (o := .cells #[.bool false, .slice none 0 0] 25 (0, 0)) zz8_1) : gb394 ≠ gb395)); have n8_ := qaM ((by rw [hg]; exact qnG (qbL (g := gb394) (o := .cells #[.bool false, .slice none 0 0] 25 (0, 0)) zz8_1) : gb395 ≠ gb394)); clear HO389; clear HO393; clear BK394; clear HB; have HO389 := n0_; have HO393 := n1_; have BK394 := n2_; have HB := n3_; have BK395 := n4_; have GW395 := n5_; have GE395 := n6_; have NB394_395 := n7_; have NB395_394 := n8_; clear n0_ n1_ n2_ n3_ n4_ n5_ n6_ n7_ n8_; clear hb hbox hg; have hnb113 := NB394_395.out; have hnc113 := NB395_394.out; have hcz114_0 : w112.cell? ⟨gb394, 0, none⟩ = some (.bool false) := (qbC BK394.out 0).trans rfl; have hcz114_1 : w112.cell? ⟨gb394, 1, none⟩ = some (.slice none 0 0) := (qbC BK394.out 1).trans rfl; have hfz114_0 := blk_frozen BK394.out 0; have hfz114_1 := blk_frozen BK394.out 1; obtain ⟨Ao115, co115, eo115⟩ := Kd.V_slice HO389.out; subst eo115; have hcz116_0 : w112.cell? ⟨gb395, 0, none⟩ = some (.bool false) := (qbC BK395.out 0).trans rfl; have hcz116_1 : w112.cell? ⟨gb395, 1, none⟩ = some (.slice none 0 0) := (qbC BK395.out 1).trans rfl; have hfz116_0 := blk_frozen BK395.out 0; have hfz116_1 := blk_frozen BK395.out 1; obtain ⟨Ao117, co117, eo117⟩ := Kd.V_slice HO393.out; subst eo117))
  have n0_ : Aside0 (Kd.V (Kd.int .u32) 22 ((((w112.setCell ⟨gb394, 0, none⟩ (.bool t386)).setCell ⟨gb394, 1, none⟩ (.slice Ao115 t387.length co115)).setCell ⟨gb395, 0, none⟩ (.bool t390)).setCell ⟨gb395, 1, none⟩ (.slice Ao117 t391.length co117)) w.heap.size (fun k_ => k_ ≠ gb394 ∧ k_ ≠ gb395) (.slice Ao115 t387.length co115) t387) := ⟨by (with_reducible repeat (first | apply qvA | apply qvN | apply qvD)); exact qvM (qvF (p := ⟨gb395, 1, none⟩) (qvF (p := ⟨gb395, 0, none⟩) (qvF (p := ⟨gb394, 1, none⟩) (qvF (p := ⟨gb394, 0, none⟩) (qvM (qvM HO389.out (fun k_ hk => (⟨hk, hk.1.2⟩ : _ ∧ k_ ≠ gb394))) (fun k_ hk => (⟨hk, hk.1.2⟩ : _ ∧ k_ ≠ gb395))) (fun _ hk => hk.1.2) (.bool t386)) (fun _ hk => hk.1.2) (.slice Ao115 t387.length co115)) (fun _ hk => hk.2) (.bool t390)) (fun _ hk => hk.2) (.slice Ao117 t391.length co117)) (fun _ hk => ⟨hk.1.1.1.2, hk.1.1.2⟩)⟩
  have n1_ : Aside0 (Kd.V (Kd.int .u32) 22 ((((w112.setCell ⟨gb394, 0, none⟩ (.bool t386)).setCell ⟨gb394, 1, none⟩ (.slice Ao115 t387.length co115)).setCell ⟨gb395, 0, none⟩ (.bool t390)).setCell ⟨gb395, 1, none⟩ (.slice Ao117 t391.length co117)) w.heap.size (fun k_ => k_ ≠ gb394 ∧ k_ ≠ gb395) (.slice Ao117 t391.length co117) t391) := ⟨by (with_reducible repeat (first | apply qvA | apply qvN | apply qvD)); exact qvM (qvF (p := ⟨gb395, 1, none⟩) (qvF (p := ⟨gb395, 0, none⟩) (qvF (p := ⟨gb394, 1, none⟩) (qvF (p := ⟨gb394, 0, none⟩) (qvM (qvM HO393.out (fun k_ hk => (⟨hk, hk.1.2⟩ : _ ∧ k_ ≠ gb394))) (fun k_ hk => (⟨hk, hk.1.2⟩ : _ ∧ k_ ≠ gb395))) (fun _ hk => hk.1.2) (.bool t386)) (fun _ hk => hk.1.2) (.slice Ao115 t387.length co115)) (fun _ hk => hk.2) (.bool t390)) (fun _ hk => hk.2) (.slice Ao117 t391.length co117)) (fun _ hk => ⟨hk.1.1.1.2, hk.1.1.2⟩)⟩
  have n2_ : Aside0 (((((w112.setCell ⟨gb394, 0, none⟩ (.bool t386)).setCell ⟨gb394, 1, none⟩ (.slice Ao115 t387.length co115)).setCell ⟨gb395, 0, none⟩ (.bool t390)).setCell ⟨gb395, 1, none⟩ (.slice Ao117 t391.length co117)).heap[gb394]? = some (.cells #[.bool t386, .slice Ao115 t387.length co115] 25 (0, 0))) := ⟨by (with_reducible repeat (first | refine qbN ?_ _ | refine qbD ?_ | refine qbA ?_ _)); refine qbF ?_ NB394_395.out _; (with_reducible repeat (first | refine qbN ?_ _ | refine qbD ?_ | refine qbA ?_ _)); refine qbF ?_ NB394_395.out _; (with_reducible repeat (first | refine qbN ?_ _ | refine qbD ?_ | refine qbA ?_ _)); refine qbP (cs := #[.bool t386, .slice none 0 0]) ?_ 1 _ rfl; (with_reducible repeat (first | refine qbN ?_ _ | refine qbD ?_ | refine qbA ?_ _)); refine qbP (cs := #[.bool false, .slice none 0 0]) ?_ 0 _ rfl; (with_reducible repeat (first | refine qbN ?_ _ | refine qbD ?_ | refine qbA ?_ _)); exact BK394.out⟩
  have n3_ : Aside0 (((((w112.setCell ⟨gb394, 0, none⟩ (.bool t386)).setCell ⟨gb394, 1, none⟩ (.slice Ao115 t387.length co115)).setCell ⟨gb395, 0, none⟩ (.bool t390)).setCell ⟨gb395, 1, none⟩ (.slice Ao117 t391.length co117)).heap[gb395]? = some (.cells #[.bool t390, .slice Ao117 t391.length co117] 25 (0, 0))) := ⟨by (with_reducible repeat (first | refine qbN ?_ _ | refine qbD ?_ | refine qbA ?_ _)); refine qbP (cs := #[.bool t390, .slice none 0 0]) ?_ 1 _ rfl; (with_reducible repeat (first | refine qbN ?_ _ | refine qbD ?_ | refine qbA ?_ _)); refine qbP (cs := #[.bool false, .slice none 0 0]) ?_ 0 _ rfl; (with_reducible repeat (first | refine qbN ?_ _ | refine qbD ?_ | refine qbA ?_ _)); refine qbF ?_ NB395_394.out _; (with_reducible repeat (first | refine qbN ?_ _ | refine qbD ?_ | refine qbA ?_ _)); refine qbF ?_ NB395_394.out _; (with_reducible repeat (first | refine qbN ?_ _ | refine qbD ?_ | refine qbA ?_ _)); exact BK395.out⟩
  have n4_ : Aside0 (Below w.heap.size w ((((w112.setCell ⟨gb394, 0, none⟩ (.bool t386)).setCell ⟨gb394, 1, none⟩ (.slice Ao115 t387.length co115)).setCell ⟨gb395, 0, none⟩ (.bool t390)).setCell ⟨gb395, 1, none⟩ (.slice Ao117 t391.length co117))) := ⟨by repeat (first | (with_reducible first | exact HB.out | apply qwA | apply qwN | apply qwD | refine qwS ?_ GE394.out | refine qwS ?_ GE395.out) | exact HB.out)⟩
  (try clear HO389)
  (try clear HO393)
  (try clear BK394)
  (try clear BK395)
  (try clear HB)
  generalize ((((w112.setCell ⟨gb394, 0, none⟩ (.bool t386)).setCell ⟨gb394, 1, none⟩ (.slice Ao115 t387.length co115)).setCell ⟨gb395, 0, none⟩ (.bool t390)).setCell ⟨gb395, 1, none⟩ (.slice Ao117 t391.length co117)) = w118 at n0_ n1_ n2_ n3_ n4_ ⊢
  have HO389 := n0_
  have HO393 := n1_
  have BK394 := n2_
  have BK395 := n3_
  have HB := n4_
  clear n0_ n1_ n2_ n3_ n4_
  have n0_ := qaM (qvD HO389.out)
  have n1_ := qaM (qvD HO393.out)
  have n2_ := qaM (qbD BK394.out)
  have n3_ := qaM (qbD BK395.out)
  have n4_ := qaM (qwD HB.out)
  clear HO389
  clear HO393
  clear BK394
  clear BK395
  clear HB
  have HO389 := n0_
  have HO393 := n1_
  have BK394 := n2_
  have BK395 := n3_
  have HB := n4_
  clear n0_ n1_ n2_ n3_ n4_
  refine start_ (n := 15) (S := fun w' => w'.cell? ⟨gb394, 0, none⟩ = some (.bool t386) ∧ w'.cell? ⟨gb394, 1, none⟩ = some (.slice Ao115 t387.length co115) ∧ w'.cell? ⟨gb395, 0, none⟩ = some (.bool t390) ∧ w'.cell? ⟨gb395, 1, none⟩ = some (.slice Ao117 t391.length co117)) (ds := []) #[false, false, false, false, false, false, false, false, false, false, false, false, false, false, false] zz8_11 rfl rfl ⟨(qbC BK394.out 0).trans rfl, (qbC BK394.out 1).trans rfl, (qbC BK395.out 0).trans rfl, (qbC BK395.out 1).trans rfl⟩ (fun hHeld => ?_); refine with_tabW laws_FnMulInt32.tab2 laws_FnMulInt32.bits2 (fun HT_ HW_ => ?_)
  generalize w118.drew = w119 at HO389 HO393 BK394 BK395 HB hHeld ⊢
  refine pure_ (i := 0) (N := some 18) (v := ?_) (a' := ?_) #[true, false, false, false, false, false, false, false, false, false, false, false, false, false, false] rfl rfl (any_of HT_.out zz8_11) (fun _ _ _ h => h) (Or.inl ⟨by rfl, ?_⟩) ?_ ?_
  rotate_left
  ·intro w'
   go_simp
   with_reducible rfl
  rotate_left
  ·simp only [Act.put, qsA, qsZ, qsS, i64_w, i32_w]
   rfl
  refine pure_ (i := 1) (N := some 19) (v := ?_) (a' := ?_) #[true, true, false, false, false, false, false, false, false, false, false, false, false, false, false] rfl rfl (any_of HT_.out zz8_11) (fun _ _ _ h => h) (Or.inl ⟨by rfl, ?_⟩) ?_ ?_
  rotate_left
  ·intro w'
   go_simp
   with_reducible rfl
  rotate_left
  ·simp only [Act.put, qsA, qsZ, qsS, i64_w, i32_w]
   rfl
  refine pure_ (i := 3) (N := some 21) (v := ?_) (a' := ?_) #[true, true, false, true, false, false, false, false, false, false, false, false, false, false, false] rfl rfl (any_of HT_.out zz8_11) (fun _ _ _ h => h) (Or.inl ⟨by rfl, ?_⟩) ?_ ?_
  rotate_left
  ·intro w'
   go_simp
   with_reducible rfl
  rotate_left
  ·simp only [Act.put, qsA, qsZ, qsS, i64_w, i32_w]
   rfl
  refine pure_ (i := 4) (N := some 22) (v := ?_) (a' := ?_) #[true, true, false, true, true, false, false, false, false, false, false, false, false, false, false] rfl rfl (any_of HT_.out zz8_11) (fun _ _ _ h => h) (Or.inl ⟨by rfl, ?_⟩) ?_ ?_
  rotate_left
  ·intro w'
   go_simp
   with_reducible rfl
  rotate_left
  ·simp only [Act.put, qsA, qsZ, qsS, i64_w, i32_w]
   rfl
  refine take_ (i := 7) (N := some 25) (v := ?_) (a' := ?_) #[true, true, false, true, true, false, false, true, false, false, false, false, false, false, false] rfl rfl (take_ofW HT_.out HW_.out zz8_11) (fun _ _ _ h => h) (Or.inl ⟨by rfl, ?_⟩) hHeld ?_ ?_
  rotate_left
  ·rintro w' ⟨s0, s1, s2, s3⟩
   go_simp
   with_reducible rfl
  rotate_left
  ·simp only [Act.put, qsA, qsZ, qsS, i64_w, i32_w]
   rfl
  refine take_ (i := 8) (N := some 26) (v := ?_) (a' := ?_) #[true, true, false, true, true, false, false, true, true, false, false, false, false, false, false] rfl rfl (take_ofW HT_.out HW_.out zz8_11) (fun _ _ _ h => h) (Or.inl ⟨by rfl, ?_⟩) hHeld ?_ ?_
  rotate_left
  ·rintro w' ⟨s0, s1, s2, s3⟩
   go_simp
   with_reducible rfl
  rotate_left
  ·simp only [Act.put, qsA, qsZ, qsS, i64_w, i32_w]
   rfl
  refine one_ (i := 2) (N := some 20) #[true, true, true, true, true, false, false, true, true, false, false, false, false, false, false] rfl rfl (one_of HT_.out zz8_11) zz8_12 (fun K hK => ?_)
  refine goes_ Try.func17 zz8_11 rfl #[.int .i64 (wrap64 (a0))] (by rfl) rfl rfl zz8_2 ?_
  with_reducible refine (spec_WideInt.calls k (wrap64 (a0)) t396 t397 _ A4.out).mono ?_
  rintro e w120 ⟨v398, rfl, ho0, hb⟩
  refine ⟨_, rfl, ?_⟩
  have n0_ := qaM (qvB zz8_4 hb)
  have n1_ := qaM (qvB zz8_5 hb)
  have n2_ := qaM (qvL (qvM (ok' := fun k_ => k_ ≠ gb394 ∧ k_ ≠ gb395) ho0 (fun k_ hk_ => ⟨(qfB (g := gb394) (o := .cells #[.bool t386, .slice Ao115 t387.length co115] 25 (0, 0)) zz8_1 k_ hk_), (qfB (g := gb395) (o := .cells #[.bool t390, .slice Ao117 t391.length co117] 25 (0, 0)) zz8_3 k_ hk_)⟩)) (qbS zz8_0))
  have n3_ := qaM (qbB (g := gb394) (o := .cells #[.bool t386, .slice Ao115 t387.length co115] 25 (0, 0)) zz8_1 hb)
  have n4_ := qaM (qbB (g := gb395) (o := .cells #[.bool t390, .slice Ao117 t391.length co117] 25 (0, 0)) zz8_3 hb)
  have n5_ := qaM (qbT zz8_0 hb)
  clear HO389
  clear HO393
  clear BK394
  clear BK395
  clear HB
  have HO389 := n0_
  have HO393 := n1_
  have HO399 := n2_
  have BK394 := n3_
  have BK395 := n4_
  have HB := n5_
  clear n0_ n1_ n2_ n3_ n4_ n5_
  (try clear hb)
  (try clear hb2)
  (try clear hk)
  (try clear hi)
  (try clear ho0)
  refine hK.out _ _ ⟨(qbC BK394.out 0).trans rfl, (qbC BK394.out 1).trans rfl, (qbC BK395.out 0).trans rfl, (qbC BK395.out 1).trans rfl⟩ (fun hHeld => ?_)
  clear hK K
  refine norm_ (a' := ?_) ?_ ?_
  rotate_left
  ·show Act.put _ (some 20) _ = _
   simp only [Act.put, qsA, qsZ, qsS, i64_w, i32_w]
   rfl
  refine one_ (i := 5) (N := some 23) #[true, true, true, true, true, true, false, true, true, false, false, false, false, false, false] rfl rfl (one_of HT_.out zz8_11) zz8_12 (fun K hK => ?_)
  refine goes_ Try.func17 zz8_11 rfl #[.int .i64 (wrap64 (a1))] (by rfl) rfl rfl zz8_2 ?_
  with_reducible refine (spec_WideInt.calls k (wrap64 (a1)) t400 t401 _ A5.out).mono ?_
  rintro e w121 ⟨v402, rfl, ho0, hb⟩
  refine ⟨_, rfl, ?_⟩
  have n0_ := qaM (qvB zz8_4 hb)
  have n1_ := qaM (qvB zz8_5 hb)
  have n2_ := qaM (qvB zz8_7 hb)
  have n3_ := qaM (qvL (qvM (ok' := fun k_ => k_ ≠ gb394 ∧ k_ ≠ gb395) ho0 (fun k_ hk_ => ⟨(qfB (g := gb394) (o := .cells #[.bool t386, .slice Ao115 t387.length co115] 25 (0, 0)) zz8_1 k_ hk_), (qfB (g := gb395) (o := .cells #[.bool t390, .slice Ao117 t391.length co117] 25 (0, 0)) zz8_3 k_ hk_)⟩)) (qbS zz8_0))
  have n4_ := qaM (qbB (g := gb394) (o := .cells #[.bool t386, .slice Ao115 t387.length co115] 25 (0, 0)) zz8_1 hb)
  have n5_ := qaM (qbB (g := gb395) (o := .cells #[.bool t390, .slice Ao117 t391.length co117] 25 (0, 0)) zz8_3 hb)
  have n6_ := qaM (qbT zz8_0 hb)
  clear HO389
  clear HO393
  clear HO399
  clear BK394
  clear BK395
  clear HB
  have HO389 := n0_
  have HO393 := n1_
  have HO399 := n2_
  have HO403 := n3_
  have BK394 := n4_
  have BK395 := n5_
  have HB := n6_
  clear n0_ n1_ n2_ n3_ n4_ n5_ n6_
  (try clear hb)
  (try clear hb2)
  (try clear hk)
  (try clear hi)
  (try clear ho0)
  obtain ⟨Ao122, co122, eo122⟩ := Kd.V_slice HO399.out
  (first | subst eo122 | (injection eo122 with f1_ f2_ f3_; have f4_ := f1_.symm; have f5_ := f3_.symm; clear f1_ f2_ f3_; subst f4_; subst f5_))
  obtain ⟨Ao123, co123, eo123⟩ := Kd.V_slice HO403.out
  (first | subst eo123 | (injection eo123 with f1_ f2_ f3_; have f4_ := f1_.symm; have f5_ := f3_.symm; clear f1_ f2_ f3_; subst f4_; subst f5_))
  refine hK.out _ _ ⟨(qbC BK394.out 0).trans rfl, (qbC BK394.out 1).trans rfl, (qbC BK395.out 0).trans rfl, (qbC BK395.out 1).trans rfl⟩ (fun hHeld => ?_)
  clear hK K
  refine norm_ (a' := ?_) ?_ ?_
  rotate_left
  ·show Act.put _ (some 23) _ = _
   simp only [Act.put, qsA, qsZ, qsS, i64_w, i32_w]
   rfl
  refine one_ (i := 6) (N := some 24) #[true, true, true, true, true, true, true, true, true, false, false, false, false, false, false] rfl rfl (one_of HT_.out zz8_11) zz8_12 (fun K hK => ?_)
  refine goes_ Try.func16 zz8_11 rfl #[.agg #[.bool t396, .slice Ao122 t397.length co122], .agg #[.bool t400, .slice Ao123 t401.length co123]] (by rfl) rfl rfl zz8_2 ?_
  with_reducible refine (spec_WideMul.calls k t396 _ _ t397 t400 _ _ t401 t404 t405 _ ?side1 ?side2 ?side3 ?side4 A6.out).mono ?_
  (case side1 => repeat (first | exact (qvR HO399.out).2.2 | (with_reducible refine Kd.C_alloc ?_ _) | (with_reducible refine Kd.C_drewN ?_ _) | (with_reducible refine Kd.C_drew ?_)))
  (case side2 => exact (qvR HO399.out).2.1)
  (case side3 => repeat (first | exact (qvR HO403.out).2.2 | (with_reducible refine Kd.C_alloc ?_ _) | (with_reducible refine Kd.C_drewN ?_ _) | (with_reducible refine Kd.C_drew ?_)))
  (case side4 => exact (qvR HO403.out).2.1)
  rintro e w124 ⟨v406, rfl, ho0, hb⟩
  refine ⟨_, rfl, ?_⟩
  have n0_ := qaM (qvB zz8_4 hb)
  have n1_ := qaM (qvB zz8_5 hb)
  have n2_ := qaM (qvB zz8_7 hb)
  have n3_ := qaM (qvB zz8_9 hb)
  have n4_ := qaM (qvL (qvM (ok' := fun k_ => k_ ≠ gb394 ∧ k_ ≠ gb395) ho0 (fun k_ hk_ => ⟨(qfB (g := gb394) (o := .cells #[.bool t386, .slice Ao115 t387.length co115] 25 (0, 0)) zz8_1 k_ hk_), (qfB (g := gb395) (o := .cells #[.bool t390, .slice Ao117 t391.length co117] 25 (0, 0)) zz8_3 k_ hk_)⟩)) (qbS zz8_0))
  have n5_ := qaM (qbB (g := gb394) (o := .cells #[.bool t386, .slice Ao115 t387.length co115] 25 (0, 0)) zz8_1 hb)
  have n6_ := qaM (qbB (g := gb395) (o := .cells #[.bool t390, .slice Ao117 t391.length co117] 25 (0, 0)) zz8_3 hb)
  have n7_ := qaM (qbT zz8_0 hb)
  clear HO389
  clear HO393
  clear HO399
  clear HO403
  clear BK394
  clear BK395
  clear HB
  have HO389 := n0_
  have HO393 := n1_
  have HO399 := n2_
  have HO403 := n3_
  have HO407 := n4_
  have BK394 := n5_
  have BK395 := n6_
  have HB := n7_
  clear n0_ n1_ n2_ n3_ n4_ n5_ n6_ n7_
  (try clear hb)
  (try clear hb2)
  (try clear hk)
  (try clear hi)
  (try clear ho0)
  obtain ⟨Ao125, co125, eo125⟩ := Kd.V_slice HO407.out
  (first | subst eo125 | (injection eo125 with f1_ f2_ f3_; have f4_ := f1_.symm; have f5_ := f3_.symm; clear f1_ f2_ f3_; subst f4_; subst f5_))
  refine hK.out _ _ ⟨(qbC BK394.out 0).trans rfl, (qbC BK394.out 1).trans rfl, (qbC BK395.out 0).trans rfl, (qbC BK395.out 1).trans rfl⟩ (fun hHeld => ?_)
  clear hK K
  refine norm_ (a' := ?_) ?_ ?_
  rotate_left
  ·show Act.put _ (some 24) _ = _
   simp only [Act.put, qsA, qsZ, qsS, i64_w, i32_w]
   rfl
  refine one_ (i := 9) (N := some 27) #[true, true, true, true, true, true, true, true, true, true, false, false, false, false, false] rfl rfl (one_of HT_.out zz8_11) zz8_12 (fun K hK => ?_)
  refine goes_ Try.func10 zz8_11 rfl #[.agg #[.bool t404, .slice Ao125 t405.length co125], .agg #[.bool t386, .slice Ao115 t387.length co115], .agg #[.bool t390, .slice Ao117 t391.length co117]] (by rfl) rfl rfl zz8_2 ?_
  with_reducible refine (laws_fitted.calls k t404 _ _ t405 t386 _ _ t387 t390 _ _ t391 t408 t409 _ ?side1 ?side2 ?side3 ?side4 ?side5 ?side6 A7.out).mono ?_
  (case side1 => repeat (first | exact (qvR HO407.out).2.2 | (with_reducible refine Kd.C_alloc ?_ _) | (with_reducible refine Kd.C_drewN ?_ _) | (with_reducible refine Kd.C_drew ?_)))
  (case side2 => exact (qvR HO407.out).2.1)
  (case side3 => repeat (first | exact (qvR HO389.out).2.2 | (with_reducible refine Kd.C_alloc ?_ _) | (with_reducible refine Kd.C_drewN ?_ _) | (with_reducible refine Kd.C_drew ?_)))
  (case side4 => exact (qvR HO389.out).2.1)
  (case side5 => repeat (first | exact (qvR HO393.out).2.2 | (with_reducible refine Kd.C_alloc ?_ _) | (with_reducible refine Kd.C_drewN ?_ _) | (with_reducible refine Kd.C_drew ?_)))
  (case side6 => exact (qvR HO393.out).2.1)
  rintro e w126 ⟨rfl, hb⟩
  refine ⟨_, rfl, ?_⟩
  have n0_ := qaM (qvB zz8_4 hb)
  have n1_ := qaM (qvB zz8_5 hb)
  have n2_ := qaM (qvB zz8_7 hb)
  have n3_ := qaM (qvB zz8_9 hb)
  have n4_ := qaM (qvB zz8_10 hb)
  have n5_ := qaM (qbB (g := gb394) (o := .cells #[.bool t386, .slice Ao115 t387.length co115] 25 (0, 0)) zz8_1 hb)
  have n6_ := qaM (qbB (g := gb395) (o := .cells #[.bool t390, .slice Ao117 t391.length co117] 25 (0, 0)) zz8_3 hb)
  have n7_ := qaM (qbT zz8_0 hb)
  clear HO389
  clear HO393
  clear HO399
  clear HO403
  clear HO407
  clear BK394
  clear BK395
  clear HB
  have HO389 := n0_
  have HO393 := n1_
  have HO399 := n2_
  have HO403 := n3_
  have HO407 := n4_
  have BK394 := n5_
  have BK395 := n6_
  have HB := n7_
  clear n0_ n1_ n2_ n3_ n4_ n5_ n6_ n7_
  (try clear hb)
  (try clear hb2)
  (try clear hk)
  (try clear hi)
  refine hK.out _ _ ⟨(qbC BK394.out 0).trans rfl, (qbC BK394.out 1).trans rfl, (qbC BK395.out 0).trans rfl, (qbC BK395.out 1).trans rfl⟩ (fun hHeld => ?_)
  clear hK K
  refine norm_ (a' := ?_) ?_ ?_
  rotate_left
  ·show Act.put _ (some 27) _ = _
   simp only [Act.put, qsA, qsZ, qsS, i64_w, i32_w]
   rfl
  refine pure_ (i := 10) (N := some 17) (v := ?_) (a' := ?_) #[true, true, true, true, true, true, true, true, true, true, true, false, false, false, false] rfl rfl (any_of HT_.out zz8_11) (fun _ _ _ h => h) (Or.inl ⟨by rfl, ?_⟩) ?_ ?_
  rotate_left
  ·intro w'
   go_simp
   with_reducible rfl
  rotate_left
  ·simp only [Act.put, qsA, qsZ, qsS, i64_w, i32_w]
   rfl
  refine pure_ (i := 11) (N := some 28) (v := ?_) (a' := ?_) #[true, true, true, true, true, true, true, true, true, true, true, true, false, false, false] rfl rfl (any_of HT_.out zz8_11) (fun _ _ _ h => h) (Or.inl ⟨by rfl, ?_⟩) ?_ ?_
  rotate_left
  ·intro w'
   go_simp
   with_reducible rfl
  rotate_left
  ·simp only [Act.put, qsA, qsZ, qsS, i64_w, i32_w]
   rfl
  refine pure_ (i := 12) (N := some 29) (v := ?_) (a' := ?_) #[true, true, true, true, true, true, true, true, true, true, true, true, true, false, false] rfl rfl (any_of HT_.out zz8_11) (fun _ _ _ h => h) (Or.inl ⟨by rfl, ?_⟩) ?_ ?_
  rotate_left
  ·intro w'
   go_simp
   with_reducible rfl
  rotate_left
  ·simp only [Act.put, qsA, qsZ, qsS, i64_w, i32_w]
   rfl
  refine pure_ (i := 13) (N := some 7) (v := ?_) (a' := ?_) #[true, true, true, true, true, true, true, true, true, true, true, true, true, true, false] rfl rfl (any_of HT_.out zz8_11) (fun _ _ _ h => h) (Or.inl ⟨by rfl, ?_⟩) ?_ ?_
  rotate_left
  ·intro w'
   go_simp
   with_reducible rfl
  rotate_left
  ·simp only [Act.put, qsA, qsZ, qsS, i64_w, i32_w]
   rfl
  refine pure_ (i := 14) (N := some 8) (v := ?_) (a' := ?_) #[true, true, true, true, true, true, true, true, true, true, true, true, true, true, true] rfl rfl (any_of HT_.out zz8_11) (fun _ _ _ h => h) (Or.inl ⟨by rfl, ?_⟩) ?_ ?_
  rotate_left
  ·intro w'
   go_simp
   with_reducible rfl
  rotate_left
  ·simp only [Act.put, qsA, qsZ, qsS, i64_w, i32_w]
   rfl
  refine done_ (done_of HT_.out zz8_11) ?_
  try go_wp2_with (first | ((with_reducible refine gate_callee (f := 19) rfl ?_); refine goesL_ (some 33) rfl rfl Try.func19 zz8_11 rfl #[.int .i32 a0, .int .i32 a1] rfl zz8_2 ?_; (with_reducible refine (impl_MulInt32.calls a0 a1 t410 t411 _ A8.out).mono ?_); rintro e w127 ⟨rfl, hb⟩; refine ⟨_, rfl, ?_⟩; have n0_ := qaM (qvB zz8_4 hb); have n1_ := qaM (qvB zz8_5 hb); have n2_ := qaM (qvB zz8_7 hb); have n3_ := qaM (qvB zz8_9 hb); have n4_ := qaM (qvB zz8_10 hb); have n5_ := qaM (qbB (g := gb394) (o := .cells #[.bool t386, .slice Ao115 t387.length co115] 25 (0, 0)) zz8_1 hb); have n6_ := qaM (qbB (g := gb395) (o := .cells #[.bool t390, .slice Ao117 t391.length co117] 25 (0, 0)) zz8_3 hb); have n7_ := qaM (qbT zz8_0 hb); clear HO389; clear HO393; clear HO399; clear HO403; clear HO407; clear BK394; clear BK395; clear HB; have HO389 := n0_; have HO393 := n1_; have HO399 := n2_; have HO403 := n3_; have HO407 := n4_; have BK394 := n5_; have BK395 := n6_; have HB := n7_; clear n0_ n1_ n2_ n3_ n4_ n5_ n6_ n7_; (try clear hb); (try clear hb2); (try clear hk); (try clear hi)) | ((with_reducible refine gate_callee (f := 19) rfl ?_); refine goesL_ (some 37) rfl rfl Try.func19 zz8_11 rfl #[.int .i32 2, .int .i32 3] rfl zz8_2 ?_; (with_reducible refine (impl_MulInt32.calls 2 3 t412 t413 _ A9.out).mono ?_); rintro e w128 ⟨rfl, hb⟩; refine ⟨_, rfl, ?_⟩; have n0_ := qaM (qvB zz8_4 hb); have n1_ := qaM (qvB zz8_5 hb); have n2_ := qaM (qvB zz8_7 hb); have n3_ := qaM (qvB zz8_9 hb); have n4_ := qaM (qvB zz8_10 hb); have n5_ := qaM (qbB (g := gb394) (o := .cells #[.bool t386, .slice Ao115 t387.length co115] 25 (0, 0)) zz8_1 hb); have n6_ := qaM (qbB (g := gb395) (o := .cells #[.bool t390, .slice Ao117 t391.length co117] 25 (0, 0)) zz8_3 hb); have n7_ := qaM (qbT zz8_0 hb); clear HO389; clear HO393; clear HO399; clear HO403; clear HO407; clear BK394; clear BK395; clear HB; have HO389 := n0_; have HO393 := n1_; have HO399 := n2_; have HO403 := n3_; have HO407 := n4_; have BK394 := n5_; have BK395 := n6_; have HB := n7_; clear n0_ n1_ n2_ n3_ n4_ n5_ n6_ n7_; (try clear hb); (try clear hb2); (try clear hk); (try clear hi)))
  go_ret
  exact ⟨by first | rfl | (simp [errW_none, errW_some] <;> rfl) | (simp [*, errW_none, errW_some] <;> rfl), by repeat (first | (with_reducible first | exact HB.out | apply qwA | apply qwN | apply qwD | refine qwS ?_ GE394.out | refine qwS ?_ GE395.out) | exact HB.out)⟩

/-- THE ONE PURE STATEMENT of laws_FnMulInt32: yours. -/
def laws_FnMulInt32.Pure : Prop := ∀ (a0 : Int) (a1 : Int), (Lit.int .i32 a0).wf = true → (Lit.int .i32 a1).wf = true → ∃ k, laws_FnMulInt32.f k a0 a1 = some true
theorem laws_FnMulInt32.walk (P : laws_FnMulInt32.Pure) (a0 : Int) (a1 : Int) (w : World) (w0 : (Lit.int .i32 a0).wf = true) (w1 : (Lit.int .i32 a1).wf = true) :
  Calls Try.prog 6 #[.int .i32 a0, .int .i32 a1] w fun e w' => e = .returned (.bool true) ∧ Below w.heap.size w w' := by
 obtain ⟨k, h⟩ := P a0 a1 w0 w1
 refine (laws_FnMulInt32.calls k a0 a1 true w h).mono ?_
 rintro e w' ⟨rfl, hd⟩
 exact ⟨rfl, hd⟩

end Go.Proofs.Ytelpdndlmhcdoaa.QAll
