/- Printed by a program of this session (print2.py) over the kit's print: the functions that a law reaches, over contracts proved by hand. Lean checks it. -/
import Derived.Test.YtoaibapjnedhlaaGreatQAllx0
import Derived.Test.YtoaibapjnedhlaaGreatQAllx12
import Derived.Test.YtoaibapjnedhlaaGreatQAllx17
import Derived.Test.YtoaibapjnedhlaaGreatQAllx18
import Derived.Test.YtoaibapjnedhlaaGreatQAllx19
namespace Go.Proofs.YtoaibapjnedhlaaGreat.QAll
open Go.RowKit Go.Proofs.YtoaibapjnedhlaaGreatW.PrintWords Go.Proofs.YtoaibapjnedhlaaGreatW.PrintLast Go.Proofs.YtoaibapjnedhlaaGreatW.PrintMore
attribute [local go_sem] max2_int min2_int max_two min_two max_three min_three max_four min_four   -- for this text's walks alone
set_option linter.unusedVariables false
set_option linter.unusedSimpArgs false

theorem zd22_0 {p : Prop} (h : p := by (with_reducible repeat (first | refine qbN ?_ _ | refine qbD ?_ | refine qbA ?_ _)); exact BK403.out) : p := h
theorem zd22_1 {p : Prop} (h : p := by (with_reducible repeat (first | refine qbN ?_ _ | refine qbD ?_ | refine qbA ?_ _)); exact BK404.out) : p := h
theorem zd22_2 {p : Prop} (h : p := by repeat (first | (with_reducible first | exact HB.out | apply qwA | apply qwN | apply qwD | refine qwS ?_ GE403.out | refine qwS ?_ GE404.out | refine qwS ?_ GE417.out | refine qwS ?_ GE418.out) | exact HB.out)) : p := h
theorem zd22_3 {p : Prop} (h : p := by repeat (first | (with_reducible first | exact HB.out | apply qwA | apply qwN | apply qwD | refine qwS ?_ GE403.out | refine qwS ?_ GE404.out) | exact HB.out)) : p := h
theorem zd22_4 {p : Prop} (h : p := by (with_reducible repeat (first | refine qbN ?_ _ | refine qbD ?_ | refine qbA ?_ _)); exact BK417.out) : p := h
theorem zd22_5 {p : Prop} (h : p := by (try simp only [List.map_toArray, List.map_cons, List.map_nil]); first | done | rfl | (simp only [List.length_drop, List.length_take]; rfl)) : p := h
theorem zd22_6 {p : Prop} (h : p := by (with_reducible repeat (first | apply qvA | apply qvN | apply qvD)); exact HO_404001.out) : p := h
theorem zd22_7 {p : Prop} (h : p := by (with_reducible repeat (first | apply qvA | apply qvN | apply qvD)); exact HO_405001.out) : p := h
theorem zd22_8 {p : Prop} (h : p := by (with_reducible repeat (first | refine qbN ?_ _ | refine qbD ?_ | refine qbA ?_ _)); exact BK418.out) : p := h
theorem zd22_9 {p : Prop} (h : p := by (with_reducible repeat (first | apply qvA | apply qvN | apply qvD)); exact HO412.out) : p := h
theorem zd22_10 {p : Prop} (h : p := by (with_reducible repeat (first | apply qvA | apply qvN | apply qvD)); exact HO416.out) : p := h
theorem zd22_11 {p : Prop} (h : p := by repeat (first | (with_reducible first | exact HB.out | apply qwA | apply qwN | apply qwD | refine qwS ?_ GE403.out | refine qwS ?_ GE404.out | refine qwS ?_ GE417.out) | exact HB.out)) : p := h
theorem zd22_12 {p : Prop} (h : p := by (with_reducible repeat (first | apply qvA | apply qvN | apply qvD)); exact HO422.out) : p := h
theorem zd22_13 {p : Prop} (h : p := by (with_reducible repeat (first | apply qvA | apply qvN | apply qvD)); exact (qvM (qvM (qvF (p := ⟨gb404, 1, none⟩) (qvF (p := ⟨gb404, 0, none⟩) (qvF (p := ⟨gb403, 1, none⟩) (qvF (p := ⟨gb403, 0, none⟩) (qvM (qvM HO398.out (fun k_ hk => (⟨hk, hk.1.2⟩ : _ ∧ k_ ≠ gb403))) (fun k_ hk => (⟨hk, hk.1.2⟩ : _ ∧ k_ ≠ gb404))) (fun _ hk => hk.1.2) (.bool t395)) (fun _ hk => hk.1.2) (.slice Ao14 t396.length co14)) (fun _ hk => hk.2) (.bool t399)) (fun _ hk => hk.2) (.slice Ao16 t400.length co16)) (fun _ h_ => h_.1)) (fun _ h_ => h_.1))) : p := h
theorem zd22_14 {p : Prop} (h : p := by kernel_rfl) : p := h
theorem zd22_15 {p : Prop} (h : p := by repeat (first | (with_reducible first | exact HB.out | apply qwA | apply qwN | apply qwD) | exact HB.out)) : p := h
theorem zd22_16 {p : Prop} (h : p := by (with_reducible repeat (first | apply qvA | apply qvN | apply qvD)); exact HO428.out) : p := h
theorem zd22_17 {p : Prop} (h : p := by (with_reducible repeat (first | apply qvA | apply qvN | apply qvD)); exact (qvM (qvM (qvF (p := ⟨gb404, 1, none⟩) (qvF (p := ⟨gb404, 0, none⟩) (qvF (p := ⟨gb403, 1, none⟩) (qvF (p := ⟨gb403, 0, none⟩) (qvM (qvM HO402.out (fun k_ hk => (⟨hk, hk.1.2⟩ : _ ∧ k_ ≠ gb403))) (fun k_ hk => (⟨hk, hk.1.2⟩ : _ ∧ k_ ≠ gb404))) (fun _ hk => hk.1.2) (.bool t395)) (fun _ hk => hk.1.2) (.slice Ao14 t396.length co14)) (fun _ hk => hk.2) (.bool t399)) (fun _ hk => hk.2) (.slice Ao16 t400.length co16)) (fun _ h_ => h_.1)) (fun _ h_ => h_.1))) : p := h
theorem zd22_18 {p : Prop} (h : p := by repeat (first | (with_reducible first | exact HB.out | apply qwA | apply qwN | apply qwD | refine qwS ?_ GE403.out) | exact HB.out)) : p := h
theorem zd22_19 {p : Prop} (h : p := by first | rfl | (simp; done) | (simp [*]; done)) : p := h
theorem zd22_20 {p : Prop} (h : p := by (with_reducible repeat (first | apply qvA | apply qvN | apply qvD)); exact HO398.out) : p := h
theorem zd22_21 {p : Prop} (h : p := by (with_reducible repeat (first | apply qvA | apply qvN | apply qvD)); exact HO402.out) : p := h
/-! ### laws_FnSafeInt64: function 4 -/
mutual
def laws_FnSafeInt64.j0 : Nat → Int → Bool → Bool → Bool → List Int → Bool → List Int → Option (Bool)
 | 0, _, _, _, _, _, _, _ => none
 | k + 1, x0, x1, x14, x404000, x404001, x405000, x405001 => if x0 = 8 then (laws_FnSafeInt64.j1 k x0 x1 x14 false x404000 x404001 x405000 x405001) else (if x0 = 16 then (laws_FnSafeInt64.j1 k x0 x1 x14 false x404000 x404001 x405000 x405001) else (if x0 = 32 then (laws_FnSafeInt64.j1 k x0 x1 x14 false x404000 x404001 x405000 x405001) else (laws_FnSafeInt64.j1 k x0 x1 x14 (x0 != 64) x404000 x404001 x405000 x405001)))
def laws_FnSafeInt64.j1 : Nat → Int → Bool → Bool → Bool → Bool → List Int → Bool → List Int → Option (Bool)
 | 0, _, _, _, _, _, _, _, _ => none
 | k + 1, x0, x1, x14, x67, x404000, x404001, x405000, x405001 => if x67 = true then (some x14) else ((laws_bounds.f k x0 x1).bind fun bt409 => ((laws_greater.f k bt409.1 bt409.2.1 x404000 x404001).bind fun bt419 => ((laws_fitted.f k bt419.1 bt419.2 x404000 x404001 x405000 x405001).bind fun bt423 => ((laws_smaller.f k bt409.2.2.1 bt409.2.2.2 x405000 x405001).bind fun bt425 => ((laws_fitted.f k bt425.1 bt425.2 x404000 x404001 x405000 x405001).bind fun bt429 => ((impl_SafeInt64.f x0 x1).bind fun bt431 => (if bt431.2.2 = true then (if bt431.1 = (wrap64 (bt423.1)) then (if bt431.2.1 = (wrap64 (bt429.1)) then (some x14) else (some false)) else (some false)) else (some false))))))))
end
def laws_FnSafeInt64.f (k : Nat) (a0 : Int) (a1 : Bool) : Option (Bool) := (impl_SafeInt64.f 64 true).bind fun bt392 => ((laws_bounds.f k 64 true).bind fun bt395 => ((laws_fitted.f k bt395.1 bt395.2.1 bt395.1 bt395.2.1 bt395.2.2.1 bt395.2.2.2).bind fun bt405 => ((laws_fitted.f k bt395.2.2.1 bt395.2.2.2 bt395.1 bt395.2.1 bt395.2.2.1 bt395.2.2.2).bind fun bt407 => (if bt392.2.2 = true then (if bt392.1 = (wrap64 (bt405.1)) then (laws_FnSafeInt64.j0 k a0 a1 (bt392.2.1 == (wrap64 (bt407.1))) bt395.1 bt395.2.1 bt395.2.2.1 bt395.2.2.2) else (laws_FnSafeInt64.j0 k a0 a1 false bt395.1 bt395.2.1 bt395.2.2.1 bt395.2.2.2)) else (laws_FnSafeInt64.j0 k a0 a1 false bt395.1 bt395.2.1 bt395.2.2.1 bt395.2.2.2)))))
theorem laws_FnSafeInt64.mono_l : ∀ k, (∀ y0 y1 y2 y3 y4 y5 y6, LeO (laws_FnSafeInt64.j0 k y0 y1 y2 y3 y4 y5 y6) (laws_FnSafeInt64.j0 (k + 1) y0 y1 y2 y3 y4 y5 y6)) ∧ (∀ y0 y1 y2 y3 y4 y5 y6 y7, LeO (laws_FnSafeInt64.j1 k y0 y1 y2 y3 y4 y5 y6 y7) (laws_FnSafeInt64.j1 (k + 1) y0 y1 y2 y3 y4 y5 y6 y7))
 | 0 => ⟨fun _ _ _ _ _ _ _ r h => by simp [laws_FnSafeInt64.j0] at h, fun _ _ _ _ _ _ _ _ r h => by simp [laws_FnSafeInt64.j1] at h⟩
 | k + 1 => by
  obtain ⟨ih0, ih1⟩ := laws_FnSafeInt64.mono_l k
  refine ⟨?_, ?_⟩
  ·intro y0 y1 y2 y3 y4 y5 y6
   unfold laws_FnSafeInt64.j0
   repeat' first
   | (with_reducible exact ih0 _ _ _ _ _ _ _)
   | (with_reducible exact ih1 _ _ _ _ _ _ _ _)
   | (with_reducible exact laws_bounds.mono _ _ _)
   | (with_reducible exact laws_fitted.mono _ _ _ _ _ _ _)
   | (with_reducible exact laws_greater.mono _ _ _ _ _)
   | (with_reducible exact laws_smaller.mono _ _ _ _ _)
   | (with_reducible exact LeO.refl _)
   | (with_reducible exact LeO.none _)
   | (with_reducible refine LeO.ite ?_ ?_)
   | (with_reducible refine LeO.bind ?_ (fun _ => ?_))
   | exact ih0 _ _ _ _ _ _ _
   | exact ih1 _ _ _ _ _ _ _ _
   | exact laws_bounds.mono _ _ _
   | exact laws_fitted.mono _ _ _ _ _ _ _
   | exact laws_greater.mono _ _ _ _ _
   | exact laws_smaller.mono _ _ _ _ _
   | exact LeO.none _
   | refine LeO.ite ?_ ?_
   | refine LeO.bind ?_ (fun _ => ?_)
  ·intro y0 y1 y2 y3 y4 y5 y6 y7
   unfold laws_FnSafeInt64.j1
   repeat' first
   | (with_reducible exact ih0 _ _ _ _ _ _ _)
   | (with_reducible exact ih1 _ _ _ _ _ _ _ _)
   | (with_reducible exact laws_bounds.mono _ _ _)
   | (with_reducible exact laws_fitted.mono _ _ _ _ _ _ _)
   | (with_reducible exact laws_greater.mono _ _ _ _ _)
   | (with_reducible exact laws_smaller.mono _ _ _ _ _)
   | (with_reducible exact LeO.refl _)
   | (with_reducible exact LeO.none _)
   | (with_reducible refine LeO.ite ?_ ?_)
   | (with_reducible refine LeO.bind ?_ (fun _ => ?_))
   | exact ih0 _ _ _ _ _ _ _
   | exact ih1 _ _ _ _ _ _ _ _
   | exact laws_bounds.mono _ _ _
   | exact laws_fitted.mono _ _ _ _ _ _ _
   | exact laws_greater.mono _ _ _ _ _
   | exact laws_smaller.mono _ _ _ _ _
   | exact LeO.none _
   | refine LeO.ite ?_ ?_
   | refine LeO.bind ?_ (fun _ => ?_)
theorem laws_FnSafeInt64.mono : ∀ a0 a1 k, LeO (laws_FnSafeInt64.f k a0 a1) (laws_FnSafeInt64.f (k + 1) a0 a1) := by
 intro a0 a1 k
 obtain ⟨ih0, ih1⟩ := laws_FnSafeInt64.mono_l k
 unfold laws_FnSafeInt64.f
 repeat' first
   | (with_reducible exact ih0 _ _ _ _ _ _ _)
   | (with_reducible exact ih1 _ _ _ _ _ _ _ _)
   | (with_reducible exact laws_bounds.mono _ _ _)
   | (with_reducible exact laws_fitted.mono _ _ _ _ _ _ _)
   | (with_reducible exact laws_greater.mono _ _ _ _ _)
   | (with_reducible exact laws_smaller.mono _ _ _ _ _)
   | (with_reducible exact LeO.refl _)
   | (with_reducible exact LeO.none _)
   | (with_reducible refine LeO.ite ?_ ?_)
   | (with_reducible refine LeO.bind ?_ (fun _ => ?_))
   | exact ih0 _ _ _ _ _ _ _
   | exact ih1 _ _ _ _ _ _ _ _
   | exact laws_bounds.mono _ _ _
   | exact laws_fitted.mono _ _ _ _ _ _ _
   | exact laws_greater.mono _ _ _ _ _
   | exact laws_smaller.mono _ _ _ _ _
   | exact LeO.none _
   | refine LeO.ite ?_ ?_
   | refine LeO.bind ?_ (fun _ => ?_)
def laws_FnSafeInt64.T9 : Bool × List (List Nat × List Nat) := (true, [([], []), ([], []), ([0, 1], [0, 1]), ([], []), ([], []), ([2, 3, 4, 2], [2, 3, 4]), ([5], [5]), ([6], [6]), ([6], [6]), ([7, 5, 0, 1, 2, 3, 4, 5, 6, 7], [7])])
def laws_FnSafeInt64.B9 : List Nat := [0, 0, 3, 0, 0, 31, 63, 127, 127, 255]
theorem laws_FnSafeInt64.tab9 : rtab .any (opsOf Tryz.f4 9) = laws_FnSafeInt64.T9 := by kernel_rfl
theorem laws_FnSafeInt64.bits9 : waitsOk laws_FnSafeInt64.T9.2 laws_FnSafeInt64.B9 = true := by kernel_rfl
def laws_FnSafeInt64.T10 : Bool × List (List Nat × List Nat) := (true, [([], []), ([], []), ([0, 1], [0, 1]), ([], []), ([], []), ([2, 3, 4, 2], [2, 3, 4]), ([5], [5]), ([6], [6]), ([6], [6]), ([7, 5, 0, 1, 2, 3, 4, 5, 6, 7], [7])])
def laws_FnSafeInt64.B10 : List Nat := [0, 0, 3, 0, 0, 31, 63, 127, 127, 255]
theorem laws_FnSafeInt64.tab10 : rtab .any (opsOf Tryz.f4 10) = laws_FnSafeInt64.T10 := by kernel_rfl
theorem laws_FnSafeInt64.bits10 : waitsOk laws_FnSafeInt64.T10.2 laws_FnSafeInt64.B10 = true := by kernel_rfl
set_option maxHeartbeats 8000000 in
set_option maxRecDepth 100000 in
theorem laws_FnSafeInt64.calls (k : Nat) (a0 : Int) (a1 : Bool) (r : Bool) (w : World) (h : laws_FnSafeInt64.f k a0 a1 = some r) :
  Calls Tryz.prog 4 #[.int .i64 a0, .bool a1] w fun e w' => e = .returned (.bool r) ∧ Below w.heap.size w w' := by
 have hu27 := Tryz.underlying27
 have HB := qaM (Below.refl w.heap.size w)
 have H : ((impl_SafeInt64.f 64 true).bind fun bt392 => ((laws_bounds.f k 64 true).bind fun bt395 => ((laws_fitted.f k bt395.1 bt395.2.1 bt395.1 bt395.2.1 bt395.2.2.1 bt395.2.2.2).bind fun bt405 => ((laws_fitted.f k bt395.2.2.1 bt395.2.2.2 bt395.1 bt395.2.1 bt395.2.2.1 bt395.2.2.2).bind fun bt407 => (if bt392.2.2 = true then (if bt392.1 = (wrap64 (bt405.1)) then (laws_FnSafeInt64.j0 k a0 a1 (bt392.2.1 == (wrap64 (bt407.1))) bt395.1 bt395.2.1 bt395.2.2.1 bt395.2.2.2) else (laws_FnSafeInt64.j0 k a0 a1 false bt395.1 bt395.2.1 bt395.2.2.1 bt395.2.2.2)) else (laws_FnSafeInt64.j0 k a0 a1 false bt395.1 bt395.2.1 bt395.2.2.1 bt395.2.2.2)))))) = some r := h
 clear h
 replace H := Option.bind_eq_some_iff.mp H
 obtain ⟨⟨t392, t393, t394⟩, A30, H⟩ := H
 replace H : ((laws_bounds.f k 64 true).bind fun bt395 => ((laws_fitted.f k bt395.1 bt395.2.1 bt395.1 bt395.2.1 bt395.2.2.1 bt395.2.2.2).bind fun bt405 => ((laws_fitted.f k bt395.2.2.1 bt395.2.2.2 bt395.1 bt395.2.1 bt395.2.2.1 bt395.2.2.2).bind fun bt407 => (if t394 = true then (if t392 = (wrap64 (bt405.1)) then (laws_FnSafeInt64.j0 k a0 a1 (t393 == (wrap64 (bt407.1))) bt395.1 bt395.2.1 bt395.2.2.1 bt395.2.2.2) else (laws_FnSafeInt64.j0 k a0 a1 false bt395.1 bt395.2.1 bt395.2.2.1 bt395.2.2.2)) else (laws_FnSafeInt64.j0 k a0 a1 false bt395.1 bt395.2.1 bt395.2.2.1 bt395.2.2.2))))) = some r := H
 have A3 := qaM A30
 clear A30
 replace H := Option.bind_eq_some_iff.mp H
 obtain ⟨⟨t395, t396, t399, t400⟩, A40, H⟩ := H
 replace H : ((laws_fitted.f k t395 t396 t395 t396 t399 t400).bind fun bt405 => ((laws_fitted.f k t399 t400 t395 t396 t399 t400).bind fun bt407 => (if t394 = true then (if t392 = (wrap64 (bt405.1)) then (laws_FnSafeInt64.j0 k a0 a1 (t393 == (wrap64 (bt407.1))) t395 t396 t399 t400) else (laws_FnSafeInt64.j0 k a0 a1 false t395 t396 t399 t400)) else (laws_FnSafeInt64.j0 k a0 a1 false t395 t396 t399 t400)))) = some r := H
 have A4 := qaM A40
 clear A40
 replace H := Option.bind_eq_some_iff.mp H
 obtain ⟨⟨t405, t406⟩, A50, H⟩ := H
 replace H : ((laws_fitted.f k t399 t400 t395 t396 t399 t400).bind fun bt407 => (if t394 = true then (if t392 = (wrap64 (t405)) then (laws_FnSafeInt64.j0 k a0 a1 (t393 == (wrap64 (bt407.1))) t395 t396 t399 t400) else (laws_FnSafeInt64.j0 k a0 a1 false t395 t396 t399 t400)) else (laws_FnSafeInt64.j0 k a0 a1 false t395 t396 t399 t400))) = some r := H
 have A5 := qaM A50
 clear A50
 replace H := Option.bind_eq_some_iff.mp H
 obtain ⟨⟨t407, t408⟩, A60, H⟩ := H
 replace H : (if t394 = true then (if t392 = (wrap64 (t405)) then (laws_FnSafeInt64.j0 k a0 a1 (t393 == (wrap64 (t407))) t395 t396 t399 t400) else (laws_FnSafeInt64.j0 k a0 a1 false t395 t396 t399 t400)) else (laws_FnSafeInt64.j0 k a0 a1 false t395 t396 t399 t400)) = some r := H
 have A6 := qaM A60
 clear A60
 have HC7 := qaM H
 clear H
 go_enter Tryz.func4, Tryz.ntmps4
 go_upto_region 5 with (first | ((with_reducible refine gate_callee (f := 10) rfl ?_); refine goesL_ (some 19) rfl rfl Tryz.func10 zd22_14 rfl #[.int .i64 64, .bool true] rfl zd22_5 ?_; (with_reducible refine (impl_SafeInt64.calls 64 true t392 t393 t394 _ A3.out).mono ?_); rintro e w8 ⟨rfl, hb⟩; refine ⟨_, rfl, ?_⟩; have n0_ := qaM (qbT zd22_15 hb); clear HB; have HB := n0_; clear n0_; (try clear hb); (try clear hb2); (try clear hk); (try clear hi)) | ((with_reducible refine gate_callee (f := 6) rfl ?_); refine goesL_ (some 24) rfl rfl Tryz.func6 zd22_14 rfl #[.int .i64 64, .bool true] rfl zd22_5 ?_; (with_reducible refine (laws_bounds.calls k 64 true t395 t396 t399 t400 _ A4.out).mono ?_); rintro e w9 ⟨v397, v401, rfl, ho0, ho1, hb⟩; refine ⟨_, rfl, ?_⟩; have n0_ := qaM (qvL (qvM (ok' := fun k_ => True) ho0 (fun k_ hk_ => trivial)) (qbS zd22_15)); have n1_ := qaM (qvL (qvM (ok' := fun k_ => True) ho1 (fun k_ hk_ => trivial)) (qbS zd22_15)); have n2_ := qaM (qbT zd22_15 hb); clear HB; have HO398 := n0_; have HO402 := n1_; have HB := n2_; clear n0_ n1_ n2_; (try clear hb); (try clear hb2); (try clear hk); (try clear hi); (try clear ho0); (try clear ho1)) | ((with_reducible refine gate_dst (N := 8) rfl ?_); refine box_event ?hg (N := 8) ?hd (cs := #[.bool false, .slice none 0 0]) (t := 27) ?hr ?_; (case hd => rfl); (case hg => rfl); (case hr => first | (go_simp; done) | (go_simp; rfl)); intro gb403 hg w10 hbox hb; have n0_ := qaM (qvB (qvE zd22_20 gb403 (Nat.le_of_eq hg.symm)) hb); have n1_ := qaM (qvB (qvE zd22_21 gb403 (Nat.le_of_eq hg.symm)) hb); have n2_ := qaM (qbT zd22_15 hb); have n3_ := qaM (hbox); have n4_ := qaM ((by rw [hg]; exact (qbS zd22_15) : w.heap.size ≤ gb403)); have n5_ := qaM ((by rw [hg]; exact (qbS zd22_15) : w.heap.size ≤ gb403)); clear HO398; clear HO402; clear HB; have HO398 := n0_; have HO402 := n1_; have HB := n2_; have BK403 := n3_; have GW403 := n4_; have GE403 := n5_; clear n0_ n1_ n2_ n3_ n4_ n5_; clear hb hbox hg) | ((with_reducible refine gate_dst (N := 9) rfl ?_); refine box_event ?hg (N := 9) ?hd (cs := #[.bool false, .slice none 0 0]) (t := 27) ?hr ?_; (case hd => rfl); (case hg => rfl); (case hr => first | (go_simp; done) | (go_simp; rfl)); intro gb404 hg w11 hbox hb; have n0_ := qaM (qvB (qvE zd22_20 gb404 (Nat.le_of_eq hg.symm)) hb); have n1_ := qaM (qvB (qvE zd22_21 gb404 (Nat.le_of_eq hg.symm)) hb); have n2_ := qaM (qbB (g := gb403) (o := .cells #[.bool false, .slice none 0 0] 27 (0, 0)) zd22_0 hb); have n3_ := qaM (qbT zd22_18 hb); have n4_ := qaM (hbox); have n5_ := qaM ((by rw [hg]; exact (qbS zd22_18) : w.heap.size ≤ gb404)); have n6_ := qaM ((by rw [hg]; exact (qbS zd22_18) : w.heap.size ≤ gb404)); have n7_ := qaM ((by rw [hg]; exact qnL (qbL (g := gb403) (o := .cells #[.bool false, .slice none 0 0] 27 (0, 0)) zd22_0) : gb403 ≠ gb404)); have n8_ := qaM ((by rw [hg]; exact qnG (qbL (g := gb403) (o := .cells #[.bool false, .slice none 0 0] 27 (0, 0)) zd22_0) : gb404 ≠ gb403)); clear HO398; clear HO402; clear BK403; clear HB; have HO398 := n0_; have HO402 := n1_; have BK403 := n2_; have HB := n3_; have BK404 := n4_; have GW404 := n5_; have GE404 := n6_; have NB403_404 := n7_; have NB404_403 := n8_; clear n0_ n1_ n2_ n3_ n4_ n5_ n6_ n7_ n8_; clear hb hbox hg; have hnb12 := NB403_404.out; have hnc12 := NB404_403.out; have hcz13_0 : w11.cell? ⟨gb403, 0, none⟩ = some (.bool false) := (qbC BK403.out 0).trans rfl; have hcz13_1 : w11.cell? ⟨gb403, 1, none⟩ = some (.slice none 0 0) := (qbC BK403.out 1).trans rfl; have hfz13_0 := blk_frozen BK403.out 0; have hfz13_1 := blk_frozen BK403.out 1; obtain ⟨Ao14, co14, eo14⟩ := Kd.V_slice HO398.out; subst eo14; have hcz15_0 : w11.cell? ⟨gb404, 0, none⟩ = some (.bool false) := (qbC BK404.out 0).trans rfl; have hcz15_1 : w11.cell? ⟨gb404, 1, none⟩ = some (.slice none 0 0) := (qbC BK404.out 1).trans rfl; have hfz15_0 := blk_frozen BK404.out 0; have hfz15_1 := blk_frozen BK404.out 1; obtain ⟨Ao16, co16, eo16⟩ := Kd.V_slice HO402.out; subst eo16) | ((with_reducible refine gate_callee (f := 7) rfl ?_); refine goesL_ (some 31) rfl rfl Tryz.func7 zd22_14 rfl #[.agg #[.bool t395, .slice Ao14 t396.length co14], .agg #[.bool t395, .slice Ao14 t396.length co14], .agg #[.bool t399, .slice Ao16 t400.length co16]] rfl zd22_5 ?_; (with_reducible refine (laws_fitted.calls k t395 _ _ t396 t395 _ _ t396 t399 _ _ t400 t405 t406 _ ?side1 ?side2 ?side3 ?side4 ?side5 ?side6 A5.out).mono ?_); (case side1 => refine (qvR (e := 104) (base := w.heap.size) (ok := fun k_ => ((True ∧ k_ ≠ gb403) ∧ k_ ≠ gb404)) (n := t396.length) (c := co14) ?_).2.2; exact zd22_13); (case side2 => exact (qvR HO398.out).2.1); (case side3 => refine (qvR (e := 104) (base := w.heap.size) (ok := fun k_ => ((True ∧ k_ ≠ gb403) ∧ k_ ≠ gb404)) (n := t396.length) (c := co14) ?_).2.2; exact zd22_13); (case side4 => exact (qvR HO398.out).2.1); (case side5 => refine (qvR (e := 104) (base := w.heap.size) (ok := fun k_ => ((True ∧ k_ ≠ gb403) ∧ k_ ≠ gb404)) (n := t400.length) (c := co16) ?_).2.2; exact zd22_17); (case side6 => exact (qvR HO402.out).2.1); rintro e w17 ⟨rfl, hb⟩; refine ⟨_, rfl, ?_⟩; have n0_ := qaM (qvB zd22_13 hb); have n1_ := qaM (qvB zd22_17 hb); have n2_ := qaM (qbB (g := gb403) (o := .cells #[.bool t395, .slice Ao14 t396.length co14] 27 (0, 0)) (by (with_reducible repeat (first | refine qbN ?_ _ | refine qbD ?_ | refine qbA ?_ _)); refine qbF ?_ NB403_404.out _; (with_reducible repeat (first | refine qbN ?_ _ | refine qbD ?_ | refine qbA ?_ _)); refine qbF ?_ NB403_404.out _; (with_reducible repeat (first | refine qbN ?_ _ | refine qbD ?_ | refine qbA ?_ _)); refine qbP (cs := #[.bool t395, .slice none 0 0]) ?_ 1 _ rfl; (with_reducible repeat (first | refine qbN ?_ _ | refine qbD ?_ | refine qbA ?_ _)); refine qbP (cs := #[.bool false, .slice none 0 0]) ?_ 0 _ rfl; (with_reducible repeat (first | refine qbN ?_ _ | refine qbD ?_ | refine qbA ?_ _)); exact BK403.out) hb); have n3_ := qaM (qbB (g := gb404) (o := .cells #[.bool t399, .slice Ao16 t400.length co16] 27 (0, 0)) (by (with_reducible repeat (first | refine qbN ?_ _ | refine qbD ?_ | refine qbA ?_ _)); refine qbP (cs := #[.bool t399, .slice none 0 0]) ?_ 1 _ rfl; (with_reducible repeat (first | refine qbN ?_ _ | refine qbD ?_ | refine qbA ?_ _)); refine qbP (cs := #[.bool false, .slice none 0 0]) ?_ 0 _ rfl; (with_reducible repeat (first | refine qbN ?_ _ | refine qbD ?_ | refine qbA ?_ _)); refine qbF ?_ NB404_403.out _; (with_reducible repeat (first | refine qbN ?_ _ | refine qbD ?_ | refine qbA ?_ _)); refine qbF ?_ NB404_403.out _; (with_reducible repeat (first | refine qbN ?_ _ | refine qbD ?_ | refine qbA ?_ _)); exact BK404.out) hb); have n4_ := qaM (qbT zd22_3 hb); clear HO398; clear HO402; clear BK403; clear BK404; clear HB; have HO398 := n0_; have HO402 := n1_; have BK403 := n2_; have BK404 := n3_; have HB := n4_; clear n0_ n1_ n2_ n3_ n4_; (try clear hb); (try clear hb2); (try clear hk); (try clear hi); have hcz18_0 : w17.cell? ⟨gb404, 0, none⟩ = some (.bool t399) := (qbC BK404.out 0).trans rfl; have hcz18_1 : w17.cell? ⟨gb404, 1, none⟩ = some (.slice Ao16 t400.length co16) := (qbC BK404.out 1).trans rfl; have hfz18_0 := blk_frozen BK404.out 0; have hfz18_1 := blk_frozen BK404.out 1; have hcz19_0 : w17.cell? ⟨gb403, 0, none⟩ = some (.bool t395) := (qbC BK403.out 0).trans rfl; have hcz19_1 : w17.cell? ⟨gb403, 1, none⟩ = some (.slice Ao14 t396.length co14) := (qbC BK403.out 1).trans rfl; have hfz19_0 := blk_frozen BK403.out 0; have hfz19_1 := blk_frozen BK403.out 1) | ((with_reducible refine gate_callee (f := 7) rfl ?_); refine goesL_ (some 38) rfl rfl Tryz.func7 zd22_14 rfl #[.agg #[.bool t399, .slice Ao16 t400.length co16], .agg #[.bool t395, .slice Ao14 t396.length co14], .agg #[.bool t399, .slice Ao16 t400.length co16]] rfl zd22_5 ?_; (with_reducible refine (laws_fitted.calls k t399 _ _ t400 t395 _ _ t396 t399 _ _ t400 t407 t408 _ ?side1 ?side2 ?side3 ?side4 ?side5 ?side6 A6.out).mono ?_); (case side1 => repeat (first | exact (qvR HO402.out).2.2 | (with_reducible refine Kd.C_alloc ?_ _) | (with_reducible refine Kd.C_drewN ?_ _) | (with_reducible refine Kd.C_drew ?_))); (case side2 => exact (qvR HO402.out).2.1); (case side3 => repeat (first | exact (qvR HO398.out).2.2 | (with_reducible refine Kd.C_alloc ?_ _) | (with_reducible refine Kd.C_drewN ?_ _) | (with_reducible refine Kd.C_drew ?_))); (case side4 => exact (qvR HO398.out).2.1); (case side5 => repeat (first | exact (qvR HO402.out).2.2 | (with_reducible refine Kd.C_alloc ?_ _) | (with_reducible refine Kd.C_drewN ?_ _) | (with_reducible refine Kd.C_drew ?_))); (case side6 => exact (qvR HO402.out).2.1); rintro e w20 ⟨rfl, hb⟩; refine ⟨_, rfl, ?_⟩; have n0_ := qaM (qvB zd22_20 hb); have n1_ := qaM (qvB zd22_21 hb); have n2_ := qaM (qbB (g := gb403) (o := .cells #[.bool t395, .slice Ao14 t396.length co14] 27 (0, 0)) zd22_0 hb); have n3_ := qaM (qbB (g := gb404) (o := .cells #[.bool t399, .slice Ao16 t400.length co16] 27 (0, 0)) zd22_1 hb); have n4_ := qaM (qbT zd22_3 hb); clear HO398; clear HO402; clear BK403; clear BK404; clear HB; have HO398 := n0_; have HO402 := n1_; have BK403 := n2_; have BK404 := n3_; have HB := n4_; clear n0_ n1_ n2_ n3_ n4_; (try clear hb); (try clear hb2); (try clear hk); (try clear hi)))
 (try simp only [Act.put, qsA, qsZ, qsS])
 go_cut [14] (fun v14 wc => ∃ (kq : Nat) (x14_6 : Bool), v14 = .bool x14_6 ∧ Aside0 (laws_FnSafeInt64.j0 kq a0 a1 x14_6 t395 t396 t399 t400 = some r) ∧ Aside0 (kq ≤ k) ∧ Aside0 (Kd.V (Kd.int .u32) 104 wc w.heap.size (fun k_ => k_ ≠ gb403 ∧ k_ ≠ gb404) (.slice Ao14 t396.length co14) t396) ∧ Aside0 (Kd.V (Kd.int .u32) 104 wc w.heap.size (fun k_ => k_ ≠ gb403 ∧ k_ ≠ gb404) (.slice Ao16 t400.length co16) t400) ∧ Aside0 (wc.heap[gb403]? = some (.cells #[.bool t395, (.slice Ao14 t396.length co14)] 27 (0, 0))) ∧ Aside0 (wc.heap[gb404]? = some (.cells #[.bool t399, (.slice Ao16 t400.length co16)] 27 (0, 0))) ∧ Aside0 (Below w.heap.size w wc))
 case first =>
  have H := HC7.out
  clear HC7
  by_cases c21 : t394 = true
  ·subst c21
   have H1 : (if t392 = (wrap64 (t405)) then (laws_FnSafeInt64.j0 k a0 a1 (t393 == (wrap64 (t407))) t395 t396 t399 t400) else (laws_FnSafeInt64.j0 k a0 a1 false t395 t396 t399 t400)) = some r := by rw [if_pos rfl] at H; exact H
   clear H
   have H := H1
   clear H1
   by_cases c22 : t392 = (wrap64 (t405))
   ·rw [if_pos c22] at H
    have c22b0 : (t392 == (wrap64 (t405))) = true := beq_iff_eq.mpr c22
    have c22b1 : (t392 != (wrap64 (t405))) = false := bne_eq_false_iff_eq.mpr c22
    clear c22
    (first | rw [c22b0] | (simp only [i64_w, i32_w]; rw [c22b0]) | skip)
    have H' := qaM H
    clear H
    go_wp2
    go_meet
    case rel => exact ⟨_, ((t393 == (wrap64 (t407)))), zd22_19, H', ⟨by first | omega | exact Nat.le_refl _⟩, ⟨by (with_reducible repeat (first | apply qvA | apply qvN | apply qvD)); exact qvM HO398.out (fun _ hk => ⟨hk.1.2, hk.2⟩)⟩, ⟨by (with_reducible repeat (first | apply qvA | apply qvN | apply qvD)); exact qvM HO402.out (fun _ hk => ⟨hk.1.2, hk.2⟩)⟩, ⟨by (with_reducible repeat (first | refine qbN ?_ _ | refine qbD ?_ | refine qbA ?_ _)); exact BK403.out⟩, ⟨by (with_reducible repeat (first | refine qbN ?_ _ | refine qbD ?_ | refine qbA ?_ _)); exact BK404.out⟩, ⟨by repeat (first | (with_reducible first | exact HB.out | apply qwA | apply qwN | apply qwD | refine qwS ?_ GE403.out | refine qwS ?_ GE404.out) | exact HB.out)⟩⟩
   ·rw [if_neg c22] at H
    have c22b0 : (t392 == (wrap64 (t405))) = false := beq_eq_false_iff_ne.mpr c22
    have c22b1 : (t392 != (wrap64 (t405))) = true := bne_iff_ne.mpr c22
    (first | rw [c22b0] | (simp only [i64_w, i32_w]; rw [c22b0]) | skip)
    have H' := qaM H
    clear H
    go_wp2
    go_meet
    case rel => exact ⟨_, (false), zd22_19, H', ⟨by first | omega | exact Nat.le_refl _⟩, ⟨by (with_reducible repeat (first | apply qvA | apply qvN | apply qvD)); exact qvM HO398.out (fun _ hk => ⟨hk.1.2, hk.2⟩)⟩, ⟨by (with_reducible repeat (first | apply qvA | apply qvN | apply qvD)); exact qvM HO402.out (fun _ hk => ⟨hk.1.2, hk.2⟩)⟩, ⟨by (with_reducible repeat (first | refine qbN ?_ _ | refine qbD ?_ | refine qbA ?_ _)); exact BK403.out⟩, ⟨by (with_reducible repeat (first | refine qbN ?_ _ | refine qbD ?_ | refine qbA ?_ _)); exact BK404.out⟩, ⟨by repeat (first | (with_reducible first | exact HB.out | apply qwA | apply qwN | apply qwD | refine qwS ?_ GE403.out | refine qwS ?_ GE404.out) | exact HB.out)⟩⟩
  ·replace c21 := Bool.eq_false_iff.mpr c21
   subst c21
   have H1 : (laws_FnSafeInt64.j0 k a0 a1 false t395 t396 t399 t400) = some r := by rw [if_neg (show ¬ (false = true) by decide)] at H; exact H
   clear H
   have H := H1
   clear H1
   have H' := qaM H
   clear H
   go_wp2
   go_meet
   case rel => exact ⟨_, (false), zd22_19, H', ⟨by first | omega | exact Nat.le_refl _⟩, ⟨by (with_reducible repeat (first | apply qvA | apply qvN | apply qvD)); exact qvM HO398.out (fun _ hk => ⟨hk.1.2, hk.2⟩)⟩, ⟨by (with_reducible repeat (first | apply qvA | apply qvN | apply qvD)); exact qvM HO402.out (fun _ hk => ⟨hk.1.2, hk.2⟩)⟩, ⟨by (with_reducible repeat (first | refine qbN ?_ _ | refine qbD ?_ | refine qbA ?_ _)); exact BK403.out⟩, ⟨by (with_reducible repeat (first | refine qbN ?_ _ | refine qbD ?_ | refine qbA ?_ _)); exact BK404.out⟩, ⟨by repeat (first | (with_reducible first | exact HB.out | apply qwA | apply qwN | apply qwD | refine qwS ?_ GE403.out | refine qwS ?_ GE404.out) | exact HB.out)⟩⟩
 case rest =>
  clear HC7
  try clear c1
  try clear c2
  try clear p2
  try clear c4
  try clear c6
  try clear p6
  try clear c7
  try clear c10
  try clear c12
  try clear c21
  try clear c22
  try clear c22b0
  try clear c22b1
  try clear hcz13_0
  try clear hcz13_1
  try clear hcz15_0
  try clear hcz15_1
  try clear hcz18_0
  try clear hcz18_1
  try clear hcz19_0
  try clear hcz19_1
  try clear hfz13_0
  try clear hfz13_1
  try clear hfz15_0
  try clear hfz15_1
  try clear hfz18_0
  try clear hfz18_1
  try clear hfz19_0
  try clear hfz19_1
  obtain ⟨kq, x14_6, rfl, HA, HJ6, HO_404001, HO_405001, BK403, BK404, HB⟩ := hcut
  cases kq with
  | zero => exact absurd HA.out (by simp [laws_FnSafeInt64.j0])
  | succ kj6 =>
   have H := HA.out
   clear HA
   simp only [laws_FnSafeInt64.j0] at H
   have HC23 := qaM H
   clear H
   go_upto_region 6 with (fail)
   go_cut [67] (fun v67 wc => ∃ (kq : Nat) (x67_22 : Bool), v67 = .bool x67_22 ∧ Aside0 (laws_FnSafeInt64.j1 kq a0 a1 x14_6 x67_22 t395 t396 t399 t400 = some r) ∧ Aside0 (kq ≤ kj6) ∧ Aside0 (Kd.V (Kd.int .u32) 104 wc w.heap.size (fun k_ => k_ ≠ gb403 ∧ k_ ≠ gb404) (.slice Ao14 t396.length co14) t396) ∧ Aside0 (Kd.V (Kd.int .u32) 104 wc w.heap.size (fun k_ => k_ ≠ gb403 ∧ k_ ≠ gb404) (.slice Ao16 t400.length co16) t400) ∧ Aside0 (wc.heap[gb403]? = some (.cells #[.bool t395, (.slice Ao14 t396.length co14)] 27 (0, 0))) ∧ Aside0 (wc.heap[gb404]? = some (.cells #[.bool t399, (.slice Ao16 t400.length co16)] 27 (0, 0))) ∧ Aside0 (Below w.heap.size w wc))
   case first =>
    have H := HC23.out
    clear HC23
    by_cases c24 : a0 = 8
    ·rw [if_pos c24] at H
     have c24b0 : (a0 == 8) = true := beq_iff_eq.mpr c24
     have c24b1 : (a0 != 8) = false := bne_eq_false_iff_eq.mpr c24
     clear c24
     (first | rw [c24b0] | (simp only [i64_w, i32_w]; rw [c24b0]) | skip)
     have H' := qaM H
     clear H
     go_wp2
     go_meet
     case rel => exact ⟨_, (false), zd22_19, H', ⟨by have := HJ6.out; first | omega | exact Nat.le_refl _⟩, ⟨by (with_reducible repeat (first | apply qvA | apply qvN | apply qvD)); exact HO_404001.out⟩, ⟨by (with_reducible repeat (first | apply qvA | apply qvN | apply qvD)); exact HO_405001.out⟩, ⟨by (with_reducible repeat (first | refine qbN ?_ _ | refine qbD ?_ | refine qbA ?_ _)); exact BK403.out⟩, ⟨by (with_reducible repeat (first | refine qbN ?_ _ | refine qbD ?_ | refine qbA ?_ _)); exact BK404.out⟩, ⟨by repeat (first | (with_reducible first | exact HB.out | apply qwA | apply qwN | apply qwD | refine qwS ?_ GE403.out | refine qwS ?_ GE404.out) | exact HB.out)⟩⟩
    ·rw [if_neg c24] at H
     have c24b0 : (a0 == 8) = false := beq_eq_false_iff_ne.mpr c24
     have c24b1 : (a0 != 8) = true := bne_iff_ne.mpr c24
     (first | rw [c24b0] | (simp only [i64_w, i32_w]; rw [c24b0]) | skip)
     by_cases c25 : a0 = 16
     ·rw [if_pos c25] at H
      have c25b0 : (a0 == 16) = true := beq_iff_eq.mpr c25
      have c25b1 : (a0 != 16) = false := bne_eq_false_iff_eq.mpr c25
      clear c25
      have H' := qaM H
      clear H
      go_wp2
      go_meet
      case rel => exact ⟨_, (false), zd22_19, H', ⟨by have := HJ6.out; first | omega | exact Nat.le_refl _⟩, ⟨by (with_reducible repeat (first | apply qvA | apply qvN | apply qvD)); exact HO_404001.out⟩, ⟨by (with_reducible repeat (first | apply qvA | apply qvN | apply qvD)); exact HO_405001.out⟩, ⟨by (with_reducible repeat (first | refine qbN ?_ _ | refine qbD ?_ | refine qbA ?_ _)); exact BK403.out⟩, ⟨by (with_reducible repeat (first | refine qbN ?_ _ | refine qbD ?_ | refine qbA ?_ _)); exact BK404.out⟩, ⟨by repeat (first | (with_reducible first | exact HB.out | apply qwA | apply qwN | apply qwD | refine qwS ?_ GE403.out | refine qwS ?_ GE404.out) | exact HB.out)⟩⟩
     ·rw [if_neg c25] at H
      have c25b0 : (a0 == 16) = false := beq_eq_false_iff_ne.mpr c25
      have c25b1 : (a0 != 16) = true := bne_iff_ne.mpr c25
      by_cases c26 : a0 = 32
      ·rw [if_pos c26] at H
       have c26b0 : (a0 == 32) = true := beq_iff_eq.mpr c26
       have c26b1 : (a0 != 32) = false := bne_eq_false_iff_eq.mpr c26
       clear c26
       have H' := qaM H
       clear H
       go_wp2
       go_meet
       case rel => exact ⟨_, (false), zd22_19, H', ⟨by have := HJ6.out; first | omega | exact Nat.le_refl _⟩, ⟨by (with_reducible repeat (first | apply qvA | apply qvN | apply qvD)); exact HO_404001.out⟩, ⟨by (with_reducible repeat (first | apply qvA | apply qvN | apply qvD)); exact HO_405001.out⟩, ⟨by (with_reducible repeat (first | refine qbN ?_ _ | refine qbD ?_ | refine qbA ?_ _)); exact BK403.out⟩, ⟨by (with_reducible repeat (first | refine qbN ?_ _ | refine qbD ?_ | refine qbA ?_ _)); exact BK404.out⟩, ⟨by repeat (first | (with_reducible first | exact HB.out | apply qwA | apply qwN | apply qwD | refine qwS ?_ GE403.out | refine qwS ?_ GE404.out) | exact HB.out)⟩⟩
      ·rw [if_neg c26] at H
       have c26b0 : (a0 == 32) = false := beq_eq_false_iff_ne.mpr c26
       have c26b1 : (a0 != 32) = true := bne_iff_ne.mpr c26
       have H' := qaM H
       clear H
       go_wp2
       go_meet
       case rel => exact ⟨_, ((a0 != 64)), zd22_19, H', ⟨by have := HJ6.out; first | omega | exact Nat.le_refl _⟩, ⟨by (with_reducible repeat (first | apply qvA | apply qvN | apply qvD)); exact HO_404001.out⟩, ⟨by (with_reducible repeat (first | apply qvA | apply qvN | apply qvD)); exact HO_405001.out⟩, ⟨by (with_reducible repeat (first | refine qbN ?_ _ | refine qbD ?_ | refine qbA ?_ _)); exact BK403.out⟩, ⟨by (with_reducible repeat (first | refine qbN ?_ _ | refine qbD ?_ | refine qbA ?_ _)); exact BK404.out⟩, ⟨by repeat (first | (with_reducible first | exact HB.out | apply qwA | apply qwN | apply qwD | refine qwS ?_ GE403.out | refine qwS ?_ GE404.out) | exact HB.out)⟩⟩
   case rest =>
    clear HC23
    try clear c1
    try clear c2
    try clear p2
    try clear c4
    try clear c6
    try clear p6
    try clear c7
    try clear c10
    try clear c12
    try clear c21
    try clear c22
    try clear c22b0
    try clear c22b1
    try clear c24
    try clear c24b0
    try clear c24b1
    try clear c25
    try clear c25b0
    try clear c25b1
    try clear c26
    try clear c26b0
    try clear c26b1
    try clear hcz13_0
    try clear hcz13_1
    try clear hcz15_0
    try clear hcz15_1
    try clear hcz18_0
    try clear hcz18_1
    try clear hcz19_0
    try clear hcz19_1
    try clear hfz13_0
    try clear hfz13_1
    try clear hfz15_0
    try clear hfz15_1
    try clear hfz18_0
    try clear hfz18_1
    try clear hfz19_0
    try clear hfz19_1
    try clear p2
    try clear p6
    obtain ⟨kq, x67_22, rfl, HA, HJ22, HO_404001, HO_405001, BK403, BK404, HB⟩ := hcut
    cases kq with
    | zero => exact absurd HA.out (by simp [laws_FnSafeInt64.j1])
    | succ kj22 =>
     have H := HA.out
     clear HA
     simp only [laws_FnSafeInt64.j1] at H
     by_cases c27 : x67_22 = true
     ·subst c27
      have H1 : (some x14_6) = some r := by rw [if_pos rfl] at H; exact H
      clear H
      have H := H1
      clear H1
      obtain rfl := Option.some.inj H
      go_wp2
      go_ret
      exact ⟨by first | rfl | (simp [errW_none, errW_some] <;> rfl) | (simp [*, errW_none, errW_some] <;> rfl), by repeat (first | (with_reducible first | exact HB.out | apply qwA | apply qwN | apply qwD | refine qwS ?_ GE403.out | refine qwS ?_ GE404.out) | exact HB.out)⟩
     ·replace c27 := Bool.eq_false_iff.mpr c27
      subst c27
      have H1 : ((laws_bounds.f kj22 a0 a1).bind fun bt409 => ((laws_greater.f kj22 bt409.1 bt409.2.1 t395 t396).bind fun bt419 => ((laws_fitted.f kj22 bt419.1 bt419.2 t395 t396 t399 t400).bind fun bt423 => ((laws_smaller.f kj22 bt409.2.2.1 bt409.2.2.2 t399 t400).bind fun bt425 => ((laws_fitted.f kj22 bt425.1 bt425.2 t395 t396 t399 t400).bind fun bt429 => ((impl_SafeInt64.f a0 a1).bind fun bt431 => (if bt431.2.2 = true then (if bt431.1 = (wrap64 (bt423.1)) then (if bt431.2.1 = (wrap64 (bt429.1)) then (some x14_6) else (some false)) else (some false)) else (some false)))))))) = some r := by rw [if_neg (show ¬ (false = true) by decide)] at H; exact H
      clear H
      have H := H1
      clear H1
      replace H := Option.bind_eq_some_iff.mp H
      obtain ⟨⟨t409, t410, t413, t414⟩, A280, H⟩ := H
      replace H : ((laws_greater.f kj22 t409 t410 t395 t396).bind fun bt419 => ((laws_fitted.f kj22 bt419.1 bt419.2 t395 t396 t399 t400).bind fun bt423 => ((laws_smaller.f kj22 t413 t414 t399 t400).bind fun bt425 => ((laws_fitted.f kj22 bt425.1 bt425.2 t395 t396 t399 t400).bind fun bt429 => ((impl_SafeInt64.f a0 a1).bind fun bt431 => (if bt431.2.2 = true then (if bt431.1 = (wrap64 (bt423.1)) then (if bt431.2.1 = (wrap64 (bt429.1)) then (some x14_6) else (some false)) else (some false)) else (some false))))))) = some r := H
      have A28 := qaM A280
      clear A280
      replace H := Option.bind_eq_some_iff.mp H
      obtain ⟨⟨t419, t420⟩, A290, H⟩ := H
      replace H : ((laws_fitted.f kj22 t419 t420 t395 t396 t399 t400).bind fun bt423 => ((laws_smaller.f kj22 t413 t414 t399 t400).bind fun bt425 => ((laws_fitted.f kj22 bt425.1 bt425.2 t395 t396 t399 t400).bind fun bt429 => ((impl_SafeInt64.f a0 a1).bind fun bt431 => (if bt431.2.2 = true then (if bt431.1 = (wrap64 (bt423.1)) then (if bt431.2.1 = (wrap64 (bt429.1)) then (some x14_6) else (some false)) else (some false)) else (some false)))))) = some r := H
      have A29 := qaM A290
      clear A290
      replace H := Option.bind_eq_some_iff.mp H
      obtain ⟨⟨t423, t424⟩, A300, H⟩ := H
      replace H : ((laws_smaller.f kj22 t413 t414 t399 t400).bind fun bt425 => ((laws_fitted.f kj22 bt425.1 bt425.2 t395 t396 t399 t400).bind fun bt429 => ((impl_SafeInt64.f a0 a1).bind fun bt431 => (if bt431.2.2 = true then (if bt431.1 = (wrap64 (t423)) then (if bt431.2.1 = (wrap64 (bt429.1)) then (some x14_6) else (some false)) else (some false)) else (some false))))) = some r := H
      have A30 := qaM A300
      clear A300
      replace H := Option.bind_eq_some_iff.mp H
      obtain ⟨⟨t425, t426⟩, A310, H⟩ := H
      replace H : ((laws_fitted.f kj22 t425 t426 t395 t396 t399 t400).bind fun bt429 => ((impl_SafeInt64.f a0 a1).bind fun bt431 => (if bt431.2.2 = true then (if bt431.1 = (wrap64 (t423)) then (if bt431.2.1 = (wrap64 (bt429.1)) then (some x14_6) else (some false)) else (some false)) else (some false)))) = some r := H
      have A31 := qaM A310
      clear A310
      replace H := Option.bind_eq_some_iff.mp H
      obtain ⟨⟨t429, t430⟩, A320, H⟩ := H
      replace H : ((impl_SafeInt64.f a0 a1).bind fun bt431 => (if bt431.2.2 = true then (if bt431.1 = (wrap64 (t423)) then (if bt431.2.1 = (wrap64 (t429)) then (some x14_6) else (some false)) else (some false)) else (some false))) = some r := H
      have A32 := qaM A320
      clear A320
      replace H := Option.bind_eq_some_iff.mp H
      obtain ⟨⟨t431, t432, t433⟩, A330, H⟩ := H
      replace H : (if t433 = true then (if t431 = (wrap64 (t423)) then (if t432 = (wrap64 (t429)) then (some x14_6) else (some false)) else (some false)) else (some false)) = some r := H
      have A33 := qaM A330
      clear A330
      by_cases c34 : t433 = true
      ·subst c34
       have H1 : (if t431 = (wrap64 (t423)) then (if t432 = (wrap64 (t429)) then (some x14_6) else (some false)) else (some false)) = some r := by rw [if_pos rfl] at H; exact H
       clear H
       have H := H1
       clear H1
       by_cases c35 : t431 = (wrap64 (t423))
       ·rw [if_pos c35] at H
        have c35b0 : (t431 == (wrap64 (t423))) = true := beq_iff_eq.mpr c35
        have c35b1 : (t431 != (wrap64 (t423))) = false := bne_eq_false_iff_eq.mpr c35
        clear c35
        by_cases c36 : t432 = (wrap64 (t429))
        ·rw [if_pos c36] at H
         have c36b0 : (t432 == (wrap64 (t429))) = true := beq_iff_eq.mpr c36
         have c36b1 : (t432 != (wrap64 (t429))) = false := bne_eq_false_iff_eq.mpr c36
         clear c36
         obtain rfl := Option.some.inj H
         try go_wp2_with (first | ((with_reducible refine gate_callee (f := 6) rfl ?_); refine goesL_ (some 72) rfl rfl Tryz.func6 zd22_14 rfl #[.int .i64 a0, .bool a1] rfl zd22_5 ?_; (with_reducible refine (laws_bounds.calls kj22 a0 a1 t409 t410 t413 t414 _ A28.out).mono ?_); rintro e w37 ⟨v411, v415, rfl, ho0, ho1, hb⟩; refine ⟨_, rfl, ?_⟩; have n0_ := qaM (qvB zd22_6 hb); have n1_ := qaM (qvB zd22_7 hb); have n2_ := qaM (qvL (qvM (ok' := fun k_ => k_ ≠ gb403 ∧ k_ ≠ gb404) ho0 (fun k_ hk_ => ⟨(qfB (g := gb403) (o := .cells #[.bool t395, .slice Ao14 t396.length co14] 27 (0, 0)) zd22_0 k_ hk_), (qfB (g := gb404) (o := .cells #[.bool t399, .slice Ao16 t400.length co16] 27 (0, 0)) zd22_1 k_ hk_)⟩)) (qbS zd22_3)); have n3_ := qaM (qvL (qvM (ok' := fun k_ => k_ ≠ gb403 ∧ k_ ≠ gb404) ho1 (fun k_ hk_ => ⟨(qfB (g := gb403) (o := .cells #[.bool t395, .slice Ao14 t396.length co14] 27 (0, 0)) zd22_0 k_ hk_), (qfB (g := gb404) (o := .cells #[.bool t399, .slice Ao16 t400.length co16] 27 (0, 0)) zd22_1 k_ hk_)⟩)) (qbS zd22_3)); have n4_ := qaM (qbB (g := gb403) (o := .cells #[.bool t395, .slice Ao14 t396.length co14] 27 (0, 0)) zd22_0 hb); have n5_ := qaM (qbB (g := gb404) (o := .cells #[.bool t399, .slice Ao16 t400.length co16] 27 (0, 0)) zd22_1 hb); have n6_ := qaM (qbT zd22_3 hb); clear HO_404001; clear HO_405001; clear BK403; clear BK404; clear HB; have HO_404001 := n0_; have HO_405001 := n1_; have HO412 := n2_; have HO416 := n3_; have BK403 := n4_; have BK404 := n5_; have HB := n6_; clear n0_ n1_ n2_ n3_ n4_ n5_ n6_; (try clear hb); (try clear hb2); (try clear hk); (try clear hi); (try clear ho0); (try clear ho1)) | ((with_reducible refine gate_dst (N := 15) rfl ?_); refine box_event ?hg (N := 15) ?hd (cs := #[.bool false, .slice none 0 0]) (t := 27) ?hr ?_; (case hd => rfl); (case hg => rfl); (case hr => first | (go_simp; done) | (go_simp; rfl)); intro gb417 hg w38 hbox hb; have n0_ := qaM (qvB (qvE zd22_6 gb417 (Nat.le_of_eq hg.symm)) hb); have n1_ := qaM (qvB (qvE zd22_7 gb417 (Nat.le_of_eq hg.symm)) hb); have n2_ := qaM (qvB (qvE zd22_9 gb417 (Nat.le_of_eq hg.symm)) hb); have n3_ := qaM (qvB (qvE zd22_10 gb417 (Nat.le_of_eq hg.symm)) hb); have n4_ := qaM (qbB (g := gb403) (o := .cells #[.bool t395, .slice Ao14 t396.length co14] 27 (0, 0)) zd22_0 hb); have n5_ := qaM (qbB (g := gb404) (o := .cells #[.bool t399, .slice Ao16 t400.length co16] 27 (0, 0)) zd22_1 hb); have n6_ := qaM (qbT zd22_3 hb); have n7_ := qaM (hbox); have n8_ := qaM ((by rw [hg]; exact (qbS zd22_3) : w.heap.size ≤ gb417)); have n9_ := qaM ((by rw [hg]; exact (qbS zd22_3) : w.heap.size ≤ gb417)); have n10_ := qaM ((by rw [hg]; exact qnL (qbL (g := gb403) (o := .cells #[.bool t395, .slice Ao14 t396.length co14] 27 (0, 0)) zd22_0) : gb403 ≠ gb417)); have n11_ := qaM ((by rw [hg]; exact qnG (qbL (g := gb403) (o := .cells #[.bool t395, .slice Ao14 t396.length co14] 27 (0, 0)) zd22_0) : gb417 ≠ gb403)); have n12_ := qaM ((by rw [hg]; exact qnL (qbL (g := gb404) (o := .cells #[.bool t399, .slice Ao16 t400.length co16] 27 (0, 0)) zd22_1) : gb404 ≠ gb417)); have n13_ := qaM ((by rw [hg]; exact qnG (qbL (g := gb404) (o := .cells #[.bool t399, .slice Ao16 t400.length co16] 27 (0, 0)) zd22_1) : gb417 ≠ gb404)); clear HO_404001; clear HO_405001; clear HO412; clear HO416; clear BK403; clear BK404; clear HB; have HO_404001 := n0_; have HO_405001 := n1_; have HO412 := n2_; have HO416 := n3_; have BK403 := n4_; have BK404 := n5_; have HB := n6_; have BK417 := n7_; have GW417 := n8_; have GE417 := n9_; have NB403_417 := n10_; have NB417_403 := n11_; have NB404_417 := n12_; have NB417_404 := n13_; clear n0_ n1_ n2_ n3_ n4_ n5_ n6_ n7_ n8_ n9_ n10_ n11_ n12_ n13_; clear hb hbox hg) | ((with_reducible refine gate_dst (N := 16) rfl ?_); refine box_event ?hg (N := 16) ?hd (cs := #[.bool false, .slice none 0 0]) (t := 27) ?hr ?_; (case hd => rfl); (case hg => rfl); (case hr => first | (go_simp; done) | (go_simp; rfl)); intro gb418 hg w39 hbox hb; have n0_ := qaM (qvB (qvE zd22_6 gb418 (Nat.le_of_eq hg.symm)) hb); have n1_ := qaM (qvB (qvE zd22_7 gb418 (Nat.le_of_eq hg.symm)) hb); have n2_ := qaM (qvB (qvE zd22_9 gb418 (Nat.le_of_eq hg.symm)) hb); have n3_ := qaM (qvB (qvE zd22_10 gb418 (Nat.le_of_eq hg.symm)) hb); have n4_ := qaM (qbB (g := gb403) (o := .cells #[.bool t395, .slice Ao14 t396.length co14] 27 (0, 0)) zd22_0 hb); have n5_ := qaM (qbB (g := gb404) (o := .cells #[.bool t399, .slice Ao16 t400.length co16] 27 (0, 0)) zd22_1 hb); have n6_ := qaM (qbB (g := gb417) (o := .cells #[.bool false, .slice none 0 0] 27 (0, 0)) zd22_4 hb); have n7_ := qaM (qbT zd22_11 hb); have n8_ := qaM (hbox); have n9_ := qaM ((by rw [hg]; exact (qbS zd22_11) : w.heap.size ≤ gb418)); have n10_ := qaM ((by rw [hg]; exact (qbS zd22_11) : w.heap.size ≤ gb418)); have n11_ := qaM ((by rw [hg]; exact qnL (qbL (g := gb403) (o := .cells #[.bool t395, .slice Ao14 t396.length co14] 27 (0, 0)) zd22_0) : gb403 ≠ gb418)); have n12_ := qaM ((by rw [hg]; exact qnG (qbL (g := gb403) (o := .cells #[.bool t395, .slice Ao14 t396.length co14] 27 (0, 0)) zd22_0) : gb418 ≠ gb403)); have n13_ := qaM ((by rw [hg]; exact qnL (qbL (g := gb404) (o := .cells #[.bool t399, .slice Ao16 t400.length co16] 27 (0, 0)) zd22_1) : gb404 ≠ gb418)); have n14_ := qaM ((by rw [hg]; exact qnG (qbL (g := gb404) (o := .cells #[.bool t399, .slice Ao16 t400.length co16] 27 (0, 0)) zd22_1) : gb418 ≠ gb404)); have n15_ := qaM ((by rw [hg]; exact qnL (qbL (g := gb417) (o := .cells #[.bool false, .slice none 0 0] 27 (0, 0)) zd22_4) : gb417 ≠ gb418)); have n16_ := qaM ((by rw [hg]; exact qnG (qbL (g := gb417) (o := .cells #[.bool false, .slice none 0 0] 27 (0, 0)) zd22_4) : gb418 ≠ gb417)); clear HO_404001; clear HO_405001; clear HO412; clear HO416; clear BK403; clear BK404; clear BK417; clear HB; have HO_404001 := n0_; have HO_405001 := n1_; have HO412 := n2_; have HO416 := n3_; have BK403 := n4_; have BK404 := n5_; have BK417 := n6_; have HB := n7_; have BK418 := n8_; have GW418 := n9_; have GE418 := n10_; have NB403_418 := n11_; have NB418_403 := n12_; have NB404_418 := n13_; have NB418_404 := n14_; have NB417_418 := n15_; have NB418_417 := n16_; clear n0_ n1_ n2_ n3_ n4_ n5_ n6_ n7_ n8_ n9_ n10_ n11_ n12_ n13_ n14_ n15_ n16_; clear hb hbox hg; have hnb40 := NB417_403.out; have hnc40 := NB403_417.out; have hnb41 := NB417_404.out; have hnc41 := NB404_417.out; have hnb42 := NB417_418.out; have hnc42 := NB418_417.out; have hcz43_0 : w39.cell? ⟨gb417, 0, none⟩ = some (.bool false) := (qbC BK417.out 0).trans rfl; have hcz43_1 : w39.cell? ⟨gb417, 1, none⟩ = some (.slice none 0 0) := (qbC BK417.out 1).trans rfl; have hfz43_0 := blk_frozen BK417.out 0; have hfz43_1 := blk_frozen BK417.out 1; obtain ⟨Ao44, co44, eo44⟩ := Kd.V_slice HO412.out; subst eo44; have hnb45 := NB418_403.out; have hnc45 := NB403_418.out; have hnb46 := NB418_404.out; have hnc46 := NB404_418.out; have hcz47_0 : w39.cell? ⟨gb418, 0, none⟩ = some (.bool false) := (qbC BK418.out 0).trans rfl; have hcz47_1 : w39.cell? ⟨gb418, 1, none⟩ = some (.slice none 0 0) := (qbC BK418.out 1).trans rfl; have hfz47_0 := blk_frozen BK418.out 0; have hfz47_1 := blk_frozen BK418.out 1; obtain ⟨Ao48, co48, eo48⟩ := Kd.V_slice HO416.out; subst eo48))
         have n0_ : Aside0 (Kd.V (Kd.int .u32) 104 ((((w39.setCell ⟨gb417, 0, none⟩ (.bool t409)).setCell ⟨gb417, 1, none⟩ (.slice Ao44 t410.length co44)).setCell ⟨gb418, 0, none⟩ (.bool t413)).setCell ⟨gb418, 1, none⟩ (.slice Ao48 t414.length co48)) w.heap.size (fun k_ => k_ ≠ gb403 ∧ k_ ≠ gb404 ∧ k_ ≠ gb417 ∧ k_ ≠ gb418) (.slice Ao14 t396.length co14) t396) := ⟨by (with_reducible repeat (first | apply qvA | apply qvN | apply qvD)); exact qvM (qvF (p := ⟨gb418, 1, none⟩) (qvF (p := ⟨gb418, 0, none⟩) (qvF (p := ⟨gb417, 1, none⟩) (qvF (p := ⟨gb417, 0, none⟩) (qvM (qvM HO_404001.out (fun k_ hk => (⟨hk, hk.1.2⟩ : _ ∧ k_ ≠ gb417))) (fun k_ hk => (⟨hk, hk.1.2⟩ : _ ∧ k_ ≠ gb418))) (fun _ hk => hk.1.2) (.bool t409)) (fun _ hk => hk.1.2) (.slice Ao44 t410.length co44)) (fun _ hk => hk.2) (.bool t413)) (fun _ hk => hk.2) (.slice Ao48 t414.length co48)) (fun _ hk => ⟨hk.1.1.1.1.1, ⟨hk.1.1.1.1.2, ⟨hk.1.1.1.2, hk.1.1.2⟩⟩⟩)⟩
         have n1_ : Aside0 (Kd.V (Kd.int .u32) 104 ((((w39.setCell ⟨gb417, 0, none⟩ (.bool t409)).setCell ⟨gb417, 1, none⟩ (.slice Ao44 t410.length co44)).setCell ⟨gb418, 0, none⟩ (.bool t413)).setCell ⟨gb418, 1, none⟩ (.slice Ao48 t414.length co48)) w.heap.size (fun k_ => k_ ≠ gb403 ∧ k_ ≠ gb404 ∧ k_ ≠ gb417 ∧ k_ ≠ gb418) (.slice Ao16 t400.length co16) t400) := ⟨by (with_reducible repeat (first | apply qvA | apply qvN | apply qvD)); exact qvM (qvF (p := ⟨gb418, 1, none⟩) (qvF (p := ⟨gb418, 0, none⟩) (qvF (p := ⟨gb417, 1, none⟩) (qvF (p := ⟨gb417, 0, none⟩) (qvM (qvM HO_405001.out (fun k_ hk => (⟨hk, hk.1.2⟩ : _ ∧ k_ ≠ gb417))) (fun k_ hk => (⟨hk, hk.1.2⟩ : _ ∧ k_ ≠ gb418))) (fun _ hk => hk.1.2) (.bool t409)) (fun _ hk => hk.1.2) (.slice Ao44 t410.length co44)) (fun _ hk => hk.2) (.bool t413)) (fun _ hk => hk.2) (.slice Ao48 t414.length co48)) (fun _ hk => ⟨hk.1.1.1.1.1, ⟨hk.1.1.1.1.2, ⟨hk.1.1.1.2, hk.1.1.2⟩⟩⟩)⟩
         have n2_ : Aside0 (Kd.V (Kd.int .u32) 104 ((((w39.setCell ⟨gb417, 0, none⟩ (.bool t409)).setCell ⟨gb417, 1, none⟩ (.slice Ao44 t410.length co44)).setCell ⟨gb418, 0, none⟩ (.bool t413)).setCell ⟨gb418, 1, none⟩ (.slice Ao48 t414.length co48)) w.heap.size (fun k_ => k_ ≠ gb403 ∧ k_ ≠ gb404 ∧ k_ ≠ gb417 ∧ k_ ≠ gb418) (.slice Ao44 t410.length co44) t410) := ⟨by (with_reducible repeat (first | apply qvA | apply qvN | apply qvD)); exact qvM (qvF (p := ⟨gb418, 1, none⟩) (qvF (p := ⟨gb418, 0, none⟩) (qvF (p := ⟨gb417, 1, none⟩) (qvF (p := ⟨gb417, 0, none⟩) (qvM (qvM HO412.out (fun k_ hk => (⟨hk, hk.1.2⟩ : _ ∧ k_ ≠ gb417))) (fun k_ hk => (⟨hk, hk.1.2⟩ : _ ∧ k_ ≠ gb418))) (fun _ hk => hk.1.2) (.bool t409)) (fun _ hk => hk.1.2) (.slice Ao44 t410.length co44)) (fun _ hk => hk.2) (.bool t413)) (fun _ hk => hk.2) (.slice Ao48 t414.length co48)) (fun _ hk => ⟨hk.1.1.1.1.1, ⟨hk.1.1.1.1.2, ⟨hk.1.1.1.2, hk.1.1.2⟩⟩⟩)⟩
         have n3_ : Aside0 (Kd.V (Kd.int .u32) 104 ((((w39.setCell ⟨gb417, 0, none⟩ (.bool t409)).setCell ⟨gb417, 1, none⟩ (.slice Ao44 t410.length co44)).setCell ⟨gb418, 0, none⟩ (.bool t413)).setCell ⟨gb418, 1, none⟩ (.slice Ao48 t414.length co48)) w.heap.size (fun k_ => k_ ≠ gb403 ∧ k_ ≠ gb404 ∧ k_ ≠ gb417 ∧ k_ ≠ gb418) (.slice Ao48 t414.length co48) t414) := ⟨by (with_reducible repeat (first | apply qvA | apply qvN | apply qvD)); exact qvM (qvF (p := ⟨gb418, 1, none⟩) (qvF (p := ⟨gb418, 0, none⟩) (qvF (p := ⟨gb417, 1, none⟩) (qvF (p := ⟨gb417, 0, none⟩) (qvM (qvM HO416.out (fun k_ hk => (⟨hk, hk.1.2⟩ : _ ∧ k_ ≠ gb417))) (fun k_ hk => (⟨hk, hk.1.2⟩ : _ ∧ k_ ≠ gb418))) (fun _ hk => hk.1.2) (.bool t409)) (fun _ hk => hk.1.2) (.slice Ao44 t410.length co44)) (fun _ hk => hk.2) (.bool t413)) (fun _ hk => hk.2) (.slice Ao48 t414.length co48)) (fun _ hk => ⟨hk.1.1.1.1.1, ⟨hk.1.1.1.1.2, ⟨hk.1.1.1.2, hk.1.1.2⟩⟩⟩)⟩
         have n4_ : Aside0 (((((w39.setCell ⟨gb417, 0, none⟩ (.bool t409)).setCell ⟨gb417, 1, none⟩ (.slice Ao44 t410.length co44)).setCell ⟨gb418, 0, none⟩ (.bool t413)).setCell ⟨gb418, 1, none⟩ (.slice Ao48 t414.length co48)).heap[gb403]? = some (.cells #[.bool t395, .slice Ao14 t396.length co14] 27 (0, 0))) := ⟨by (with_reducible repeat (first | refine qbN ?_ _ | refine qbD ?_ | refine qbA ?_ _)); refine qbF ?_ NB403_418.out _; (with_reducible repeat (first | refine qbN ?_ _ | refine qbD ?_ | refine qbA ?_ _)); refine qbF ?_ NB403_418.out _; (with_reducible repeat (first | refine qbN ?_ _ | refine qbD ?_ | refine qbA ?_ _)); refine qbF ?_ NB403_417.out _; (with_reducible repeat (first | refine qbN ?_ _ | refine qbD ?_ | refine qbA ?_ _)); refine qbF ?_ NB403_417.out _; (with_reducible repeat (first | refine qbN ?_ _ | refine qbD ?_ | refine qbA ?_ _)); exact BK403.out⟩
         have n5_ : Aside0 (((((w39.setCell ⟨gb417, 0, none⟩ (.bool t409)).setCell ⟨gb417, 1, none⟩ (.slice Ao44 t410.length co44)).setCell ⟨gb418, 0, none⟩ (.bool t413)).setCell ⟨gb418, 1, none⟩ (.slice Ao48 t414.length co48)).heap[gb404]? = some (.cells #[.bool t399, .slice Ao16 t400.length co16] 27 (0, 0))) := ⟨by (with_reducible repeat (first | refine qbN ?_ _ | refine qbD ?_ | refine qbA ?_ _)); refine qbF ?_ NB404_418.out _; (with_reducible repeat (first | refine qbN ?_ _ | refine qbD ?_ | refine qbA ?_ _)); refine qbF ?_ NB404_418.out _; (with_reducible repeat (first | refine qbN ?_ _ | refine qbD ?_ | refine qbA ?_ _)); refine qbF ?_ NB404_417.out _; (with_reducible repeat (first | refine qbN ?_ _ | refine qbD ?_ | refine qbA ?_ _)); refine qbF ?_ NB404_417.out _; (with_reducible repeat (first | refine qbN ?_ _ | refine qbD ?_ | refine qbA ?_ _)); exact BK404.out⟩
         have n6_ : Aside0 (((((w39.setCell ⟨gb417, 0, none⟩ (.bool t409)).setCell ⟨gb417, 1, none⟩ (.slice Ao44 t410.length co44)).setCell ⟨gb418, 0, none⟩ (.bool t413)).setCell ⟨gb418, 1, none⟩ (.slice Ao48 t414.length co48)).heap[gb417]? = some (.cells #[.bool t409, .slice Ao44 t410.length co44] 27 (0, 0))) := ⟨by (with_reducible repeat (first | refine qbN ?_ _ | refine qbD ?_ | refine qbA ?_ _)); refine qbF ?_ NB417_418.out _; (with_reducible repeat (first | refine qbN ?_ _ | refine qbD ?_ | refine qbA ?_ _)); refine qbF ?_ NB417_418.out _; (with_reducible repeat (first | refine qbN ?_ _ | refine qbD ?_ | refine qbA ?_ _)); refine qbP (cs := #[.bool t409, .slice none 0 0]) ?_ 1 _ rfl; (with_reducible repeat (first | refine qbN ?_ _ | refine qbD ?_ | refine qbA ?_ _)); refine qbP (cs := #[.bool false, .slice none 0 0]) ?_ 0 _ rfl; (with_reducible repeat (first | refine qbN ?_ _ | refine qbD ?_ | refine qbA ?_ _)); exact BK417.out⟩
         have n7_ : Aside0 (((((w39.setCell ⟨gb417, 0, none⟩ (.bool t409)).setCell ⟨gb417, 1, none⟩ (.slice Ao44 t410.length co44)).setCell ⟨gb418, 0, none⟩ (.bool t413)).setCell ⟨gb418, 1, none⟩ (.slice Ao48 t414.length co48)).heap[gb418]? = some (.cells #[.bool t413, .slice Ao48 t414.length co48] 27 (0, 0))) := ⟨by (with_reducible repeat (first | refine qbN ?_ _ | refine qbD ?_ | refine qbA ?_ _)); refine qbP (cs := #[.bool t413, .slice none 0 0]) ?_ 1 _ rfl; (with_reducible repeat (first | refine qbN ?_ _ | refine qbD ?_ | refine qbA ?_ _)); refine qbP (cs := #[.bool false, .slice none 0 0]) ?_ 0 _ rfl; (with_reducible repeat (first | refine qbN ?_ _ | refine qbD ?_ | refine qbA ?_ _)); refine qbF ?_ NB418_417.out _; (with_reducible repeat (first | refine qbN ?_ _ | refine qbD ?_ | refine qbA ?_ _)); refine qbF ?_ NB418_417.out _; (with_reducible repeat (first | refine qbN ?_ _ | refine qbD ?_ | refine qbA ?_ _)); exact BK418.out⟩
         have n8_ : Aside0 (Below w.heap.size w ((((w39.setCell ⟨gb417, 0, none⟩ (.bool t409)).setCell ⟨gb417, 1, none⟩ (.slice Ao44 t410.length co44)).setCell ⟨gb418, 0, none⟩ (.bool t413)).setCell ⟨gb418, 1, none⟩ (.slice Ao48 t414.length co48))) := ⟨by repeat (first | (with_reducible first | exact HB.out | apply qwA | apply qwN | apply qwD | refine qwS ?_ GE403.out | refine qwS ?_ GE404.out | refine qwS ?_ GE417.out | refine qwS ?_ GE418.out) | exact HB.out)⟩
         (try clear HO_404001)
         (try clear HO_405001)
         (try clear HO412)
         (try clear HO416)
         (try clear BK403)
         (try clear BK404)
         (try clear BK417)
         (try clear BK418)
         (try clear HB)
         generalize ((((w39.setCell ⟨gb417, 0, none⟩ (.bool t409)).setCell ⟨gb417, 1, none⟩ (.slice Ao44 t410.length co44)).setCell ⟨gb418, 0, none⟩ (.bool t413)).setCell ⟨gb418, 1, none⟩ (.slice Ao48 t414.length co48)) = w49 at n0_ n1_ n2_ n3_ n4_ n5_ n6_ n7_ n8_ ⊢
         have HO_404001 := n0_
         have HO_405001 := n1_
         have HO412 := n2_
         have HO416 := n3_
         have BK403 := n4_
         have BK404 := n5_
         have BK417 := n6_
         have BK418 := n7_
         have HB := n8_
         clear n0_ n1_ n2_ n3_ n4_ n5_ n6_ n7_ n8_
         have n0_ := qaM (qvD HO_404001.out)
         have n1_ := qaM (qvD HO_405001.out)
         have n2_ := qaM (qvD HO412.out)
         have n3_ := qaM (qvD HO416.out)
         have n4_ := qaM (qbD BK403.out)
         have n5_ := qaM (qbD BK404.out)
         have n6_ := qaM (qbD BK417.out)
         have n7_ := qaM (qbD BK418.out)
         have n8_ := qaM (qwD HB.out)
         clear HO_404001
         clear HO_405001
         clear HO412
         clear HO416
         clear BK403
         clear BK404
         clear BK417
         clear BK418
         clear HB
         have HO_404001 := n0_
         have HO_405001 := n1_
         have HO412 := n2_
         have HO416 := n3_
         have BK403 := n4_
         have BK404 := n5_
         have BK417 := n6_
         have BK418 := n7_
         have HB := n8_
         clear n0_ n1_ n2_ n3_ n4_ n5_ n6_ n7_ n8_
         refine start_ (n := 10) (S := fun w' => w'.cell? ⟨gb417, 0, none⟩ = some (.bool t409) ∧ w'.cell? ⟨gb417, 1, none⟩ = some (.slice Ao44 t410.length co44) ∧ w'.cell? ⟨gb403, 0, none⟩ = some (.bool t395) ∧ w'.cell? ⟨gb403, 1, none⟩ = some (.slice Ao14 t396.length co14) ∧ w'.cell? ⟨gb404, 0, none⟩ = some (.bool t399) ∧ w'.cell? ⟨gb404, 1, none⟩ = some (.slice Ao16 t400.length co16)) (ds := []) #[false, false, false, false, false, false, false, false, false, false] zd22_14 rfl rfl ⟨(qbC BK417.out 0).trans rfl, (qbC BK417.out 1).trans rfl, (qbC BK403.out 0).trans rfl, (qbC BK403.out 1).trans rfl, (qbC BK404.out 0).trans rfl, (qbC BK404.out 1).trans rfl⟩ (fun hHeld => ?_); refine with_tabW laws_FnSafeInt64.tab9 laws_FnSafeInt64.bits9 (fun HT_ HW_ => ?_)
         generalize w49.drew = w50 at HO_404001 HO_405001 HO412 HO416 BK403 BK404 BK417 BK418 HB hHeld ⊢
         refine take_ (i := 0) (N := some 76) (v := ?_) (a' := ?_) #[true, false, false, false, false, false, false, false, false, false] rfl rfl (take_ofW HT_.out HW_.out zd22_14) (fun _ _ _ h => h) (Or.inl ⟨by rfl, ?_⟩) hHeld ?_ ?_
         rotate_left
         ·rintro w' ⟨s0, s1, s2, s3, s4, s5⟩
          go_simp
          with_reducible rfl
         rotate_left
         ·simp only [Act.put, qsA, qsZ, qsS, i64_w, i32_w]
          rfl
         refine take_ (i := 1) (N := some 77) (v := ?_) (a' := ?_) #[true, true, false, false, false, false, false, false, false, false] rfl rfl (take_ofW HT_.out HW_.out zd22_14) (fun _ _ _ h => h) (Or.inl ⟨by rfl, ?_⟩) hHeld ?_ ?_
         rotate_left
         ·rintro w' ⟨s0, s1, s2, s3, s4, s5⟩
          go_simp
          with_reducible rfl
         rotate_left
         ·simp only [Act.put, qsA, qsZ, qsS, i64_w, i32_w]
          rfl
         refine take_ (i := 3) (N := some 79) (v := ?_) (a' := ?_) #[true, true, false, true, false, false, false, false, false, false] rfl rfl (take_ofW HT_.out HW_.out zd22_14) (fun _ _ _ h => h) (Or.inl ⟨by rfl, ?_⟩) hHeld ?_ ?_
         rotate_left
         ·rintro w' ⟨s0, s1, s2, s3, s4, s5⟩
          go_simp
          with_reducible rfl
         rotate_left
         ·simp only [Act.put, qsA, qsZ, qsS, i64_w, i32_w]
          rfl
         refine take_ (i := 4) (N := some 80) (v := ?_) (a' := ?_) #[true, true, false, true, true, false, false, false, false, false] rfl rfl (take_ofW HT_.out HW_.out zd22_14) (fun _ _ _ h => h) (Or.inl ⟨by rfl, ?_⟩) hHeld ?_ ?_
         rotate_left
         ·rintro w' ⟨s0, s1, s2, s3, s4, s5⟩
          go_simp
          with_reducible rfl
         rotate_left
         ·simp only [Act.put, qsA, qsZ, qsS, i64_w, i32_w]
          rfl
         refine one_ (i := 2) (N := some 78) #[true, true, true, true, true, false, false, false, false, false] rfl rfl (one_of HT_.out zd22_14) (by decide) (fun K hK => ?_)
         refine goes_ Tryz.func8 zd22_14 rfl #[.agg #[.bool t409, .slice Ao44 t410.length co44], .agg #[.bool t395, .slice Ao14 t396.length co14]] (by rfl) rfl rfl zd22_5 ?_
         with_reducible refine (laws_greater.calls kj22 t409 (fun k_ => (k_ ≠ gb403 ∧ (k_ ≠ gb404 ∧ (k_ ≠ gb417 ∧ k_ ≠ gb418)))) _ _ t410 t395 (fun k_ => (k_ ≠ gb403 ∧ (k_ ≠ gb404 ∧ (k_ ≠ gb417 ∧ k_ ≠ gb418)))) _ _ t396 t419 t420 _ ?side1 ?side2 A29.out).mono ?_
         (case side1 => exact HO412.out)
         (case side2 => exact HO_404001.out)
         rintro e w51 ⟨v421, rfl, ho0, hb⟩
         refine ⟨_, rfl, ?_⟩
         have n0_ := qaM (qvB zd22_6 hb)
         have n1_ := qaM (qvB zd22_7 hb)
         have n2_ := qaM (qvB zd22_9 hb)
         have n3_ := qaM (qvB zd22_10 hb)
         have n4_ := qaM (qvL (qvM (ok' := fun k_ => k_ ≠ gb403 ∧ k_ ≠ gb404 ∧ k_ ≠ gb417 ∧ k_ ≠ gb418) ho0 (fun k_ hk_ => ⟨Or.elim hk_ (fun hs_ => Or.elim hs_ (fun hs_ => hs_.1) (fun hs_ => hs_.1)) (fun hn_ => (qfB (g := gb403) (o := .cells #[.bool t395, .slice Ao14 t396.length co14] 27 (0, 0)) zd22_0 k_ hn_)), Or.elim hk_ (fun hs_ => Or.elim hs_ (fun hs_ => hs_.2.1) (fun hs_ => hs_.2.1)) (fun hn_ => (qfB (g := gb404) (o := .cells #[.bool t399, .slice Ao16 t400.length co16] 27 (0, 0)) zd22_1 k_ hn_)), Or.elim hk_ (fun hs_ => Or.elim hs_ (fun hs_ => hs_.2.2.1) (fun hs_ => hs_.2.2.1)) (fun hn_ => (qfB (g := gb417) (o := .cells #[.bool t409, .slice Ao44 t410.length co44] 27 (0, 0)) zd22_4 k_ hn_)), Or.elim hk_ (fun hs_ => Or.elim hs_ (fun hs_ => hs_.2.2.2) (fun hs_ => hs_.2.2.2)) (fun hn_ => (qfB (g := gb418) (o := .cells #[.bool t413, .slice Ao48 t414.length co48] 27 (0, 0)) zd22_8 k_ hn_))⟩)) (qbS zd22_2))
         have n5_ := qaM (qbB (g := gb403) (o := .cells #[.bool t395, .slice Ao14 t396.length co14] 27 (0, 0)) zd22_0 hb)
         have n6_ := qaM (qbB (g := gb404) (o := .cells #[.bool t399, .slice Ao16 t400.length co16] 27 (0, 0)) zd22_1 hb)
         have n7_ := qaM (qbB (g := gb417) (o := .cells #[.bool t409, .slice Ao44 t410.length co44] 27 (0, 0)) zd22_4 hb)
         have n8_ := qaM (qbB (g := gb418) (o := .cells #[.bool t413, .slice Ao48 t414.length co48] 27 (0, 0)) zd22_8 hb)
         have n9_ := qaM (qbT zd22_2 hb)
         clear HO_404001
         clear HO_405001
         clear HO412
         clear HO416
         clear BK403
         clear BK404
         clear BK417
         clear BK418
         clear HB
         have HO_404001 := n0_
         have HO_405001 := n1_
         have HO412 := n2_
         have HO416 := n3_
         have HO422 := n4_
         have BK403 := n5_
         have BK404 := n6_
         have BK417 := n7_
         have BK418 := n8_
         have HB := n9_
         clear n0_ n1_ n2_ n3_ n4_ n5_ n6_ n7_ n8_ n9_
         (try clear hb)
         (try clear hb2)
         (try clear hk)
         (try clear hi)
         (try clear ho0)
         obtain ⟨Ao52, co52, eo52⟩ := Kd.V_slice HO422.out
         (first | subst eo52 | (injection eo52 with f1_ f2_ f3_; have f4_ := f1_.symm; have f5_ := f3_.symm; clear f1_ f2_ f3_; subst f4_; subst f5_))
         refine hK.out _ _ ⟨(qbC BK417.out 0).trans rfl, (qbC BK417.out 1).trans rfl, (qbC BK403.out 0).trans rfl, (qbC BK403.out 1).trans rfl, (qbC BK404.out 0).trans rfl, (qbC BK404.out 1).trans rfl⟩ (fun hHeld => ?_)
         clear hK K
         refine norm_ (a' := ?_) ?_ ?_
         rotate_left
         ·show Act.put _ (some 78) _ = _
          simp only [Act.put, qsA, qsZ, qsS, i64_w, i32_w]
          rfl
         refine one_ (i := 5) (N := some 81) #[true, true, true, true, true, true, false, false, false, false] rfl rfl (one_of HT_.out zd22_14) (by decide) (fun K hK => ?_)
         refine goes_ Tryz.func7 zd22_14 rfl #[.agg #[.bool t419, .slice Ao52 t420.length co52], .agg #[.bool t395, .slice Ao14 t396.length co14], .agg #[.bool t399, .slice Ao16 t400.length co16]] (by rfl) rfl rfl zd22_5 ?_
         with_reducible refine (laws_fitted.calls kj22 t419 _ _ t420 t395 _ _ t396 t399 _ _ t400 t423 t424 _ ?side1 ?side2 ?side3 ?side4 ?side5 ?side6 A30.out).mono ?_
         (case side1 => repeat (first | exact (qvR HO422.out).2.2 | (with_reducible refine Kd.C_alloc ?_ _) | (with_reducible refine Kd.C_drewN ?_ _) | (with_reducible refine Kd.C_drew ?_)))
         (case side2 => exact (qvR HO422.out).2.1)
         (case side3 => repeat (first | exact (qvR HO_404001.out).2.2 | (with_reducible refine Kd.C_alloc ?_ _) | (with_reducible refine Kd.C_drewN ?_ _) | (with_reducible refine Kd.C_drew ?_)))
         (case side4 => exact (qvR HO_404001.out).2.1)
         (case side5 => repeat (first | exact (qvR HO_405001.out).2.2 | (with_reducible refine Kd.C_alloc ?_ _) | (with_reducible refine Kd.C_drewN ?_ _) | (with_reducible refine Kd.C_drew ?_)))
         (case side6 => exact (qvR HO_405001.out).2.1)
         rintro e w53 ⟨rfl, hb⟩
         refine ⟨_, rfl, ?_⟩
         have n0_ := qaM (qvB zd22_6 hb)
         have n1_ := qaM (qvB zd22_7 hb)
         have n2_ := qaM (qvB zd22_9 hb)
         have n3_ := qaM (qvB zd22_10 hb)
         have n4_ := qaM (qvB zd22_12 hb)
         have n5_ := qaM (qbB (g := gb403) (o := .cells #[.bool t395, .slice Ao14 t396.length co14] 27 (0, 0)) zd22_0 hb)
         have n6_ := qaM (qbB (g := gb404) (o := .cells #[.bool t399, .slice Ao16 t400.length co16] 27 (0, 0)) zd22_1 hb)
         have n7_ := qaM (qbB (g := gb417) (o := .cells #[.bool t409, .slice Ao44 t410.length co44] 27 (0, 0)) zd22_4 hb)
         have n8_ := qaM (qbB (g := gb418) (o := .cells #[.bool t413, .slice Ao48 t414.length co48] 27 (0, 0)) zd22_8 hb)
         have n9_ := qaM (qbT zd22_2 hb)
         clear HO_404001
         clear HO_405001
         clear HO412
         clear HO416
         clear HO422
         clear BK403
         clear BK404
         clear BK417
         clear BK418
         clear HB
         have HO_404001 := n0_
         have HO_405001 := n1_
         have HO412 := n2_
         have HO416 := n3_
         have HO422 := n4_
         have BK403 := n5_
         have BK404 := n6_
         have BK417 := n7_
         have BK418 := n8_
         have HB := n9_
         clear n0_ n1_ n2_ n3_ n4_ n5_ n6_ n7_ n8_ n9_
         (try clear hb)
         (try clear hb2)
         (try clear hk)
         (try clear hi)
         refine hK.out _ _ ⟨(qbC BK417.out 0).trans rfl, (qbC BK417.out 1).trans rfl, (qbC BK403.out 0).trans rfl, (qbC BK403.out 1).trans rfl, (qbC BK404.out 0).trans rfl, (qbC BK404.out 1).trans rfl⟩ (fun hHeld => ?_)
         clear hK K
         refine norm_ (a' := ?_) ?_ ?_
         rotate_left
         ·show Act.put _ (some 81) _ = _
          simp only [Act.put, qsA, qsZ, qsS, i64_w, i32_w]
          rfl
         refine pure_ (i := 6) (N := some 75) (v := ?_) (a' := ?_) #[true, true, true, true, true, true, true, false, false, false] rfl rfl (any_of HT_.out zd22_14) (fun _ _ _ h => h) (Or.inl ⟨by rfl, ?_⟩) ?_ ?_
         rotate_left
         ·intro w'
          go_simp
          with_reducible rfl
         rotate_left
         ·simp only [Act.put, qsA, qsZ, qsS, i64_w, i32_w]
          rfl
         refine pure_ (i := 7) (N := some 82) (v := ?_) (a' := ?_) #[true, true, true, true, true, true, true, true, false, false] rfl rfl (any_of HT_.out zd22_14) (fun _ _ _ h => h) (Or.inl ⟨by rfl, ?_⟩) ?_ ?_
         rotate_left
         ·intro w'
          go_simp
          with_reducible rfl
         rotate_left
         ·simp only [Act.put, qsA, qsZ, qsS, i64_w, i32_w]
          rfl
         refine pure_ (i := 8) (N := some 83) (v := ?_) (a' := ?_) #[true, true, true, true, true, true, true, true, true, false] rfl rfl (any_of HT_.out zd22_14) (fun _ _ _ h => h) (Or.inl ⟨by rfl, ?_⟩) ?_ ?_
         rotate_left
         ·intro w'
          go_simp
          with_reducible rfl
         rotate_left
         ·simp only [Act.put, qsA, qsZ, qsS, i64_w, i32_w]
          rfl
         refine pure_ (i := 9) (N := some 10) (v := ?_) (a' := ?_) #[true, true, true, true, true, true, true, true, true, true] rfl rfl (any_of HT_.out zd22_14) (fun _ _ _ h => h) (Or.inl ⟨by rfl, ?_⟩) ?_ ?_
         rotate_left
         ·intro w'
          go_simp
          with_reducible rfl
         rotate_left
         ·simp only [Act.put, qsA, qsZ, qsS, i64_w, i32_w]
          rfl
         refine done_ (done_of HT_.out zd22_14) ?_
         try go_wp2
         have n0_ := qaM (qvD HO_404001.out)
         have n1_ := qaM (qvD HO_405001.out)
         have n2_ := qaM (qvD HO412.out)
         have n3_ := qaM (qvD HO416.out)
         have n4_ := qaM (qvD HO422.out)
         have n5_ := qaM (qbD BK403.out)
         have n6_ := qaM (qbD BK404.out)
         have n7_ := qaM (qbD BK417.out)
         have n8_ := qaM (qbD BK418.out)
         have n9_ := qaM (qwD HB.out)
         clear HO_404001
         clear HO_405001
         clear HO412
         clear HO416
         clear HO422
         clear BK403
         clear BK404
         clear BK417
         clear BK418
         clear HB
         have HO_404001 := n0_
         have HO_405001 := n1_
         have HO412 := n2_
         have HO416 := n3_
         have HO422 := n4_
         have BK403 := n5_
         have BK404 := n6_
         have BK417 := n7_
         have BK418 := n8_
         have HB := n9_
         clear n0_ n1_ n2_ n3_ n4_ n5_ n6_ n7_ n8_ n9_
         refine start_ (n := 10) (S := fun w' => w'.cell? ⟨gb418, 0, none⟩ = some (.bool t413) ∧ w'.cell? ⟨gb418, 1, none⟩ = some (.slice Ao48 t414.length co48) ∧ w'.cell? ⟨gb404, 0, none⟩ = some (.bool t399) ∧ w'.cell? ⟨gb404, 1, none⟩ = some (.slice Ao16 t400.length co16) ∧ w'.cell? ⟨gb403, 0, none⟩ = some (.bool t395) ∧ w'.cell? ⟨gb403, 1, none⟩ = some (.slice Ao14 t396.length co14)) (ds := []) #[false, false, false, false, false, false, false, false, false, false] zd22_14 rfl rfl ⟨(qbC BK418.out 0).trans rfl, (qbC BK418.out 1).trans rfl, (qbC BK404.out 0).trans rfl, (qbC BK404.out 1).trans rfl, (qbC BK403.out 0).trans rfl, (qbC BK403.out 1).trans rfl⟩ (fun hHeld => ?_); refine with_tabW laws_FnSafeInt64.tab10 laws_FnSafeInt64.bits10 (fun HT_ HW_ => ?_)
         generalize w53.drew = w54 at HO_404001 HO_405001 HO412 HO416 HO422 BK403 BK404 BK417 BK418 HB hHeld ⊢
         refine take_ (i := 0) (N := some 85) (v := ?_) (a' := ?_) #[true, false, false, false, false, false, false, false, false, false] rfl rfl (take_ofW HT_.out HW_.out zd22_14) (fun _ _ _ h => h) (Or.inl ⟨by rfl, ?_⟩) hHeld ?_ ?_
         rotate_left
         ·rintro w' ⟨s0, s1, s2, s3, s4, s5⟩
          go_simp
          with_reducible rfl
         rotate_left
         ·simp only [Act.put, qsA, qsZ, qsS, i64_w, i32_w]
          rfl
         refine take_ (i := 1) (N := some 86) (v := ?_) (a' := ?_) #[true, true, false, false, false, false, false, false, false, false] rfl rfl (take_ofW HT_.out HW_.out zd22_14) (fun _ _ _ h => h) (Or.inl ⟨by rfl, ?_⟩) hHeld ?_ ?_
         rotate_left
         ·rintro w' ⟨s0, s1, s2, s3, s4, s5⟩
          go_simp
          with_reducible rfl
         rotate_left
         ·simp only [Act.put, qsA, qsZ, qsS, i64_w, i32_w]
          rfl
         refine take_ (i := 3) (N := some 88) (v := ?_) (a' := ?_) #[true, true, false, true, false, false, false, false, false, false] rfl rfl (take_ofW HT_.out HW_.out zd22_14) (fun _ _ _ h => h) (Or.inl ⟨by rfl, ?_⟩) hHeld ?_ ?_
         rotate_left
         ·rintro w' ⟨s0, s1, s2, s3, s4, s5⟩
          go_simp
          with_reducible rfl
         rotate_left
         ·simp only [Act.put, qsA, qsZ, qsS, i64_w, i32_w]
          rfl
         refine take_ (i := 4) (N := some 89) (v := ?_) (a' := ?_) #[true, true, false, true, true, false, false, false, false, false] rfl rfl (take_ofW HT_.out HW_.out zd22_14) (fun _ _ _ h => h) (Or.inl ⟨by rfl, ?_⟩) hHeld ?_ ?_
         rotate_left
         ·rintro w' ⟨s0, s1, s2, s3, s4, s5⟩
          go_simp
          with_reducible rfl
         rotate_left
         ·simp only [Act.put, qsA, qsZ, qsS, i64_w, i32_w]
          rfl
         refine one_ (i := 2) (N := some 87) #[true, true, true, true, true, false, false, false, false, false] rfl rfl (one_of HT_.out zd22_14) (by decide) (fun K hK => ?_)
         refine goes_ Tryz.func9 zd22_14 rfl #[.agg #[.bool t413, .slice Ao48 t414.length co48], .agg #[.bool t399, .slice Ao16 t400.length co16]] (by rfl) rfl rfl zd22_5 ?_
         with_reducible refine (laws_smaller.calls kj22 t413 (fun k_ => (k_ ≠ gb403 ∧ (k_ ≠ gb404 ∧ (k_ ≠ gb417 ∧ k_ ≠ gb418)))) _ _ t414 t399 (fun k_ => (k_ ≠ gb403 ∧ (k_ ≠ gb404 ∧ (k_ ≠ gb417 ∧ k_ ≠ gb418)))) _ _ t400 t425 t426 _ ?side1 ?side2 A31.out).mono ?_
         (case side1 => exact HO416.out)
         (case side2 => exact HO_405001.out)
         rintro e w55 ⟨v427, rfl, ho0, hb⟩
         refine ⟨_, rfl, ?_⟩
         have n0_ := qaM (qvB zd22_6 hb)
         have n1_ := qaM (qvB zd22_7 hb)
         have n2_ := qaM (qvB zd22_9 hb)
         have n3_ := qaM (qvB zd22_10 hb)
         have n4_ := qaM (qvB zd22_12 hb)
         have n5_ := qaM (qvL (qvM (ok' := fun k_ => k_ ≠ gb403 ∧ k_ ≠ gb404 ∧ k_ ≠ gb417 ∧ k_ ≠ gb418) ho0 (fun k_ hk_ => ⟨Or.elim hk_ (fun hs_ => Or.elim hs_ (fun hs_ => hs_.1) (fun hs_ => hs_.1)) (fun hn_ => (qfB (g := gb403) (o := .cells #[.bool t395, .slice Ao14 t396.length co14] 27 (0, 0)) zd22_0 k_ hn_)), Or.elim hk_ (fun hs_ => Or.elim hs_ (fun hs_ => hs_.2.1) (fun hs_ => hs_.2.1)) (fun hn_ => (qfB (g := gb404) (o := .cells #[.bool t399, .slice Ao16 t400.length co16] 27 (0, 0)) zd22_1 k_ hn_)), Or.elim hk_ (fun hs_ => Or.elim hs_ (fun hs_ => hs_.2.2.1) (fun hs_ => hs_.2.2.1)) (fun hn_ => (qfB (g := gb417) (o := .cells #[.bool t409, .slice Ao44 t410.length co44] 27 (0, 0)) zd22_4 k_ hn_)), Or.elim hk_ (fun hs_ => Or.elim hs_ (fun hs_ => hs_.2.2.2) (fun hs_ => hs_.2.2.2)) (fun hn_ => (qfB (g := gb418) (o := .cells #[.bool t413, .slice Ao48 t414.length co48] 27 (0, 0)) zd22_8 k_ hn_))⟩)) (qbS zd22_2))
         have n6_ := qaM (qbB (g := gb403) (o := .cells #[.bool t395, .slice Ao14 t396.length co14] 27 (0, 0)) zd22_0 hb)
         have n7_ := qaM (qbB (g := gb404) (o := .cells #[.bool t399, .slice Ao16 t400.length co16] 27 (0, 0)) zd22_1 hb)
         have n8_ := qaM (qbB (g := gb417) (o := .cells #[.bool t409, .slice Ao44 t410.length co44] 27 (0, 0)) zd22_4 hb)
         have n9_ := qaM (qbB (g := gb418) (o := .cells #[.bool t413, .slice Ao48 t414.length co48] 27 (0, 0)) zd22_8 hb)
         have n10_ := qaM (qbT zd22_2 hb)
         clear HO_404001
         clear HO_405001
         clear HO412
         clear HO416
         clear HO422
         clear BK403
         clear BK404
         clear BK417
         clear BK418
         clear HB
         have HO_404001 := n0_
         have HO_405001 := n1_
         have HO412 := n2_
         have HO416 := n3_
         have HO422 := n4_
         have HO428 := n5_
         have BK403 := n6_
         have BK404 := n7_
         have BK417 := n8_
         have BK418 := n9_
         have HB := n10_
         clear n0_ n1_ n2_ n3_ n4_ n5_ n6_ n7_ n8_ n9_ n10_
         (try clear hb)
         (try clear hb2)
         (try clear hk)
         (try clear hi)
         (try clear ho0)
         obtain ⟨Ao56, co56, eo56⟩ := Kd.V_slice HO428.out
         (first | subst eo56 | (injection eo56 with f1_ f2_ f3_; have f4_ := f1_.symm; have f5_ := f3_.symm; clear f1_ f2_ f3_; subst f4_; subst f5_))
         refine hK.out _ _ ⟨(qbC BK418.out 0).trans rfl, (qbC BK418.out 1).trans rfl, (qbC BK404.out 0).trans rfl, (qbC BK404.out 1).trans rfl, (qbC BK403.out 0).trans rfl, (qbC BK403.out 1).trans rfl⟩ (fun hHeld => ?_)
         clear hK K
         refine norm_ (a' := ?_) ?_ ?_
         rotate_left
         ·show Act.put _ (some 87) _ = _
          simp only [Act.put, qsA, qsZ, qsS, i64_w, i32_w]
          rfl
         refine one_ (i := 5) (N := some 90) #[true, true, true, true, true, true, false, false, false, false] rfl rfl (one_of HT_.out zd22_14) (by decide) (fun K hK => ?_)
         refine goes_ Tryz.func7 zd22_14 rfl #[.agg #[.bool t425, .slice Ao56 t426.length co56], .agg #[.bool t395, .slice Ao14 t396.length co14], .agg #[.bool t399, .slice Ao16 t400.length co16]] (by rfl) rfl rfl zd22_5 ?_
         with_reducible refine (laws_fitted.calls kj22 t425 _ _ t426 t395 _ _ t396 t399 _ _ t400 t429 t430 _ ?side1 ?side2 ?side3 ?side4 ?side5 ?side6 A32.out).mono ?_
         (case side1 => repeat (first | exact (qvR HO428.out).2.2 | (with_reducible refine Kd.C_alloc ?_ _) | (with_reducible refine Kd.C_drewN ?_ _) | (with_reducible refine Kd.C_drew ?_)))
         (case side2 => exact (qvR HO428.out).2.1)
         (case side3 => repeat (first | exact (qvR HO_404001.out).2.2 | (with_reducible refine Kd.C_alloc ?_ _) | (with_reducible refine Kd.C_drewN ?_ _) | (with_reducible refine Kd.C_drew ?_)))
         (case side4 => exact (qvR HO_404001.out).2.1)
         (case side5 => repeat (first | exact (qvR HO_405001.out).2.2 | (with_reducible refine Kd.C_alloc ?_ _) | (with_reducible refine Kd.C_drewN ?_ _) | (with_reducible refine Kd.C_drew ?_)))
         (case side6 => exact (qvR HO_405001.out).2.1)
         rintro e w57 ⟨rfl, hb⟩
         refine ⟨_, rfl, ?_⟩
         have n0_ := qaM (qvB zd22_6 hb)
         have n1_ := qaM (qvB zd22_7 hb)
         have n2_ := qaM (qvB zd22_9 hb)
         have n3_ := qaM (qvB zd22_10 hb)
         have n4_ := qaM (qvB zd22_12 hb)
         have n5_ := qaM (qvB zd22_16 hb)
         have n6_ := qaM (qbB (g := gb403) (o := .cells #[.bool t395, .slice Ao14 t396.length co14] 27 (0, 0)) zd22_0 hb)
         have n7_ := qaM (qbB (g := gb404) (o := .cells #[.bool t399, .slice Ao16 t400.length co16] 27 (0, 0)) zd22_1 hb)
         have n8_ := qaM (qbB (g := gb417) (o := .cells #[.bool t409, .slice Ao44 t410.length co44] 27 (0, 0)) zd22_4 hb)
         have n9_ := qaM (qbB (g := gb418) (o := .cells #[.bool t413, .slice Ao48 t414.length co48] 27 (0, 0)) zd22_8 hb)
         have n10_ := qaM (qbT zd22_2 hb)
         clear HO_404001
         clear HO_405001
         clear HO412
         clear HO416
         clear HO422
         clear HO428
         clear BK403
         clear BK404
         clear BK417
         clear BK418
         clear HB
         have HO_404001 := n0_
         have HO_405001 := n1_
         have HO412 := n2_
         have HO416 := n3_
         have HO422 := n4_
         have HO428 := n5_
         have BK403 := n6_
         have BK404 := n7_
         have BK417 := n8_
         have BK418 := n9_
         have HB := n10_
         clear n0_ n1_ n2_ n3_ n4_ n5_ n6_ n7_ n8_ n9_ n10_
         (try clear hb)
         (try clear hb2)
         (try clear hk)
         (try clear hi)
         refine hK.out _ _ ⟨(qbC BK418.out 0).trans rfl, (qbC BK418.out 1).trans rfl, (qbC BK404.out 0).trans rfl, (qbC BK404.out 1).trans rfl, (qbC BK403.out 0).trans rfl, (qbC BK403.out 1).trans rfl⟩ (fun hHeld => ?_)
         clear hK K
         refine norm_ (a' := ?_) ?_ ?_
         rotate_left
         ·show Act.put _ (some 90) _ = _
          simp only [Act.put, qsA, qsZ, qsS, i64_w, i32_w]
          rfl
         refine pure_ (i := 6) (N := some 84) (v := ?_) (a' := ?_) #[true, true, true, true, true, true, true, false, false, false] rfl rfl (any_of HT_.out zd22_14) (fun _ _ _ h => h) (Or.inl ⟨by rfl, ?_⟩) ?_ ?_
         rotate_left
         ·intro w'
          go_simp
          with_reducible rfl
         rotate_left
         ·simp only [Act.put, qsA, qsZ, qsS, i64_w, i32_w]
          rfl
         refine pure_ (i := 7) (N := some 91) (v := ?_) (a' := ?_) #[true, true, true, true, true, true, true, true, false, false] rfl rfl (any_of HT_.out zd22_14) (fun _ _ _ h => h) (Or.inl ⟨by rfl, ?_⟩) ?_ ?_
         rotate_left
         ·intro w'
          go_simp
          with_reducible rfl
         rotate_left
         ·simp only [Act.put, qsA, qsZ, qsS, i64_w, i32_w]
          rfl
         refine pure_ (i := 8) (N := some 92) (v := ?_) (a' := ?_) #[true, true, true, true, true, true, true, true, true, false] rfl rfl (any_of HT_.out zd22_14) (fun _ _ _ h => h) (Or.inl ⟨by rfl, ?_⟩) ?_ ?_
         rotate_left
         ·intro w'
          go_simp
          with_reducible rfl
         rotate_left
         ·simp only [Act.put, qsA, qsZ, qsS, i64_w, i32_w]
          rfl
         refine pure_ (i := 9) (N := some 12) (v := ?_) (a' := ?_) #[true, true, true, true, true, true, true, true, true, true] rfl rfl (any_of HT_.out zd22_14) (fun _ _ _ h => h) (Or.inl ⟨by rfl, ?_⟩) ?_ ?_
         rotate_left
         ·intro w'
          go_simp
          with_reducible rfl
         rotate_left
         ·simp only [Act.put, qsA, qsZ, qsS, i64_w, i32_w]
          rfl
         refine done_ (done_of HT_.out zd22_14) ?_
         try go_wp2_with (first | ((with_reducible refine gate_callee (f := 10) rfl ?_); refine goesL_ (some 96) rfl rfl Tryz.func10 zd22_14 rfl #[.int .i64 a0, .bool a1] rfl zd22_5 ?_; (with_reducible refine (impl_SafeInt64.calls a0 a1 t431 t432 true _ A33.out).mono ?_); rintro e w58 ⟨rfl, hb⟩; refine ⟨_, rfl, ?_⟩; have n0_ := qaM (qvB zd22_6 hb); have n1_ := qaM (qvB zd22_7 hb); have n2_ := qaM (qvB zd22_9 hb); have n3_ := qaM (qvB zd22_10 hb); have n4_ := qaM (qvB zd22_12 hb); have n5_ := qaM (qvB zd22_16 hb); have n6_ := qaM (qbB (g := gb403) (o := .cells #[.bool t395, .slice Ao14 t396.length co14] 27 (0, 0)) zd22_0 hb); have n7_ := qaM (qbB (g := gb404) (o := .cells #[.bool t399, .slice Ao16 t400.length co16] 27 (0, 0)) zd22_1 hb); have n8_ := qaM (qbB (g := gb417) (o := .cells #[.bool t409, .slice Ao44 t410.length co44] 27 (0, 0)) zd22_4 hb); have n9_ := qaM (qbB (g := gb418) (o := .cells #[.bool t413, .slice Ao48 t414.length co48] 27 (0, 0)) zd22_8 hb); have n10_ := qaM (qbT zd22_2 hb); clear HO_404001; clear HO_405001; clear HO412; clear HO416; clear HO422; clear HO428; clear BK403; clear BK404; clear BK417; clear BK418; clear HB; have HO_404001 := n0_; have HO_405001 := n1_; have HO412 := n2_; have HO416 := n3_; have HO422 := n4_; have HO428 := n5_; have BK403 := n6_; have BK404 := n7_; have BK417 := n8_; have BK418 := n9_; have HB := n10_; clear n0_ n1_ n2_ n3_ n4_ n5_ n6_ n7_ n8_ n9_ n10_; (try clear hb); (try clear hb2); (try clear hk); (try clear hi)))
         go_ret
         exact ⟨by first | rfl | (simp [errW_none, errW_some] <;> rfl) | (simp [*, errW_none, errW_some] <;> rfl), by repeat (first | (with_reducible first | exact HB.out | apply qwA | apply qwN | apply qwD | refine qwS ?_ GE403.out | refine qwS ?_ GE404.out | refine qwS ?_ GE417.out | refine qwS ?_ GE418.out) | exact HB.out)⟩
        ·rw [if_neg c36] at H
         have c36b0 : (t432 == (wrap64 (t429))) = false := beq_eq_false_iff_ne.mpr c36
         have c36b1 : (t432 != (wrap64 (t429))) = true := bne_iff_ne.mpr c36
         obtain rfl := Option.some.inj H
         try go_wp2_with (first | ((with_reducible refine gate_callee (f := 6) rfl ?_); refine goesL_ (some 72) rfl rfl Tryz.func6 zd22_14 rfl #[.int .i64 a0, .bool a1] rfl zd22_5 ?_; (with_reducible refine (laws_bounds.calls kj22 a0 a1 t409 t410 t413 t414 _ A28.out).mono ?_); rintro e w59 ⟨v411, v415, rfl, ho0, ho1, hb⟩; refine ⟨_, rfl, ?_⟩; have n0_ := qaM (qvB zd22_6 hb); have n1_ := qaM (qvB zd22_7 hb); have n2_ := qaM (qvL (qvM (ok' := fun k_ => k_ ≠ gb403 ∧ k_ ≠ gb404) ho0 (fun k_ hk_ => ⟨(qfB (g := gb403) (o := .cells #[.bool t395, .slice Ao14 t396.length co14] 27 (0, 0)) zd22_0 k_ hk_), (qfB (g := gb404) (o := .cells #[.bool t399, .slice Ao16 t400.length co16] 27 (0, 0)) zd22_1 k_ hk_)⟩)) (qbS zd22_3)); have n3_ := qaM (qvL (qvM (ok' := fun k_ => k_ ≠ gb403 ∧ k_ ≠ gb404) ho1 (fun k_ hk_ => ⟨(qfB (g := gb403) (o := .cells #[.bool t395, .slice Ao14 t396.length co14] 27 (0, 0)) zd22_0 k_ hk_), (qfB (g := gb404) (o := .cells #[.bool t399, .slice Ao16 t400.length co16] 27 (0, 0)) zd22_1 k_ hk_)⟩)) (qbS zd22_3)); have n4_ := qaM (qbB (g := gb403) (o := .cells #[.bool t395, .slice Ao14 t396.length co14] 27 (0, 0)) zd22_0 hb); have n5_ := qaM (qbB (g := gb404) (o := .cells #[.bool t399, .slice Ao16 t400.length co16] 27 (0, 0)) zd22_1 hb); have n6_ := qaM (qbT zd22_3 hb); clear HO_404001; clear HO_405001; clear BK403; clear BK404; clear HB; have HO_404001 := n0_; have HO_405001 := n1_; have HO412 := n2_; have HO416 := n3_; have BK403 := n4_; have BK404 := n5_; have HB := n6_; clear n0_ n1_ n2_ n3_ n4_ n5_ n6_; (try clear hb); (try clear hb2); (try clear hk); (try clear hi); (try clear ho0); (try clear ho1)) | ((with_reducible refine gate_dst (N := 15) rfl ?_); refine box_event ?hg (N := 15) ?hd (cs := #[.bool false, .slice none 0 0]) (t := 27) ?hr ?_; (case hd => rfl); (case hg => rfl); (case hr => first | (go_simp; done) | (go_simp; rfl)); intro gb417 hg w60 hbox hb; have n0_ := qaM (qvB (qvE zd22_6 gb417 (Nat.le_of_eq hg.symm)) hb); have n1_ := qaM (qvB (qvE zd22_7 gb417 (Nat.le_of_eq hg.symm)) hb); have n2_ := qaM (qvB (qvE zd22_9 gb417 (Nat.le_of_eq hg.symm)) hb); have n3_ := qaM (qvB (qvE zd22_10 gb417 (Nat.le_of_eq hg.symm)) hb); have n4_ := qaM (qbB (g := gb403) (o := .cells #[.bool t395, .slice Ao14 t396.length co14] 27 (0, 0)) zd22_0 hb); have n5_ := qaM (qbB (g := gb404) (o := .cells #[.bool t399, .slice Ao16 t400.length co16] 27 (0, 0)) zd22_1 hb); have n6_ := qaM (qbT zd22_3 hb); have n7_ := qaM (hbox); have n8_ := qaM ((by rw [hg]; exact (qbS zd22_3) : w.heap.size ≤ gb417)); have n9_ := qaM ((by rw [hg]; exact (qbS zd22_3) : w.heap.size ≤ gb417)); have n10_ := qaM ((by rw [hg]; exact qnL (qbL (g := gb403) (o := .cells #[.bool t395, .slice Ao14 t396.length co14] 27 (0, 0)) zd22_0) : gb403 ≠ gb417)); have n11_ := qaM ((by rw [hg]; exact qnG (qbL (g := gb403) (o := .cells #[.bool t395, .slice Ao14 t396.length co14] 27 (0, 0)) zd22_0) : gb417 ≠ gb403)); have n12_ := qaM ((by rw [hg]; exact qnL (qbL (g := gb404) (o := .cells #[.bool t399, .slice Ao16 t400.length co16] 27 (0, 0)) zd22_1) : gb404 ≠ gb417)); have n13_ := qaM ((by rw [hg]; exact qnG (qbL (g := gb404) (o := .cells #[.bool t399, .slice Ao16 t400.length co16] 27 (0, 0)) zd22_1) : gb417 ≠ gb404)); clear HO_404001; clear HO_405001; clear HO412; clear HO416; clear BK403; clear BK404; clear HB; have HO_404001 := n0_; have HO_405001 := n1_; have HO412 := n2_; have HO416 := n3_; have BK403 := n4_; have BK404 := n5_; have HB := n6_; have BK417 := n7_; have GW417 := n8_; have GE417 := n9_; have NB403_417 := n10_; have NB417_403 := n11_; have NB404_417 := n12_; have NB417_404 := n13_; clear n0_ n1_ n2_ n3_ n4_ n5_ n6_ n7_ n8_ n9_ n10_ n11_ n12_ n13_; clear hb hbox hg) | ((with_reducible refine gate_dst (N := 16) rfl ?_); refine box_event ?hg (N := 16) ?hd (cs := #[.bool false, .slice none 0 0]) (t := 27) ?hr ?_; (case hd => rfl); (case hg => rfl); (case hr => first | (go_simp; done) | (go_simp; rfl)); intro gb418 hg w61 hbox hb; have n0_ := qaM (qvB (qvE zd22_6 gb418 (Nat.le_of_eq hg.symm)) hb); have n1_ := qaM (qvB (qvE zd22_7 gb418 (Nat.le_of_eq hg.symm)) hb); have n2_ := qaM (qvB (qvE zd22_9 gb418 (Nat.le_of_eq hg.symm)) hb); have n3_ := qaM (qvB (qvE zd22_10 gb418 (Nat.le_of_eq hg.symm)) hb); have n4_ := qaM (qbB (g := gb403) (o := .cells #[.bool t395, .slice Ao14 t396.length co14] 27 (0, 0)) zd22_0 hb); have n5_ := qaM (qbB (g := gb404) (o := .cells #[.bool t399, .slice Ao16 t400.length co16] 27 (0, 0)) zd22_1 hb); have n6_ := qaM (qbB (g := gb417) (o := .cells #[.bool false, .slice none 0 0] 27 (0, 0)) zd22_4 hb); have n7_ := qaM (qbT zd22_11 hb); have n8_ := qaM (hbox); have n9_ := qaM ((by rw [hg]; exact (qbS zd22_11) : w.heap.size ≤ gb418)); have n10_ := qaM ((by rw [hg]; exact (qbS zd22_11) : w.heap.size ≤ gb418)); have n11_ := qaM ((by rw [hg]; exact qnL (qbL (g := gb403) (o := .cells #[.bool t395, .slice Ao14 t396.length co14] 27 (0, 0)) zd22_0) : gb403 ≠ gb418)); have n12_ := qaM ((by rw [hg]; exact qnG (qbL (g := gb403) (o := .cells #[.bool t395, .slice Ao14 t396.length co14] 27 (0, 0)) zd22_0) : gb418 ≠ gb403)); have n13_ := qaM ((by rw [hg]; exact qnL (qbL (g := gb404) (o := .cells #[.bool t399, .slice Ao16 t400.length co16] 27 (0, 0)) zd22_1) : gb404 ≠ gb418)); have n14_ := qaM ((by rw [hg]; exact qnG (qbL (g := gb404) (o := .cells #[.bool t399, .slice Ao16 t400.length co16] 27 (0, 0)) zd22_1) : gb418 ≠ gb404)); have n15_ := qaM ((by rw [hg]; exact qnL (qbL (g := gb417) (o := .cells #[.bool false, .slice none 0 0] 27 (0, 0)) zd22_4) : gb417 ≠ gb418)); have n16_ := qaM ((by rw [hg]; exact qnG (qbL (g := gb417) (o := .cells #[.bool false, .slice none 0 0] 27 (0, 0)) zd22_4) : gb418 ≠ gb417)); clear HO_404001; clear HO_405001; clear HO412; clear HO416; clear BK403; clear BK404; clear BK417; clear HB; have HO_404001 := n0_; have HO_405001 := n1_; have HO412 := n2_; have HO416 := n3_; have BK403 := n4_; have BK404 := n5_; have BK417 := n6_; have HB := n7_; have BK418 := n8_; have GW418 := n9_; have GE418 := n10_; have NB403_418 := n11_; have NB418_403 := n12_; have NB404_418 := n13_; have NB418_404 := n14_; have NB417_418 := n15_; have NB418_417 := n16_; clear n0_ n1_ n2_ n3_ n4_ n5_ n6_ n7_ n8_ n9_ n10_ n11_ n12_ n13_ n14_ n15_ n16_; clear hb hbox hg; have hnb62 := NB417_403.out; have hnc62 := NB403_417.out; have hnb63 := NB417_404.out; have hnc63 := NB404_417.out; have hnb64 := NB417_418.out; have hnc64 := NB418_417.out; have hcz65_0 : w61.cell? ⟨gb417, 0, none⟩ = some (.bool false) := (qbC BK417.out 0).trans rfl; have hcz65_1 : w61.cell? ⟨gb417, 1, none⟩ = some (.slice none 0 0) := (qbC BK417.out 1).trans rfl; have hfz65_0 := blk_frozen BK417.out 0; have hfz65_1 := blk_frozen BK417.out 1; obtain ⟨Ao66, co66, eo66⟩ := Kd.V_slice HO412.out; subst eo66; have hnb67 := NB418_403.out; have hnc67 := NB403_418.out; have hnb68 := NB418_404.out; have hnc68 := NB404_418.out; have hcz69_0 : w61.cell? ⟨gb418, 0, none⟩ = some (.bool false) := (qbC BK418.out 0).trans rfl; have hcz69_1 : w61.cell? ⟨gb418, 1, none⟩ = some (.slice none 0 0) := (qbC BK418.out 1).trans rfl; have hfz69_0 := blk_frozen BK418.out 0; have hfz69_1 := blk_frozen BK418.out 1; obtain ⟨Ao70, co70, eo70⟩ := Kd.V_slice HO416.out; subst eo70))
         have n0_ : Aside0 (Kd.V (Kd.int .u32) 104 ((((w61.setCell ⟨gb417, 0, none⟩ (.bool t409)).setCell ⟨gb417, 1, none⟩ (.slice Ao66 t410.length co66)).setCell ⟨gb418, 0, none⟩ (.bool t413)).setCell ⟨gb418, 1, none⟩ (.slice Ao70 t414.length co70)) w.heap.size (fun k_ => k_ ≠ gb403 ∧ k_ ≠ gb404 ∧ k_ ≠ gb417 ∧ k_ ≠ gb418) (.slice Ao14 t396.length co14) t396) := ⟨by (with_reducible repeat (first | apply qvA | apply qvN | apply qvD)); exact qvM (qvF (p := ⟨gb418, 1, none⟩) (qvF (p := ⟨gb418, 0, none⟩) (qvF (p := ⟨gb417, 1, none⟩) (qvF (p := ⟨gb417, 0, none⟩) (qvM (qvM HO_404001.out (fun k_ hk => (⟨hk, hk.1.2⟩ : _ ∧ k_ ≠ gb417))) (fun k_ hk => (⟨hk, hk.1.2⟩ : _ ∧ k_ ≠ gb418))) (fun _ hk => hk.1.2) (.bool t409)) (fun _ hk => hk.1.2) (.slice Ao66 t410.length co66)) (fun _ hk => hk.2) (.bool t413)) (fun _ hk => hk.2) (.slice Ao70 t414.length co70)) (fun _ hk => ⟨hk.1.1.1.1.1, ⟨hk.1.1.1.1.2, ⟨hk.1.1.1.2, hk.1.1.2⟩⟩⟩)⟩
         have n1_ : Aside0 (Kd.V (Kd.int .u32) 104 ((((w61.setCell ⟨gb417, 0, none⟩ (.bool t409)).setCell ⟨gb417, 1, none⟩ (.slice Ao66 t410.length co66)).setCell ⟨gb418, 0, none⟩ (.bool t413)).setCell ⟨gb418, 1, none⟩ (.slice Ao70 t414.length co70)) w.heap.size (fun k_ => k_ ≠ gb403 ∧ k_ ≠ gb404 ∧ k_ ≠ gb417 ∧ k_ ≠ gb418) (.slice Ao16 t400.length co16) t400) := ⟨by (with_reducible repeat (first | apply qvA | apply qvN | apply qvD)); exact qvM (qvF (p := ⟨gb418, 1, none⟩) (qvF (p := ⟨gb418, 0, none⟩) (qvF (p := ⟨gb417, 1, none⟩) (qvF (p := ⟨gb417, 0, none⟩) (qvM (qvM HO_405001.out (fun k_ hk => (⟨hk, hk.1.2⟩ : _ ∧ k_ ≠ gb417))) (fun k_ hk => (⟨hk, hk.1.2⟩ : _ ∧ k_ ≠ gb418))) (fun _ hk => hk.1.2) (.bool t409)) (fun _ hk => hk.1.2) (.slice Ao66 t410.length co66)) (fun _ hk => hk.2) (.bool t413)) (fun _ hk => hk.2) (.slice Ao70 t414.length co70)) (fun _ hk => ⟨hk.1.1.1.1.1, ⟨hk.1.1.1.1.2, ⟨hk.1.1.1.2, hk.1.1.2⟩⟩⟩)⟩
         have n2_ : Aside0 (Kd.V (Kd.int .u32) 104 ((((w61.setCell ⟨gb417, 0, none⟩ (.bool t409)).setCell ⟨gb417, 1, none⟩ (.slice Ao66 t410.length co66)).setCell ⟨gb418, 0, none⟩ (.bool t413)).setCell ⟨gb418, 1, none⟩ (.slice Ao70 t414.length co70)) w.heap.size (fun k_ => k_ ≠ gb403 ∧ k_ ≠ gb404 ∧ k_ ≠ gb417 ∧ k_ ≠ gb418) (.slice Ao66 t410.length co66) t410) := ⟨by (with_reducible repeat (first | apply qvA | apply qvN | apply qvD)); exact qvM (qvF (p := ⟨gb418, 1, none⟩) (qvF (p := ⟨gb418, 0, none⟩) (qvF (p := ⟨gb417, 1, none⟩) (qvF (p := ⟨gb417, 0, none⟩) (qvM (qvM HO412.out (fun k_ hk => (⟨hk, hk.1.2⟩ : _ ∧ k_ ≠ gb417))) (fun k_ hk => (⟨hk, hk.1.2⟩ : _ ∧ k_ ≠ gb418))) (fun _ hk => hk.1.2) (.bool t409)) (fun _ hk => hk.1.2) (.slice Ao66 t410.length co66)) (fun _ hk => hk.2) (.bool t413)) (fun _ hk => hk.2) (.slice Ao70 t414.length co70)) (fun _ hk => ⟨hk.1.1.1.1.1, ⟨hk.1.1.1.1.2, ⟨hk.1.1.1.2, hk.1.1.2⟩⟩⟩)⟩
         have n3_ : Aside0 (Kd.V (Kd.int .u32) 104 ((((w61.setCell ⟨gb417, 0, none⟩ (.bool t409)).setCell ⟨gb417, 1, none⟩ (.slice Ao66 t410.length co66)).setCell ⟨gb418, 0, none⟩ (.bool t413)).setCell ⟨gb418, 1, none⟩ (.slice Ao70 t414.length co70)) w.heap.size (fun k_ => k_ ≠ gb403 ∧ k_ ≠ gb404 ∧ k_ ≠ gb417 ∧ k_ ≠ gb418) (.slice Ao70 t414.length co70) t414) := ⟨by (with_reducible repeat (first | apply qvA | apply qvN | apply qvD)); exact qvM (qvF (p := ⟨gb418, 1, none⟩) (qvF (p := ⟨gb418, 0, none⟩) (qvF (p := ⟨gb417, 1, none⟩) (qvF (p := ⟨gb417, 0, none⟩) (qvM (qvM HO416.out (fun k_ hk => (⟨hk, hk.1.2⟩ : _ ∧ k_ ≠ gb417))) (fun k_ hk => (⟨hk, hk.1.2⟩ : _ ∧ k_ ≠ gb418))) (fun _ hk => hk.1.2) (.bool t409)) (fun _ hk => hk.1.2) (.slice Ao66 t410.length co66)) (fun _ hk => hk.2) (.bool t413)) (fun _ hk => hk.2) (.slice Ao70 t414.length co70)) (fun _ hk => ⟨hk.1.1.1.1.1, ⟨hk.1.1.1.1.2, ⟨hk.1.1.1.2, hk.1.1.2⟩⟩⟩)⟩
         have n4_ : Aside0 (((((w61.setCell ⟨gb417, 0, none⟩ (.bool t409)).setCell ⟨gb417, 1, none⟩ (.slice Ao66 t410.length co66)).setCell ⟨gb418, 0, none⟩ (.bool t413)).setCell ⟨gb418, 1, none⟩ (.slice Ao70 t414.length co70)).heap[gb403]? = some (.cells #[.bool t395, .slice Ao14 t396.length co14] 27 (0, 0))) := ⟨by (with_reducible repeat (first | refine qbN ?_ _ | refine qbD ?_ | refine qbA ?_ _)); refine qbF ?_ NB403_418.out _; (with_reducible repeat (first | refine qbN ?_ _ | refine qbD ?_ | refine qbA ?_ _)); refine qbF ?_ NB403_418.out _; (with_reducible repeat (first | refine qbN ?_ _ | refine qbD ?_ | refine qbA ?_ _)); refine qbF ?_ NB403_417.out _; (with_reducible repeat (first | refine qbN ?_ _ | refine qbD ?_ | refine qbA ?_ _)); refine qbF ?_ NB403_417.out _; (with_reducible repeat (first | refine qbN ?_ _ | refine qbD ?_ | refine qbA ?_ _)); exact BK403.out⟩
         have n5_ : Aside0 (((((w61.setCell ⟨gb417, 0, none⟩ (.bool t409)).setCell ⟨gb417, 1, none⟩ (.slice Ao66 t410.length co66)).setCell ⟨gb418, 0, none⟩ (.bool t413)).setCell ⟨gb418, 1, none⟩ (.slice Ao70 t414.length co70)).heap[gb404]? = some (.cells #[.bool t399, .slice Ao16 t400.length co16] 27 (0, 0))) := ⟨by (with_reducible repeat (first | refine qbN ?_ _ | refine qbD ?_ | refine qbA ?_ _)); refine qbF ?_ NB404_418.out _; (with_reducible repeat (first | refine qbN ?_ _ | refine qbD ?_ | refine qbA ?_ _)); refine qbF ?_ NB404_418.out _; (with_reducible repeat (first | refine qbN ?_ _ | refine qbD ?_ | refine qbA ?_ _)); refine qbF ?_ NB404_417.out _; (with_reducible repeat (first | refine qbN ?_ _ | refine qbD ?_ | refine qbA ?_ _)); refine qbF ?_ NB404_417.out _; (with_reducible repeat (first | refine qbN ?_ _ | refine qbD ?_ | refine qbA ?_ _)); exact BK404.out⟩
         have n6_ : Aside0 (((((w61.setCell ⟨gb417, 0, none⟩ (.bool t409)).setCell ⟨gb417, 1, none⟩ (.slice Ao66 t410.length co66)).setCell ⟨gb418, 0, none⟩ (.bool t413)).setCell ⟨gb418, 1, none⟩ (.slice Ao70 t414.length co70)).heap[gb417]? = some (.cells #[.bool t409, .slice Ao66 t410.length co66] 27 (0, 0))) := ⟨by (with_reducible repeat (first | refine qbN ?_ _ | refine qbD ?_ | refine qbA ?_ _)); refine qbF ?_ NB417_418.out _; (with_reducible repeat (first | refine qbN ?_ _ | refine qbD ?_ | refine qbA ?_ _)); refine qbF ?_ NB417_418.out _; (with_reducible repeat (first | refine qbN ?_ _ | refine qbD ?_ | refine qbA ?_ _)); refine qbP (cs := #[.bool t409, .slice none 0 0]) ?_ 1 _ rfl; (with_reducible repeat (first | refine qbN ?_ _ | refine qbD ?_ | refine qbA ?_ _)); refine qbP (cs := #[.bool false, .slice none 0 0]) ?_ 0 _ rfl; (with_reducible repeat (first | refine qbN ?_ _ | refine qbD ?_ | refine qbA ?_ _)); exact BK417.out⟩
         have n7_ : Aside0 (((((w61.setCell ⟨gb417, 0, none⟩ (.bool t409)).setCell ⟨gb417, 1, none⟩ (.slice Ao66 t410.length co66)).setCell ⟨gb418, 0, none⟩ (.bool t413)).setCell ⟨gb418, 1, none⟩ (.slice Ao70 t414.length co70)).heap[gb418]? = some (.cells #[.bool t413, .slice Ao70 t414.length co70] 27 (0, 0))) := ⟨by (with_reducible repeat (first | refine qbN ?_ _ | refine qbD ?_ | refine qbA ?_ _)); refine qbP (cs := #[.bool t413, .slice none 0 0]) ?_ 1 _ rfl; (with_reducible repeat (first | refine qbN ?_ _ | refine qbD ?_ | refine qbA ?_ _)); refine qbP (cs := #[.bool false, .slice none 0 0]) ?_ 0 _ rfl; (with_reducible repeat (first | refine qbN ?_ _ | refine qbD ?_ | refine qbA ?_ _)); refine qbF ?_ NB418_417.out _; (with_reducible repeat (first | refine qbN ?_ _ | refine qbD ?_ | refine qbA ?_ _)); refine qbF ?_ NB418_417.out _; (with_reducible repeat (first | refine qbN ?_ _ | refine qbD ?_ | refine qbA ?_ _)); exact BK418.out⟩
         have n8_ : Aside0 (Below w.heap.size w ((((w61.setCell ⟨gb417, 0, none⟩ (.bool t409)).setCell ⟨gb417, 1, none⟩ (.slice Ao66 t410.length co66)).setCell ⟨gb418, 0, none⟩ (.bool t413)).setCell ⟨gb418, 1, none⟩ (.slice Ao70 t414.length co70))) := ⟨by repeat (first | (with_reducible first | exact HB.out | apply qwA | apply qwN | apply qwD | refine qwS ?_ GE403.out | refine qwS ?_ GE404.out | refine qwS ?_ GE417.out | refine qwS ?_ GE418.out) | exact HB.out)⟩
         (try clear HO_404001)
         (try clear HO_405001)
         (try clear HO412)
         (try clear HO416)
         (try clear BK403)
         (try clear BK404)
         (try clear BK417)
         (try clear BK418)
         (try clear HB)
         generalize ((((w61.setCell ⟨gb417, 0, none⟩ (.bool t409)).setCell ⟨gb417, 1, none⟩ (.slice Ao66 t410.length co66)).setCell ⟨gb418, 0, none⟩ (.bool t413)).setCell ⟨gb418, 1, none⟩ (.slice Ao70 t414.length co70)) = w71 at n0_ n1_ n2_ n3_ n4_ n5_ n6_ n7_ n8_ ⊢
         have HO_404001 := n0_
         have HO_405001 := n1_
         have HO412 := n2_
         have HO416 := n3_
         have BK403 := n4_
         have BK404 := n5_
         have BK417 := n6_
         have BK418 := n7_
         have HB := n8_
         clear n0_ n1_ n2_ n3_ n4_ n5_ n6_ n7_ n8_
         have n0_ := qaM (qvD HO_404001.out)
         have n1_ := qaM (qvD HO_405001.out)
         have n2_ := qaM (qvD HO412.out)
         have n3_ := qaM (qvD HO416.out)
         have n4_ := qaM (qbD BK403.out)
         have n5_ := qaM (qbD BK404.out)
         have n6_ := qaM (qbD BK417.out)
         have n7_ := qaM (qbD BK418.out)
         have n8_ := qaM (qwD HB.out)
         clear HO_404001
         clear HO_405001
         clear HO412
         clear HO416
         clear BK403
         clear BK404
         clear BK417
         clear BK418
         clear HB
         have HO_404001 := n0_
         have HO_405001 := n1_
         have HO412 := n2_
         have HO416 := n3_
         have BK403 := n4_
         have BK404 := n5_
         have BK417 := n6_
         have BK418 := n7_
         have HB := n8_
         clear n0_ n1_ n2_ n3_ n4_ n5_ n6_ n7_ n8_
         refine start_ (n := 10) (S := fun w' => w'.cell? ⟨gb417, 0, none⟩ = some (.bool t409) ∧ w'.cell? ⟨gb417, 1, none⟩ = some (.slice Ao66 t410.length co66) ∧ w'.cell? ⟨gb403, 0, none⟩ = some (.bool t395) ∧ w'.cell? ⟨gb403, 1, none⟩ = some (.slice Ao14 t396.length co14) ∧ w'.cell? ⟨gb404, 0, none⟩ = some (.bool t399) ∧ w'.cell? ⟨gb404, 1, none⟩ = some (.slice Ao16 t400.length co16)) (ds := []) #[false, false, false, false, false, false, false, false, false, false] zd22_14 rfl rfl ⟨(qbC BK417.out 0).trans rfl, (qbC BK417.out 1).trans rfl, (qbC BK403.out 0).trans rfl, (qbC BK403.out 1).trans rfl, (qbC BK404.out 0).trans rfl, (qbC BK404.out 1).trans rfl⟩ (fun hHeld => ?_); refine with_tabW laws_FnSafeInt64.tab9 laws_FnSafeInt64.bits9 (fun HT_ HW_ => ?_)
         generalize w71.drew = w72 at HO_404001 HO_405001 HO412 HO416 BK403 BK404 BK417 BK418 HB hHeld ⊢
         refine take_ (i := 0) (N := some 76) (v := ?_) (a' := ?_) #[true, false, false, false, false, false, false, false, false, false] rfl rfl (take_ofW HT_.out HW_.out zd22_14) (fun _ _ _ h => h) (Or.inl ⟨by rfl, ?_⟩) hHeld ?_ ?_
         rotate_left
         ·rintro w' ⟨s0, s1, s2, s3, s4, s5⟩
          go_simp
          with_reducible rfl
         rotate_left
         ·simp only [Act.put, qsA, qsZ, qsS, i64_w, i32_w]
          rfl
         refine take_ (i := 1) (N := some 77) (v := ?_) (a' := ?_) #[true, true, false, false, false, false, false, false, false, false] rfl rfl (take_ofW HT_.out HW_.out zd22_14) (fun _ _ _ h => h) (Or.inl ⟨by rfl, ?_⟩) hHeld ?_ ?_
         rotate_left
         ·rintro w' ⟨s0, s1, s2, s3, s4, s5⟩
          go_simp
          with_reducible rfl
         rotate_left
         ·simp only [Act.put, qsA, qsZ, qsS, i64_w, i32_w]
          rfl
         refine take_ (i := 3) (N := some 79) (v := ?_) (a' := ?_) #[true, true, false, true, false, false, false, false, false, false] rfl rfl (take_ofW HT_.out HW_.out zd22_14) (fun _ _ _ h => h) (Or.inl ⟨by rfl, ?_⟩) hHeld ?_ ?_
         rotate_left
         ·rintro w' ⟨s0, s1, s2, s3, s4, s5⟩
          go_simp
          with_reducible rfl
         rotate_left
         ·simp only [Act.put, qsA, qsZ, qsS, i64_w, i32_w]
          rfl
         refine take_ (i := 4) (N := some 80) (v := ?_) (a' := ?_) #[true, true, false, true, true, false, false, false, false, false] rfl rfl (take_ofW HT_.out HW_.out zd22_14) (fun _ _ _ h => h) (Or.inl ⟨by rfl, ?_⟩) hHeld ?_ ?_
         rotate_left
         ·rintro w' ⟨s0, s1, s2, s3, s4, s5⟩
          go_simp
          with_reducible rfl
         rotate_left
         ·simp only [Act.put, qsA, qsZ, qsS, i64_w, i32_w]
          rfl
         refine one_ (i := 2) (N := some 78) #[true, true, true, true, true, false, false, false, false, false] rfl rfl (one_of HT_.out zd22_14) (by decide) (fun K hK => ?_)
         refine goes_ Tryz.func8 zd22_14 rfl #[.agg #[.bool t409, .slice Ao66 t410.length co66], .agg #[.bool t395, .slice Ao14 t396.length co14]] (by rfl) rfl rfl zd22_5 ?_
         with_reducible refine (laws_greater.calls kj22 t409 (fun k_ => (k_ ≠ gb403 ∧ (k_ ≠ gb404 ∧ (k_ ≠ gb417 ∧ k_ ≠ gb418)))) _ _ t410 t395 (fun k_ => (k_ ≠ gb403 ∧ (k_ ≠ gb404 ∧ (k_ ≠ gb417 ∧ k_ ≠ gb418)))) _ _ t396 t419 t420 _ ?side1 ?side2 A29.out).mono ?_
         (case side1 => exact HO412.out)
         (case side2 => exact HO_404001.out)
         rintro e w73 ⟨v421, rfl, ho0, hb⟩
         refine ⟨_, rfl, ?_⟩
         have n0_ := qaM (qvB zd22_6 hb)
         have n1_ := qaM (qvB zd22_7 hb)
         have n2_ := qaM (qvB zd22_9 hb)
         have n3_ := qaM (qvB zd22_10 hb)
         have n4_ := qaM (qvL (qvM (ok' := fun k_ => k_ ≠ gb403 ∧ k_ ≠ gb404 ∧ k_ ≠ gb417 ∧ k_ ≠ gb418) ho0 (fun k_ hk_ => ⟨Or.elim hk_ (fun hs_ => Or.elim hs_ (fun hs_ => hs_.1) (fun hs_ => hs_.1)) (fun hn_ => (qfB (g := gb403) (o := .cells #[.bool t395, .slice Ao14 t396.length co14] 27 (0, 0)) zd22_0 k_ hn_)), Or.elim hk_ (fun hs_ => Or.elim hs_ (fun hs_ => hs_.2.1) (fun hs_ => hs_.2.1)) (fun hn_ => (qfB (g := gb404) (o := .cells #[.bool t399, .slice Ao16 t400.length co16] 27 (0, 0)) zd22_1 k_ hn_)), Or.elim hk_ (fun hs_ => Or.elim hs_ (fun hs_ => hs_.2.2.1) (fun hs_ => hs_.2.2.1)) (fun hn_ => (qfB (g := gb417) (o := .cells #[.bool t409, .slice Ao66 t410.length co66] 27 (0, 0)) zd22_4 k_ hn_)), Or.elim hk_ (fun hs_ => Or.elim hs_ (fun hs_ => hs_.2.2.2) (fun hs_ => hs_.2.2.2)) (fun hn_ => (qfB (g := gb418) (o := .cells #[.bool t413, .slice Ao70 t414.length co70] 27 (0, 0)) zd22_8 k_ hn_))⟩)) (qbS zd22_2))
         have n5_ := qaM (qbB (g := gb403) (o := .cells #[.bool t395, .slice Ao14 t396.length co14] 27 (0, 0)) zd22_0 hb)
         have n6_ := qaM (qbB (g := gb404) (o := .cells #[.bool t399, .slice Ao16 t400.length co16] 27 (0, 0)) zd22_1 hb)
         have n7_ := qaM (qbB (g := gb417) (o := .cells #[.bool t409, .slice Ao66 t410.length co66] 27 (0, 0)) zd22_4 hb)
         have n8_ := qaM (qbB (g := gb418) (o := .cells #[.bool t413, .slice Ao70 t414.length co70] 27 (0, 0)) zd22_8 hb)
         have n9_ := qaM (qbT zd22_2 hb)
         clear HO_404001
         clear HO_405001
         clear HO412
         clear HO416
         clear BK403
         clear BK404
         clear BK417
         clear BK418
         clear HB
         have HO_404001 := n0_
         have HO_405001 := n1_
         have HO412 := n2_
         have HO416 := n3_
         have HO422 := n4_
         have BK403 := n5_
         have BK404 := n6_
         have BK417 := n7_
         have BK418 := n8_
         have HB := n9_
         clear n0_ n1_ n2_ n3_ n4_ n5_ n6_ n7_ n8_ n9_
         (try clear hb)
         (try clear hb2)
         (try clear hk)
         (try clear hi)
         (try clear ho0)
         obtain ⟨Ao74, co74, eo74⟩ := Kd.V_slice HO422.out
         (first | subst eo74 | (injection eo74 with f1_ f2_ f3_; have f4_ := f1_.symm; have f5_ := f3_.symm; clear f1_ f2_ f3_; subst f4_; subst f5_))
         refine hK.out _ _ ⟨(qbC BK417.out 0).trans rfl, (qbC BK417.out 1).trans rfl, (qbC BK403.out 0).trans rfl, (qbC BK403.out 1).trans rfl, (qbC BK404.out 0).trans rfl, (qbC BK404.out 1).trans rfl⟩ (fun hHeld => ?_)
         clear hK K
         refine norm_ (a' := ?_) ?_ ?_
         rotate_left
         ·show Act.put _ (some 78) _ = _
          simp only [Act.put, qsA, qsZ, qsS, i64_w, i32_w]
          rfl
         refine one_ (i := 5) (N := some 81) #[true, true, true, true, true, true, false, false, false, false] rfl rfl (one_of HT_.out zd22_14) (by decide) (fun K hK => ?_)
         refine goes_ Tryz.func7 zd22_14 rfl #[.agg #[.bool t419, .slice Ao74 t420.length co74], .agg #[.bool t395, .slice Ao14 t396.length co14], .agg #[.bool t399, .slice Ao16 t400.length co16]] (by rfl) rfl rfl zd22_5 ?_
         with_reducible refine (laws_fitted.calls kj22 t419 _ _ t420 t395 _ _ t396 t399 _ _ t400 t423 t424 _ ?side1 ?side2 ?side3 ?side4 ?side5 ?side6 A30.out).mono ?_
         (case side1 => repeat (first | exact (qvR HO422.out).2.2 | (with_reducible refine Kd.C_alloc ?_ _) | (with_reducible refine Kd.C_drewN ?_ _) | (with_reducible refine Kd.C_drew ?_)))
         (case side2 => exact (qvR HO422.out).2.1)
         (case side3 => repeat (first | exact (qvR HO_404001.out).2.2 | (with_reducible refine Kd.C_alloc ?_ _) | (with_reducible refine Kd.C_drewN ?_ _) | (with_reducible refine Kd.C_drew ?_)))
         (case side4 => exact (qvR HO_404001.out).2.1)
         (case side5 => repeat (first | exact (qvR HO_405001.out).2.2 | (with_reducible refine Kd.C_alloc ?_ _) | (with_reducible refine Kd.C_drewN ?_ _) | (with_reducible refine Kd.C_drew ?_)))
         (case side6 => exact (qvR HO_405001.out).2.1)
         rintro e w75 ⟨rfl, hb⟩
         refine ⟨_, rfl, ?_⟩
         have n0_ := qaM (qvB zd22_6 hb)
         have n1_ := qaM (qvB zd22_7 hb)
         have n2_ := qaM (qvB zd22_9 hb)
         have n3_ := qaM (qvB zd22_10 hb)
         have n4_ := qaM (qvB zd22_12 hb)
         have n5_ := qaM (qbB (g := gb403) (o := .cells #[.bool t395, .slice Ao14 t396.length co14] 27 (0, 0)) zd22_0 hb)
         have n6_ := qaM (qbB (g := gb404) (o := .cells #[.bool t399, .slice Ao16 t400.length co16] 27 (0, 0)) zd22_1 hb)
         have n7_ := qaM (qbB (g := gb417) (o := .cells #[.bool t409, .slice Ao66 t410.length co66] 27 (0, 0)) zd22_4 hb)
         have n8_ := qaM (qbB (g := gb418) (o := .cells #[.bool t413, .slice Ao70 t414.length co70] 27 (0, 0)) zd22_8 hb)
         have n9_ := qaM (qbT zd22_2 hb)
         clear HO_404001
         clear HO_405001
         clear HO412
         clear HO416
         clear HO422
         clear BK403
         clear BK404
         clear BK417
         clear BK418
         clear HB
         have HO_404001 := n0_
         have HO_405001 := n1_
         have HO412 := n2_
         have HO416 := n3_
         have HO422 := n4_
         have BK403 := n5_
         have BK404 := n6_
         have BK417 := n7_
         have BK418 := n8_
         have HB := n9_
         clear n0_ n1_ n2_ n3_ n4_ n5_ n6_ n7_ n8_ n9_
         (try clear hb)
         (try clear hb2)
         (try clear hk)
         (try clear hi)
         refine hK.out _ _ ⟨(qbC BK417.out 0).trans rfl, (qbC BK417.out 1).trans rfl, (qbC BK403.out 0).trans rfl, (qbC BK403.out 1).trans rfl, (qbC BK404.out 0).trans rfl, (qbC BK404.out 1).trans rfl⟩ (fun hHeld => ?_)
         clear hK K
         refine norm_ (a' := ?_) ?_ ?_
         rotate_left
         ·show Act.put _ (some 81) _ = _
          simp only [Act.put, qsA, qsZ, qsS, i64_w, i32_w]
          rfl
         refine pure_ (i := 6) (N := some 75) (v := ?_) (a' := ?_) #[true, true, true, true, true, true, true, false, false, false] rfl rfl (any_of HT_.out zd22_14) (fun _ _ _ h => h) (Or.inl ⟨by rfl, ?_⟩) ?_ ?_
         rotate_left
         ·intro w'
          go_simp
          with_reducible rfl
         rotate_left
         ·simp only [Act.put, qsA, qsZ, qsS, i64_w, i32_w]
          rfl
         refine pure_ (i := 7) (N := some 82) (v := ?_) (a' := ?_) #[true, true, true, true, true, true, true, true, false, false] rfl rfl (any_of HT_.out zd22_14) (fun _ _ _ h => h) (Or.inl ⟨by rfl, ?_⟩) ?_ ?_
         rotate_left
         ·intro w'
          go_simp
          with_reducible rfl
         rotate_left
         ·simp only [Act.put, qsA, qsZ, qsS, i64_w, i32_w]
          rfl
         refine pure_ (i := 8) (N := some 83) (v := ?_) (a' := ?_) #[true, true, true, true, true, true, true, true, true, false] rfl rfl (any_of HT_.out zd22_14) (fun _ _ _ h => h) (Or.inl ⟨by rfl, ?_⟩) ?_ ?_
         rotate_left
         ·intro w'
          go_simp
          with_reducible rfl
         rotate_left
         ·simp only [Act.put, qsA, qsZ, qsS, i64_w, i32_w]
          rfl
         refine pure_ (i := 9) (N := some 10) (v := ?_) (a' := ?_) #[true, true, true, true, true, true, true, true, true, true] rfl rfl (any_of HT_.out zd22_14) (fun _ _ _ h => h) (Or.inl ⟨by rfl, ?_⟩) ?_ ?_
         rotate_left
         ·intro w'
          go_simp
          with_reducible rfl
         rotate_left
         ·simp only [Act.put, qsA, qsZ, qsS, i64_w, i32_w]
          rfl
         refine done_ (done_of HT_.out zd22_14) ?_
         try go_wp2
         have n0_ := qaM (qvD HO_404001.out)
         have n1_ := qaM (qvD HO_405001.out)
         have n2_ := qaM (qvD HO412.out)
         have n3_ := qaM (qvD HO416.out)
         have n4_ := qaM (qvD HO422.out)
         have n5_ := qaM (qbD BK403.out)
         have n6_ := qaM (qbD BK404.out)
         have n7_ := qaM (qbD BK417.out)
         have n8_ := qaM (qbD BK418.out)
         have n9_ := qaM (qwD HB.out)
         clear HO_404001
         clear HO_405001
         clear HO412
         clear HO416
         clear HO422
         clear BK403
         clear BK404
         clear BK417
         clear BK418
         clear HB
         have HO_404001 := n0_
         have HO_405001 := n1_
         have HO412 := n2_
         have HO416 := n3_
         have HO422 := n4_
         have BK403 := n5_
         have BK404 := n6_
         have BK417 := n7_
         have BK418 := n8_
         have HB := n9_
         clear n0_ n1_ n2_ n3_ n4_ n5_ n6_ n7_ n8_ n9_
         refine start_ (n := 10) (S := fun w' => w'.cell? ⟨gb418, 0, none⟩ = some (.bool t413) ∧ w'.cell? ⟨gb418, 1, none⟩ = some (.slice Ao70 t414.length co70) ∧ w'.cell? ⟨gb404, 0, none⟩ = some (.bool t399) ∧ w'.cell? ⟨gb404, 1, none⟩ = some (.slice Ao16 t400.length co16) ∧ w'.cell? ⟨gb403, 0, none⟩ = some (.bool t395) ∧ w'.cell? ⟨gb403, 1, none⟩ = some (.slice Ao14 t396.length co14)) (ds := []) #[false, false, false, false, false, false, false, false, false, false] zd22_14 rfl rfl ⟨(qbC BK418.out 0).trans rfl, (qbC BK418.out 1).trans rfl, (qbC BK404.out 0).trans rfl, (qbC BK404.out 1).trans rfl, (qbC BK403.out 0).trans rfl, (qbC BK403.out 1).trans rfl⟩ (fun hHeld => ?_); refine with_tabW laws_FnSafeInt64.tab10 laws_FnSafeInt64.bits10 (fun HT_ HW_ => ?_)
         generalize w75.drew = w76 at HO_404001 HO_405001 HO412 HO416 HO422 BK403 BK404 BK417 BK418 HB hHeld ⊢
         refine take_ (i := 0) (N := some 85) (v := ?_) (a' := ?_) #[true, false, false, false, false, false, false, false, false, false] rfl rfl (take_ofW HT_.out HW_.out zd22_14) (fun _ _ _ h => h) (Or.inl ⟨by rfl, ?_⟩) hHeld ?_ ?_
         rotate_left
         ·rintro w' ⟨s0, s1, s2, s3, s4, s5⟩
          go_simp
          with_reducible rfl
         rotate_left
         ·simp only [Act.put, qsA, qsZ, qsS, i64_w, i32_w]
          rfl
         refine take_ (i := 1) (N := some 86) (v := ?_) (a' := ?_) #[true, true, false, false, false, false, false, false, false, false] rfl rfl (take_ofW HT_.out HW_.out zd22_14) (fun _ _ _ h => h) (Or.inl ⟨by rfl, ?_⟩) hHeld ?_ ?_
         rotate_left
         ·rintro w' ⟨s0, s1, s2, s3, s4, s5⟩
          go_simp
          with_reducible rfl
         rotate_left
         ·simp only [Act.put, qsA, qsZ, qsS, i64_w, i32_w]
          rfl
         refine take_ (i := 3) (N := some 88) (v := ?_) (a' := ?_) #[true, true, false, true, false, false, false, false, false, false] rfl rfl (take_ofW HT_.out HW_.out zd22_14) (fun _ _ _ h => h) (Or.inl ⟨by rfl, ?_⟩) hHeld ?_ ?_
         rotate_left
         ·rintro w' ⟨s0, s1, s2, s3, s4, s5⟩
          go_simp
          with_reducible rfl
         rotate_left
         ·simp only [Act.put, qsA, qsZ, qsS, i64_w, i32_w]
          rfl
         refine take_ (i := 4) (N := some 89) (v := ?_) (a' := ?_) #[true, true, false, true, true, false, false, false, false, false] rfl rfl (take_ofW HT_.out HW_.out zd22_14) (fun _ _ _ h => h) (Or.inl ⟨by rfl, ?_⟩) hHeld ?_ ?_
         rotate_left
         ·rintro w' ⟨s0, s1, s2, s3, s4, s5⟩
          go_simp
          with_reducible rfl
         rotate_left
         ·simp only [Act.put, qsA, qsZ, qsS, i64_w, i32_w]
          rfl
         refine one_ (i := 2) (N := some 87) #[true, true, true, true, true, false, false, false, false, false] rfl rfl (one_of HT_.out zd22_14) (by decide) (fun K hK => ?_)
         refine goes_ Tryz.func9 zd22_14 rfl #[.agg #[.bool t413, .slice Ao70 t414.length co70], .agg #[.bool t399, .slice Ao16 t400.length co16]] (by rfl) rfl rfl zd22_5 ?_
         with_reducible refine (laws_smaller.calls kj22 t413 (fun k_ => (k_ ≠ gb403 ∧ (k_ ≠ gb404 ∧ (k_ ≠ gb417 ∧ k_ ≠ gb418)))) _ _ t414 t399 (fun k_ => (k_ ≠ gb403 ∧ (k_ ≠ gb404 ∧ (k_ ≠ gb417 ∧ k_ ≠ gb418)))) _ _ t400 t425 t426 _ ?side1 ?side2 A31.out).mono ?_
         (case side1 => exact HO416.out)
         (case side2 => exact HO_405001.out)
         rintro e w77 ⟨v427, rfl, ho0, hb⟩
         refine ⟨_, rfl, ?_⟩
         have n0_ := qaM (qvB zd22_6 hb)
         have n1_ := qaM (qvB zd22_7 hb)
         have n2_ := qaM (qvB zd22_9 hb)
         have n3_ := qaM (qvB zd22_10 hb)
         have n4_ := qaM (qvB zd22_12 hb)
         have n5_ := qaM (qvL (qvM (ok' := fun k_ => k_ ≠ gb403 ∧ k_ ≠ gb404 ∧ k_ ≠ gb417 ∧ k_ ≠ gb418) ho0 (fun k_ hk_ => ⟨Or.elim hk_ (fun hs_ => Or.elim hs_ (fun hs_ => hs_.1) (fun hs_ => hs_.1)) (fun hn_ => (qfB (g := gb403) (o := .cells #[.bool t395, .slice Ao14 t396.length co14] 27 (0, 0)) zd22_0 k_ hn_)), Or.elim hk_ (fun hs_ => Or.elim hs_ (fun hs_ => hs_.2.1) (fun hs_ => hs_.2.1)) (fun hn_ => (qfB (g := gb404) (o := .cells #[.bool t399, .slice Ao16 t400.length co16] 27 (0, 0)) zd22_1 k_ hn_)), Or.elim hk_ (fun hs_ => Or.elim hs_ (fun hs_ => hs_.2.2.1) (fun hs_ => hs_.2.2.1)) (fun hn_ => (qfB (g := gb417) (o := .cells #[.bool t409, .slice Ao66 t410.length co66] 27 (0, 0)) zd22_4 k_ hn_)), Or.elim hk_ (fun hs_ => Or.elim hs_ (fun hs_ => hs_.2.2.2) (fun hs_ => hs_.2.2.2)) (fun hn_ => (qfB (g := gb418) (o := .cells #[.bool t413, .slice Ao70 t414.length co70] 27 (0, 0)) zd22_8 k_ hn_))⟩)) (qbS zd22_2))
         have n6_ := qaM (qbB (g := gb403) (o := .cells #[.bool t395, .slice Ao14 t396.length co14] 27 (0, 0)) zd22_0 hb)
         have n7_ := qaM (qbB (g := gb404) (o := .cells #[.bool t399, .slice Ao16 t400.length co16] 27 (0, 0)) zd22_1 hb)
         have n8_ := qaM (qbB (g := gb417) (o := .cells #[.bool t409, .slice Ao66 t410.length co66] 27 (0, 0)) zd22_4 hb)
         have n9_ := qaM (qbB (g := gb418) (o := .cells #[.bool t413, .slice Ao70 t414.length co70] 27 (0, 0)) zd22_8 hb)
         have n10_ := qaM (qbT zd22_2 hb)
         clear HO_404001
         clear HO_405001
         clear HO412
         clear HO416
         clear HO422
         clear BK403
         clear BK404
         clear BK417
         clear BK418
         clear HB
         have HO_404001 := n0_
         have HO_405001 := n1_
         have HO412 := n2_
         have HO416 := n3_
         have HO422 := n4_
         have HO428 := n5_
         have BK403 := n6_
         have BK404 := n7_
         have BK417 := n8_
         have BK418 := n9_
         have HB := n10_
         clear n0_ n1_ n2_ n3_ n4_ n5_ n6_ n7_ n8_ n9_ n10_
         (try clear hb)
         (try clear hb2)
         (try clear hk)
         (try clear hi)
         (try clear ho0)
         obtain ⟨Ao78, co78, eo78⟩ := Kd.V_slice HO428.out
         (first | subst eo78 | (injection eo78 with f1_ f2_ f3_; have f4_ := f1_.symm; have f5_ := f3_.symm; clear f1_ f2_ f3_; subst f4_; subst f5_))
         refine hK.out _ _ ⟨(qbC BK418.out 0).trans rfl, (qbC BK418.out 1).trans rfl, (qbC BK404.out 0).trans rfl, (qbC BK404.out 1).trans rfl, (qbC BK403.out 0).trans rfl, (qbC BK403.out 1).trans rfl⟩ (fun hHeld => ?_)
         clear hK K
         refine norm_ (a' := ?_) ?_ ?_
         rotate_left
         ·show Act.put _ (some 87) _ = _
          simp only [Act.put, qsA, qsZ, qsS, i64_w, i32_w]
          rfl
         refine one_ (i := 5) (N := some 90) #[true, true, true, true, true, true, false, false, false, false] rfl rfl (one_of HT_.out zd22_14) (by decide) (fun K hK => ?_)
         refine goes_ Tryz.func7 zd22_14 rfl #[.agg #[.bool t425, .slice Ao78 t426.length co78], .agg #[.bool t395, .slice Ao14 t396.length co14], .agg #[.bool t399, .slice Ao16 t400.length co16]] (by rfl) rfl rfl zd22_5 ?_
         with_reducible refine (laws_fitted.calls kj22 t425 _ _ t426 t395 _ _ t396 t399 _ _ t400 t429 t430 _ ?side1 ?side2 ?side3 ?side4 ?side5 ?side6 A32.out).mono ?_
         (case side1 => repeat (first | exact (qvR HO428.out).2.2 | (with_reducible refine Kd.C_alloc ?_ _) | (with_reducible refine Kd.C_drewN ?_ _) | (with_reducible refine Kd.C_drew ?_)))
         (case side2 => exact (qvR HO428.out).2.1)
         (case side3 => repeat (first | exact (qvR HO_404001.out).2.2 | (with_reducible refine Kd.C_alloc ?_ _) | (with_reducible refine Kd.C_drewN ?_ _) | (with_reducible refine Kd.C_drew ?_)))
         (case side4 => exact (qvR HO_404001.out).2.1)
         (case side5 => repeat (first | exact (qvR HO_405001.out).2.2 | (with_reducible refine Kd.C_alloc ?_ _) | (with_reducible refine Kd.C_drewN ?_ _) | (with_reducible refine Kd.C_drew ?_)))
         (case side6 => exact (qvR HO_405001.out).2.1)
         rintro e w79 ⟨rfl, hb⟩
         refine ⟨_, rfl, ?_⟩
         have n0_ := qaM (qvB zd22_6 hb)
         have n1_ := qaM (qvB zd22_7 hb)
         have n2_ := qaM (qvB zd22_9 hb)
         have n3_ := qaM (qvB zd22_10 hb)
         have n4_ := qaM (qvB zd22_12 hb)
         have n5_ := qaM (qvB zd22_16 hb)
         have n6_ := qaM (qbB (g := gb403) (o := .cells #[.bool t395, .slice Ao14 t396.length co14] 27 (0, 0)) zd22_0 hb)
         have n7_ := qaM (qbB (g := gb404) (o := .cells #[.bool t399, .slice Ao16 t400.length co16] 27 (0, 0)) zd22_1 hb)
         have n8_ := qaM (qbB (g := gb417) (o := .cells #[.bool t409, .slice Ao66 t410.length co66] 27 (0, 0)) zd22_4 hb)
         have n9_ := qaM (qbB (g := gb418) (o := .cells #[.bool t413, .slice Ao70 t414.length co70] 27 (0, 0)) zd22_8 hb)
         have n10_ := qaM (qbT zd22_2 hb)
         clear HO_404001
         clear HO_405001
         clear HO412
         clear HO416
         clear HO422
         clear HO428
         clear BK403
         clear BK404
         clear BK417
         clear BK418
         clear HB
         have HO_404001 := n0_
         have HO_405001 := n1_
         have HO412 := n2_
         have HO416 := n3_
         have HO422 := n4_
         have HO428 := n5_
         have BK403 := n6_
         have BK404 := n7_
         have BK417 := n8_
         have BK418 := n9_
         have HB := n10_
         clear n0_ n1_ n2_ n3_ n4_ n5_ n6_ n7_ n8_ n9_ n10_
         (try clear hb)
         (try clear hb2)
         (try clear hk)
         (try clear hi)
         refine hK.out _ _ ⟨(qbC BK418.out 0).trans rfl, (qbC BK418.out 1).trans rfl, (qbC BK404.out 0).trans rfl, (qbC BK404.out 1).trans rfl, (qbC BK403.out 0).trans rfl, (qbC BK403.out 1).trans rfl⟩ (fun hHeld => ?_)
         clear hK K
         refine norm_ (a' := ?_) ?_ ?_
         rotate_left
         ·show Act.put _ (some 90) _ = _
          simp only [Act.put, qsA, qsZ, qsS, i64_w, i32_w]
          rfl
         refine pure_ (i := 6) (N := some 84) (v := ?_) (a' := ?_) #[true, true, true, true, true, true, true, false, false, false] rfl rfl (any_of HT_.out zd22_14) (fun _ _ _ h => h) (Or.inl ⟨by rfl, ?_⟩) ?_ ?_
         rotate_left
         ·intro w'
          go_simp
          with_reducible rfl
         rotate_left
         ·simp only [Act.put, qsA, qsZ, qsS, i64_w, i32_w]
          rfl
         refine pure_ (i := 7) (N := some 91) (v := ?_) (a' := ?_) #[true, true, true, true, true, true, true, true, false, false] rfl rfl (any_of HT_.out zd22_14) (fun _ _ _ h => h) (Or.inl ⟨by rfl, ?_⟩) ?_ ?_
         rotate_left
         ·intro w'
          go_simp
          with_reducible rfl
         rotate_left
         ·simp only [Act.put, qsA, qsZ, qsS, i64_w, i32_w]
          rfl
         refine pure_ (i := 8) (N := some 92) (v := ?_) (a' := ?_) #[true, true, true, true, true, true, true, true, true, false] rfl rfl (any_of HT_.out zd22_14) (fun _ _ _ h => h) (Or.inl ⟨by rfl, ?_⟩) ?_ ?_
         rotate_left
         ·intro w'
          go_simp
          with_reducible rfl
         rotate_left
         ·simp only [Act.put, qsA, qsZ, qsS, i64_w, i32_w]
          rfl
         refine pure_ (i := 9) (N := some 12) (v := ?_) (a' := ?_) #[true, true, true, true, true, true, true, true, true, true] rfl rfl (any_of HT_.out zd22_14) (fun _ _ _ h => h) (Or.inl ⟨by rfl, ?_⟩) ?_ ?_
         rotate_left
         ·intro w'
          go_simp
          with_reducible rfl
         rotate_left
         ·simp only [Act.put, qsA, qsZ, qsS, i64_w, i32_w]
          rfl
         refine done_ (done_of HT_.out zd22_14) ?_
         try go_wp2_with (first | ((with_reducible refine gate_callee (f := 10) rfl ?_); refine goesL_ (some 96) rfl rfl Tryz.func10 zd22_14 rfl #[.int .i64 a0, .bool a1] rfl zd22_5 ?_; (with_reducible refine (impl_SafeInt64.calls a0 a1 t431 t432 true _ A33.out).mono ?_); rintro e w80 ⟨rfl, hb⟩; refine ⟨_, rfl, ?_⟩; have n0_ := qaM (qvB zd22_6 hb); have n1_ := qaM (qvB zd22_7 hb); have n2_ := qaM (qvB zd22_9 hb); have n3_ := qaM (qvB zd22_10 hb); have n4_ := qaM (qvB zd22_12 hb); have n5_ := qaM (qvB zd22_16 hb); have n6_ := qaM (qbB (g := gb403) (o := .cells #[.bool t395, .slice Ao14 t396.length co14] 27 (0, 0)) zd22_0 hb); have n7_ := qaM (qbB (g := gb404) (o := .cells #[.bool t399, .slice Ao16 t400.length co16] 27 (0, 0)) zd22_1 hb); have n8_ := qaM (qbB (g := gb417) (o := .cells #[.bool t409, .slice Ao66 t410.length co66] 27 (0, 0)) zd22_4 hb); have n9_ := qaM (qbB (g := gb418) (o := .cells #[.bool t413, .slice Ao70 t414.length co70] 27 (0, 0)) zd22_8 hb); have n10_ := qaM (qbT zd22_2 hb); clear HO_404001; clear HO_405001; clear HO412; clear HO416; clear HO422; clear HO428; clear BK403; clear BK404; clear BK417; clear BK418; clear HB; have HO_404001 := n0_; have HO_405001 := n1_; have HO412 := n2_; have HO416 := n3_; have HO422 := n4_; have HO428 := n5_; have BK403 := n6_; have BK404 := n7_; have BK417 := n8_; have BK418 := n9_; have HB := n10_; clear n0_ n1_ n2_ n3_ n4_ n5_ n6_ n7_ n8_ n9_ n10_; (try clear hb); (try clear hb2); (try clear hk); (try clear hi)))
         go_ret
         exact ⟨by first | rfl | (simp [errW_none, errW_some] <;> rfl) | (simp [*, errW_none, errW_some] <;> rfl), by repeat (first | (with_reducible first | exact HB.out | apply qwA | apply qwN | apply qwD | refine qwS ?_ GE403.out | refine qwS ?_ GE404.out | refine qwS ?_ GE417.out | refine qwS ?_ GE418.out) | exact HB.out)⟩
       ·rw [if_neg c35] at H
        have c35b0 : (t431 == (wrap64 (t423))) = false := beq_eq_false_iff_ne.mpr c35
        have c35b1 : (t431 != (wrap64 (t423))) = true := bne_iff_ne.mpr c35
        obtain rfl := Option.some.inj H
        try go_wp2_with (first | ((with_reducible refine gate_callee (f := 6) rfl ?_); refine goesL_ (some 72) rfl rfl Tryz.func6 zd22_14 rfl #[.int .i64 a0, .bool a1] rfl zd22_5 ?_; (with_reducible refine (laws_bounds.calls kj22 a0 a1 t409 t410 t413 t414 _ A28.out).mono ?_); rintro e w81 ⟨v411, v415, rfl, ho0, ho1, hb⟩; refine ⟨_, rfl, ?_⟩; have n0_ := qaM (qvB zd22_6 hb); have n1_ := qaM (qvB zd22_7 hb); have n2_ := qaM (qvL (qvM (ok' := fun k_ => k_ ≠ gb403 ∧ k_ ≠ gb404) ho0 (fun k_ hk_ => ⟨(qfB (g := gb403) (o := .cells #[.bool t395, .slice Ao14 t396.length co14] 27 (0, 0)) zd22_0 k_ hk_), (qfB (g := gb404) (o := .cells #[.bool t399, .slice Ao16 t400.length co16] 27 (0, 0)) zd22_1 k_ hk_)⟩)) (qbS zd22_3)); have n3_ := qaM (qvL (qvM (ok' := fun k_ => k_ ≠ gb403 ∧ k_ ≠ gb404) ho1 (fun k_ hk_ => ⟨(qfB (g := gb403) (o := .cells #[.bool t395, .slice Ao14 t396.length co14] 27 (0, 0)) zd22_0 k_ hk_), (qfB (g := gb404) (o := .cells #[.bool t399, .slice Ao16 t400.length co16] 27 (0, 0)) zd22_1 k_ hk_)⟩)) (qbS zd22_3)); have n4_ := qaM (qbB (g := gb403) (o := .cells #[.bool t395, .slice Ao14 t396.length co14] 27 (0, 0)) zd22_0 hb); have n5_ := qaM (qbB (g := gb404) (o := .cells #[.bool t399, .slice Ao16 t400.length co16] 27 (0, 0)) zd22_1 hb); have n6_ := qaM (qbT zd22_3 hb); clear HO_404001; clear HO_405001; clear BK403; clear BK404; clear HB; have HO_404001 := n0_; have HO_405001 := n1_; have HO412 := n2_; have HO416 := n3_; have BK403 := n4_; have BK404 := n5_; have HB := n6_; clear n0_ n1_ n2_ n3_ n4_ n5_ n6_; (try clear hb); (try clear hb2); (try clear hk); (try clear hi); (try clear ho0); (try clear ho1)) | ((with_reducible refine gate_dst (N := 15) rfl ?_); refine box_event ?hg (N := 15) ?hd (cs := #[.bool false, .slice none 0 0]) (t := 27) ?hr ?_; (case hd => rfl); (case hg => rfl); (case hr => first | (go_simp; done) | (go_simp; rfl)); intro gb417 hg w82 hbox hb; have n0_ := qaM (qvB (qvE zd22_6 gb417 (Nat.le_of_eq hg.symm)) hb); have n1_ := qaM (qvB (qvE zd22_7 gb417 (Nat.le_of_eq hg.symm)) hb); have n2_ := qaM (qvB (qvE zd22_9 gb417 (Nat.le_of_eq hg.symm)) hb); have n3_ := qaM (qvB (qvE zd22_10 gb417 (Nat.le_of_eq hg.symm)) hb); have n4_ := qaM (qbB (g := gb403) (o := .cells #[.bool t395, .slice Ao14 t396.length co14] 27 (0, 0)) zd22_0 hb); have n5_ := qaM (qbB (g := gb404) (o := .cells #[.bool t399, .slice Ao16 t400.length co16] 27 (0, 0)) zd22_1 hb); have n6_ := qaM (qbT zd22_3 hb); have n7_ := qaM (hbox); have n8_ := qaM ((by rw [hg]; exact (qbS zd22_3) : w.heap.size ≤ gb417)); have n9_ := qaM ((by rw [hg]; exact (qbS zd22_3) : w.heap.size ≤ gb417)); have n10_ := qaM ((by rw [hg]; exact qnL (qbL (g := gb403) (o := .cells #[.bool t395, .slice Ao14 t396.length co14] 27 (0, 0)) zd22_0) : gb403 ≠ gb417)); have n11_ := qaM ((by rw [hg]; exact qnG (qbL (g := gb403) (o := .cells #[.bool t395, .slice Ao14 t396.length co14] 27 (0, 0)) zd22_0) : gb417 ≠ gb403)); have n12_ := qaM ((by rw [hg]; exact qnL (qbL (g := gb404) (o := .cells #[.bool t399, .slice Ao16 t400.length co16] 27 (0, 0)) zd22_1) : gb404 ≠ gb417)); have n13_ := qaM ((by rw [hg]; exact qnG (qbL (g := gb404) (o := .cells #[.bool t399, .slice Ao16 t400.length co16] 27 (0, 0)) zd22_1) : gb417 ≠ gb404)); clear HO_404001; clear HO_405001; clear HO412; clear HO416; clear BK403; clear BK404; clear HB; have HO_404001 := n0_; have HO_405001 := n1_; have HO412 := n2_; have HO416 := n3_; have BK403 := n4_; have BK404 := n5_; have HB := n6_; have BK417 := n7_; have GW417 := n8_; have GE417 := n9_; have NB403_417 := n10_; have NB417_403 := n11_; have NB404_417 := n12_; have NB417_404 := n13_; clear n0_ n1_ n2_ n3_ n4_ n5_ n6_ n7_ n8_ n9_ n10_ n11_ n12_ n13_; clear hb hbox hg) | ((with_reducible refine gate_dst (N := 16) rfl ?_); refine box_event ?hg (N := 16) ?hd (cs := #[.bool false, .slice none 0 0]) (t := 27) ?hr ?_; (case hd => rfl); (case hg => rfl); (case hr => first | (go_simp; done) | (go_simp; rfl)); intro gb418 hg w83 hbox hb; have n0_ := qaM (qvB (qvE zd22_6 gb418 (Nat.le_of_eq hg.symm)) hb); have n1_ := qaM (qvB (qvE zd22_7 gb418 (Nat.le_of_eq hg.symm)) hb); have n2_ := qaM (qvB (qvE zd22_9 gb418 (Nat.le_of_eq hg.symm)) hb); have n3_ := qaM (qvB (qvE zd22_10 gb418 (Nat.le_of_eq hg.symm)) hb); have n4_ := qaM (qbB (g := gb403) (o := .cells #[.bool t395, .slice Ao14 t396.length co14] 27 (0, 0)) zd22_0 hb); have n5_ := qaM (qbB (g := gb404) (o := .cells #[.bool t399, .slice Ao16 t400.length co16] 27 (0, 0)) zd22_1 hb); have n6_ := qaM (qbB (g := gb417) (o := .cells #[.bool false, .slice none 0 0] 27 (0, 0)) zd22_4 hb); have n7_ := qaM (qbT zd22_11 hb); have n8_ := qaM (hbox); have n9_ := qaM ((by rw [hg]; exact (qbS zd22_11) : w.heap.size ≤ gb418)); have n10_ := qaM ((by rw [hg]; exact (qbS zd22_11) : w.heap.size ≤ gb418)); have n11_ := qaM ((by rw [hg]; exact qnL (qbL (g := gb403) (o := .cells #[.bool t395, .slice Ao14 t396.length co14] 27 (0, 0)) zd22_0) : gb403 ≠ gb418)); have n12_ := qaM ((by rw [hg]; exact qnG (qbL (g := gb403) (o := .cells #[.bool t395, .slice Ao14 t396.length co14] 27 (0, 0)) zd22_0) : gb418 ≠ gb403)); have n13_ := qaM ((by rw [hg]; exact qnL (qbL (g := gb404) (o := .cells #[.bool t399, .slice Ao16 t400.length co16] 27 (0, 0)) zd22_1) : gb404 ≠ gb418)); have n14_ := qaM ((by rw [hg]; exact qnG (qbL (g := gb404) (o := .cells #[.bool t399, .slice Ao16 t400.length co16] 27 (0, 0)) zd22_1) : gb418 ≠ gb404)); have n15_ := qaM ((by rw [hg]; exact qnL (qbL (g := gb417) (o := .cells #[.bool false, .slice none 0 0] 27 (0, 0)) zd22_4) : gb417 ≠ gb418)); have n16_ := qaM ((by rw [hg]; exact qnG (qbL (g := gb417) (o := .cells #[.bool false, .slice none 0 0] 27 (0, 0)) zd22_4) : gb418 ≠ gb417)); clear HO_404001; clear HO_405001; clear HO412; clear HO416; clear BK403; clear BK404; clear BK417; clear HB; have HO_404001 := n0_; have HO_405001 := n1_; have HO412 := n2_; have HO416 := n3_; have BK403 := n4_; have BK404 := n5_; have BK417 := n6_; have HB := n7_; have BK418 := n8_; have GW418 := n9_; have GE418 := n10_; have NB403_418 := n11_; have NB418_403 := n12_; have NB404_418 := n13_; have NB418_404 := n14_; have NB417_418 := n15_; have NB418_417 := n16_; clear n0_ n1_ n2_ n3_ n4_ n5_ n6_ n7_ n8_ n9_ n10_ n11_ n12_ n13_ n14_ n15_ n16_; clear hb hbox hg; have hnb84 := NB417_403.out; have hnc84 := NB403_417.out; have hnb85 := NB417_404.out; have hnc85 := NB404_417.out; have hnb86 := NB417_418.out; have hnc86 := NB418_417.out; have hcz87_0 : w83.cell? ⟨gb417, 0, none⟩ = some (.bool false) := (qbC BK417.out 0).trans rfl; have hcz87_1 : w83.cell? ⟨gb417, 1, none⟩ = some (.slice none 0 0) := (qbC BK417.out 1).trans rfl; have hfz87_0 := blk_frozen BK417.out 0; have hfz87_1 := blk_frozen BK417.out 1; obtain ⟨Ao88, co88, eo88⟩ := Kd.V_slice HO412.out; subst eo88; have hnb89 := NB418_403.out; have hnc89 := NB403_418.out; have hnb90 := NB418_404.out; have hnc90 := NB404_418.out; have hcz91_0 : w83.cell? ⟨gb418, 0, none⟩ = some (.bool false) := (qbC BK418.out 0).trans rfl; have hcz91_1 : w83.cell? ⟨gb418, 1, none⟩ = some (.slice none 0 0) := (qbC BK418.out 1).trans rfl; have hfz91_0 := blk_frozen BK418.out 0; have hfz91_1 := blk_frozen BK418.out 1; obtain ⟨Ao92, co92, eo92⟩ := Kd.V_slice HO416.out; subst eo92))
        have n0_ : Aside0 (Kd.V (Kd.int .u32) 104 ((((w83.setCell ⟨gb417, 0, none⟩ (.bool t409)).setCell ⟨gb417, 1, none⟩ (.slice Ao88 t410.length co88)).setCell ⟨gb418, 0, none⟩ (.bool t413)).setCell ⟨gb418, 1, none⟩ (.slice Ao92 t414.length co92)) w.heap.size (fun k_ => k_ ≠ gb403 ∧ k_ ≠ gb404 ∧ k_ ≠ gb417 ∧ k_ ≠ gb418) (.slice Ao14 t396.length co14) t396) := ⟨by (with_reducible repeat (first | apply qvA | apply qvN | apply qvD)); exact qvM (qvF (p := ⟨gb418, 1, none⟩) (qvF (p := ⟨gb418, 0, none⟩) (qvF (p := ⟨gb417, 1, none⟩) (qvF (p := ⟨gb417, 0, none⟩) (qvM (qvM HO_404001.out (fun k_ hk => (⟨hk, hk.1.2⟩ : _ ∧ k_ ≠ gb417))) (fun k_ hk => (⟨hk, hk.1.2⟩ : _ ∧ k_ ≠ gb418))) (fun _ hk => hk.1.2) (.bool t409)) (fun _ hk => hk.1.2) (.slice Ao88 t410.length co88)) (fun _ hk => hk.2) (.bool t413)) (fun _ hk => hk.2) (.slice Ao92 t414.length co92)) (fun _ hk => ⟨hk.1.1.1.1.1, ⟨hk.1.1.1.1.2, ⟨hk.1.1.1.2, hk.1.1.2⟩⟩⟩)⟩
        have n1_ : Aside0 (Kd.V (Kd.int .u32) 104 ((((w83.setCell ⟨gb417, 0, none⟩ (.bool t409)).setCell ⟨gb417, 1, none⟩ (.slice Ao88 t410.length co88)).setCell ⟨gb418, 0, none⟩ (.bool t413)).setCell ⟨gb418, 1, none⟩ (.slice Ao92 t414.length co92)) w.heap.size (fun k_ => k_ ≠ gb403 ∧ k_ ≠ gb404 ∧ k_ ≠ gb417 ∧ k_ ≠ gb418) (.slice Ao16 t400.length co16) t400) := ⟨by (with_reducible repeat (first | apply qvA | apply qvN | apply qvD)); exact qvM (qvF (p := ⟨gb418, 1, none⟩) (qvF (p := ⟨gb418, 0, none⟩) (qvF (p := ⟨gb417, 1, none⟩) (qvF (p := ⟨gb417, 0, none⟩) (qvM (qvM HO_405001.out (fun k_ hk => (⟨hk, hk.1.2⟩ : _ ∧ k_ ≠ gb417))) (fun k_ hk => (⟨hk, hk.1.2⟩ : _ ∧ k_ ≠ gb418))) (fun _ hk => hk.1.2) (.bool t409)) (fun _ hk => hk.1.2) (.slice Ao88 t410.length co88)) (fun _ hk => hk.2) (.bool t413)) (fun _ hk => hk.2) (.slice Ao92 t414.length co92)) (fun _ hk => ⟨hk.1.1.1.1.1, ⟨hk.1.1.1.1.2, ⟨hk.1.1.1.2, hk.1.1.2⟩⟩⟩)⟩
        have n2_ : Aside0 (Kd.V (Kd.int .u32) 104 ((((w83.setCell ⟨gb417, 0, none⟩ (.bool t409)).setCell ⟨gb417, 1, none⟩ (.slice Ao88 t410.length co88)).setCell ⟨gb418, 0, none⟩ (.bool t413)).setCell ⟨gb418, 1, none⟩ (.slice Ao92 t414.length co92)) w.heap.size (fun k_ => k_ ≠ gb403 ∧ k_ ≠ gb404 ∧ k_ ≠ gb417 ∧ k_ ≠ gb418) (.slice Ao88 t410.length co88) t410) := ⟨by (with_reducible repeat (first | apply qvA | apply qvN | apply qvD)); exact qvM (qvF (p := ⟨gb418, 1, none⟩) (qvF (p := ⟨gb418, 0, none⟩) (qvF (p := ⟨gb417, 1, none⟩) (qvF (p := ⟨gb417, 0, none⟩) (qvM (qvM HO412.out (fun k_ hk => (⟨hk, hk.1.2⟩ : _ ∧ k_ ≠ gb417))) (fun k_ hk => (⟨hk, hk.1.2⟩ : _ ∧ k_ ≠ gb418))) (fun _ hk => hk.1.2) (.bool t409)) (fun _ hk => hk.1.2) (.slice Ao88 t410.length co88)) (fun _ hk => hk.2) (.bool t413)) (fun _ hk => hk.2) (.slice Ao92 t414.length co92)) (fun _ hk => ⟨hk.1.1.1.1.1, ⟨hk.1.1.1.1.2, ⟨hk.1.1.1.2, hk.1.1.2⟩⟩⟩)⟩
        have n3_ : Aside0 (Kd.V (Kd.int .u32) 104 ((((w83.setCell ⟨gb417, 0, none⟩ (.bool t409)).setCell ⟨gb417, 1, none⟩ (.slice Ao88 t410.length co88)).setCell ⟨gb418, 0, none⟩ (.bool t413)).setCell ⟨gb418, 1, none⟩ (.slice Ao92 t414.length co92)) w.heap.size (fun k_ => k_ ≠ gb403 ∧ k_ ≠ gb404 ∧ k_ ≠ gb417 ∧ k_ ≠ gb418) (.slice Ao92 t414.length co92) t414) := ⟨by (with_reducible repeat (first | apply qvA | apply qvN | apply qvD)); exact qvM (qvF (p := ⟨gb418, 1, none⟩) (qvF (p := ⟨gb418, 0, none⟩) (qvF (p := ⟨gb417, 1, none⟩) (qvF (p := ⟨gb417, 0, none⟩) (qvM (qvM HO416.out (fun k_ hk => (⟨hk, hk.1.2⟩ : _ ∧ k_ ≠ gb417))) (fun k_ hk => (⟨hk, hk.1.2⟩ : _ ∧ k_ ≠ gb418))) (fun _ hk => hk.1.2) (.bool t409)) (fun _ hk => hk.1.2) (.slice Ao88 t410.length co88)) (fun _ hk => hk.2) (.bool t413)) (fun _ hk => hk.2) (.slice Ao92 t414.length co92)) (fun _ hk => ⟨hk.1.1.1.1.1, ⟨hk.1.1.1.1.2, ⟨hk.1.1.1.2, hk.1.1.2⟩⟩⟩)⟩
        have n4_ : Aside0 (((((w83.setCell ⟨gb417, 0, none⟩ (.bool t409)).setCell ⟨gb417, 1, none⟩ (.slice Ao88 t410.length co88)).setCell ⟨gb418, 0, none⟩ (.bool t413)).setCell ⟨gb418, 1, none⟩ (.slice Ao92 t414.length co92)).heap[gb403]? = some (.cells #[.bool t395, .slice Ao14 t396.length co14] 27 (0, 0))) := ⟨by (with_reducible repeat (first | refine qbN ?_ _ | refine qbD ?_ | refine qbA ?_ _)); refine qbF ?_ NB403_418.out _; (with_reducible repeat (first | refine qbN ?_ _ | refine qbD ?_ | refine qbA ?_ _)); refine qbF ?_ NB403_418.out _; (with_reducible repeat (first | refine qbN ?_ _ | refine qbD ?_ | refine qbA ?_ _)); refine qbF ?_ NB403_417.out _; (with_reducible repeat (first | refine qbN ?_ _ | refine qbD ?_ | refine qbA ?_ _)); refine qbF ?_ NB403_417.out _; (with_reducible repeat (first | refine qbN ?_ _ | refine qbD ?_ | refine qbA ?_ _)); exact BK403.out⟩
        have n5_ : Aside0 (((((w83.setCell ⟨gb417, 0, none⟩ (.bool t409)).setCell ⟨gb417, 1, none⟩ (.slice Ao88 t410.length co88)).setCell ⟨gb418, 0, none⟩ (.bool t413)).setCell ⟨gb418, 1, none⟩ (.slice Ao92 t414.length co92)).heap[gb404]? = some (.cells #[.bool t399, .slice Ao16 t400.length co16] 27 (0, 0))) := ⟨by (with_reducible repeat (first | refine qbN ?_ _ | refine qbD ?_ | refine qbA ?_ _)); refine qbF ?_ NB404_418.out _; (with_reducible repeat (first | refine qbN ?_ _ | refine qbD ?_ | refine qbA ?_ _)); refine qbF ?_ NB404_418.out _; (with_reducible repeat (first | refine qbN ?_ _ | refine qbD ?_ | refine qbA ?_ _)); refine qbF ?_ NB404_417.out _; (with_reducible repeat (first | refine qbN ?_ _ | refine qbD ?_ | refine qbA ?_ _)); refine qbF ?_ NB404_417.out _; (with_reducible repeat (first | refine qbN ?_ _ | refine qbD ?_ | refine qbA ?_ _)); exact BK404.out⟩
        have n6_ : Aside0 (((((w83.setCell ⟨gb417, 0, none⟩ (.bool t409)).setCell ⟨gb417, 1, none⟩ (.slice Ao88 t410.length co88)).setCell ⟨gb418, 0, none⟩ (.bool t413)).setCell ⟨gb418, 1, none⟩ (.slice Ao92 t414.length co92)).heap[gb417]? = some (.cells #[.bool t409, .slice Ao88 t410.length co88] 27 (0, 0))) := ⟨by (with_reducible repeat (first | refine qbN ?_ _ | refine qbD ?_ | refine qbA ?_ _)); refine qbF ?_ NB417_418.out _; (with_reducible repeat (first | refine qbN ?_ _ | refine qbD ?_ | refine qbA ?_ _)); refine qbF ?_ NB417_418.out _; (with_reducible repeat (first | refine qbN ?_ _ | refine qbD ?_ | refine qbA ?_ _)); refine qbP (cs := #[.bool t409, .slice none 0 0]) ?_ 1 _ rfl; (with_reducible repeat (first | refine qbN ?_ _ | refine qbD ?_ | refine qbA ?_ _)); refine qbP (cs := #[.bool false, .slice none 0 0]) ?_ 0 _ rfl; (with_reducible repeat (first | refine qbN ?_ _ | refine qbD ?_ | refine qbA ?_ _)); exact BK417.out⟩
        have n7_ : Aside0 (((((w83.setCell ⟨gb417, 0, none⟩ (.bool t409)).setCell ⟨gb417, 1, none⟩ (.slice Ao88 t410.length co88)).setCell ⟨gb418, 0, none⟩ (.bool t413)).setCell ⟨gb418, 1, none⟩ (.slice Ao92 t414.length co92)).heap[gb418]? = some (.cells #[.bool t413, .slice Ao92 t414.length co92] 27 (0, 0))) := ⟨by (with_reducible repeat (first | refine qbN ?_ _ | refine qbD ?_ | refine qbA ?_ _)); refine qbP (cs := #[.bool t413, .slice none 0 0]) ?_ 1 _ rfl; (with_reducible repeat (first | refine qbN ?_ _ | refine qbD ?_ | refine qbA ?_ _)); refine qbP (cs := #[.bool false, .slice none 0 0]) ?_ 0 _ rfl; (with_reducible repeat (first | refine qbN ?_ _ | refine qbD ?_ | refine qbA ?_ _)); refine qbF ?_ NB418_417.out _; (with_reducible repeat (first | refine qbN ?_ _ | refine qbD ?_ | refine qbA ?_ _)); refine qbF ?_ NB418_417.out _; (with_reducible repeat (first | refine qbN ?_ _ | refine qbD ?_ | refine qbA ?_ _)); exact BK418.out⟩
        have n8_ : Aside0 (Below w.heap.size w ((((w83.setCell ⟨gb417, 0, none⟩ (.bool t409)).setCell ⟨gb417, 1, none⟩ (.slice Ao88 t410.length co88)).setCell ⟨gb418, 0, none⟩ (.bool t413)).setCell ⟨gb418, 1, none⟩ (.slice Ao92 t414.length co92))) := ⟨by repeat (first | (with_reducible first | exact HB.out | apply qwA | apply qwN | apply qwD | refine qwS ?_ GE403.out | refine qwS ?_ GE404.out | refine qwS ?_ GE417.out | refine qwS ?_ GE418.out) | exact HB.out)⟩
        (try clear HO_404001)
        (try clear HO_405001)
        (try clear HO412)
        (try clear HO416)
        (try clear BK403)
        (try clear BK404)
        (try clear BK417)
        (try clear BK418)
        (try clear HB)
        generalize ((((w83.setCell ⟨gb417, 0, none⟩ (.bool t409)).setCell ⟨gb417, 1, none⟩ (.slice Ao88 t410.length co88)).setCell ⟨gb418, 0, none⟩ (.bool t413)).setCell ⟨gb418, 1, none⟩ (.slice Ao92 t414.length co92)) = w93 at n0_ n1_ n2_ n3_ n4_ n5_ n6_ n7_ n8_ ⊢
        have HO_404001 := n0_
        have HO_405001 := n1_
        have HO412 := n2_
        have HO416 := n3_
        have BK403 := n4_
        have BK404 := n5_
        have BK417 := n6_
        have BK418 := n7_
        have HB := n8_
        clear n0_ n1_ n2_ n3_ n4_ n5_ n6_ n7_ n8_
        have n0_ := qaM (qvD HO_404001.out)
        have n1_ := qaM (qvD HO_405001.out)
        have n2_ := qaM (qvD HO412.out)
        have n3_ := qaM (qvD HO416.out)
        have n4_ := qaM (qbD BK403.out)
        have n5_ := qaM (qbD BK404.out)
        have n6_ := qaM (qbD BK417.out)
        have n7_ := qaM (qbD BK418.out)
        have n8_ := qaM (qwD HB.out)
        clear HO_404001
        clear HO_405001
        clear HO412
        clear HO416
        clear BK403
        clear BK404
        clear BK417
        clear BK418
        clear HB
        have HO_404001 := n0_
        have HO_405001 := n1_
        have HO412 := n2_
        have HO416 := n3_
        have BK403 := n4_
        have BK404 := n5_
        have BK417 := n6_
        have BK418 := n7_
        have HB := n8_
        clear n0_ n1_ n2_ n3_ n4_ n5_ n6_ n7_ n8_
        refine start_ (n := 10) (S := fun w' => w'.cell? ⟨gb417, 0, none⟩ = some (.bool t409) ∧ w'.cell? ⟨gb417, 1, none⟩ = some (.slice Ao88 t410.length co88) ∧ w'.cell? ⟨gb403, 0, none⟩ = some (.bool t395) ∧ w'.cell? ⟨gb403, 1, none⟩ = some (.slice Ao14 t396.length co14) ∧ w'.cell? ⟨gb404, 0, none⟩ = some (.bool t399) ∧ w'.cell? ⟨gb404, 1, none⟩ = some (.slice Ao16 t400.length co16)) (ds := []) #[false, false, false, false, false, false, false, false, false, false] zd22_14 rfl rfl ⟨(qbC BK417.out 0).trans rfl, (qbC BK417.out 1).trans rfl, (qbC BK403.out 0).trans rfl, (qbC BK403.out 1).trans rfl, (qbC BK404.out 0).trans rfl, (qbC BK404.out 1).trans rfl⟩ (fun hHeld => ?_); refine with_tabW laws_FnSafeInt64.tab9 laws_FnSafeInt64.bits9 (fun HT_ HW_ => ?_)
        generalize w93.drew = w94 at HO_404001 HO_405001 HO412 HO416 BK403 BK404 BK417 BK418 HB hHeld ⊢
        refine take_ (i := 0) (N := some 76) (v := ?_) (a' := ?_) #[true, false, false, false, false, false, false, false, false, false] rfl rfl (take_ofW HT_.out HW_.out zd22_14) (fun _ _ _ h => h) (Or.inl ⟨by rfl, ?_⟩) hHeld ?_ ?_
        rotate_left
        ·rintro w' ⟨s0, s1, s2, s3, s4, s5⟩
         go_simp
         with_reducible rfl
        rotate_left
        ·simp only [Act.put, qsA, qsZ, qsS, i64_w, i32_w]
         rfl
        refine take_ (i := 1) (N := some 77) (v := ?_) (a' := ?_) #[true, true, false, false, false, false, false, false, false, false] rfl rfl (take_ofW HT_.out HW_.out zd22_14) (fun _ _ _ h => h) (Or.inl ⟨by rfl, ?_⟩) hHeld ?_ ?_
        rotate_left
        ·rintro w' ⟨s0, s1, s2, s3, s4, s5⟩
         go_simp
         with_reducible rfl
        rotate_left
        ·simp only [Act.put, qsA, qsZ, qsS, i64_w, i32_w]
         rfl
        refine take_ (i := 3) (N := some 79) (v := ?_) (a' := ?_) #[true, true, false, true, false, false, false, false, false, false] rfl rfl (take_ofW HT_.out HW_.out zd22_14) (fun _ _ _ h => h) (Or.inl ⟨by rfl, ?_⟩) hHeld ?_ ?_
        rotate_left
        ·rintro w' ⟨s0, s1, s2, s3, s4, s5⟩
         go_simp
         with_reducible rfl
        rotate_left
        ·simp only [Act.put, qsA, qsZ, qsS, i64_w, i32_w]
         rfl
        refine take_ (i := 4) (N := some 80) (v := ?_) (a' := ?_) #[true, true, false, true, true, false, false, false, false, false] rfl rfl (take_ofW HT_.out HW_.out zd22_14) (fun _ _ _ h => h) (Or.inl ⟨by rfl, ?_⟩) hHeld ?_ ?_
        rotate_left
        ·rintro w' ⟨s0, s1, s2, s3, s4, s5⟩
         go_simp
         with_reducible rfl
        rotate_left
        ·simp only [Act.put, qsA, qsZ, qsS, i64_w, i32_w]
         rfl
        refine one_ (i := 2) (N := some 78) #[true, true, true, true, true, false, false, false, false, false] rfl rfl (one_of HT_.out zd22_14) (by decide) (fun K hK => ?_)
        refine goes_ Tryz.func8 zd22_14 rfl #[.agg #[.bool t409, .slice Ao88 t410.length co88], .agg #[.bool t395, .slice Ao14 t396.length co14]] (by rfl) rfl rfl zd22_5 ?_
        with_reducible refine (laws_greater.calls kj22 t409 (fun k_ => (k_ ≠ gb403 ∧ (k_ ≠ gb404 ∧ (k_ ≠ gb417 ∧ k_ ≠ gb418)))) _ _ t410 t395 (fun k_ => (k_ ≠ gb403 ∧ (k_ ≠ gb404 ∧ (k_ ≠ gb417 ∧ k_ ≠ gb418)))) _ _ t396 t419 t420 _ ?side1 ?side2 A29.out).mono ?_
        (case side1 => exact HO412.out)
        (case side2 => exact HO_404001.out)
        rintro e w95 ⟨v421, rfl, ho0, hb⟩
        refine ⟨_, rfl, ?_⟩
        have n0_ := qaM (qvB zd22_6 hb)
        have n1_ := qaM (qvB zd22_7 hb)
        have n2_ := qaM (qvB zd22_9 hb)
        have n3_ := qaM (qvB zd22_10 hb)
        have n4_ := qaM (qvL (qvM (ok' := fun k_ => k_ ≠ gb403 ∧ k_ ≠ gb404 ∧ k_ ≠ gb417 ∧ k_ ≠ gb418) ho0 (fun k_ hk_ => ⟨Or.elim hk_ (fun hs_ => Or.elim hs_ (fun hs_ => hs_.1) (fun hs_ => hs_.1)) (fun hn_ => (qfB (g := gb403) (o := .cells #[.bool t395, .slice Ao14 t396.length co14] 27 (0, 0)) zd22_0 k_ hn_)), Or.elim hk_ (fun hs_ => Or.elim hs_ (fun hs_ => hs_.2.1) (fun hs_ => hs_.2.1)) (fun hn_ => (qfB (g := gb404) (o := .cells #[.bool t399, .slice Ao16 t400.length co16] 27 (0, 0)) zd22_1 k_ hn_)), Or.elim hk_ (fun hs_ => Or.elim hs_ (fun hs_ => hs_.2.2.1) (fun hs_ => hs_.2.2.1)) (fun hn_ => (qfB (g := gb417) (o := .cells #[.bool t409, .slice Ao88 t410.length co88] 27 (0, 0)) zd22_4 k_ hn_)), Or.elim hk_ (fun hs_ => Or.elim hs_ (fun hs_ => hs_.2.2.2) (fun hs_ => hs_.2.2.2)) (fun hn_ => (qfB (g := gb418) (o := .cells #[.bool t413, .slice Ao92 t414.length co92] 27 (0, 0)) zd22_8 k_ hn_))⟩)) (qbS zd22_2))
        have n5_ := qaM (qbB (g := gb403) (o := .cells #[.bool t395, .slice Ao14 t396.length co14] 27 (0, 0)) zd22_0 hb)
        have n6_ := qaM (qbB (g := gb404) (o := .cells #[.bool t399, .slice Ao16 t400.length co16] 27 (0, 0)) zd22_1 hb)
        have n7_ := qaM (qbB (g := gb417) (o := .cells #[.bool t409, .slice Ao88 t410.length co88] 27 (0, 0)) zd22_4 hb)
        have n8_ := qaM (qbB (g := gb418) (o := .cells #[.bool t413, .slice Ao92 t414.length co92] 27 (0, 0)) zd22_8 hb)
        have n9_ := qaM (qbT zd22_2 hb)
        clear HO_404001
        clear HO_405001
        clear HO412
        clear HO416
        clear BK403
        clear BK404
        clear BK417
        clear BK418
        clear HB
        have HO_404001 := n0_
        have HO_405001 := n1_
        have HO412 := n2_
        have HO416 := n3_
        have HO422 := n4_
        have BK403 := n5_
        have BK404 := n6_
        have BK417 := n7_
        have BK418 := n8_
        have HB := n9_
        clear n0_ n1_ n2_ n3_ n4_ n5_ n6_ n7_ n8_ n9_
        (try clear hb)
        (try clear hb2)
        (try clear hk)
        (try clear hi)
        (try clear ho0)
        obtain ⟨Ao96, co96, eo96⟩ := Kd.V_slice HO422.out
        (first | subst eo96 | (injection eo96 with f1_ f2_ f3_; have f4_ := f1_.symm; have f5_ := f3_.symm; clear f1_ f2_ f3_; subst f4_; subst f5_))
        refine hK.out _ _ ⟨(qbC BK417.out 0).trans rfl, (qbC BK417.out 1).trans rfl, (qbC BK403.out 0).trans rfl, (qbC BK403.out 1).trans rfl, (qbC BK404.out 0).trans rfl, (qbC BK404.out 1).trans rfl⟩ (fun hHeld => ?_)
        clear hK K
        refine norm_ (a' := ?_) ?_ ?_
        rotate_left
        ·show Act.put _ (some 78) _ = _
         simp only [Act.put, qsA, qsZ, qsS, i64_w, i32_w]
         rfl
        refine one_ (i := 5) (N := some 81) #[true, true, true, true, true, true, false, false, false, false] rfl rfl (one_of HT_.out zd22_14) (by decide) (fun K hK => ?_)
        refine goes_ Tryz.func7 zd22_14 rfl #[.agg #[.bool t419, .slice Ao96 t420.length co96], .agg #[.bool t395, .slice Ao14 t396.length co14], .agg #[.bool t399, .slice Ao16 t400.length co16]] (by rfl) rfl rfl zd22_5 ?_
        with_reducible refine (laws_fitted.calls kj22 t419 _ _ t420 t395 _ _ t396 t399 _ _ t400 t423 t424 _ ?side1 ?side2 ?side3 ?side4 ?side5 ?side6 A30.out).mono ?_
        (case side1 => repeat (first | exact (qvR HO422.out).2.2 | (with_reducible refine Kd.C_alloc ?_ _) | (with_reducible refine Kd.C_drewN ?_ _) | (with_reducible refine Kd.C_drew ?_)))
        (case side2 => exact (qvR HO422.out).2.1)
        (case side3 => repeat (first | exact (qvR HO_404001.out).2.2 | (with_reducible refine Kd.C_alloc ?_ _) | (with_reducible refine Kd.C_drewN ?_ _) | (with_reducible refine Kd.C_drew ?_)))
        (case side4 => exact (qvR HO_404001.out).2.1)
        (case side5 => repeat (first | exact (qvR HO_405001.out).2.2 | (with_reducible refine Kd.C_alloc ?_ _) | (with_reducible refine Kd.C_drewN ?_ _) | (with_reducible refine Kd.C_drew ?_)))
        (case side6 => exact (qvR HO_405001.out).2.1)
        rintro e w97 ⟨rfl, hb⟩
        refine ⟨_, rfl, ?_⟩
        have n0_ := qaM (qvB zd22_6 hb)
        have n1_ := qaM (qvB zd22_7 hb)
        have n2_ := qaM (qvB zd22_9 hb)
        have n3_ := qaM (qvB zd22_10 hb)
        have n4_ := qaM (qvB zd22_12 hb)
        have n5_ := qaM (qbB (g := gb403) (o := .cells #[.bool t395, .slice Ao14 t396.length co14] 27 (0, 0)) zd22_0 hb)
        have n6_ := qaM (qbB (g := gb404) (o := .cells #[.bool t399, .slice Ao16 t400.length co16] 27 (0, 0)) zd22_1 hb)
        have n7_ := qaM (qbB (g := gb417) (o := .cells #[.bool t409, .slice Ao88 t410.length co88] 27 (0, 0)) zd22_4 hb)
        have n8_ := qaM (qbB (g := gb418) (o := .cells #[.bool t413, .slice Ao92 t414.length co92] 27 (0, 0)) zd22_8 hb)
        have n9_ := qaM (qbT zd22_2 hb)
        clear HO_404001
        clear HO_405001
        clear HO412
        clear HO416
        clear HO422
        clear BK403
        clear BK404
        clear BK417
        clear BK418
        clear HB
        have HO_404001 := n0_
        have HO_405001 := n1_
        have HO412 := n2_
        have HO416 := n3_
        have HO422 := n4_
        have BK403 := n5_
        have BK404 := n6_
        have BK417 := n7_
        have BK418 := n8_
        have HB := n9_
        clear n0_ n1_ n2_ n3_ n4_ n5_ n6_ n7_ n8_ n9_
        (try clear hb)
        (try clear hb2)
        (try clear hk)
        (try clear hi)
        refine hK.out _ _ ⟨(qbC BK417.out 0).trans rfl, (qbC BK417.out 1).trans rfl, (qbC BK403.out 0).trans rfl, (qbC BK403.out 1).trans rfl, (qbC BK404.out 0).trans rfl, (qbC BK404.out 1).trans rfl⟩ (fun hHeld => ?_)
        clear hK K
        refine norm_ (a' := ?_) ?_ ?_
        rotate_left
        ·show Act.put _ (some 81) _ = _
         simp only [Act.put, qsA, qsZ, qsS, i64_w, i32_w]
         rfl
        refine pure_ (i := 6) (N := some 75) (v := ?_) (a' := ?_) #[true, true, true, true, true, true, true, false, false, false] rfl rfl (any_of HT_.out zd22_14) (fun _ _ _ h => h) (Or.inl ⟨by rfl, ?_⟩) ?_ ?_
        rotate_left
        ·intro w'
         go_simp
         with_reducible rfl
        rotate_left
        ·simp only [Act.put, qsA, qsZ, qsS, i64_w, i32_w]
         rfl
        refine pure_ (i := 7) (N := some 82) (v := ?_) (a' := ?_) #[true, true, true, true, true, true, true, true, false, false] rfl rfl (any_of HT_.out zd22_14) (fun _ _ _ h => h) (Or.inl ⟨by rfl, ?_⟩) ?_ ?_
        rotate_left
        ·intro w'
         go_simp
         with_reducible rfl
        rotate_left
        ·simp only [Act.put, qsA, qsZ, qsS, i64_w, i32_w]
         rfl
        refine pure_ (i := 8) (N := some 83) (v := ?_) (a' := ?_) #[true, true, true, true, true, true, true, true, true, false] rfl rfl (any_of HT_.out zd22_14) (fun _ _ _ h => h) (Or.inl ⟨by rfl, ?_⟩) ?_ ?_
        rotate_left
        ·intro w'
         go_simp
         with_reducible rfl
        rotate_left
        ·simp only [Act.put, qsA, qsZ, qsS, i64_w, i32_w]
         rfl
        refine pure_ (i := 9) (N := some 10) (v := ?_) (a' := ?_) #[true, true, true, true, true, true, true, true, true, true] rfl rfl (any_of HT_.out zd22_14) (fun _ _ _ h => h) (Or.inl ⟨by rfl, ?_⟩) ?_ ?_
        rotate_left
        ·intro w'
         go_simp
         with_reducible rfl
        rotate_left
        ·simp only [Act.put, qsA, qsZ, qsS, i64_w, i32_w]
         rfl
        refine done_ (done_of HT_.out zd22_14) ?_
        try go_wp2
        have n0_ := qaM (qvD HO_404001.out)
        have n1_ := qaM (qvD HO_405001.out)
        have n2_ := qaM (qvD HO412.out)
        have n3_ := qaM (qvD HO416.out)
        have n4_ := qaM (qvD HO422.out)
        have n5_ := qaM (qbD BK403.out)
        have n6_ := qaM (qbD BK404.out)
        have n7_ := qaM (qbD BK417.out)
        have n8_ := qaM (qbD BK418.out)
        have n9_ := qaM (qwD HB.out)
        clear HO_404001
        clear HO_405001
        clear HO412
        clear HO416
        clear HO422
        clear BK403
        clear BK404
        clear BK417
        clear BK418
        clear HB
        have HO_404001 := n0_
        have HO_405001 := n1_
        have HO412 := n2_
        have HO416 := n3_
        have HO422 := n4_
        have BK403 := n5_
        have BK404 := n6_
        have BK417 := n7_
        have BK418 := n8_
        have HB := n9_
        clear n0_ n1_ n2_ n3_ n4_ n5_ n6_ n7_ n8_ n9_
        refine start_ (n := 10) (S := fun w' => w'.cell? ⟨gb418, 0, none⟩ = some (.bool t413) ∧ w'.cell? ⟨gb418, 1, none⟩ = some (.slice Ao92 t414.length co92) ∧ w'.cell? ⟨gb404, 0, none⟩ = some (.bool t399) ∧ w'.cell? ⟨gb404, 1, none⟩ = some (.slice Ao16 t400.length co16) ∧ w'.cell? ⟨gb403, 0, none⟩ = some (.bool t395) ∧ w'.cell? ⟨gb403, 1, none⟩ = some (.slice Ao14 t396.length co14)) (ds := []) #[false, false, false, false, false, false, false, false, false, false] zd22_14 rfl rfl ⟨(qbC BK418.out 0).trans rfl, (qbC BK418.out 1).trans rfl, (qbC BK404.out 0).trans rfl, (qbC BK404.out 1).trans rfl, (qbC BK403.out 0).trans rfl, (qbC BK403.out 1).trans rfl⟩ (fun hHeld => ?_); refine with_tabW laws_FnSafeInt64.tab10 laws_FnSafeInt64.bits10 (fun HT_ HW_ => ?_)
        generalize w97.drew = w98 at HO_404001 HO_405001 HO412 HO416 HO422 BK403 BK404 BK417 BK418 HB hHeld ⊢
        refine take_ (i := 0) (N := some 85) (v := ?_) (a' := ?_) #[true, false, false, false, false, false, false, false, false, false] rfl rfl (take_ofW HT_.out HW_.out zd22_14) (fun _ _ _ h => h) (Or.inl ⟨by rfl, ?_⟩) hHeld ?_ ?_
        rotate_left
        ·rintro w' ⟨s0, s1, s2, s3, s4, s5⟩
         go_simp
         with_reducible rfl
        rotate_left
        ·simp only [Act.put, qsA, qsZ, qsS, i64_w, i32_w]
         rfl
        refine take_ (i := 1) (N := some 86) (v := ?_) (a' := ?_) #[true, true, false, false, false, false, false, false, false, false] rfl rfl (take_ofW HT_.out HW_.out zd22_14) (fun _ _ _ h => h) (Or.inl ⟨by rfl, ?_⟩) hHeld ?_ ?_
        rotate_left
        ·rintro w' ⟨s0, s1, s2, s3, s4, s5⟩
         go_simp
         with_reducible rfl
        rotate_left
        ·simp only [Act.put, qsA, qsZ, qsS, i64_w, i32_w]
         rfl
        refine take_ (i := 3) (N := some 88) (v := ?_) (a' := ?_) #[true, true, false, true, false, false, false, false, false, false] rfl rfl (take_ofW HT_.out HW_.out zd22_14) (fun _ _ _ h => h) (Or.inl ⟨by rfl, ?_⟩) hHeld ?_ ?_
        rotate_left
        ·rintro w' ⟨s0, s1, s2, s3, s4, s5⟩
         go_simp
         with_reducible rfl
        rotate_left
        ·simp only [Act.put, qsA, qsZ, qsS, i64_w, i32_w]
         rfl
        refine take_ (i := 4) (N := some 89) (v := ?_) (a' := ?_) #[true, true, false, true, true, false, false, false, false, false] rfl rfl (take_ofW HT_.out HW_.out zd22_14) (fun _ _ _ h => h) (Or.inl ⟨by rfl, ?_⟩) hHeld ?_ ?_
        rotate_left
        ·rintro w' ⟨s0, s1, s2, s3, s4, s5⟩
         go_simp
         with_reducible rfl
        rotate_left
        ·simp only [Act.put, qsA, qsZ, qsS, i64_w, i32_w]
         rfl
        refine one_ (i := 2) (N := some 87) #[true, true, true, true, true, false, false, false, false, false] rfl rfl (one_of HT_.out zd22_14) (by decide) (fun K hK => ?_)
        refine goes_ Tryz.func9 zd22_14 rfl #[.agg #[.bool t413, .slice Ao92 t414.length co92], .agg #[.bool t399, .slice Ao16 t400.length co16]] (by rfl) rfl rfl zd22_5 ?_
        with_reducible refine (laws_smaller.calls kj22 t413 (fun k_ => (k_ ≠ gb403 ∧ (k_ ≠ gb404 ∧ (k_ ≠ gb417 ∧ k_ ≠ gb418)))) _ _ t414 t399 (fun k_ => (k_ ≠ gb403 ∧ (k_ ≠ gb404 ∧ (k_ ≠ gb417 ∧ k_ ≠ gb418)))) _ _ t400 t425 t426 _ ?side1 ?side2 A31.out).mono ?_
        (case side1 => exact HO416.out)
        (case side2 => exact HO_405001.out)
        rintro e w99 ⟨v427, rfl, ho0, hb⟩
        refine ⟨_, rfl, ?_⟩
        have n0_ := qaM (qvB zd22_6 hb)
        have n1_ := qaM (qvB zd22_7 hb)
        have n2_ := qaM (qvB zd22_9 hb)
        have n3_ := qaM (qvB zd22_10 hb)
        have n4_ := qaM (qvB zd22_12 hb)
        have n5_ := qaM (qvL (qvM (ok' := fun k_ => k_ ≠ gb403 ∧ k_ ≠ gb404 ∧ k_ ≠ gb417 ∧ k_ ≠ gb418) ho0 (fun k_ hk_ => ⟨Or.elim hk_ (fun hs_ => Or.elim hs_ (fun hs_ => hs_.1) (fun hs_ => hs_.1)) (fun hn_ => (qfB (g := gb403) (o := .cells #[.bool t395, .slice Ao14 t396.length co14] 27 (0, 0)) zd22_0 k_ hn_)), Or.elim hk_ (fun hs_ => Or.elim hs_ (fun hs_ => hs_.2.1) (fun hs_ => hs_.2.1)) (fun hn_ => (qfB (g := gb404) (o := .cells #[.bool t399, .slice Ao16 t400.length co16] 27 (0, 0)) zd22_1 k_ hn_)), Or.elim hk_ (fun hs_ => Or.elim hs_ (fun hs_ => hs_.2.2.1) (fun hs_ => hs_.2.2.1)) (fun hn_ => (qfB (g := gb417) (o := .cells #[.bool t409, .slice Ao88 t410.length co88] 27 (0, 0)) zd22_4 k_ hn_)), Or.elim hk_ (fun hs_ => Or.elim hs_ (fun hs_ => hs_.2.2.2) (fun hs_ => hs_.2.2.2)) (fun hn_ => (qfB (g := gb418) (o := .cells #[.bool t413, .slice Ao92 t414.length co92] 27 (0, 0)) zd22_8 k_ hn_))⟩)) (qbS zd22_2))
        have n6_ := qaM (qbB (g := gb403) (o := .cells #[.bool t395, .slice Ao14 t396.length co14] 27 (0, 0)) zd22_0 hb)
        have n7_ := qaM (qbB (g := gb404) (o := .cells #[.bool t399, .slice Ao16 t400.length co16] 27 (0, 0)) zd22_1 hb)
        have n8_ := qaM (qbB (g := gb417) (o := .cells #[.bool t409, .slice Ao88 t410.length co88] 27 (0, 0)) zd22_4 hb)
        have n9_ := qaM (qbB (g := gb418) (o := .cells #[.bool t413, .slice Ao92 t414.length co92] 27 (0, 0)) zd22_8 hb)
        have n10_ := qaM (qbT zd22_2 hb)
        clear HO_404001
        clear HO_405001
        clear HO412
        clear HO416
        clear HO422
        clear BK403
        clear BK404
        clear BK417
        clear BK418
        clear HB
        have HO_404001 := n0_
        have HO_405001 := n1_
        have HO412 := n2_
        have HO416 := n3_
        have HO422 := n4_
        have HO428 := n5_
        have BK403 := n6_
        have BK404 := n7_
        have BK417 := n8_
        have BK418 := n9_
        have HB := n10_
        clear n0_ n1_ n2_ n3_ n4_ n5_ n6_ n7_ n8_ n9_ n10_
        (try clear hb)
        (try clear hb2)
        (try clear hk)
        (try clear hi)
        (try clear ho0)
        obtain ⟨Ao100, co100, eo100⟩ := Kd.V_slice HO428.out
        (first | subst eo100 | (injection eo100 with f1_ f2_ f3_; have f4_ := f1_.symm; have f5_ := f3_.symm; clear f1_ f2_ f3_; subst f4_; subst f5_))
        refine hK.out _ _ ⟨(qbC BK418.out 0).trans rfl, (qbC BK418.out 1).trans rfl, (qbC BK404.out 0).trans rfl, (qbC BK404.out 1).trans rfl, (qbC BK403.out 0).trans rfl, (qbC BK403.out 1).trans rfl⟩ (fun hHeld => ?_)
        clear hK K
        refine norm_ (a' := ?_) ?_ ?_
        rotate_left
        ·show Act.put _ (some 87) _ = _
         simp only [Act.put, qsA, qsZ, qsS, i64_w, i32_w]
         rfl
        refine one_ (i := 5) (N := some 90) #[true, true, true, true, true, true, false, false, false, false] rfl rfl (one_of HT_.out zd22_14) (by decide) (fun K hK => ?_)
        refine goes_ Tryz.func7 zd22_14 rfl #[.agg #[.bool t425, .slice Ao100 t426.length co100], .agg #[.bool t395, .slice Ao14 t396.length co14], .agg #[.bool t399, .slice Ao16 t400.length co16]] (by rfl) rfl rfl zd22_5 ?_
        with_reducible refine (laws_fitted.calls kj22 t425 _ _ t426 t395 _ _ t396 t399 _ _ t400 t429 t430 _ ?side1 ?side2 ?side3 ?side4 ?side5 ?side6 A32.out).mono ?_
        (case side1 => repeat (first | exact (qvR HO428.out).2.2 | (with_reducible refine Kd.C_alloc ?_ _) | (with_reducible refine Kd.C_drewN ?_ _) | (with_reducible refine Kd.C_drew ?_)))
        (case side2 => exact (qvR HO428.out).2.1)
        (case side3 => repeat (first | exact (qvR HO_404001.out).2.2 | (with_reducible refine Kd.C_alloc ?_ _) | (with_reducible refine Kd.C_drewN ?_ _) | (with_reducible refine Kd.C_drew ?_)))
        (case side4 => exact (qvR HO_404001.out).2.1)
        (case side5 => repeat (first | exact (qvR HO_405001.out).2.2 | (with_reducible refine Kd.C_alloc ?_ _) | (with_reducible refine Kd.C_drewN ?_ _) | (with_reducible refine Kd.C_drew ?_)))
        (case side6 => exact (qvR HO_405001.out).2.1)
        rintro e w101 ⟨rfl, hb⟩
        refine ⟨_, rfl, ?_⟩
        have n0_ := qaM (qvB zd22_6 hb)
        have n1_ := qaM (qvB zd22_7 hb)
        have n2_ := qaM (qvB zd22_9 hb)
        have n3_ := qaM (qvB zd22_10 hb)
        have n4_ := qaM (qvB zd22_12 hb)
        have n5_ := qaM (qvB zd22_16 hb)
        have n6_ := qaM (qbB (g := gb403) (o := .cells #[.bool t395, .slice Ao14 t396.length co14] 27 (0, 0)) zd22_0 hb)
        have n7_ := qaM (qbB (g := gb404) (o := .cells #[.bool t399, .slice Ao16 t400.length co16] 27 (0, 0)) zd22_1 hb)
        have n8_ := qaM (qbB (g := gb417) (o := .cells #[.bool t409, .slice Ao88 t410.length co88] 27 (0, 0)) zd22_4 hb)
        have n9_ := qaM (qbB (g := gb418) (o := .cells #[.bool t413, .slice Ao92 t414.length co92] 27 (0, 0)) zd22_8 hb)
        have n10_ := qaM (qbT zd22_2 hb)
        clear HO_404001
        clear HO_405001
        clear HO412
        clear HO416
        clear HO422
        clear HO428
        clear BK403
        clear BK404
        clear BK417
        clear BK418
        clear HB
        have HO_404001 := n0_
        have HO_405001 := n1_
        have HO412 := n2_
        have HO416 := n3_
        have HO422 := n4_
        have HO428 := n5_
        have BK403 := n6_
        have BK404 := n7_
        have BK417 := n8_
        have BK418 := n9_
        have HB := n10_
        clear n0_ n1_ n2_ n3_ n4_ n5_ n6_ n7_ n8_ n9_ n10_
        (try clear hb)
        (try clear hb2)
        (try clear hk)
        (try clear hi)
        refine hK.out _ _ ⟨(qbC BK418.out 0).trans rfl, (qbC BK418.out 1).trans rfl, (qbC BK404.out 0).trans rfl, (qbC BK404.out 1).trans rfl, (qbC BK403.out 0).trans rfl, (qbC BK403.out 1).trans rfl⟩ (fun hHeld => ?_)
        clear hK K
        refine norm_ (a' := ?_) ?_ ?_
        rotate_left
        ·show Act.put _ (some 90) _ = _
         simp only [Act.put, qsA, qsZ, qsS, i64_w, i32_w]
         rfl
        refine pure_ (i := 6) (N := some 84) (v := ?_) (a' := ?_) #[true, true, true, true, true, true, true, false, false, false] rfl rfl (any_of HT_.out zd22_14) (fun _ _ _ h => h) (Or.inl ⟨by rfl, ?_⟩) ?_ ?_
        rotate_left
        ·intro w'
         go_simp
         with_reducible rfl
        rotate_left
        ·simp only [Act.put, qsA, qsZ, qsS, i64_w, i32_w]
         rfl
        refine pure_ (i := 7) (N := some 91) (v := ?_) (a' := ?_) #[true, true, true, true, true, true, true, true, false, false] rfl rfl (any_of HT_.out zd22_14) (fun _ _ _ h => h) (Or.inl ⟨by rfl, ?_⟩) ?_ ?_
        rotate_left
        ·intro w'
         go_simp
         with_reducible rfl
        rotate_left
        ·simp only [Act.put, qsA, qsZ, qsS, i64_w, i32_w]
         rfl
        refine pure_ (i := 8) (N := some 92) (v := ?_) (a' := ?_) #[true, true, true, true, true, true, true, true, true, false] rfl rfl (any_of HT_.out zd22_14) (fun _ _ _ h => h) (Or.inl ⟨by rfl, ?_⟩) ?_ ?_
        rotate_left
        ·intro w'
         go_simp
         with_reducible rfl
        rotate_left
        ·simp only [Act.put, qsA, qsZ, qsS, i64_w, i32_w]
         rfl
        refine pure_ (i := 9) (N := some 12) (v := ?_) (a' := ?_) #[true, true, true, true, true, true, true, true, true, true] rfl rfl (any_of HT_.out zd22_14) (fun _ _ _ h => h) (Or.inl ⟨by rfl, ?_⟩) ?_ ?_
        rotate_left
        ·intro w'
         go_simp
         with_reducible rfl
        rotate_left
        ·simp only [Act.put, qsA, qsZ, qsS, i64_w, i32_w]
         rfl
        refine done_ (done_of HT_.out zd22_14) ?_
        try go_wp2_with (first | ((with_reducible refine gate_callee (f := 10) rfl ?_); refine goesL_ (some 96) rfl rfl Tryz.func10 zd22_14 rfl #[.int .i64 a0, .bool a1] rfl zd22_5 ?_; (with_reducible refine (impl_SafeInt64.calls a0 a1 t431 t432 true _ A33.out).mono ?_); rintro e w102 ⟨rfl, hb⟩; refine ⟨_, rfl, ?_⟩; have n0_ := qaM (qvB zd22_6 hb); have n1_ := qaM (qvB zd22_7 hb); have n2_ := qaM (qvB zd22_9 hb); have n3_ := qaM (qvB zd22_10 hb); have n4_ := qaM (qvB zd22_12 hb); have n5_ := qaM (qvB zd22_16 hb); have n6_ := qaM (qbB (g := gb403) (o := .cells #[.bool t395, .slice Ao14 t396.length co14] 27 (0, 0)) zd22_0 hb); have n7_ := qaM (qbB (g := gb404) (o := .cells #[.bool t399, .slice Ao16 t400.length co16] 27 (0, 0)) zd22_1 hb); have n8_ := qaM (qbB (g := gb417) (o := .cells #[.bool t409, .slice Ao88 t410.length co88] 27 (0, 0)) zd22_4 hb); have n9_ := qaM (qbB (g := gb418) (o := .cells #[.bool t413, .slice Ao92 t414.length co92] 27 (0, 0)) zd22_8 hb); have n10_ := qaM (qbT zd22_2 hb); clear HO_404001; clear HO_405001; clear HO412; clear HO416; clear HO422; clear HO428; clear BK403; clear BK404; clear BK417; clear BK418; clear HB; have HO_404001 := n0_; have HO_405001 := n1_; have HO412 := n2_; have HO416 := n3_; have HO422 := n4_; have HO428 := n5_; have BK403 := n6_; have BK404 := n7_; have BK417 := n8_; have BK418 := n9_; have HB := n10_; clear n0_ n1_ n2_ n3_ n4_ n5_ n6_ n7_ n8_ n9_ n10_; (try clear hb); (try clear hb2); (try clear hk); (try clear hi)))
        go_ret
        exact ⟨by first | rfl | (simp [errW_none, errW_some] <;> rfl) | (simp [*, errW_none, errW_some] <;> rfl), by repeat (first | (with_reducible first | exact HB.out | apply qwA | apply qwN | apply qwD | refine qwS ?_ GE403.out | refine qwS ?_ GE404.out | refine qwS ?_ GE417.out | refine qwS ?_ GE418.out) | exact HB.out)⟩
      ·replace c34 := Bool.eq_false_iff.mpr c34
       subst c34
       have H1 : (some false) = some r := by rw [if_neg (show ¬ (false = true) by decide)] at H; exact H
       clear H
       have H := H1
       clear H1
       obtain rfl := Option.some.inj H
       try go_wp2_with (first | ((with_reducible refine gate_callee (f := 6) rfl ?_); refine goesL_ (some 72) rfl rfl Tryz.func6 zd22_14 rfl #[.int .i64 a0, .bool a1] rfl zd22_5 ?_; (with_reducible refine (laws_bounds.calls kj22 a0 a1 t409 t410 t413 t414 _ A28.out).mono ?_); rintro e w103 ⟨v411, v415, rfl, ho0, ho1, hb⟩; refine ⟨_, rfl, ?_⟩; have n0_ := qaM (qvB zd22_6 hb); have n1_ := qaM (qvB zd22_7 hb); have n2_ := qaM (qvL (qvM (ok' := fun k_ => k_ ≠ gb403 ∧ k_ ≠ gb404) ho0 (fun k_ hk_ => ⟨(qfB (g := gb403) (o := .cells #[.bool t395, .slice Ao14 t396.length co14] 27 (0, 0)) zd22_0 k_ hk_), (qfB (g := gb404) (o := .cells #[.bool t399, .slice Ao16 t400.length co16] 27 (0, 0)) zd22_1 k_ hk_)⟩)) (qbS zd22_3)); have n3_ := qaM (qvL (qvM (ok' := fun k_ => k_ ≠ gb403 ∧ k_ ≠ gb404) ho1 (fun k_ hk_ => ⟨(qfB (g := gb403) (o := .cells #[.bool t395, .slice Ao14 t396.length co14] 27 (0, 0)) zd22_0 k_ hk_), (qfB (g := gb404) (o := .cells #[.bool t399, .slice Ao16 t400.length co16] 27 (0, 0)) zd22_1 k_ hk_)⟩)) (qbS zd22_3)); have n4_ := qaM (qbB (g := gb403) (o := .cells #[.bool t395, .slice Ao14 t396.length co14] 27 (0, 0)) zd22_0 hb); have n5_ := qaM (qbB (g := gb404) (o := .cells #[.bool t399, .slice Ao16 t400.length co16] 27 (0, 0)) zd22_1 hb); have n6_ := qaM (qbT zd22_3 hb); clear HO_404001; clear HO_405001; clear BK403; clear BK404; clear HB; have HO_404001 := n0_; have HO_405001 := n1_; have HO412 := n2_; have HO416 := n3_; have BK403 := n4_; have BK404 := n5_; have HB := n6_; clear n0_ n1_ n2_ n3_ n4_ n5_ n6_; (try clear hb); (try clear hb2); (try clear hk); (try clear hi); (try clear ho0); (try clear ho1)) | ((with_reducible refine gate_dst (N := 15) rfl ?_); refine box_event ?hg (N := 15) ?hd (cs := #[.bool false, .slice none 0 0]) (t := 27) ?hr ?_; (case hd => rfl); (case hg => rfl); (case hr => first | (go_simp; done) | (go_simp; rfl)); intro gb417 hg w104 hbox hb; have n0_ := qaM (qvB (qvE zd22_6 gb417 (Nat.le_of_eq hg.symm)) hb); have n1_ := qaM (qvB (qvE zd22_7 gb417 (Nat.le_of_eq hg.symm)) hb); have n2_ := qaM (qvB (qvE zd22_9 gb417 (Nat.le_of_eq hg.symm)) hb); have n3_ := qaM (qvB (qvE zd22_10 gb417 (Nat.le_of_eq hg.symm)) hb); have n4_ := qaM (qbB (g := gb403) (o := .cells #[.bool t395, .slice Ao14 t396.length co14] 27 (0, 0)) zd22_0 hb); have n5_ := qaM (qbB (g := gb404) (o := .cells #[.bool t399, .slice Ao16 t400.length co16] 27 (0, 0)) zd22_1 hb); have n6_ := qaM (qbT zd22_3 hb); have n7_ := qaM (hbox); have n8_ := qaM ((by rw [hg]; exact (qbS zd22_3) : w.heap.size ≤ gb417)); have n9_ := qaM ((by rw [hg]; exact (qbS zd22_3) : w.heap.size ≤ gb417)); have n10_ := qaM ((by rw [hg]; exact qnL (qbL (g := gb403) (o := .cells #[.bool t395, .slice Ao14 t396.length co14] 27 (0, 0)) zd22_0) : gb403 ≠ gb417)); have n11_ := qaM ((by rw [hg]; exact qnG (qbL (g := gb403) (o := .cells #[.bool t395, .slice Ao14 t396.length co14] 27 (0, 0)) zd22_0) : gb417 ≠ gb403)); have n12_ := qaM ((by rw [hg]; exact qnL (qbL (g := gb404) (o := .cells #[.bool t399, .slice Ao16 t400.length co16] 27 (0, 0)) zd22_1) : gb404 ≠ gb417)); have n13_ := qaM ((by rw [hg]; exact qnG (qbL (g := gb404) (o := .cells #[.bool t399, .slice Ao16 t400.length co16] 27 (0, 0)) zd22_1) : gb417 ≠ gb404)); clear HO_404001; clear HO_405001; clear HO412; clear HO416; clear BK403; clear BK404; clear HB; have HO_404001 := n0_; have HO_405001 := n1_; have HO412 := n2_; have HO416 := n3_; have BK403 := n4_; have BK404 := n5_; have HB := n6_; have BK417 := n7_; have GW417 := n8_; have GE417 := n9_; have NB403_417 := n10_; have NB417_403 := n11_; have NB404_417 := n12_; have NB417_404 := n13_; clear n0_ n1_ n2_ n3_ n4_ n5_ n6_ n7_ n8_ n9_ n10_ n11_ n12_ n13_; clear hb hbox hg) | ((with_reducible refine gate_dst (N := 16) rfl ?_); refine box_event ?hg (N := 16) ?hd (cs := #[.bool false, .slice none 0 0]) (t := 27) ?hr ?_; (case hd => rfl); (case hg => rfl); (case hr => first | (go_simp; done) | (go_simp; rfl)); intro gb418 hg w105 hbox hb; have n0_ := qaM (qvB (qvE zd22_6 gb418 (Nat.le_of_eq hg.symm)) hb); have n1_ := qaM (qvB (qvE zd22_7 gb418 (Nat.le_of_eq hg.symm)) hb); have n2_ := qaM (qvB (qvE zd22_9 gb418 (Nat.le_of_eq hg.symm)) hb); have n3_ := qaM (qvB (qvE zd22_10 gb418 (Nat.le_of_eq hg.symm)) hb); have n4_ := qaM (qbB (g := gb403) (o := .cells #[.bool t395, .slice Ao14 t396.length co14] 27 (0, 0)) zd22_0 hb); have n5_ := qaM (qbB (g := gb404) (o := .cells #[.bool t399, .slice Ao16 t400.length co16] 27 (0, 0)) zd22_1 hb); have n6_ := qaM (qbB (g := gb417) (o := .cells #[.bool false, .slice none 0 0] 27 (0, 0)) zd22_4 hb); have n7_ := qaM (qbT zd22_11 hb); have n8_ := qaM (hbox); have n9_ := qaM ((by rw [hg]; exact (qbS zd22_11) : w.heap.size ≤ gb418)); have n10_ := qaM ((by rw [hg]; exact (qbS zd22_11) : w.heap.size ≤ gb418)); have n11_ := qaM ((by rw [hg]; exact qnL (qbL (g := gb403) (o := .cells #[.bool t395, .slice Ao14 t396.length co14] 27 (0, 0)) zd22_0) : gb403 ≠ gb418)); have n12_ := qaM ((by rw [hg]; exact qnG (qbL (g := gb403) (o := .cells #[.bool t395, .slice Ao14 t396.length co14] 27 (0, 0)) zd22_0) : gb418 ≠ gb403)); have n13_ := qaM ((by rw [hg]; exact qnL (qbL (g := gb404) (o := .cells #[.bool t399, .slice Ao16 t400.length co16] 27 (0, 0)) zd22_1) : gb404 ≠ gb418)); have n14_ := qaM ((by rw [hg]; exact qnG (qbL (g := gb404) (o := .cells #[.bool t399, .slice Ao16 t400.length co16] 27 (0, 0)) zd22_1) : gb418 ≠ gb404)); have n15_ := qaM ((by rw [hg]; exact qnL (qbL (g := gb417) (o := .cells #[.bool false, .slice none 0 0] 27 (0, 0)) zd22_4) : gb417 ≠ gb418)); have n16_ := qaM ((by rw [hg]; exact qnG (qbL (g := gb417) (o := .cells #[.bool false, .slice none 0 0] 27 (0, 0)) zd22_4) : gb418 ≠ gb417)); clear HO_404001; clear HO_405001; clear HO412; clear HO416; clear BK403; clear BK404; clear BK417; clear HB; have HO_404001 := n0_; have HO_405001 := n1_; have HO412 := n2_; have HO416 := n3_; have BK403 := n4_; have BK404 := n5_; have BK417 := n6_; have HB := n7_; have BK418 := n8_; have GW418 := n9_; have GE418 := n10_; have NB403_418 := n11_; have NB418_403 := n12_; have NB404_418 := n13_; have NB418_404 := n14_; have NB417_418 := n15_; have NB418_417 := n16_; clear n0_ n1_ n2_ n3_ n4_ n5_ n6_ n7_ n8_ n9_ n10_ n11_ n12_ n13_ n14_ n15_ n16_; clear hb hbox hg; have hnb106 := NB417_403.out; have hnc106 := NB403_417.out; have hnb107 := NB417_404.out; have hnc107 := NB404_417.out; have hnb108 := NB417_418.out; have hnc108 := NB418_417.out; have hcz109_0 : w105.cell? ⟨gb417, 0, none⟩ = some (.bool false) := (qbC BK417.out 0).trans rfl; have hcz109_1 : w105.cell? ⟨gb417, 1, none⟩ = some (.slice none 0 0) := (qbC BK417.out 1).trans rfl; have hfz109_0 := blk_frozen BK417.out 0; have hfz109_1 := blk_frozen BK417.out 1; obtain ⟨Ao110, co110, eo110⟩ := Kd.V_slice HO412.out; subst eo110; have hnb111 := NB418_403.out; have hnc111 := NB403_418.out; have hnb112 := NB418_404.out; have hnc112 := NB404_418.out; have hcz113_0 : w105.cell? ⟨gb418, 0, none⟩ = some (.bool false) := (qbC BK418.out 0).trans rfl; have hcz113_1 : w105.cell? ⟨gb418, 1, none⟩ = some (.slice none 0 0) := (qbC BK418.out 1).trans rfl; have hfz113_0 := blk_frozen BK418.out 0; have hfz113_1 := blk_frozen BK418.out 1; obtain ⟨Ao114, co114, eo114⟩ := Kd.V_slice HO416.out; subst eo114))
       have n0_ : Aside0 (Kd.V (Kd.int .u32) 104 ((((w105.setCell ⟨gb417, 0, none⟩ (.bool t409)).setCell ⟨gb417, 1, none⟩ (.slice Ao110 t410.length co110)).setCell ⟨gb418, 0, none⟩ (.bool t413)).setCell ⟨gb418, 1, none⟩ (.slice Ao114 t414.length co114)) w.heap.size (fun k_ => k_ ≠ gb403 ∧ k_ ≠ gb404 ∧ k_ ≠ gb417 ∧ k_ ≠ gb418) (.slice Ao14 t396.length co14) t396) := ⟨by (with_reducible repeat (first | apply qvA | apply qvN | apply qvD)); exact qvM (qvF (p := ⟨gb418, 1, none⟩) (qvF (p := ⟨gb418, 0, none⟩) (qvF (p := ⟨gb417, 1, none⟩) (qvF (p := ⟨gb417, 0, none⟩) (qvM (qvM HO_404001.out (fun k_ hk => (⟨hk, hk.1.2⟩ : _ ∧ k_ ≠ gb417))) (fun k_ hk => (⟨hk, hk.1.2⟩ : _ ∧ k_ ≠ gb418))) (fun _ hk => hk.1.2) (.bool t409)) (fun _ hk => hk.1.2) (.slice Ao110 t410.length co110)) (fun _ hk => hk.2) (.bool t413)) (fun _ hk => hk.2) (.slice Ao114 t414.length co114)) (fun _ hk => ⟨hk.1.1.1.1.1, ⟨hk.1.1.1.1.2, ⟨hk.1.1.1.2, hk.1.1.2⟩⟩⟩)⟩
       have n1_ : Aside0 (Kd.V (Kd.int .u32) 104 ((((w105.setCell ⟨gb417, 0, none⟩ (.bool t409)).setCell ⟨gb417, 1, none⟩ (.slice Ao110 t410.length co110)).setCell ⟨gb418, 0, none⟩ (.bool t413)).setCell ⟨gb418, 1, none⟩ (.slice Ao114 t414.length co114)) w.heap.size (fun k_ => k_ ≠ gb403 ∧ k_ ≠ gb404 ∧ k_ ≠ gb417 ∧ k_ ≠ gb418) (.slice Ao16 t400.length co16) t400) := ⟨by (with_reducible repeat (first | apply qvA | apply qvN | apply qvD)); exact qvM (qvF (p := ⟨gb418, 1, none⟩) (qvF (p := ⟨gb418, 0, none⟩) (qvF (p := ⟨gb417, 1, none⟩) (qvF (p := ⟨gb417, 0, none⟩) (qvM (qvM HO_405001.out (fun k_ hk => (⟨hk, hk.1.2⟩ : _ ∧ k_ ≠ gb417))) (fun k_ hk => (⟨hk, hk.1.2⟩ : _ ∧ k_ ≠ gb418))) (fun _ hk => hk.1.2) (.bool t409)) (fun _ hk => hk.1.2) (.slice Ao110 t410.length co110)) (fun _ hk => hk.2) (.bool t413)) (fun _ hk => hk.2) (.slice Ao114 t414.length co114)) (fun _ hk => ⟨hk.1.1.1.1.1, ⟨hk.1.1.1.1.2, ⟨hk.1.1.1.2, hk.1.1.2⟩⟩⟩)⟩
       have n2_ : Aside0 (Kd.V (Kd.int .u32) 104 ((((w105.setCell ⟨gb417, 0, none⟩ (.bool t409)).setCell ⟨gb417, 1, none⟩ (.slice Ao110 t410.length co110)).setCell ⟨gb418, 0, none⟩ (.bool t413)).setCell ⟨gb418, 1, none⟩ (.slice Ao114 t414.length co114)) w.heap.size (fun k_ => k_ ≠ gb403 ∧ k_ ≠ gb404 ∧ k_ ≠ gb417 ∧ k_ ≠ gb418) (.slice Ao110 t410.length co110) t410) := ⟨by (with_reducible repeat (first | apply qvA | apply qvN | apply qvD)); exact qvM (qvF (p := ⟨gb418, 1, none⟩) (qvF (p := ⟨gb418, 0, none⟩) (qvF (p := ⟨gb417, 1, none⟩) (qvF (p := ⟨gb417, 0, none⟩) (qvM (qvM HO412.out (fun k_ hk => (⟨hk, hk.1.2⟩ : _ ∧ k_ ≠ gb417))) (fun k_ hk => (⟨hk, hk.1.2⟩ : _ ∧ k_ ≠ gb418))) (fun _ hk => hk.1.2) (.bool t409)) (fun _ hk => hk.1.2) (.slice Ao110 t410.length co110)) (fun _ hk => hk.2) (.bool t413)) (fun _ hk => hk.2) (.slice Ao114 t414.length co114)) (fun _ hk => ⟨hk.1.1.1.1.1, ⟨hk.1.1.1.1.2, ⟨hk.1.1.1.2, hk.1.1.2⟩⟩⟩)⟩
       have n3_ : Aside0 (Kd.V (Kd.int .u32) 104 ((((w105.setCell ⟨gb417, 0, none⟩ (.bool t409)).setCell ⟨gb417, 1, none⟩ (.slice Ao110 t410.length co110)).setCell ⟨gb418, 0, none⟩ (.bool t413)).setCell ⟨gb418, 1, none⟩ (.slice Ao114 t414.length co114)) w.heap.size (fun k_ => k_ ≠ gb403 ∧ k_ ≠ gb404 ∧ k_ ≠ gb417 ∧ k_ ≠ gb418) (.slice Ao114 t414.length co114) t414) := ⟨by (with_reducible repeat (first | apply qvA | apply qvN | apply qvD)); exact qvM (qvF (p := ⟨gb418, 1, none⟩) (qvF (p := ⟨gb418, 0, none⟩) (qvF (p := ⟨gb417, 1, none⟩) (qvF (p := ⟨gb417, 0, none⟩) (qvM (qvM HO416.out (fun k_ hk => (⟨hk, hk.1.2⟩ : _ ∧ k_ ≠ gb417))) (fun k_ hk => (⟨hk, hk.1.2⟩ : _ ∧ k_ ≠ gb418))) (fun _ hk => hk.1.2) (.bool t409)) (fun _ hk => hk.1.2) (.slice Ao110 t410.length co110)) (fun _ hk => hk.2) (.bool t413)) (fun _ hk => hk.2) (.slice Ao114 t414.length co114)) (fun _ hk => ⟨hk.1.1.1.1.1, ⟨hk.1.1.1.1.2, ⟨hk.1.1.1.2, hk.1.1.2⟩⟩⟩)⟩
       have n4_ : Aside0 (((((w105.setCell ⟨gb417, 0, none⟩ (.bool t409)).setCell ⟨gb417, 1, none⟩ (.slice Ao110 t410.length co110)).setCell ⟨gb418, 0, none⟩ (.bool t413)).setCell ⟨gb418, 1, none⟩ (.slice Ao114 t414.length co114)).heap[gb403]? = some (.cells #[.bool t395, .slice Ao14 t396.length co14] 27 (0, 0))) := ⟨by (with_reducible repeat (first | refine qbN ?_ _ | refine qbD ?_ | refine qbA ?_ _)); refine qbF ?_ NB403_418.out _; (with_reducible repeat (first | refine qbN ?_ _ | refine qbD ?_ | refine qbA ?_ _)); refine qbF ?_ NB403_418.out _; (with_reducible repeat (first | refine qbN ?_ _ | refine qbD ?_ | refine qbA ?_ _)); refine qbF ?_ NB403_417.out _; (with_reducible repeat (first | refine qbN ?_ _ | refine qbD ?_ | refine qbA ?_ _)); refine qbF ?_ NB403_417.out _; (with_reducible repeat (first | refine qbN ?_ _ | refine qbD ?_ | refine qbA ?_ _)); exact BK403.out⟩
       have n5_ : Aside0 (((((w105.setCell ⟨gb417, 0, none⟩ (.bool t409)).setCell ⟨gb417, 1, none⟩ (.slice Ao110 t410.length co110)).setCell ⟨gb418, 0, none⟩ (.bool t413)).setCell ⟨gb418, 1, none⟩ (.slice Ao114 t414.length co114)).heap[gb404]? = some (.cells #[.bool t399, .slice Ao16 t400.length co16] 27 (0, 0))) := ⟨by (with_reducible repeat (first | refine qbN ?_ _ | refine qbD ?_ | refine qbA ?_ _)); refine qbF ?_ NB404_418.out _; (with_reducible repeat (first | refine qbN ?_ _ | refine qbD ?_ | refine qbA ?_ _)); refine qbF ?_ NB404_418.out _; (with_reducible repeat (first | refine qbN ?_ _ | refine qbD ?_ | refine qbA ?_ _)); refine qbF ?_ NB404_417.out _; (with_reducible repeat (first | refine qbN ?_ _ | refine qbD ?_ | refine qbA ?_ _)); refine qbF ?_ NB404_417.out _; (with_reducible repeat (first | refine qbN ?_ _ | refine qbD ?_ | refine qbA ?_ _)); exact BK404.out⟩
       have n6_ : Aside0 (((((w105.setCell ⟨gb417, 0, none⟩ (.bool t409)).setCell ⟨gb417, 1, none⟩ (.slice Ao110 t410.length co110)).setCell ⟨gb418, 0, none⟩ (.bool t413)).setCell ⟨gb418, 1, none⟩ (.slice Ao114 t414.length co114)).heap[gb417]? = some (.cells #[.bool t409, .slice Ao110 t410.length co110] 27 (0, 0))) := ⟨by (with_reducible repeat (first | refine qbN ?_ _ | refine qbD ?_ | refine qbA ?_ _)); refine qbF ?_ NB417_418.out _; (with_reducible repeat (first | refine qbN ?_ _ | refine qbD ?_ | refine qbA ?_ _)); refine qbF ?_ NB417_418.out _; (with_reducible repeat (first | refine qbN ?_ _ | refine qbD ?_ | refine qbA ?_ _)); refine qbP (cs := #[.bool t409, .slice none 0 0]) ?_ 1 _ rfl; (with_reducible repeat (first | refine qbN ?_ _ | refine qbD ?_ | refine qbA ?_ _)); refine qbP (cs := #[.bool false, .slice none 0 0]) ?_ 0 _ rfl; (with_reducible repeat (first | refine qbN ?_ _ | refine qbD ?_ | refine qbA ?_ _)); exact BK417.out⟩
       have n7_ : Aside0 (((((w105.setCell ⟨gb417, 0, none⟩ (.bool t409)).setCell ⟨gb417, 1, none⟩ (.slice Ao110 t410.length co110)).setCell ⟨gb418, 0, none⟩ (.bool t413)).setCell ⟨gb418, 1, none⟩ (.slice Ao114 t414.length co114)).heap[gb418]? = some (.cells #[.bool t413, .slice Ao114 t414.length co114] 27 (0, 0))) := ⟨by (with_reducible repeat (first | refine qbN ?_ _ | refine qbD ?_ | refine qbA ?_ _)); refine qbP (cs := #[.bool t413, .slice none 0 0]) ?_ 1 _ rfl; (with_reducible repeat (first | refine qbN ?_ _ | refine qbD ?_ | refine qbA ?_ _)); refine qbP (cs := #[.bool false, .slice none 0 0]) ?_ 0 _ rfl; (with_reducible repeat (first | refine qbN ?_ _ | refine qbD ?_ | refine qbA ?_ _)); refine qbF ?_ NB418_417.out _; (with_reducible repeat (first | refine qbN ?_ _ | refine qbD ?_ | refine qbA ?_ _)); refine qbF ?_ NB418_417.out _; (with_reducible repeat (first | refine qbN ?_ _ | refine qbD ?_ | refine qbA ?_ _)); exact BK418.out⟩
       have n8_ : Aside0 (Below w.heap.size w ((((w105.setCell ⟨gb417, 0, none⟩ (.bool t409)).setCell ⟨gb417, 1, none⟩ (.slice Ao110 t410.length co110)).setCell ⟨gb418, 0, none⟩ (.bool t413)).setCell ⟨gb418, 1, none⟩ (.slice Ao114 t414.length co114))) := ⟨by repeat (first | (with_reducible first | exact HB.out | apply qwA | apply qwN | apply qwD | refine qwS ?_ GE403.out | refine qwS ?_ GE404.out | refine qwS ?_ GE417.out | refine qwS ?_ GE418.out) | exact HB.out)⟩
       (try clear HO_404001)
       (try clear HO_405001)
       (try clear HO412)
       (try clear HO416)
       (try clear BK403)
       (try clear BK404)
       (try clear BK417)
       (try clear BK418)
       (try clear HB)
       generalize ((((w105.setCell ⟨gb417, 0, none⟩ (.bool t409)).setCell ⟨gb417, 1, none⟩ (.slice Ao110 t410.length co110)).setCell ⟨gb418, 0, none⟩ (.bool t413)).setCell ⟨gb418, 1, none⟩ (.slice Ao114 t414.length co114)) = w115 at n0_ n1_ n2_ n3_ n4_ n5_ n6_ n7_ n8_ ⊢
       have HO_404001 := n0_
       have HO_405001 := n1_
       have HO412 := n2_
       have HO416 := n3_
       have BK403 := n4_
       have BK404 := n5_
       have BK417 := n6_
       have BK418 := n7_
       have HB := n8_
       clear n0_ n1_ n2_ n3_ n4_ n5_ n6_ n7_ n8_
       have n0_ := qaM (qvD HO_404001.out)
       have n1_ := qaM (qvD HO_405001.out)
       have n2_ := qaM (qvD HO412.out)
       have n3_ := qaM (qvD HO416.out)
       have n4_ := qaM (qbD BK403.out)
       have n5_ := qaM (qbD BK404.out)
       have n6_ := qaM (qbD BK417.out)
       have n7_ := qaM (qbD BK418.out)
       have n8_ := qaM (qwD HB.out)
       clear HO_404001
       clear HO_405001
       clear HO412
       clear HO416
       clear BK403
       clear BK404
       clear BK417
       clear BK418
       clear HB
       have HO_404001 := n0_
       have HO_405001 := n1_
       have HO412 := n2_
       have HO416 := n3_
       have BK403 := n4_
       have BK404 := n5_
       have BK417 := n6_
       have BK418 := n7_
       have HB := n8_
       clear n0_ n1_ n2_ n3_ n4_ n5_ n6_ n7_ n8_
       refine start_ (n := 10) (S := fun w' => w'.cell? ⟨gb417, 0, none⟩ = some (.bool t409) ∧ w'.cell? ⟨gb417, 1, none⟩ = some (.slice Ao110 t410.length co110) ∧ w'.cell? ⟨gb403, 0, none⟩ = some (.bool t395) ∧ w'.cell? ⟨gb403, 1, none⟩ = some (.slice Ao14 t396.length co14) ∧ w'.cell? ⟨gb404, 0, none⟩ = some (.bool t399) ∧ w'.cell? ⟨gb404, 1, none⟩ = some (.slice Ao16 t400.length co16)) (ds := []) #[false, false, false, false, false, false, false, false, false, false] zd22_14 rfl rfl ⟨(qbC BK417.out 0).trans rfl, (qbC BK417.out 1).trans rfl, (qbC BK403.out 0).trans rfl, (qbC BK403.out 1).trans rfl, (qbC BK404.out 0).trans rfl, (qbC BK404.out 1).trans rfl⟩ (fun hHeld => ?_); refine with_tabW laws_FnSafeInt64.tab9 laws_FnSafeInt64.bits9 (fun HT_ HW_ => ?_)
       generalize w115.drew = w116 at HO_404001 HO_405001 HO412 HO416 BK403 BK404 BK417 BK418 HB hHeld ⊢
       refine take_ (i := 0) (N := some 76) (v := ?_) (a' := ?_) #[true, false, false, false, false, false, false, false, false, false] rfl rfl (take_ofW HT_.out HW_.out zd22_14) (fun _ _ _ h => h) (Or.inl ⟨by rfl, ?_⟩) hHeld ?_ ?_
       rotate_left
       ·rintro w' ⟨s0, s1, s2, s3, s4, s5⟩
        go_simp
        with_reducible rfl
       rotate_left
       ·simp only [Act.put, qsA, qsZ, qsS, i64_w, i32_w]
        rfl
       refine take_ (i := 1) (N := some 77) (v := ?_) (a' := ?_) #[true, true, false, false, false, false, false, false, false, false] rfl rfl (take_ofW HT_.out HW_.out zd22_14) (fun _ _ _ h => h) (Or.inl ⟨by rfl, ?_⟩) hHeld ?_ ?_
       rotate_left
       ·rintro w' ⟨s0, s1, s2, s3, s4, s5⟩
        go_simp
        with_reducible rfl
       rotate_left
       ·simp only [Act.put, qsA, qsZ, qsS, i64_w, i32_w]
        rfl
       refine take_ (i := 3) (N := some 79) (v := ?_) (a' := ?_) #[true, true, false, true, false, false, false, false, false, false] rfl rfl (take_ofW HT_.out HW_.out zd22_14) (fun _ _ _ h => h) (Or.inl ⟨by rfl, ?_⟩) hHeld ?_ ?_
       rotate_left
       ·rintro w' ⟨s0, s1, s2, s3, s4, s5⟩
        go_simp
        with_reducible rfl
       rotate_left
       ·simp only [Act.put, qsA, qsZ, qsS, i64_w, i32_w]
        rfl
       refine take_ (i := 4) (N := some 80) (v := ?_) (a' := ?_) #[true, true, false, true, true, false, false, false, false, false] rfl rfl (take_ofW HT_.out HW_.out zd22_14) (fun _ _ _ h => h) (Or.inl ⟨by rfl, ?_⟩) hHeld ?_ ?_
       rotate_left
       ·rintro w' ⟨s0, s1, s2, s3, s4, s5⟩
        go_simp
        with_reducible rfl
       rotate_left
       ·simp only [Act.put, qsA, qsZ, qsS, i64_w, i32_w]
        rfl
       refine one_ (i := 2) (N := some 78) #[true, true, true, true, true, false, false, false, false, false] rfl rfl (one_of HT_.out zd22_14) (by decide) (fun K hK => ?_)
       refine goes_ Tryz.func8 zd22_14 rfl #[.agg #[.bool t409, .slice Ao110 t410.length co110], .agg #[.bool t395, .slice Ao14 t396.length co14]] (by rfl) rfl rfl zd22_5 ?_
       with_reducible refine (laws_greater.calls kj22 t409 (fun k_ => (k_ ≠ gb403 ∧ (k_ ≠ gb404 ∧ (k_ ≠ gb417 ∧ k_ ≠ gb418)))) _ _ t410 t395 (fun k_ => (k_ ≠ gb403 ∧ (k_ ≠ gb404 ∧ (k_ ≠ gb417 ∧ k_ ≠ gb418)))) _ _ t396 t419 t420 _ ?side1 ?side2 A29.out).mono ?_
       (case side1 => exact HO412.out)
       (case side2 => exact HO_404001.out)
       rintro e w117 ⟨v421, rfl, ho0, hb⟩
       refine ⟨_, rfl, ?_⟩
       have n0_ := qaM (qvB zd22_6 hb)
       have n1_ := qaM (qvB zd22_7 hb)
       have n2_ := qaM (qvB zd22_9 hb)
       have n3_ := qaM (qvB zd22_10 hb)
       have n4_ := qaM (qvL (qvM (ok' := fun k_ => k_ ≠ gb403 ∧ k_ ≠ gb404 ∧ k_ ≠ gb417 ∧ k_ ≠ gb418) ho0 (fun k_ hk_ => ⟨Or.elim hk_ (fun hs_ => Or.elim hs_ (fun hs_ => hs_.1) (fun hs_ => hs_.1)) (fun hn_ => (qfB (g := gb403) (o := .cells #[.bool t395, .slice Ao14 t396.length co14] 27 (0, 0)) zd22_0 k_ hn_)), Or.elim hk_ (fun hs_ => Or.elim hs_ (fun hs_ => hs_.2.1) (fun hs_ => hs_.2.1)) (fun hn_ => (qfB (g := gb404) (o := .cells #[.bool t399, .slice Ao16 t400.length co16] 27 (0, 0)) zd22_1 k_ hn_)), Or.elim hk_ (fun hs_ => Or.elim hs_ (fun hs_ => hs_.2.2.1) (fun hs_ => hs_.2.2.1)) (fun hn_ => (qfB (g := gb417) (o := .cells #[.bool t409, .slice Ao110 t410.length co110] 27 (0, 0)) zd22_4 k_ hn_)), Or.elim hk_ (fun hs_ => Or.elim hs_ (fun hs_ => hs_.2.2.2) (fun hs_ => hs_.2.2.2)) (fun hn_ => (qfB (g := gb418) (o := .cells #[.bool t413, .slice Ao114 t414.length co114] 27 (0, 0)) zd22_8 k_ hn_))⟩)) (qbS zd22_2))
       have n5_ := qaM (qbB (g := gb403) (o := .cells #[.bool t395, .slice Ao14 t396.length co14] 27 (0, 0)) zd22_0 hb)
       have n6_ := qaM (qbB (g := gb404) (o := .cells #[.bool t399, .slice Ao16 t400.length co16] 27 (0, 0)) zd22_1 hb)
       have n7_ := qaM (qbB (g := gb417) (o := .cells #[.bool t409, .slice Ao110 t410.length co110] 27 (0, 0)) zd22_4 hb)
       have n8_ := qaM (qbB (g := gb418) (o := .cells #[.bool t413, .slice Ao114 t414.length co114] 27 (0, 0)) zd22_8 hb)
       have n9_ := qaM (qbT zd22_2 hb)
       clear HO_404001
       clear HO_405001
       clear HO412
       clear HO416
       clear BK403
       clear BK404
       clear BK417
       clear BK418
       clear HB
       have HO_404001 := n0_
       have HO_405001 := n1_
       have HO412 := n2_
       have HO416 := n3_
       have HO422 := n4_
       have BK403 := n5_
       have BK404 := n6_
       have BK417 := n7_
       have BK418 := n8_
       have HB := n9_
       clear n0_ n1_ n2_ n3_ n4_ n5_ n6_ n7_ n8_ n9_
       (try clear hb)
       (try clear hb2)
       (try clear hk)
       (try clear hi)
       (try clear ho0)
       obtain ⟨Ao118, co118, eo118⟩ := Kd.V_slice HO422.out
       (first | subst eo118 | (injection eo118 with f1_ f2_ f3_; have f4_ := f1_.symm; have f5_ := f3_.symm; clear f1_ f2_ f3_; subst f4_; subst f5_))
       refine hK.out _ _ ⟨(qbC BK417.out 0).trans rfl, (qbC BK417.out 1).trans rfl, (qbC BK403.out 0).trans rfl, (qbC BK403.out 1).trans rfl, (qbC BK404.out 0).trans rfl, (qbC BK404.out 1).trans rfl⟩ (fun hHeld => ?_)
       clear hK K
       refine norm_ (a' := ?_) ?_ ?_
       rotate_left
       ·show Act.put _ (some 78) _ = _
        simp only [Act.put, qsA, qsZ, qsS, i64_w, i32_w]
        rfl
       refine one_ (i := 5) (N := some 81) #[true, true, true, true, true, true, false, false, false, false] rfl rfl (one_of HT_.out zd22_14) (by decide) (fun K hK => ?_)
       refine goes_ Tryz.func7 zd22_14 rfl #[.agg #[.bool t419, .slice Ao118 t420.length co118], .agg #[.bool t395, .slice Ao14 t396.length co14], .agg #[.bool t399, .slice Ao16 t400.length co16]] (by rfl) rfl rfl zd22_5 ?_
       with_reducible refine (laws_fitted.calls kj22 t419 _ _ t420 t395 _ _ t396 t399 _ _ t400 t423 t424 _ ?side1 ?side2 ?side3 ?side4 ?side5 ?side6 A30.out).mono ?_
       (case side1 => repeat (first | exact (qvR HO422.out).2.2 | (with_reducible refine Kd.C_alloc ?_ _) | (with_reducible refine Kd.C_drewN ?_ _) | (with_reducible refine Kd.C_drew ?_)))
       (case side2 => exact (qvR HO422.out).2.1)
       (case side3 => repeat (first | exact (qvR HO_404001.out).2.2 | (with_reducible refine Kd.C_alloc ?_ _) | (with_reducible refine Kd.C_drewN ?_ _) | (with_reducible refine Kd.C_drew ?_)))
       (case side4 => exact (qvR HO_404001.out).2.1)
       (case side5 => repeat (first | exact (qvR HO_405001.out).2.2 | (with_reducible refine Kd.C_alloc ?_ _) | (with_reducible refine Kd.C_drewN ?_ _) | (with_reducible refine Kd.C_drew ?_)))
       (case side6 => exact (qvR HO_405001.out).2.1)
       rintro e w119 ⟨rfl, hb⟩
       refine ⟨_, rfl, ?_⟩
       have n0_ := qaM (qvB zd22_6 hb)
       have n1_ := qaM (qvB zd22_7 hb)
       have n2_ := qaM (qvB zd22_9 hb)
       have n3_ := qaM (qvB zd22_10 hb)
       have n4_ := qaM (qvB zd22_12 hb)
       have n5_ := qaM (qbB (g := gb403) (o := .cells #[.bool t395, .slice Ao14 t396.length co14] 27 (0, 0)) zd22_0 hb)
       have n6_ := qaM (qbB (g := gb404) (o := .cells #[.bool t399, .slice Ao16 t400.length co16] 27 (0, 0)) zd22_1 hb)
       have n7_ := qaM (qbB (g := gb417) (o := .cells #[.bool t409, .slice Ao110 t410.length co110] 27 (0, 0)) zd22_4 hb)
       have n8_ := qaM (qbB (g := gb418) (o := .cells #[.bool t413, .slice Ao114 t414.length co114] 27 (0, 0)) zd22_8 hb)
       have n9_ := qaM (qbT zd22_2 hb)
       clear HO_404001
       clear HO_405001
       clear HO412
       clear HO416
       clear HO422
       clear BK403
       clear BK404
       clear BK417
       clear BK418
       clear HB
       have HO_404001 := n0_
       have HO_405001 := n1_
       have HO412 := n2_
       have HO416 := n3_
       have HO422 := n4_
       have BK403 := n5_
       have BK404 := n6_
       have BK417 := n7_
       have BK418 := n8_
       have HB := n9_
       clear n0_ n1_ n2_ n3_ n4_ n5_ n6_ n7_ n8_ n9_
       (try clear hb)
       (try clear hb2)
       (try clear hk)
       (try clear hi)
       refine hK.out _ _ ⟨(qbC BK417.out 0).trans rfl, (qbC BK417.out 1).trans rfl, (qbC BK403.out 0).trans rfl, (qbC BK403.out 1).trans rfl, (qbC BK404.out 0).trans rfl, (qbC BK404.out 1).trans rfl⟩ (fun hHeld => ?_)
       clear hK K
       refine norm_ (a' := ?_) ?_ ?_
       rotate_left
       ·show Act.put _ (some 81) _ = _
        simp only [Act.put, qsA, qsZ, qsS, i64_w, i32_w]
        rfl
       refine pure_ (i := 6) (N := some 75) (v := ?_) (a' := ?_) #[true, true, true, true, true, true, true, false, false, false] rfl rfl (any_of HT_.out zd22_14) (fun _ _ _ h => h) (Or.inl ⟨by rfl, ?_⟩) ?_ ?_
       rotate_left
       ·intro w'
        go_simp
        with_reducible rfl
       rotate_left
       ·simp only [Act.put, qsA, qsZ, qsS, i64_w, i32_w]
        rfl
       refine pure_ (i := 7) (N := some 82) (v := ?_) (a' := ?_) #[true, true, true, true, true, true, true, true, false, false] rfl rfl (any_of HT_.out zd22_14) (fun _ _ _ h => h) (Or.inl ⟨by rfl, ?_⟩) ?_ ?_
       rotate_left
       ·intro w'
        go_simp
        with_reducible rfl
       rotate_left
       ·simp only [Act.put, qsA, qsZ, qsS, i64_w, i32_w]
        rfl
       refine pure_ (i := 8) (N := some 83) (v := ?_) (a' := ?_) #[true, true, true, true, true, true, true, true, true, false] rfl rfl (any_of HT_.out zd22_14) (fun _ _ _ h => h) (Or.inl ⟨by rfl, ?_⟩) ?_ ?_
       rotate_left
       ·intro w'
        go_simp
        with_reducible rfl
       rotate_left
       ·simp only [Act.put, qsA, qsZ, qsS, i64_w, i32_w]
        rfl
       refine pure_ (i := 9) (N := some 10) (v := ?_) (a' := ?_) #[true, true, true, true, true, true, true, true, true, true] rfl rfl (any_of HT_.out zd22_14) (fun _ _ _ h => h) (Or.inl ⟨by rfl, ?_⟩) ?_ ?_
       rotate_left
       ·intro w'
        go_simp
        with_reducible rfl
       rotate_left
       ·simp only [Act.put, qsA, qsZ, qsS, i64_w, i32_w]
        rfl
       refine done_ (done_of HT_.out zd22_14) ?_
       try go_wp2
       have n0_ := qaM (qvD HO_404001.out)
       have n1_ := qaM (qvD HO_405001.out)
       have n2_ := qaM (qvD HO412.out)
       have n3_ := qaM (qvD HO416.out)
       have n4_ := qaM (qvD HO422.out)
       have n5_ := qaM (qbD BK403.out)
       have n6_ := qaM (qbD BK404.out)
       have n7_ := qaM (qbD BK417.out)
       have n8_ := qaM (qbD BK418.out)
       have n9_ := qaM (qwD HB.out)
       clear HO_404001
       clear HO_405001
       clear HO412
       clear HO416
       clear HO422
       clear BK403
       clear BK404
       clear BK417
       clear BK418
       clear HB
       have HO_404001 := n0_
       have HO_405001 := n1_
       have HO412 := n2_
       have HO416 := n3_
       have HO422 := n4_
       have BK403 := n5_
       have BK404 := n6_
       have BK417 := n7_
       have BK418 := n8_
       have HB := n9_
       clear n0_ n1_ n2_ n3_ n4_ n5_ n6_ n7_ n8_ n9_
       refine start_ (n := 10) (S := fun w' => w'.cell? ⟨gb418, 0, none⟩ = some (.bool t413) ∧ w'.cell? ⟨gb418, 1, none⟩ = some (.slice Ao114 t414.length co114) ∧ w'.cell? ⟨gb404, 0, none⟩ = some (.bool t399) ∧ w'.cell? ⟨gb404, 1, none⟩ = some (.slice Ao16 t400.length co16) ∧ w'.cell? ⟨gb403, 0, none⟩ = some (.bool t395) ∧ w'.cell? ⟨gb403, 1, none⟩ = some (.slice Ao14 t396.length co14)) (ds := []) #[false, false, false, false, false, false, false, false, false, false] zd22_14 rfl rfl ⟨(qbC BK418.out 0).trans rfl, (qbC BK418.out 1).trans rfl, (qbC BK404.out 0).trans rfl, (qbC BK404.out 1).trans rfl, (qbC BK403.out 0).trans rfl, (qbC BK403.out 1).trans rfl⟩ (fun hHeld => ?_); refine with_tabW laws_FnSafeInt64.tab10 laws_FnSafeInt64.bits10 (fun HT_ HW_ => ?_)
       generalize w119.drew = w120 at HO_404001 HO_405001 HO412 HO416 HO422 BK403 BK404 BK417 BK418 HB hHeld ⊢
       refine take_ (i := 0) (N := some 85) (v := ?_) (a' := ?_) #[true, false, false, false, false, false, false, false, false, false] rfl rfl (take_ofW HT_.out HW_.out zd22_14) (fun _ _ _ h => h) (Or.inl ⟨by rfl, ?_⟩) hHeld ?_ ?_
       rotate_left
       ·rintro w' ⟨s0, s1, s2, s3, s4, s5⟩
        go_simp
        with_reducible rfl
       rotate_left
       ·simp only [Act.put, qsA, qsZ, qsS, i64_w, i32_w]
        rfl
       refine take_ (i := 1) (N := some 86) (v := ?_) (a' := ?_) #[true, true, false, false, false, false, false, false, false, false] rfl rfl (take_ofW HT_.out HW_.out zd22_14) (fun _ _ _ h => h) (Or.inl ⟨by rfl, ?_⟩) hHeld ?_ ?_
       rotate_left
       ·rintro w' ⟨s0, s1, s2, s3, s4, s5⟩
        go_simp
        with_reducible rfl
       rotate_left
       ·simp only [Act.put, qsA, qsZ, qsS, i64_w, i32_w]
        rfl
       refine take_ (i := 3) (N := some 88) (v := ?_) (a' := ?_) #[true, true, false, true, false, false, false, false, false, false] rfl rfl (take_ofW HT_.out HW_.out zd22_14) (fun _ _ _ h => h) (Or.inl ⟨by rfl, ?_⟩) hHeld ?_ ?_
       rotate_left
       ·rintro w' ⟨s0, s1, s2, s3, s4, s5⟩
        go_simp
        with_reducible rfl
       rotate_left
       ·simp only [Act.put, qsA, qsZ, qsS, i64_w, i32_w]
        rfl
       refine take_ (i := 4) (N := some 89) (v := ?_) (a' := ?_) #[true, true, false, true, true, false, false, false, false, false] rfl rfl (take_ofW HT_.out HW_.out zd22_14) (fun _ _ _ h => h) (Or.inl ⟨by rfl, ?_⟩) hHeld ?_ ?_
       rotate_left
       ·rintro w' ⟨s0, s1, s2, s3, s4, s5⟩
        go_simp
        with_reducible rfl
       rotate_left
       ·simp only [Act.put, qsA, qsZ, qsS, i64_w, i32_w]
        rfl
       refine one_ (i := 2) (N := some 87) #[true, true, true, true, true, false, false, false, false, false] rfl rfl (one_of HT_.out zd22_14) (by decide) (fun K hK => ?_)
       refine goes_ Tryz.func9 zd22_14 rfl #[.agg #[.bool t413, .slice Ao114 t414.length co114], .agg #[.bool t399, .slice Ao16 t400.length co16]] (by rfl) rfl rfl zd22_5 ?_
       with_reducible refine (laws_smaller.calls kj22 t413 (fun k_ => (k_ ≠ gb403 ∧ (k_ ≠ gb404 ∧ (k_ ≠ gb417 ∧ k_ ≠ gb418)))) _ _ t414 t399 (fun k_ => (k_ ≠ gb403 ∧ (k_ ≠ gb404 ∧ (k_ ≠ gb417 ∧ k_ ≠ gb418)))) _ _ t400 t425 t426 _ ?side1 ?side2 A31.out).mono ?_
       (case side1 => exact HO416.out)
       (case side2 => exact HO_405001.out)
       rintro e w121 ⟨v427, rfl, ho0, hb⟩
       refine ⟨_, rfl, ?_⟩
       have n0_ := qaM (qvB zd22_6 hb)
       have n1_ := qaM (qvB zd22_7 hb)
       have n2_ := qaM (qvB zd22_9 hb)
       have n3_ := qaM (qvB zd22_10 hb)
       have n4_ := qaM (qvB zd22_12 hb)
       have n5_ := qaM (qvL (qvM (ok' := fun k_ => k_ ≠ gb403 ∧ k_ ≠ gb404 ∧ k_ ≠ gb417 ∧ k_ ≠ gb418) ho0 (fun k_ hk_ => ⟨Or.elim hk_ (fun hs_ => Or.elim hs_ (fun hs_ => hs_.1) (fun hs_ => hs_.1)) (fun hn_ => (qfB (g := gb403) (o := .cells #[.bool t395, .slice Ao14 t396.length co14] 27 (0, 0)) zd22_0 k_ hn_)), Or.elim hk_ (fun hs_ => Or.elim hs_ (fun hs_ => hs_.2.1) (fun hs_ => hs_.2.1)) (fun hn_ => (qfB (g := gb404) (o := .cells #[.bool t399, .slice Ao16 t400.length co16] 27 (0, 0)) zd22_1 k_ hn_)), Or.elim hk_ (fun hs_ => Or.elim hs_ (fun hs_ => hs_.2.2.1) (fun hs_ => hs_.2.2.1)) (fun hn_ => (qfB (g := gb417) (o := .cells #[.bool t409, .slice Ao110 t410.length co110] 27 (0, 0)) zd22_4 k_ hn_)), Or.elim hk_ (fun hs_ => Or.elim hs_ (fun hs_ => hs_.2.2.2) (fun hs_ => hs_.2.2.2)) (fun hn_ => (qfB (g := gb418) (o := .cells #[.bool t413, .slice Ao114 t414.length co114] 27 (0, 0)) zd22_8 k_ hn_))⟩)) (qbS zd22_2))
       have n6_ := qaM (qbB (g := gb403) (o := .cells #[.bool t395, .slice Ao14 t396.length co14] 27 (0, 0)) zd22_0 hb)
       have n7_ := qaM (qbB (g := gb404) (o := .cells #[.bool t399, .slice Ao16 t400.length co16] 27 (0, 0)) zd22_1 hb)
       have n8_ := qaM (qbB (g := gb417) (o := .cells #[.bool t409, .slice Ao110 t410.length co110] 27 (0, 0)) zd22_4 hb)
       have n9_ := qaM (qbB (g := gb418) (o := .cells #[.bool t413, .slice Ao114 t414.length co114] 27 (0, 0)) zd22_8 hb)
       have n10_ := qaM (qbT zd22_2 hb)
       clear HO_404001
       clear HO_405001
       clear HO412
       clear HO416
       clear HO422
       clear BK403
       clear BK404
       clear BK417
       clear BK418
       clear HB
       have HO_404001 := n0_
       have HO_405001 := n1_
       have HO412 := n2_
       have HO416 := n3_
       have HO422 := n4_
       have HO428 := n5_
       have BK403 := n6_
       have BK404 := n7_
       have BK417 := n8_
       have BK418 := n9_
       have HB := n10_
       clear n0_ n1_ n2_ n3_ n4_ n5_ n6_ n7_ n8_ n9_ n10_
       (try clear hb)
       (try clear hb2)
       (try clear hk)
       (try clear hi)
       (try clear ho0)
       obtain ⟨Ao122, co122, eo122⟩ := Kd.V_slice HO428.out
       (first | subst eo122 | (injection eo122 with f1_ f2_ f3_; have f4_ := f1_.symm; have f5_ := f3_.symm; clear f1_ f2_ f3_; subst f4_; subst f5_))
       refine hK.out _ _ ⟨(qbC BK418.out 0).trans rfl, (qbC BK418.out 1).trans rfl, (qbC BK404.out 0).trans rfl, (qbC BK404.out 1).trans rfl, (qbC BK403.out 0).trans rfl, (qbC BK403.out 1).trans rfl⟩ (fun hHeld => ?_)
       clear hK K
       refine norm_ (a' := ?_) ?_ ?_
       rotate_left
       ·show Act.put _ (some 87) _ = _
        simp only [Act.put, qsA, qsZ, qsS, i64_w, i32_w]
        rfl
       refine one_ (i := 5) (N := some 90) #[true, true, true, true, true, true, false, false, false, false] rfl rfl (one_of HT_.out zd22_14) (by decide) (fun K hK => ?_)
       refine goes_ Tryz.func7 zd22_14 rfl #[.agg #[.bool t425, .slice Ao122 t426.length co122], .agg #[.bool t395, .slice Ao14 t396.length co14], .agg #[.bool t399, .slice Ao16 t400.length co16]] (by rfl) rfl rfl zd22_5 ?_
       with_reducible refine (laws_fitted.calls kj22 t425 _ _ t426 t395 _ _ t396 t399 _ _ t400 t429 t430 _ ?side1 ?side2 ?side3 ?side4 ?side5 ?side6 A32.out).mono ?_
       (case side1 => repeat (first | exact (qvR HO428.out).2.2 | (with_reducible refine Kd.C_alloc ?_ _) | (with_reducible refine Kd.C_drewN ?_ _) | (with_reducible refine Kd.C_drew ?_)))
       (case side2 => exact (qvR HO428.out).2.1)
       (case side3 => repeat (first | exact (qvR HO_404001.out).2.2 | (with_reducible refine Kd.C_alloc ?_ _) | (with_reducible refine Kd.C_drewN ?_ _) | (with_reducible refine Kd.C_drew ?_)))
       (case side4 => exact (qvR HO_404001.out).2.1)
       (case side5 => repeat (first | exact (qvR HO_405001.out).2.2 | (with_reducible refine Kd.C_alloc ?_ _) | (with_reducible refine Kd.C_drewN ?_ _) | (with_reducible refine Kd.C_drew ?_)))
       (case side6 => exact (qvR HO_405001.out).2.1)
       rintro e w123 ⟨rfl, hb⟩
       refine ⟨_, rfl, ?_⟩
       have n0_ := qaM (qvB zd22_6 hb)
       have n1_ := qaM (qvB zd22_7 hb)
       have n2_ := qaM (qvB zd22_9 hb)
       have n3_ := qaM (qvB zd22_10 hb)
       have n4_ := qaM (qvB zd22_12 hb)
       have n5_ := qaM (qvB zd22_16 hb)
       have n6_ := qaM (qbB (g := gb403) (o := .cells #[.bool t395, .slice Ao14 t396.length co14] 27 (0, 0)) zd22_0 hb)
       have n7_ := qaM (qbB (g := gb404) (o := .cells #[.bool t399, .slice Ao16 t400.length co16] 27 (0, 0)) zd22_1 hb)
       have n8_ := qaM (qbB (g := gb417) (o := .cells #[.bool t409, .slice Ao110 t410.length co110] 27 (0, 0)) zd22_4 hb)
       have n9_ := qaM (qbB (g := gb418) (o := .cells #[.bool t413, .slice Ao114 t414.length co114] 27 (0, 0)) zd22_8 hb)
       have n10_ := qaM (qbT zd22_2 hb)
       clear HO_404001
       clear HO_405001
       clear HO412
       clear HO416
       clear HO422
       clear HO428
       clear BK403
       clear BK404
       clear BK417
       clear BK418
       clear HB
       have HO_404001 := n0_
       have HO_405001 := n1_
       have HO412 := n2_
       have HO416 := n3_
       have HO422 := n4_
       have HO428 := n5_
       have BK403 := n6_
       have BK404 := n7_
       have BK417 := n8_
       have BK418 := n9_
       have HB := n10_
       clear n0_ n1_ n2_ n3_ n4_ n5_ n6_ n7_ n8_ n9_ n10_
       (try clear hb)
       (try clear hb2)
       (try clear hk)
       (try clear hi)
       refine hK.out _ _ ⟨(qbC BK418.out 0).trans rfl, (qbC BK418.out 1).trans rfl, (qbC BK404.out 0).trans rfl, (qbC BK404.out 1).trans rfl, (qbC BK403.out 0).trans rfl, (qbC BK403.out 1).trans rfl⟩ (fun hHeld => ?_)
       clear hK K
       refine norm_ (a' := ?_) ?_ ?_
       rotate_left
       ·show Act.put _ (some 90) _ = _
        simp only [Act.put, qsA, qsZ, qsS, i64_w, i32_w]
        rfl
       refine pure_ (i := 6) (N := some 84) (v := ?_) (a' := ?_) #[true, true, true, true, true, true, true, false, false, false] rfl rfl (any_of HT_.out zd22_14) (fun _ _ _ h => h) (Or.inl ⟨by rfl, ?_⟩) ?_ ?_
       rotate_left
       ·intro w'
        go_simp
        with_reducible rfl
       rotate_left
       ·simp only [Act.put, qsA, qsZ, qsS, i64_w, i32_w]
        rfl
       refine pure_ (i := 7) (N := some 91) (v := ?_) (a' := ?_) #[true, true, true, true, true, true, true, true, false, false] rfl rfl (any_of HT_.out zd22_14) (fun _ _ _ h => h) (Or.inl ⟨by rfl, ?_⟩) ?_ ?_
       rotate_left
       ·intro w'
        go_simp
        with_reducible rfl
       rotate_left
       ·simp only [Act.put, qsA, qsZ, qsS, i64_w, i32_w]
        rfl
       refine pure_ (i := 8) (N := some 92) (v := ?_) (a' := ?_) #[true, true, true, true, true, true, true, true, true, false] rfl rfl (any_of HT_.out zd22_14) (fun _ _ _ h => h) (Or.inl ⟨by rfl, ?_⟩) ?_ ?_
       rotate_left
       ·intro w'
        go_simp
        with_reducible rfl
       rotate_left
       ·simp only [Act.put, qsA, qsZ, qsS, i64_w, i32_w]
        rfl
       refine pure_ (i := 9) (N := some 12) (v := ?_) (a' := ?_) #[true, true, true, true, true, true, true, true, true, true] rfl rfl (any_of HT_.out zd22_14) (fun _ _ _ h => h) (Or.inl ⟨by rfl, ?_⟩) ?_ ?_
       rotate_left
       ·intro w'
        go_simp
        with_reducible rfl
       rotate_left
       ·simp only [Act.put, qsA, qsZ, qsS, i64_w, i32_w]
        rfl
       refine done_ (done_of HT_.out zd22_14) ?_
       try go_wp2_with (first | ((with_reducible refine gate_callee (f := 10) rfl ?_); refine goesL_ (some 96) rfl rfl Tryz.func10 zd22_14 rfl #[.int .i64 a0, .bool a1] rfl zd22_5 ?_; (with_reducible refine (impl_SafeInt64.calls a0 a1 t431 t432 false _ A33.out).mono ?_); rintro e w124 ⟨rfl, hb⟩; refine ⟨_, rfl, ?_⟩; have n0_ := qaM (qvB zd22_6 hb); have n1_ := qaM (qvB zd22_7 hb); have n2_ := qaM (qvB zd22_9 hb); have n3_ := qaM (qvB zd22_10 hb); have n4_ := qaM (qvB zd22_12 hb); have n5_ := qaM (qvB zd22_16 hb); have n6_ := qaM (qbB (g := gb403) (o := .cells #[.bool t395, .slice Ao14 t396.length co14] 27 (0, 0)) zd22_0 hb); have n7_ := qaM (qbB (g := gb404) (o := .cells #[.bool t399, .slice Ao16 t400.length co16] 27 (0, 0)) zd22_1 hb); have n8_ := qaM (qbB (g := gb417) (o := .cells #[.bool t409, .slice Ao110 t410.length co110] 27 (0, 0)) zd22_4 hb); have n9_ := qaM (qbB (g := gb418) (o := .cells #[.bool t413, .slice Ao114 t414.length co114] 27 (0, 0)) zd22_8 hb); have n10_ := qaM (qbT zd22_2 hb); clear HO_404001; clear HO_405001; clear HO412; clear HO416; clear HO422; clear HO428; clear BK403; clear BK404; clear BK417; clear BK418; clear HB; have HO_404001 := n0_; have HO_405001 := n1_; have HO412 := n2_; have HO416 := n3_; have HO422 := n4_; have HO428 := n5_; have BK403 := n6_; have BK404 := n7_; have BK417 := n8_; have BK418 := n9_; have HB := n10_; clear n0_ n1_ n2_ n3_ n4_ n5_ n6_ n7_ n8_ n9_ n10_; (try clear hb); (try clear hb2); (try clear hk); (try clear hi)))
       go_ret
       exact ⟨by first | rfl | (simp [errW_none, errW_some] <;> rfl) | (simp [*, errW_none, errW_some] <;> rfl), by repeat (first | (with_reducible first | exact HB.out | apply qwA | apply qwN | apply qwD | refine qwS ?_ GE403.out | refine qwS ?_ GE404.out | refine qwS ?_ GE417.out | refine qwS ?_ GE418.out) | exact HB.out)⟩

/-- THE ONE PURE STATEMENT of laws_FnSafeInt64: yours. -/
def laws_FnSafeInt64.Pure : Prop := ∀ (a0 : Int) (a1 : Bool), (Lit.int .i64 a0).wf = true → ∃ k, laws_FnSafeInt64.f k a0 a1 = some true
theorem laws_FnSafeInt64.walk (P : laws_FnSafeInt64.Pure) (a0 : Int) (a1 : Bool) (w : World) (w0 : (Lit.int .i64 a0).wf = true) :
  Calls Tryz.prog 4 #[.int .i64 a0, .bool a1] w fun e w' => e = .returned (.bool true) ∧ Below w.heap.size w w' := by
 obtain ⟨k, h⟩ := P a0 a1 w0
 refine (laws_FnSafeInt64.calls k a0 a1 true w h).mono ?_
 rintro e w' ⟨rfl, hd⟩
 exact ⟨rfl, hd⟩

end Go.Proofs.YtoaibapjnedhlaaGreat.QAll
