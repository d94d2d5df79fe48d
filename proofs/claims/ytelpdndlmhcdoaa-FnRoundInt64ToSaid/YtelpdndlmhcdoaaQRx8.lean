/- Printed by a program of this session (print2.py) over the kit's print: the functions that a law reaches, over contracts proved by hand. Lean checks it. -/
import Derived.Test.YtelpdndlmhcdoaaQRx0
import Derived.Test.YtelpdndlmhcdoaaQRx1
import Derived.Test.YtelpdndlmhcdoaaQRx2
import Derived.Test.YtelpdndlmhcdoaaQRx3
import Derived.Test.YtelpdndlmhcdoaaQRx4
import Derived.Test.YtelpdndlmhcdoaaQRx7
namespace Go.Proofs.Ytelpdndlmhcdoaa.QR
open Go.RowKit Go.Proofs.YtelpdndlmhcdoaaW.PrintWords Go.Proofs.YtelpdndlmhcdoaaW.PrintLast Go.Proofs.YtelpdndlmhcdoaaW.PrintMore
attribute [local go_sem] max2_int min2_int max_two min_two max_three min_three max_four min_four   -- for this text's walks alone
set_option linter.unusedVariables false
set_option linter.unusedSimpArgs false

theorem zr8_0 {p : Prop} (h : p := by repeat (first | (with_reducible first | exact HB.out | apply qwA | apply qwN | apply qwD | refine qwS ?_ GE364.out | refine qwS ?_ GE365.out | refine qwS ?_ GE366.out | refine qwS ?_ GE375.out | refine qwS ?_ GE376.out | refine qwS ?_ GE378.out | refine qwS ?_ GE379.out) | exact HB.out)) : p := h
theorem zr8_1 {p : Prop} (h : p := by (with_reducible repeat (first | refine qbN ?_ _ | refine qbD ?_ | refine qbA ?_ _)); exact BK364.out) : p := h
theorem zr8_2 {p : Prop} (h : p := by (with_reducible repeat (first | refine qbN ?_ _ | refine qbD ?_ | refine qbA ?_ _)); exact BK365.out) : p := h
theorem zr8_3 {p : Prop} (h : p := by (with_reducible repeat (first | refine qbN ?_ _ | refine qbD ?_ | refine qbA ?_ _)); exact BK366.out) : p := h
theorem zr8_4 {p : Prop} (h : p := by (with_reducible repeat (first | refine qbN ?_ _ | refine qbD ?_ | refine qbA ?_ _)); exact BK375.out) : p := h
theorem zr8_5 {p : Prop} (h : p := by (with_reducible repeat (first | refine qbN ?_ _ | refine qbD ?_ | refine qbA ?_ _)); exact BK376.out) : p := h
theorem zr8_6 {p : Prop} (h : p := by repeat (first | (with_reducible first | exact HB.out | apply qwA | apply qwN | apply qwD | refine qwS ?_ GE364.out | refine qwS ?_ GE365.out | refine qwS ?_ GE366.out) | exact HB.out)) : p := h
theorem zr8_7 {p : Prop} (h : p := by (with_reducible repeat (first | refine qbN ?_ _ | refine qbD ?_ | refine qbA ?_ _)); exact BK378.out) : p := h
theorem zr8_8 {p : Prop} (h : p := by (with_reducible repeat (first | refine qbN ?_ _ | refine qbD ?_ | refine qbA ?_ _)); exact BK379.out) : p := h
theorem zr8_9 {p : Prop} (h : p := by (try simp only [List.map_toArray, List.map_cons, List.map_nil]); first | done | rfl | (simp only [List.length_drop, List.length_take]; rfl)) : p := h
theorem zr8_10 {p : Prop} (h : p := by repeat (first | (with_reducible first | exact HB.out | apply qwA | apply qwN | apply qwD | refine qwS ?_ GE364.out | refine qwS ?_ GE365.out | refine qwS ?_ GE366.out | refine qwS ?_ GE375.out | refine qwS ?_ GE376.out) | exact HB.out)) : p := h
theorem zr8_11 {p : Prop} (h : p := by repeat (first | (with_reducible first | exact HB.out | apply qwA | apply qwN | apply qwD | refine qwS ?_ GE364.out | refine qwS ?_ GE365.out | refine qwS ?_ GE366.out | refine qwS ?_ GE375.out) | exact HB.out)) : p := h
theorem zr8_12 {p : Prop} (h : p := by (with_reducible repeat (first | apply qvA | apply qvN | apply qvD)); exact HO370.out) : p := h
theorem zr8_13 {p : Prop} (h : p := by (with_reducible repeat (first | apply qvA | apply qvN | apply qvD)); exact HO374.out) : p := h
theorem zr8_14 {p : Prop} (h : p := by repeat (first | (with_reducible first | exact HB.out | apply qwA | apply qwN | apply qwD | refine qwS ?_ GE364.out | refine qwS ?_ GE365.out) | exact HB.out)) : p := h
theorem zr8_15 {p : Prop} (h : p := by repeat (first | (with_reducible first | exact HB.out | apply qwA | apply qwN | apply qwD | refine qwS ?_ GE364.out) | exact HB.out)) : p := h
theorem zr8_16 {p : Prop} (h : p := by (with_reducible repeat (first | refine qbN ?_ _ | refine qbD ?_ | refine qbA ?_ _)); refine qbF ?_ NB375_376.out _; (with_reducible repeat (first | refine qbN ?_ _ | refine qbD ?_ | refine qbA ?_ _)); refine qbF ?_ NB375_376.out _; (with_reducible repeat (first | refine qbN ?_ _ | refine qbD ?_ | refine qbA ?_ _)); refine qbP (cs := #[.bool t367, .slice none 0 0]) ?_ 1 _ rfl; (with_reducible repeat (first | refine qbN ?_ _ | refine qbD ?_ | refine qbA ?_ _)); refine qbP (cs := #[.bool false, .slice none 0 0]) ?_ 0 _ rfl; (with_reducible repeat (first | refine qbN ?_ _ | refine qbD ?_ | refine qbA ?_ _)); exact BK375.out) : p := h
theorem zr8_17 {p : Prop} (h : p := by (with_reducible repeat (first | refine qbN ?_ _ | refine qbD ?_ | refine qbA ?_ _)); refine qbP (cs := #[.bool t371, .slice none 0 0]) ?_ 1 _ rfl; (with_reducible repeat (first | refine qbN ?_ _ | refine qbD ?_ | refine qbA ?_ _)); refine qbP (cs := #[.bool false, .slice none 0 0]) ?_ 0 _ rfl; (with_reducible repeat (first | refine qbN ?_ _ | refine qbD ?_ | refine qbA ?_ _)); refine qbF ?_ NB376_375.out _; (with_reducible repeat (first | refine qbN ?_ _ | refine qbD ?_ | refine qbA ?_ _)); refine qbF ?_ NB376_375.out _; (with_reducible repeat (first | refine qbN ?_ _ | refine qbD ?_ | refine qbA ?_ _)); exact BK376.out) : p := h
theorem zr8_18 {p : Prop} (h : p := by (with_reducible repeat (first | apply qvA | apply qvN | apply qvD)); exact (qvM (qvM (qvF (p := ⟨gb379, 1, none⟩) (qvF (p := ⟨gb379, 0, none⟩) (qvF (p := ⟨gb378, 1, none⟩) (qvF (p := ⟨gb378, 0, none⟩) (qvM (qvM HO374.out (fun k_ hk => (⟨hk, hk.2.2.2.2.2.2.1⟩ : _ ∧ k_ ≠ gb378))) (fun k_ hk => (⟨hk, hk.1.2.2.2.2.2.2.2⟩ : _ ∧ k_ ≠ gb379))) (fun _ hk => hk.1.2) (.bool t367)) (fun _ hk => hk.1.2) (.slice Ao50 t368.length co50)) (fun _ hk => hk.2) (.bool t371)) (fun _ hk => hk.2) (.slice Ao55 t372.length co55)) (fun _ h_ => h_.1)) (fun _ h_ => h_.1))) : p := h
theorem zr8_19 {p : Prop} (h : p := by (with_reducible repeat (first | refine qbN ?_ _ | refine qbD ?_ | refine qbA ?_ _)); refine qbF ?_ NB364_376.out _; (with_reducible repeat (first | refine qbN ?_ _ | refine qbD ?_ | refine qbA ?_ _)); refine qbF ?_ NB364_376.out _; (with_reducible repeat (first | refine qbN ?_ _ | refine qbD ?_ | refine qbA ?_ _)); refine qbF ?_ NB364_375.out _; (with_reducible repeat (first | refine qbN ?_ _ | refine qbD ?_ | refine qbA ?_ _)); refine qbF ?_ NB364_375.out _; (with_reducible repeat (first | refine qbN ?_ _ | refine qbD ?_ | refine qbA ?_ _)); exact BK364.out) : p := h
theorem zr8_20 {p : Prop} (h : p := by (with_reducible repeat (first | refine qbN ?_ _ | refine qbD ?_ | refine qbA ?_ _)); refine qbF ?_ NB365_376.out _; (with_reducible repeat (first | refine qbN ?_ _ | refine qbD ?_ | refine qbA ?_ _)); refine qbF ?_ NB365_376.out _; (with_reducible repeat (first | refine qbN ?_ _ | refine qbD ?_ | refine qbA ?_ _)); refine qbF ?_ NB365_375.out _; (with_reducible repeat (first | refine qbN ?_ _ | refine qbD ?_ | refine qbA ?_ _)); refine qbF ?_ NB365_375.out _; (with_reducible repeat (first | refine qbN ?_ _ | refine qbD ?_ | refine qbA ?_ _)); exact BK365.out) : p := h
theorem zr8_21 {p : Prop} (h : p := by (with_reducible repeat (first | refine qbN ?_ _ | refine qbD ?_ | refine qbA ?_ _)); refine qbF ?_ NB366_376.out _; (with_reducible repeat (first | refine qbN ?_ _ | refine qbD ?_ | refine qbA ?_ _)); refine qbF ?_ NB366_376.out _; (with_reducible repeat (first | refine qbN ?_ _ | refine qbD ?_ | refine qbA ?_ _)); refine qbF ?_ NB366_375.out _; (with_reducible repeat (first | refine qbN ?_ _ | refine qbD ?_ | refine qbA ?_ _)); refine qbF ?_ NB366_375.out _; (with_reducible repeat (first | refine qbN ?_ _ | refine qbD ?_ | refine qbA ?_ _)); exact BK366.out) : p := h
theorem zr8_22 {p : Prop} (h : p := by (with_reducible repeat (first | apply qvA | apply qvN | apply qvD)); exact (qvM (qvM (qvF (p := ⟨gb376, 1, none⟩) (qvF (p := ⟨gb376, 0, none⟩) (qvF (p := ⟨gb375, 1, none⟩) (qvF (p := ⟨gb375, 0, none⟩) (qvM (qvM HO374.out (fun k_ hk => (⟨hk, hk.1.2⟩ : _ ∧ k_ ≠ gb375))) (fun k_ hk => (⟨hk, hk.1.2⟩ : _ ∧ k_ ≠ gb376))) (fun _ hk => hk.1.2) (.bool t367)) (fun _ hk => hk.1.2) (.slice Ao23 t368.length co23)) (fun _ hk => hk.2) (.bool t371)) (fun _ hk => hk.2) (.slice Ao28 t372.length co28)) (fun _ h_ => h_.1)) (fun _ h_ => h_.1))) : p := h
theorem zr8_23 {p : Prop} (h : p := by (with_reducible repeat (first | apply qvA | apply qvN | apply qvD)); exact (qvM (qvM (qvF (p := ⟨gb376, 1, none⟩) (qvF (p := ⟨gb376, 0, none⟩) (qvF (p := ⟨gb375, 1, none⟩) (qvF (p := ⟨gb375, 0, none⟩) (qvM (qvM HO374.out (fun k_ hk => (⟨hk, hk.1.2⟩ : _ ∧ k_ ≠ gb375))) (fun k_ hk => (⟨hk, hk.1.2⟩ : _ ∧ k_ ≠ gb376))) (fun _ hk => hk.1.2) (.bool t367)) (fun _ hk => hk.1.2) (.slice Ao50 t368.length co50)) (fun _ hk => hk.2) (.bool t371)) (fun _ hk => hk.2) (.slice Ao55 t372.length co55)) (fun _ h_ => h_.1)) (fun _ h_ => h_.1))) : p := h
theorem zr8_24 {p : Prop} (h : p := by repeat (first | (with_reducible first | exact HB.out | apply qwA | apply qwN | apply qwD) | exact HB.out)) : p := h
theorem zr8_25 {p : Prop} (h : p := by repeat (first | (with_reducible first | exact HB.out | apply qwA | apply qwN | apply qwD | refine qwS ?_ GE364.out | refine qwS ?_ GE365.out | refine qwS ?_ GE366.out | refine qwS ?_ GE375.out | refine qwS ?_ GE376.out | refine qwS ?_ GE378.out) | exact HB.out)) : p := h
theorem zr8_26 {p : Prop} (h : p := by repeat (first | (with_reducible first | exact HB.out | apply qwA | apply qwN | apply qwD | refine qwS ?_ GE364.out | refine qwS ?_ GE365.out | refine qwS ?_ GE366.out | refine qwS ?_ GE375.out | refine qwS ?_ GE376.out | refine qwS ?_ GE379.out) | exact HB.out)) : p := h
theorem zr8_27 {p : Prop} (h : p := by kernel_rfl) : p := h
theorem zr8_28 {p : Prop} (h : p := by (with_reducible repeat (first | apply qvA | apply qvN | apply qvD)); exact HO_376001.out) : p := h
theorem zr8_29 {p : Prop} (h : p := by (with_reducible repeat (first | apply qvA | apply qvN | apply qvD)); exact HO_377001.out) : p := h
theorem zr8_30 {p : Prop} (h : p := by (with_reducible repeat (first | apply qvA | apply qvN | apply qvD)); exact HO_379001.out) : p := h
theorem zr8_31 {p : Prop} (h : p := by (with_reducible repeat (first | apply qvA | apply qvN | apply qvD)); exact HO_380001.out) : p := h
/-! ### spec_RoundWide: function 22 -/
mutual
def spec_RoundWide.j0 : Nat → Int → Bool → List Int → Bool → List Int → Bool → List Int → Bool → List Int → Option (Bool × List Int)
 | 0, _, _, _, _, _, _, _, _, _ => none
 | k + 1, x2, x365000, x365001, x366000, x366001, x379000, x379001, x380000, x380001 => (spec_WideAdd.f k x380000 x380001 x380000 x380001).bind fun bt393 => ((spec_WideCmp.f k bt393.1 bt393.2 x366000 x366001).bind fun t397 => (if (x379001.length : Int) = 0 then (spec_RoundWide.j1 k x2 t397 true x365000 x365001 x379000 x379001) else (if 0 < (x379001.length : Int) then (spec_RoundWide.j1 k x2 t397 ((Go.bits .and .u32 (rd x379001 0) 1) == 0) x365000 x365001 x379000 x379001) else (none))))
def spec_RoundWide.j1 : Nat → Int → Int → Bool → Bool → List Int → Bool → List Int → Option (Bool × List Int)
 | 0, _, _, _, _, _, _, _ => none
 | k + 1, x2, x11, x12, x365000, x365001, x379000, x379001 => (spec_upper.f x2 x11 x12 x365000).bind fun t399 => (if t399 = true then ((spec_WideInt.f k 1).bind fun bt400 => ((spec_WideAdd.f k x379000 x379001 bt400.1 bt400.2).bind fun bt404 => (some (bt404.1, bt404.2)))) else (some (x379000, x379001)))
end
def spec_RoundWide.f (k : Nat) (a0_0 : Bool) (l0_1 : List Int) (a1_0 : Bool) (l1_1 : List Int) (a2 : Int) : Option (Bool × List Int) := (spec_WideDiv.f k a0_0 l0_1 a1_0 l1_1).bind fun bt367 => ((spec_Wide_Sign.f bt367.2.2.1 bt367.2.2.2).bind fun t377 => (if t377 = 0 then (some (bt367.1, bt367.2.1)) else ((spec_Wide_Sign.f bt367.2.2.1 bt367.2.2.2).bind fun t380 => (if t380 < 0 then ((spec_WideInt.f k 1).bind fun bt381 => ((spec_WideSub.f k bt367.1 bt367.2.1 bt381.1 bt381.2).bind fun bt385 => ((spec_WideAdd.f k bt367.2.2.1 bt367.2.2.2 a1_0 l1_1).bind fun bt389 => (spec_RoundWide.j0 k a2 a0_0 l0_1 a1_0 l1_1 bt385.1 bt385.2 bt389.1 bt389.2)))) else (spec_RoundWide.j0 k a2 a0_0 l0_1 a1_0 l1_1 bt367.1 bt367.2.1 bt367.2.2.1 bt367.2.2.2)))))
theorem spec_RoundWide.mono_l : ∀ k, (∀ y0 y1 y2 y3 y4 y5 y6 y7 y8, LeO (spec_RoundWide.j0 k y0 y1 y2 y3 y4 y5 y6 y7 y8) (spec_RoundWide.j0 (k + 1) y0 y1 y2 y3 y4 y5 y6 y7 y8)) ∧ (∀ y0 y1 y2 y3 y4 y5 y6, LeO (spec_RoundWide.j1 k y0 y1 y2 y3 y4 y5 y6) (spec_RoundWide.j1 (k + 1) y0 y1 y2 y3 y4 y5 y6))
 | 0 => ⟨fun _ _ _ _ _ _ _ _ _ r h => by simp [spec_RoundWide.j0] at h, fun _ _ _ _ _ _ _ r h => by simp [spec_RoundWide.j1] at h⟩
 | k + 1 => by
  obtain ⟨ih0, ih1⟩ := spec_RoundWide.mono_l k
  refine ⟨?_, ?_⟩
  ·intro y0 y1 y2 y3 y4 y5 y6 y7 y8
   unfold spec_RoundWide.j0
   repeat' first
   | (with_reducible exact ih0 _ _ _ _ _ _ _ _ _)
   | (with_reducible exact ih1 _ _ _ _ _ _ _)
   | (with_reducible exact spec_WideAdd.mono _ _ _ _ _)
   | (with_reducible exact spec_WideCmp.mono _ _ _ _ _)
   | (with_reducible exact spec_WideDiv.mono _ _ _ _ _)
   | (with_reducible exact spec_WideInt.mono _ _)
   | (with_reducible exact spec_WideSub.mono _ _ _ _ _)
   | (with_reducible exact LeO.refl _)
   | (with_reducible exact LeO.none _)
   | (with_reducible refine LeO.ite ?_ ?_)
   | (with_reducible refine LeO.bind ?_ (fun _ => ?_))
   | exact ih0 _ _ _ _ _ _ _ _ _
   | exact ih1 _ _ _ _ _ _ _
   | exact spec_WideAdd.mono _ _ _ _ _
   | exact spec_WideCmp.mono _ _ _ _ _
   | exact spec_WideDiv.mono _ _ _ _ _
   | exact spec_WideInt.mono _ _
   | exact spec_WideSub.mono _ _ _ _ _
   | exact LeO.none _
   | refine LeO.ite ?_ ?_
   | refine LeO.bind ?_ (fun _ => ?_)
  ·intro y0 y1 y2 y3 y4 y5 y6
   unfold spec_RoundWide.j1
   repeat' first
   | (with_reducible exact ih0 _ _ _ _ _ _ _ _ _)
   | (with_reducible exact ih1 _ _ _ _ _ _ _)
   | (with_reducible exact spec_WideAdd.mono _ _ _ _ _)
   | (with_reducible exact spec_WideCmp.mono _ _ _ _ _)
   | (with_reducible exact spec_WideDiv.mono _ _ _ _ _)
   | (with_reducible exact spec_WideInt.mono _ _)
   | (with_reducible exact spec_WideSub.mono _ _ _ _ _)
   | (with_reducible exact LeO.refl _)
   | (with_reducible exact LeO.none _)
   | (with_reducible refine LeO.ite ?_ ?_)
   | (with_reducible refine LeO.bind ?_ (fun _ => ?_))
   | exact ih0 _ _ _ _ _ _ _ _ _
   | exact ih1 _ _ _ _ _ _ _
   | exact spec_WideAdd.mono _ _ _ _ _
   | exact spec_WideCmp.mono _ _ _ _ _
   | exact spec_WideDiv.mono _ _ _ _ _
   | exact spec_WideInt.mono _ _
   | exact spec_WideSub.mono _ _ _ _ _
   | exact LeO.none _
   | refine LeO.ite ?_ ?_
   | refine LeO.bind ?_ (fun _ => ?_)
theorem spec_RoundWide.mono : ∀ a0 a1 a2 a3 a4 k, LeO (spec_RoundWide.f k a0 a1 a2 a3 a4) (spec_RoundWide.f (k + 1) a0 a1 a2 a3 a4) := by
 intro a0 a1 a2 a3 a4 k
 obtain ⟨ih0, ih1⟩ := spec_RoundWide.mono_l k
 unfold spec_RoundWide.f
 repeat' first
   | (with_reducible exact ih0 _ _ _ _ _ _ _ _ _)
   | (with_reducible exact ih1 _ _ _ _ _ _ _)
   | (with_reducible exact spec_WideAdd.mono _ _ _ _ _)
   | (with_reducible exact spec_WideCmp.mono _ _ _ _ _)
   | (with_reducible exact spec_WideDiv.mono _ _ _ _ _)
   | (with_reducible exact spec_WideInt.mono _ _)
   | (with_reducible exact spec_WideSub.mono _ _ _ _ _)
   | (with_reducible exact LeO.refl _)
   | (with_reducible exact LeO.none _)
   | (with_reducible refine LeO.ite ?_ ?_)
   | (with_reducible refine LeO.bind ?_ (fun _ => ?_))
   | exact ih0 _ _ _ _ _ _ _ _ _
   | exact ih1 _ _ _ _ _ _ _
   | exact spec_WideAdd.mono _ _ _ _ _
   | exact spec_WideCmp.mono _ _ _ _ _
   | exact spec_WideDiv.mono _ _ _ _ _
   | exact spec_WideInt.mono _ _
   | exact spec_WideSub.mono _ _ _ _ _
   | exact LeO.none _
   | refine LeO.ite ?_ ?_
   | refine LeO.bind ?_ (fun _ => ?_)
def spec_RoundWide.T6 : Bool × List (List Nat × List Nat) := (true, [([], []), ([], []), ([0, 1, 1], [0, 1]), ([], []), ([], []), ([3, 4, 2], [3, 4]), ([2, 5, 0, 1, 2], [2]), ([5, 6, 0, 1, 2, 3, 4, 5, 6], [5])])
def spec_RoundWide.B6 : List Nat := [0, 0, 3, 0, 0, 31, 63, 127]
theorem spec_RoundWide.tab6 : rtab .any (opsOf Try.f22 6) = spec_RoundWide.T6 := by kernel_rfl
theorem spec_RoundWide.bits6 : waitsOk spec_RoundWide.T6.2 spec_RoundWide.B6 = true := by kernel_rfl
set_option maxHeartbeats 8000000 in
set_option maxRecDepth 100000 in
theorem spec_RoundWide.calls (k : Nat) (a0_0 : Bool) (A0_1 : Option Addr) (c0_1 : Nat) (l0_1 : List Int) (a1_0 : Bool) (A1_1 : Option Addr) (c1_1 : Nat) (l1_1 : List Int) (a2 : Int) (r1 : Bool) (r2 : List Int) (w : World) (hr0_1 : Kd.C (Kd.int .u32) w A0_1 l0_1.length l0_1) (hc0_1 : l0_1.length ≤ c0_1) (hr1_1 : Kd.C (Kd.int .u32) w A1_1 l1_1.length l1_1) (hc1_1 : l1_1.length ≤ c1_1) (h : spec_RoundWide.f k a0_0 l0_1 a1_0 l1_1 a2 = some (r1, r2)) :
  Calls Try.prog 22 #[.agg #[.bool a0_0, .slice A0_1 l0_1.length c0_1], .agg #[.bool a1_0, .slice A1_1 l1_1.length c1_1], .int .i64 a2] w fun e w' => ∃ v1_ : Value, e = .returned (.agg #[.bool r1, v1_]) ∧ Kd.V (Kd.int .u32) 22 w' w.heap.size (fun k_ => (w.heap.size ≤ k_)) v1_ r2 ∧ Below w.heap.size w w' := by
 have hu25 := Try.underlying25
 have HR0_1 := qaM hr0_1
 have HC0_1 := qaM hc0_1
 clear hr0_1 hc0_1
 have HR1_1 := qaM hr1_1
 have HC1_1 := qaM hc1_1
 clear hr1_1 hc1_1
 have HB := qaM (Below.refl w.heap.size w)
 have H : ((spec_WideDiv.f k a0_0 l0_1 a1_0 l1_1).bind fun bt367 => ((spec_Wide_Sign.f bt367.2.2.1 bt367.2.2.2).bind fun t377 => (if t377 = 0 then (some (bt367.1, bt367.2.1)) else ((spec_Wide_Sign.f bt367.2.2.1 bt367.2.2.2).bind fun t380 => (if t380 < 0 then ((spec_WideInt.f k 1).bind fun bt381 => ((spec_WideSub.f k bt367.1 bt367.2.1 bt381.1 bt381.2).bind fun bt385 => ((spec_WideAdd.f k bt367.2.2.1 bt367.2.2.2 a1_0 l1_1).bind fun bt389 => (spec_RoundWide.j0 k a2 a0_0 l0_1 a1_0 l1_1 bt385.1 bt385.2 bt389.1 bt389.2)))) else (spec_RoundWide.j0 k a2 a0_0 l0_1 a1_0 l1_1 bt367.1 bt367.2.1 bt367.2.2.1 bt367.2.2.2)))))) = some (r1, r2) := h
 clear h
 replace H := Option.bind_eq_some_iff.mp H
 obtain ⟨⟨t367, t368, t371, t372⟩, A40, H⟩ := H
 replace H : ((spec_Wide_Sign.f t371 t372).bind fun t377 => (if t377 = 0 then (some (t367, t368)) else ((spec_Wide_Sign.f t371 t372).bind fun t380 => (if t380 < 0 then ((spec_WideInt.f k 1).bind fun bt381 => ((spec_WideSub.f k t367 t368 bt381.1 bt381.2).bind fun bt385 => ((spec_WideAdd.f k t371 t372 a1_0 l1_1).bind fun bt389 => (spec_RoundWide.j0 k a2 a0_0 l0_1 a1_0 l1_1 bt385.1 bt385.2 bt389.1 bt389.2)))) else (spec_RoundWide.j0 k a2 a0_0 l0_1 a1_0 l1_1 t367 t368 t371 t372))))) = some (r1, r2) := H
 have A4 := qaM A40
 clear A40
 replace H := Option.bind_eq_some_iff.mp H
 obtain ⟨t377, A50, H⟩ := H
 replace H : (if t377 = 0 then (some (t367, t368)) else ((spec_Wide_Sign.f t371 t372).bind fun t380 => (if t380 < 0 then ((spec_WideInt.f k 1).bind fun bt381 => ((spec_WideSub.f k t367 t368 bt381.1 bt381.2).bind fun bt385 => ((spec_WideAdd.f k t371 t372 a1_0 l1_1).bind fun bt389 => (spec_RoundWide.j0 k a2 a0_0 l0_1 a1_0 l1_1 bt385.1 bt385.2 bt389.1 bt389.2)))) else (spec_RoundWide.j0 k a2 a0_0 l0_1 a1_0 l1_1 t367 t368 t371 t372)))) = some (r1, r2) := H
 have A5 := qaM A50
 clear A50
 by_cases c6 : t377 = 0
 ·rw [if_pos c6] at H
  have c6b0 : (t377 == 0) = true := beq_iff_eq.mpr c6
  have c6b1 : (t377 != 0) = false := bne_eq_false_iff_eq.mpr c6
  clear c6
  simp only [Option.some.injEq, Prod.mk.injEq] at H
  obtain ⟨rfl, rfl⟩ := H
  go_enter Try.func22, Try.ntmps22
  go_wp2_with (first | ((with_reducible refine gate_dst (N := 3) rfl ?_); refine box_event ?hg (N := 3) ?hd (cs := #[.bool a0_0, .slice A0_1 l0_1.length c0_1]) (t := 25) ?hr ?_; (case hd => rfl); (case hg => rfl); (case hr => first | (go_simp; done) | (go_simp; rfl)); intro gb364 hg w7 hbox hb; have n0_ := qaM (qbT zr8_24 hb); have n1_ := qaM (hbox); have n2_ := qaM ((by rw [hg]; exact (qbS zr8_24) : w.heap.size ≤ gb364)); have n3_ := qaM ((by rw [hg]; exact (qbS zr8_24) : w.heap.size ≤ gb364)); clear HB; have HB := n0_; have BK364 := n1_; have GW364 := n2_; have GE364 := n3_; clear n0_ n1_ n2_ n3_; clear hb hbox hg) | ((with_reducible refine gate_dst (N := 4) rfl ?_); refine box_event ?hg (N := 4) ?hd (cs := #[.bool a1_0, .slice A1_1 l1_1.length c1_1]) (t := 25) ?hr ?_; (case hd => rfl); (case hg => rfl); (case hr => first | (go_simp; done) | (go_simp; rfl)); intro gb365 hg w8 hbox hb; have n0_ := qaM (qbB (g := gb364) (o := .cells #[.bool a0_0, .slice A0_1 l0_1.length c0_1] 25 (0, 0)) zr8_1 hb); have n1_ := qaM (qbT zr8_15 hb); have n2_ := qaM (hbox); have n3_ := qaM ((by rw [hg]; exact (qbS zr8_15) : w.heap.size ≤ gb365)); have n4_ := qaM ((by rw [hg]; exact (qbS zr8_15) : w.heap.size ≤ gb365)); have n5_ := qaM ((by rw [hg]; exact qnL (qbL (g := gb364) (o := .cells #[.bool a0_0, .slice A0_1 l0_1.length c0_1] 25 (0, 0)) zr8_1) : gb364 ≠ gb365)); have n6_ := qaM ((by rw [hg]; exact qnG (qbL (g := gb364) (o := .cells #[.bool a0_0, .slice A0_1 l0_1.length c0_1] 25 (0, 0)) zr8_1) : gb365 ≠ gb364)); clear BK364; clear HB; have BK364 := n0_; have HB := n1_; have BK365 := n2_; have GW365 := n3_; have GE365 := n4_; have NB364_365 := n5_; have NB365_364 := n6_; clear n0_ n1_ n2_ n3_ n4_ n5_ n6_; clear hb hbox hg) | ((with_reducible refine gate_dst (N := 6) rfl ?_); refine box_event ?hg (N := 6) ?hd (cs := #[.bool false, .slice none 0 0]) (t := 25) ?hr ?_; (case hd => rfl); (case hg => rfl); (case hr => first | (go_simp; done) | (go_simp; rfl)); intro gb366 hg w9 hbox hb; have n0_ := qaM (qbB (g := gb364) (o := .cells #[.bool a0_0, .slice A0_1 l0_1.length c0_1] 25 (0, 0)) zr8_1 hb); have n1_ := qaM (qbB (g := gb365) (o := .cells #[.bool a1_0, .slice A1_1 l1_1.length c1_1] 25 (0, 0)) zr8_2 hb); have n2_ := qaM (qbT zr8_14 hb); have n3_ := qaM (hbox); have n4_ := qaM ((by rw [hg]; exact (qbS zr8_14) : w.heap.size ≤ gb366)); have n5_ := qaM ((by rw [hg]; exact (qbS zr8_14) : w.heap.size ≤ gb366)); have n6_ := qaM ((by rw [hg]; exact qnL (qbL (g := gb364) (o := .cells #[.bool a0_0, .slice A0_1 l0_1.length c0_1] 25 (0, 0)) zr8_1) : gb364 ≠ gb366)); have n7_ := qaM ((by rw [hg]; exact qnG (qbL (g := gb364) (o := .cells #[.bool a0_0, .slice A0_1 l0_1.length c0_1] 25 (0, 0)) zr8_1) : gb366 ≠ gb364)); have n8_ := qaM ((by rw [hg]; exact qnL (qbL (g := gb365) (o := .cells #[.bool a1_0, .slice A1_1 l1_1.length c1_1] 25 (0, 0)) zr8_2) : gb365 ≠ gb366)); have n9_ := qaM ((by rw [hg]; exact qnG (qbL (g := gb365) (o := .cells #[.bool a1_0, .slice A1_1 l1_1.length c1_1] 25 (0, 0)) zr8_2) : gb366 ≠ gb365)); clear BK364; clear BK365; clear HB; have BK364 := n0_; have BK365 := n1_; have HB := n2_; have BK366 := n3_; have GW366 := n4_; have GE366 := n5_; have NB364_366 := n6_; have NB366_364 := n7_; have NB365_366 := n8_; have NB366_365 := n9_; clear n0_ n1_ n2_ n3_ n4_ n5_ n6_ n7_ n8_ n9_; clear hb hbox hg; have hnb10 := NB364_365.out; have hnc10 := NB365_364.out; have hnb11 := NB364_366.out; have hnc11 := NB366_364.out; have hcz12_0 : w9.cell? ⟨gb364, 0, none⟩ = some (.bool a0_0) := (qbC BK364.out 0).trans rfl; have hcz12_1 : w9.cell? ⟨gb364, 1, none⟩ = some (.slice A0_1 l0_1.length c0_1) := (qbC BK364.out 1).trans rfl; have hfz12_0 := blk_frozen BK364.out 0; have hfz12_1 := blk_frozen BK364.out 1; have hnb13 := NB365_366.out; have hnc13 := NB366_365.out; have hcz14_0 : w9.cell? ⟨gb365, 0, none⟩ = some (.bool a1_0) := (qbC BK365.out 0).trans rfl; have hcz14_1 : w9.cell? ⟨gb365, 1, none⟩ = some (.slice A1_1 l1_1.length c1_1) := (qbC BK365.out 1).trans rfl; have hfz14_0 := blk_frozen BK365.out 0; have hfz14_1 := blk_frozen BK365.out 1) | ((with_reducible refine gate_callee (f := 33) rfl ?_); refine goesL_ (some 16) rfl rfl Try.func33 zr8_27 rfl #[.agg #[.bool a0_0, .slice A0_1 l0_1.length c0_1], .agg #[.bool a1_0, .slice A1_1 l1_1.length c1_1]] rfl zr8_9 ?_; (with_reducible refine (spec_WideDiv.calls k a0_0 _ _ l0_1 a1_0 _ _ l1_1 t367 t368 t371 t372 _ ?side1 ?side2 ?side3 ?side4 A4.out).mono ?_); (case side1 => repeat (first | exact (Kd.C_below HR0_1.out HB.out) | (with_reducible refine Kd.C_alloc ?_ _) | (with_reducible refine Kd.C_drewN ?_ _) | (with_reducible refine Kd.C_drew ?_))); (case side2 => exact HC0_1.out); (case side3 => repeat (first | exact (Kd.C_below HR1_1.out HB.out) | (with_reducible refine Kd.C_alloc ?_ _) | (with_reducible refine Kd.C_drewN ?_ _) | (with_reducible refine Kd.C_drew ?_))); (case side4 => exact HC1_1.out); rintro e w15 ⟨v369, v373, rfl, ho0, ho1, hb⟩; refine ⟨_, rfl, ?_⟩; have n0_ := qaM (qvL (qvM (ok' := fun k_ => (w.heap.size ≤ k_) ∧ k_ ≠ gb364 ∧ k_ ≠ gb365 ∧ k_ ≠ gb366) ho0 (fun k_ hk_ => ⟨(Nat.le_trans (qbS zr8_6) hk_), (qfB (g := gb364) (o := .cells #[.bool a0_0, .slice A0_1 l0_1.length c0_1] 25 (0, 0)) zr8_1 k_ hk_), (qfB (g := gb365) (o := .cells #[.bool a1_0, .slice A1_1 l1_1.length c1_1] 25 (0, 0)) zr8_2 k_ hk_), (qfB (g := gb366) (o := .cells #[.bool false, .slice none 0 0] 25 (0, 0)) zr8_3 k_ hk_)⟩)) (qbS zr8_6)); have n1_ := qaM (qvL (qvM (ok' := fun k_ => (w.heap.size ≤ k_) ∧ k_ ≠ gb364 ∧ k_ ≠ gb365 ∧ k_ ≠ gb366) ho1 (fun k_ hk_ => ⟨(Nat.le_trans (qbS zr8_6) hk_), (qfB (g := gb364) (o := .cells #[.bool a0_0, .slice A0_1 l0_1.length c0_1] 25 (0, 0)) zr8_1 k_ hk_), (qfB (g := gb365) (o := .cells #[.bool a1_0, .slice A1_1 l1_1.length c1_1] 25 (0, 0)) zr8_2 k_ hk_), (qfB (g := gb366) (o := .cells #[.bool false, .slice none 0 0] 25 (0, 0)) zr8_3 k_ hk_)⟩)) (qbS zr8_6)); have n2_ := qaM (qbB (g := gb364) (o := .cells #[.bool a0_0, .slice A0_1 l0_1.length c0_1] 25 (0, 0)) zr8_1 hb); have n3_ := qaM (qbB (g := gb365) (o := .cells #[.bool a1_0, .slice A1_1 l1_1.length c1_1] 25 (0, 0)) zr8_2 hb); have n4_ := qaM (qbB (g := gb366) (o := .cells #[.bool false, .slice none 0 0] 25 (0, 0)) zr8_3 hb); have n5_ := qaM (qbT zr8_6 hb); clear BK364; clear BK365; clear BK366; clear HB; have HO370 := n0_; have HO374 := n1_; have BK364 := n2_; have BK365 := n3_; have BK366 := n4_; have HB := n5_; clear n0_ n1_ n2_ n3_ n4_ n5_; (try clear hb); (try clear hb2); (try clear hk); (try clear hi); (try clear ho0); (try clear ho1)) | ((with_reducible refine gate_dst (N := 7) rfl ?_); refine box_event ?hg (N := 7) ?hd (cs := #[.bool false, .slice none 0 0]) (t := 25) ?hr ?_; (case hd => rfl); (case hg => rfl); (case hr => first | (go_simp; done) | (go_simp; rfl)); intro gb375 hg w16 hbox hb; have n0_ := qaM (qvB (qvE zr8_12 gb375 (Nat.le_of_eq hg.symm)) hb); have n1_ := qaM (qvB (qvE zr8_13 gb375 (Nat.le_of_eq hg.symm)) hb); have n2_ := qaM (qbB (g := gb364) (o := .cells #[.bool a0_0, .slice A0_1 l0_1.length c0_1] 25 (0, 0)) zr8_1 hb); have n3_ := qaM (qbB (g := gb365) (o := .cells #[.bool a1_0, .slice A1_1 l1_1.length c1_1] 25 (0, 0)) zr8_2 hb); have n4_ := qaM (qbB (g := gb366) (o := .cells #[.bool false, .slice none 0 0] 25 (0, 0)) zr8_3 hb); have n5_ := qaM (qbT zr8_6 hb); have n6_ := qaM (hbox); have n7_ := qaM ((by rw [hg]; exact (qbS zr8_6) : w.heap.size ≤ gb375)); have n8_ := qaM ((by rw [hg]; exact (qbS zr8_6) : w.heap.size ≤ gb375)); have n9_ := qaM ((by rw [hg]; exact qnL (qbL (g := gb364) (o := .cells #[.bool a0_0, .slice A0_1 l0_1.length c0_1] 25 (0, 0)) zr8_1) : gb364 ≠ gb375)); have n10_ := qaM ((by rw [hg]; exact qnG (qbL (g := gb364) (o := .cells #[.bool a0_0, .slice A0_1 l0_1.length c0_1] 25 (0, 0)) zr8_1) : gb375 ≠ gb364)); have n11_ := qaM ((by rw [hg]; exact qnL (qbL (g := gb365) (o := .cells #[.bool a1_0, .slice A1_1 l1_1.length c1_1] 25 (0, 0)) zr8_2) : gb365 ≠ gb375)); have n12_ := qaM ((by rw [hg]; exact qnG (qbL (g := gb365) (o := .cells #[.bool a1_0, .slice A1_1 l1_1.length c1_1] 25 (0, 0)) zr8_2) : gb375 ≠ gb365)); have n13_ := qaM ((by rw [hg]; exact qnL (qbL (g := gb366) (o := .cells #[.bool false, .slice none 0 0] 25 (0, 0)) zr8_3) : gb366 ≠ gb375)); have n14_ := qaM ((by rw [hg]; exact qnG (qbL (g := gb366) (o := .cells #[.bool false, .slice none 0 0] 25 (0, 0)) zr8_3) : gb375 ≠ gb366)); clear HO370; clear HO374; clear BK364; clear BK365; clear BK366; clear HB; have HO370 := n0_; have HO374 := n1_; have BK364 := n2_; have BK365 := n3_; have BK366 := n4_; have HB := n5_; have BK375 := n6_; have GW375 := n7_; have GE375 := n8_; have NB364_375 := n9_; have NB375_364 := n10_; have NB365_375 := n11_; have NB375_365 := n12_; have NB366_375 := n13_; have NB375_366 := n14_; clear n0_ n1_ n2_ n3_ n4_ n5_ n6_ n7_ n8_ n9_ n10_ n11_ n12_ n13_ n14_; clear hb hbox hg) | ((with_reducible refine gate_dst (N := 8) rfl ?_); refine box_event ?hg (N := 8) ?hd (cs := #[.bool false, .slice none 0 0]) (t := 25) ?hr ?_; (case hd => rfl); (case hg => rfl); (case hr => first | (go_simp; done) | (go_simp; rfl)); intro gb376 hg w17 hbox hb; have n0_ := qaM (qvB (qvE zr8_12 gb376 (Nat.le_of_eq hg.symm)) hb); have n1_ := qaM (qvB (qvE zr8_13 gb376 (Nat.le_of_eq hg.symm)) hb); have n2_ := qaM (qbB (g := gb364) (o := .cells #[.bool a0_0, .slice A0_1 l0_1.length c0_1] 25 (0, 0)) zr8_1 hb); have n3_ := qaM (qbB (g := gb365) (o := .cells #[.bool a1_0, .slice A1_1 l1_1.length c1_1] 25 (0, 0)) zr8_2 hb); have n4_ := qaM (qbB (g := gb366) (o := .cells #[.bool false, .slice none 0 0] 25 (0, 0)) zr8_3 hb); have n5_ := qaM (qbB (g := gb375) (o := .cells #[.bool false, .slice none 0 0] 25 (0, 0)) zr8_4 hb); have n6_ := qaM (qbT zr8_11 hb); have n7_ := qaM (hbox); have n8_ := qaM ((by rw [hg]; exact (qbS zr8_11) : w.heap.size ≤ gb376)); have n9_ := qaM ((by rw [hg]; exact (qbS zr8_11) : w.heap.size ≤ gb376)); have n10_ := qaM ((by rw [hg]; exact qnL (qbL (g := gb364) (o := .cells #[.bool a0_0, .slice A0_1 l0_1.length c0_1] 25 (0, 0)) zr8_1) : gb364 ≠ gb376)); have n11_ := qaM ((by rw [hg]; exact qnG (qbL (g := gb364) (o := .cells #[.bool a0_0, .slice A0_1 l0_1.length c0_1] 25 (0, 0)) zr8_1) : gb376 ≠ gb364)); have n12_ := qaM ((by rw [hg]; exact qnL (qbL (g := gb365) (o := .cells #[.bool a1_0, .slice A1_1 l1_1.length c1_1] 25 (0, 0)) zr8_2) : gb365 ≠ gb376)); have n13_ := qaM ((by rw [hg]; exact qnG (qbL (g := gb365) (o := .cells #[.bool a1_0, .slice A1_1 l1_1.length c1_1] 25 (0, 0)) zr8_2) : gb376 ≠ gb365)); have n14_ := qaM ((by rw [hg]; exact qnL (qbL (g := gb366) (o := .cells #[.bool false, .slice none 0 0] 25 (0, 0)) zr8_3) : gb366 ≠ gb376)); have n15_ := qaM ((by rw [hg]; exact qnG (qbL (g := gb366) (o := .cells #[.bool false, .slice none 0 0] 25 (0, 0)) zr8_3) : gb376 ≠ gb366)); have n16_ := qaM ((by rw [hg]; exact qnL (qbL (g := gb375) (o := .cells #[.bool false, .slice none 0 0] 25 (0, 0)) zr8_4) : gb375 ≠ gb376)); have n17_ := qaM ((by rw [hg]; exact qnG (qbL (g := gb375) (o := .cells #[.bool false, .slice none 0 0] 25 (0, 0)) zr8_4) : gb376 ≠ gb375)); clear HO370; clear HO374; clear BK364; clear BK365; clear BK366; clear BK375; clear HB; have HO370 := n0_; have HO374 := n1_; have BK364 := n2_; have BK365 := n3_; have BK366 := n4_; have BK375 := n5_; have HB := n6_; have BK376 := n7_; have GW376 := n8_; have GE376 := n9_; have NB364_376 := n10_; have NB376_364 := n11_; have NB365_376 := n12_; have NB376_365 := n13_; have NB366_376 := n14_; have NB376_366 := n15_; have NB375_376 := n16_; have NB376_375 := n17_; clear n0_ n1_ n2_ n3_ n4_ n5_ n6_ n7_ n8_ n9_ n10_ n11_ n12_ n13_ n14_ n15_ n16_ n17_; clear hb hbox hg; have hnb18 := NB375_364.out; have hnc18 := NB364_375.out; have hnb19 := NB375_365.out; have hnc19 := NB365_375.out; have hnb20 := NB375_366.out; have hnc20 := NB366_375.out; have hnb21 := NB375_376.out; have hnc21 := NB376_375.out; have hcz22_0 : w17.cell? ⟨gb375, 0, none⟩ = some (.bool false) := (qbC BK375.out 0).trans rfl; have hcz22_1 : w17.cell? ⟨gb375, 1, none⟩ = some (.slice none 0 0) := (qbC BK375.out 1).trans rfl; have hfz22_0 := blk_frozen BK375.out 0; have hfz22_1 := blk_frozen BK375.out 1; obtain ⟨Ao23, co23, eo23⟩ := Kd.V_slice HO370.out; subst eo23; have hnb24 := NB376_364.out; have hnc24 := NB364_376.out; have hnb25 := NB376_365.out; have hnc25 := NB365_376.out; have hnb26 := NB376_366.out; have hnc26 := NB366_376.out; have hcz27_0 : w17.cell? ⟨gb376, 0, none⟩ = some (.bool false) := (qbC BK376.out 0).trans rfl; have hcz27_1 : w17.cell? ⟨gb376, 1, none⟩ = some (.slice none 0 0) := (qbC BK376.out 1).trans rfl; have hfz27_0 := blk_frozen BK376.out 0; have hfz27_1 := blk_frozen BK376.out 1; obtain ⟨Ao28, co28, eo28⟩ := Kd.V_slice HO374.out; subst eo28) | ((with_reducible refine gate_callee (f := 40) rfl ?_); refine goesL_ (some 20) rfl rfl Try.func40 zr8_27 rfl #[.agg #[.bool t371, .slice Ao28 t372.length co28]] rfl zr8_9 ?_; (with_reducible refine (spec_Wide_Sign.calls t371 _ _ t372 t377 _ ?side1 ?side2 A5.out).mono ?_); (case side1 => refine (qvR (e := 22) (base := w.heap.size) (ok := fun k_ => ((((w.heap.size ≤ k_) ∧ (k_ ≠ gb364 ∧ (k_ ≠ gb365 ∧ k_ ≠ gb366))) ∧ k_ ≠ gb375) ∧ k_ ≠ gb376)) (n := t372.length) (c := co28) ?_).2.2; exact zr8_22); (case side2 => exact (qvR HO374.out).2.1); rintro e w29 ⟨rfl, hb⟩; refine ⟨_, rfl, ?_⟩; have n0_ := qaM (qvB (by (with_reducible repeat (first | apply qvA | apply qvN | apply qvD)); exact (qvM (qvM (qvF (p := ⟨gb376, 1, none⟩) (qvF (p := ⟨gb376, 0, none⟩) (qvF (p := ⟨gb375, 1, none⟩) (qvF (p := ⟨gb375, 0, none⟩) (qvM (qvM HO370.out (fun k_ hk => (⟨hk, hk.1.2⟩ : _ ∧ k_ ≠ gb375))) (fun k_ hk => (⟨hk, hk.1.2⟩ : _ ∧ k_ ≠ gb376))) (fun _ hk => hk.1.2) (.bool t367)) (fun _ hk => hk.1.2) (.slice Ao23 t368.length co23)) (fun _ hk => hk.2) (.bool t371)) (fun _ hk => hk.2) (.slice Ao28 t372.length co28)) (fun _ h_ => h_.1)) (fun _ h_ => h_.1))) hb); have n1_ := qaM (qvB zr8_22 hb); have n2_ := qaM (qbB (g := gb364) (o := .cells #[.bool a0_0, .slice A0_1 l0_1.length c0_1] 25 (0, 0)) zr8_19 hb); have n3_ := qaM (qbB (g := gb365) (o := .cells #[.bool a1_0, .slice A1_1 l1_1.length c1_1] 25 (0, 0)) zr8_20 hb); have n4_ := qaM (qbB (g := gb366) (o := .cells #[.bool false, .slice none 0 0] 25 (0, 0)) zr8_21 hb); have n5_ := qaM (qbB (g := gb375) (o := .cells #[.bool t367, .slice Ao23 t368.length co23] 25 (0, 0)) zr8_16 hb); have n6_ := qaM (qbB (g := gb376) (o := .cells #[.bool t371, .slice Ao28 t372.length co28] 25 (0, 0)) zr8_17 hb); have n7_ := qaM (qbT zr8_10 hb); clear HO370; clear HO374; clear BK364; clear BK365; clear BK366; clear BK375; clear BK376; clear HB; have HO370 := n0_; have HO374 := n1_; have BK364 := n2_; have BK365 := n3_; have BK366 := n4_; have BK375 := n5_; have BK376 := n6_; have HB := n7_; clear n0_ n1_ n2_ n3_ n4_ n5_ n6_ n7_; (try clear hb); (try clear hb2); (try clear hk); (try clear hi); have hcz30_0 : w29.cell? ⟨gb375, 0, none⟩ = some (.bool t367) := (qbC BK375.out 0).trans rfl; have hcz30_1 : w29.cell? ⟨gb375, 1, none⟩ = some (.slice Ao23 t368.length co23) := (qbC BK375.out 1).trans rfl; have hfz30_0 := blk_frozen BK375.out 0; have hfz30_1 := blk_frozen BK375.out 1; have hcz31_0 : w29.cell? ⟨gb366, 0, none⟩ = some (.bool false) := (qbC BK366.out 0).trans rfl; have hcz31_1 : w29.cell? ⟨gb366, 1, none⟩ = some (.slice none 0 0) := (qbC BK366.out 1).trans rfl; have hfz31_0 := blk_frozen BK366.out 0; have hfz31_1 := blk_frozen BK366.out 1))
  refine bodyPost_ret (results_cell_row rfl _ _ gb366 25 #[.bool t367, .slice Ao23 t368.length co23] (0, 0) _ rfl (by (with_reducible repeat (first | refine qbN ?_ _ | refine qbD ?_ | refine qbA ?_ _)); refine qbP (cs := #[.bool t367, .slice none 0 0]) ?_ 1 _ rfl; (with_reducible repeat (first | refine qbN ?_ _ | refine qbD ?_ | refine qbA ?_ _)); refine qbP (cs := #[.bool false, .slice none 0 0]) ?_ 0 _ rfl; (with_reducible repeat (first | refine qbN ?_ _ | refine qbD ?_ | refine qbA ?_ _)); exact BK366.out) Try.underlying25 rfl zr8_27) rfl ?_
  exact ⟨_, by first | rfl | (simp [errW_none, errW_some] <;> rfl) | (simp [*, errW_none, errW_some] <;> rfl), by (with_reducible repeat (first | apply qvA | apply qvN | apply qvD)); exact qvM (qvF (p := ⟨gb366, 1, none⟩) (qvF (p := ⟨gb366, 0, none⟩) (qvM HO370.out (fun k_ hk => (⟨hk, hk.1.1.2.2.2⟩ : _ ∧ k_ ≠ gb366))) (fun _ hk => hk.2) (.bool t367)) (fun _ hk => hk.2) (.slice Ao23 t368.length co23)) (fun _ hk => hk.1.1.1.1), by repeat (first | (with_reducible first | exact HB.out | apply qwA | apply qwN | apply qwD | refine qwS ?_ GE364.out | refine qwS ?_ GE365.out | refine qwS ?_ GE366.out | refine qwS ?_ GE375.out | refine qwS ?_ GE376.out) | exact HB.out)⟩
 ·rw [if_neg c6] at H
  have c6b0 : (t377 == 0) = false := beq_eq_false_iff_ne.mpr c6
  have c6b1 : (t377 != 0) = true := bne_iff_ne.mpr c6
  replace H := Option.bind_eq_some_iff.mp H
  obtain ⟨t380, A320, H⟩ := H
  replace H : (if t380 < 0 then ((spec_WideInt.f k 1).bind fun bt381 => ((spec_WideSub.f k t367 t368 bt381.1 bt381.2).bind fun bt385 => ((spec_WideAdd.f k t371 t372 a1_0 l1_1).bind fun bt389 => (spec_RoundWide.j0 k a2 a0_0 l0_1 a1_0 l1_1 bt385.1 bt385.2 bt389.1 bt389.2)))) else (spec_RoundWide.j0 k a2 a0_0 l0_1 a1_0 l1_1 t367 t368 t371 t372)) = some (r1, r2) := H
  have A32 := qaM A320
  clear A320
  have HC33 := qaM H
  clear H
  go_enter Try.func22, Try.ntmps22
  try go_wp2_with (first | ((with_reducible refine gate_dst (N := 3) rfl ?_); refine box_event ?hg (N := 3) ?hd (cs := #[.bool a0_0, .slice A0_1 l0_1.length c0_1]) (t := 25) ?hr ?_; (case hd => rfl); (case hg => rfl); (case hr => first | (go_simp; done) | (go_simp; rfl)); intro gb364 hg w34 hbox hb; have n0_ := qaM (qbT zr8_24 hb); have n1_ := qaM (hbox); have n2_ := qaM ((by rw [hg]; exact (qbS zr8_24) : w.heap.size ≤ gb364)); have n3_ := qaM ((by rw [hg]; exact (qbS zr8_24) : w.heap.size ≤ gb364)); clear HB; have HB := n0_; have BK364 := n1_; have GW364 := n2_; have GE364 := n3_; clear n0_ n1_ n2_ n3_; clear hb hbox hg) | ((with_reducible refine gate_dst (N := 4) rfl ?_); refine box_event ?hg (N := 4) ?hd (cs := #[.bool a1_0, .slice A1_1 l1_1.length c1_1]) (t := 25) ?hr ?_; (case hd => rfl); (case hg => rfl); (case hr => first | (go_simp; done) | (go_simp; rfl)); intro gb365 hg w35 hbox hb; have n0_ := qaM (qbB (g := gb364) (o := .cells #[.bool a0_0, .slice A0_1 l0_1.length c0_1] 25 (0, 0)) zr8_1 hb); have n1_ := qaM (qbT zr8_15 hb); have n2_ := qaM (hbox); have n3_ := qaM ((by rw [hg]; exact (qbS zr8_15) : w.heap.size ≤ gb365)); have n4_ := qaM ((by rw [hg]; exact (qbS zr8_15) : w.heap.size ≤ gb365)); have n5_ := qaM ((by rw [hg]; exact qnL (qbL (g := gb364) (o := .cells #[.bool a0_0, .slice A0_1 l0_1.length c0_1] 25 (0, 0)) zr8_1) : gb364 ≠ gb365)); have n6_ := qaM ((by rw [hg]; exact qnG (qbL (g := gb364) (o := .cells #[.bool a0_0, .slice A0_1 l0_1.length c0_1] 25 (0, 0)) zr8_1) : gb365 ≠ gb364)); clear BK364; clear HB; have BK364 := n0_; have HB := n1_; have BK365 := n2_; have GW365 := n3_; have GE365 := n4_; have NB364_365 := n5_; have NB365_364 := n6_; clear n0_ n1_ n2_ n3_ n4_ n5_ n6_; clear hb hbox hg) | ((with_reducible refine gate_dst (N := 6) rfl ?_); refine box_event ?hg (N := 6) ?hd (cs := #[.bool false, .slice none 0 0]) (t := 25) ?hr ?_; (case hd => rfl); (case hg => rfl); (case hr => first | (go_simp; done) | (go_simp; rfl)); intro gb366 hg w36 hbox hb; have n0_ := qaM (qbB (g := gb364) (o := .cells #[.bool a0_0, .slice A0_1 l0_1.length c0_1] 25 (0, 0)) zr8_1 hb); have n1_ := qaM (qbB (g := gb365) (o := .cells #[.bool a1_0, .slice A1_1 l1_1.length c1_1] 25 (0, 0)) zr8_2 hb); have n2_ := qaM (qbT zr8_14 hb); have n3_ := qaM (hbox); have n4_ := qaM ((by rw [hg]; exact (qbS zr8_14) : w.heap.size ≤ gb366)); have n5_ := qaM ((by rw [hg]; exact (qbS zr8_14) : w.heap.size ≤ gb366)); have n6_ := qaM ((by rw [hg]; exact qnL (qbL (g := gb364) (o := .cells #[.bool a0_0, .slice A0_1 l0_1.length c0_1] 25 (0, 0)) zr8_1) : gb364 ≠ gb366)); have n7_ := qaM ((by rw [hg]; exact qnG (qbL (g := gb364) (o := .cells #[.bool a0_0, .slice A0_1 l0_1.length c0_1] 25 (0, 0)) zr8_1) : gb366 ≠ gb364)); have n8_ := qaM ((by rw [hg]; exact qnL (qbL (g := gb365) (o := .cells #[.bool a1_0, .slice A1_1 l1_1.length c1_1] 25 (0, 0)) zr8_2) : gb365 ≠ gb366)); have n9_ := qaM ((by rw [hg]; exact qnG (qbL (g := gb365) (o := .cells #[.bool a1_0, .slice A1_1 l1_1.length c1_1] 25 (0, 0)) zr8_2) : gb366 ≠ gb365)); clear BK364; clear BK365; clear HB; have BK364 := n0_; have BK365 := n1_; have HB := n2_; have BK366 := n3_; have GW366 := n4_; have GE366 := n5_; have NB364_366 := n6_; have NB366_364 := n7_; have NB365_366 := n8_; have NB366_365 := n9_; clear n0_ n1_ n2_ n3_ n4_ n5_ n6_ n7_ n8_ n9_; clear hb hbox hg; have hnb37 := NB364_365.out; have hnc37 := NB365_364.out; have hnb38 := NB364_366.out; have hnc38 := NB366_364.out; have hcz39_0 : w36.cell? ⟨gb364, 0, none⟩ = some (.bool a0_0) := (qbC BK364.out 0).trans rfl; have hcz39_1 : w36.cell? ⟨gb364, 1, none⟩ = some (.slice A0_1 l0_1.length c0_1) := (qbC BK364.out 1).trans rfl; have hfz39_0 := blk_frozen BK364.out 0; have hfz39_1 := blk_frozen BK364.out 1; have hnb40 := NB365_366.out; have hnc40 := NB366_365.out; have hcz41_0 : w36.cell? ⟨gb365, 0, none⟩ = some (.bool a1_0) := (qbC BK365.out 0).trans rfl; have hcz41_1 : w36.cell? ⟨gb365, 1, none⟩ = some (.slice A1_1 l1_1.length c1_1) := (qbC BK365.out 1).trans rfl; have hfz41_0 := blk_frozen BK365.out 0; have hfz41_1 := blk_frozen BK365.out 1) | ((with_reducible refine gate_callee (f := 33) rfl ?_); refine goesL_ (some 16) rfl rfl Try.func33 zr8_27 rfl #[.agg #[.bool a0_0, .slice A0_1 l0_1.length c0_1], .agg #[.bool a1_0, .slice A1_1 l1_1.length c1_1]] rfl zr8_9 ?_; (with_reducible refine (spec_WideDiv.calls k a0_0 _ _ l0_1 a1_0 _ _ l1_1 t367 t368 t371 t372 _ ?side1 ?side2 ?side3 ?side4 A4.out).mono ?_); (case side1 => repeat (first | exact (Kd.C_below HR0_1.out HB.out) | (with_reducible refine Kd.C_alloc ?_ _) | (with_reducible refine Kd.C_drewN ?_ _) | (with_reducible refine Kd.C_drew ?_))); (case side2 => exact HC0_1.out); (case side3 => repeat (first | exact (Kd.C_below HR1_1.out HB.out) | (with_reducible refine Kd.C_alloc ?_ _) | (with_reducible refine Kd.C_drewN ?_ _) | (with_reducible refine Kd.C_drew ?_))); (case side4 => exact HC1_1.out); rintro e w42 ⟨v369, v373, rfl, ho0, ho1, hb⟩; refine ⟨_, rfl, ?_⟩; have n0_ := qaM (qvL (qvM (ok' := fun k_ => (w.heap.size ≤ k_) ∧ k_ ≠ gb364 ∧ k_ ≠ gb365 ∧ k_ ≠ gb366) ho0 (fun k_ hk_ => ⟨(Nat.le_trans (qbS zr8_6) hk_), (qfB (g := gb364) (o := .cells #[.bool a0_0, .slice A0_1 l0_1.length c0_1] 25 (0, 0)) zr8_1 k_ hk_), (qfB (g := gb365) (o := .cells #[.bool a1_0, .slice A1_1 l1_1.length c1_1] 25 (0, 0)) zr8_2 k_ hk_), (qfB (g := gb366) (o := .cells #[.bool false, .slice none 0 0] 25 (0, 0)) zr8_3 k_ hk_)⟩)) (qbS zr8_6)); have n1_ := qaM (qvL (qvM (ok' := fun k_ => (w.heap.size ≤ k_) ∧ k_ ≠ gb364 ∧ k_ ≠ gb365 ∧ k_ ≠ gb366) ho1 (fun k_ hk_ => ⟨(Nat.le_trans (qbS zr8_6) hk_), (qfB (g := gb364) (o := .cells #[.bool a0_0, .slice A0_1 l0_1.length c0_1] 25 (0, 0)) zr8_1 k_ hk_), (qfB (g := gb365) (o := .cells #[.bool a1_0, .slice A1_1 l1_1.length c1_1] 25 (0, 0)) zr8_2 k_ hk_), (qfB (g := gb366) (o := .cells #[.bool false, .slice none 0 0] 25 (0, 0)) zr8_3 k_ hk_)⟩)) (qbS zr8_6)); have n2_ := qaM (qbB (g := gb364) (o := .cells #[.bool a0_0, .slice A0_1 l0_1.length c0_1] 25 (0, 0)) zr8_1 hb); have n3_ := qaM (qbB (g := gb365) (o := .cells #[.bool a1_0, .slice A1_1 l1_1.length c1_1] 25 (0, 0)) zr8_2 hb); have n4_ := qaM (qbB (g := gb366) (o := .cells #[.bool false, .slice none 0 0] 25 (0, 0)) zr8_3 hb); have n5_ := qaM (qbT zr8_6 hb); clear BK364; clear BK365; clear BK366; clear HB; have HO370 := n0_; have HO374 := n1_; have BK364 := n2_; have BK365 := n3_; have BK366 := n4_; have HB := n5_; clear n0_ n1_ n2_ n3_ n4_ n5_; (try clear hb); (try clear hb2); (try clear hk); (try clear hi); (try clear ho0); (try clear ho1)) | ((with_reducible refine gate_dst (N := 7) rfl ?_); refine box_event ?hg (N := 7) ?hd (cs := #[.bool false, .slice none 0 0]) (t := 25) ?hr ?_; (case hd => rfl); (case hg => rfl); (case hr => first | (go_simp; done) | (go_simp; rfl)); intro gb375 hg w43 hbox hb; have n0_ := qaM (qvB (qvE zr8_12 gb375 (Nat.le_of_eq hg.symm)) hb); have n1_ := qaM (qvB (qvE zr8_13 gb375 (Nat.le_of_eq hg.symm)) hb); have n2_ := qaM (qbB (g := gb364) (o := .cells #[.bool a0_0, .slice A0_1 l0_1.length c0_1] 25 (0, 0)) zr8_1 hb); have n3_ := qaM (qbB (g := gb365) (o := .cells #[.bool a1_0, .slice A1_1 l1_1.length c1_1] 25 (0, 0)) zr8_2 hb); have n4_ := qaM (qbB (g := gb366) (o := .cells #[.bool false, .slice none 0 0] 25 (0, 0)) zr8_3 hb); have n5_ := qaM (qbT zr8_6 hb); have n6_ := qaM (hbox); have n7_ := qaM ((by rw [hg]; exact (qbS zr8_6) : w.heap.size ≤ gb375)); have n8_ := qaM ((by rw [hg]; exact (qbS zr8_6) : w.heap.size ≤ gb375)); have n9_ := qaM ((by rw [hg]; exact qnL (qbL (g := gb364) (o := .cells #[.bool a0_0, .slice A0_1 l0_1.length c0_1] 25 (0, 0)) zr8_1) : gb364 ≠ gb375)); have n10_ := qaM ((by rw [hg]; exact qnG (qbL (g := gb364) (o := .cells #[.bool a0_0, .slice A0_1 l0_1.length c0_1] 25 (0, 0)) zr8_1) : gb375 ≠ gb364)); have n11_ := qaM ((by rw [hg]; exact qnL (qbL (g := gb365) (o := .cells #[.bool a1_0, .slice A1_1 l1_1.length c1_1] 25 (0, 0)) zr8_2) : gb365 ≠ gb375)); have n12_ := qaM ((by rw [hg]; exact qnG (qbL (g := gb365) (o := .cells #[.bool a1_0, .slice A1_1 l1_1.length c1_1] 25 (0, 0)) zr8_2) : gb375 ≠ gb365)); have n13_ := qaM ((by rw [hg]; exact qnL (qbL (g := gb366) (o := .cells #[.bool false, .slice none 0 0] 25 (0, 0)) zr8_3) : gb366 ≠ gb375)); have n14_ := qaM ((by rw [hg]; exact qnG (qbL (g := gb366) (o := .cells #[.bool false, .slice none 0 0] 25 (0, 0)) zr8_3) : gb375 ≠ gb366)); clear HO370; clear HO374; clear BK364; clear BK365; clear BK366; clear HB; have HO370 := n0_; have HO374 := n1_; have BK364 := n2_; have BK365 := n3_; have BK366 := n4_; have HB := n5_; have BK375 := n6_; have GW375 := n7_; have GE375 := n8_; have NB364_375 := n9_; have NB375_364 := n10_; have NB365_375 := n11_; have NB375_365 := n12_; have NB366_375 := n13_; have NB375_366 := n14_; clear n0_ n1_ n2_ n3_ n4_ n5_ n6_ n7_ n8_ n9_ n10_ n11_ n12_ n13_ n14_; clear hb hbox hg) | ((with_reducible refine gate_dst (N := 8) rfl ?_); refine box_event ?hg (N := 8) ?hd (cs := #[.bool false, .slice none 0 0]) (t := 25) ?hr ?_; (case hd => rfl); (case hg => rfl); (case hr => first | (go_simp; done) | (go_simp; rfl)); intro gb376 hg w44 hbox hb; have n0_ := qaM (qvB (qvE zr8_12 gb376 (Nat.le_of_eq hg.symm)) hb); have n1_ := qaM (qvB (qvE zr8_13 gb376 (Nat.le_of_eq hg.symm)) hb); have n2_ := qaM (qbB (g := gb364) (o := .cells #[.bool a0_0, .slice A0_1 l0_1.length c0_1] 25 (0, 0)) zr8_1 hb); have n3_ := qaM (qbB (g := gb365) (o := .cells #[.bool a1_0, .slice A1_1 l1_1.length c1_1] 25 (0, 0)) zr8_2 hb); have n4_ := qaM (qbB (g := gb366) (o := .cells #[.bool false, .slice none 0 0] 25 (0, 0)) zr8_3 hb); have n5_ := qaM (qbB (g := gb375) (o := .cells #[.bool false, .slice none 0 0] 25 (0, 0)) zr8_4 hb); have n6_ := qaM (qbT zr8_11 hb); have n7_ := qaM (hbox); have n8_ := qaM ((by rw [hg]; exact (qbS zr8_11) : w.heap.size ≤ gb376)); have n9_ := qaM ((by rw [hg]; exact (qbS zr8_11) : w.heap.size ≤ gb376)); have n10_ := qaM ((by rw [hg]; exact qnL (qbL (g := gb364) (o := .cells #[.bool a0_0, .slice A0_1 l0_1.length c0_1] 25 (0, 0)) zr8_1) : gb364 ≠ gb376)); have n11_ := qaM ((by rw [hg]; exact qnG (qbL (g := gb364) (o := .cells #[.bool a0_0, .slice A0_1 l0_1.length c0_1] 25 (0, 0)) zr8_1) : gb376 ≠ gb364)); have n12_ := qaM ((by rw [hg]; exact qnL (qbL (g := gb365) (o := .cells #[.bool a1_0, .slice A1_1 l1_1.length c1_1] 25 (0, 0)) zr8_2) : gb365 ≠ gb376)); have n13_ := qaM ((by rw [hg]; exact qnG (qbL (g := gb365) (o := .cells #[.bool a1_0, .slice A1_1 l1_1.length c1_1] 25 (0, 0)) zr8_2) : gb376 ≠ gb365)); have n14_ := qaM ((by rw [hg]; exact qnL (qbL (g := gb366) (o := .cells #[.bool false, .slice none 0 0] 25 (0, 0)) zr8_3) : gb366 ≠ gb376)); have n15_ := qaM ((by rw [hg]; exact qnG (qbL (g := gb366) (o := .cells #[.bool false, .slice none 0 0] 25 (0, 0)) zr8_3) : gb376 ≠ gb366)); have n16_ := qaM ((by rw [hg]; exact qnL (qbL (g := gb375) (o := .cells #[.bool false, .slice none 0 0] 25 (0, 0)) zr8_4) : gb375 ≠ gb376)); have n17_ := qaM ((by rw [hg]; exact qnG (qbL (g := gb375) (o := .cells #[.bool false, .slice none 0 0] 25 (0, 0)) zr8_4) : gb376 ≠ gb375)); clear HO370; clear HO374; clear BK364; clear BK365; clear BK366; clear BK375; clear HB; have HO370 := n0_; have HO374 := n1_; have BK364 := n2_; have BK365 := n3_; have BK366 := n4_; have BK375 := n5_; have HB := n6_; have BK376 := n7_; have GW376 := n8_; have GE376 := n9_; have NB364_376 := n10_; have NB376_364 := n11_; have NB365_376 := n12_; have NB376_365 := n13_; have NB366_376 := n14_; have NB376_366 := n15_; have NB375_376 := n16_; have NB376_375 := n17_; clear n0_ n1_ n2_ n3_ n4_ n5_ n6_ n7_ n8_ n9_ n10_ n11_ n12_ n13_ n14_ n15_ n16_ n17_; clear hb hbox hg; have hnb45 := NB375_364.out; have hnc45 := NB364_375.out; have hnb46 := NB375_365.out; have hnc46 := NB365_375.out; have hnb47 := NB375_366.out; have hnc47 := NB366_375.out; have hnb48 := NB375_376.out; have hnc48 := NB376_375.out; have hcz49_0 : w44.cell? ⟨gb375, 0, none⟩ = some (.bool false) := (qbC BK375.out 0).trans rfl; have hcz49_1 : w44.cell? ⟨gb375, 1, none⟩ = some (.slice none 0 0) := (qbC BK375.out 1).trans rfl; have hfz49_0 := blk_frozen BK375.out 0; have hfz49_1 := blk_frozen BK375.out 1; obtain ⟨Ao50, co50, eo50⟩ := Kd.V_slice HO370.out; subst eo50; have hnb51 := NB376_364.out; have hnc51 := NB364_376.out; have hnb52 := NB376_365.out; have hnc52 := NB365_376.out; have hnb53 := NB376_366.out; have hnc53 := NB366_376.out; have hcz54_0 : w44.cell? ⟨gb376, 0, none⟩ = some (.bool false) := (qbC BK376.out 0).trans rfl; have hcz54_1 : w44.cell? ⟨gb376, 1, none⟩ = some (.slice none 0 0) := (qbC BK376.out 1).trans rfl; have hfz54_0 := blk_frozen BK376.out 0; have hfz54_1 := blk_frozen BK376.out 1; obtain ⟨Ao55, co55, eo55⟩ := Kd.V_slice HO374.out; subst eo55) | ((with_reducible refine gate_callee (f := 40) rfl ?_); refine goesL_ (some 20) rfl rfl Try.func40 zr8_27 rfl #[.agg #[.bool t371, .slice Ao55 t372.length co55]] rfl zr8_9 ?_; (with_reducible refine (spec_Wide_Sign.calls t371 _ _ t372 t377 _ ?side1 ?side2 A5.out).mono ?_); (case side1 => refine (qvR (e := 22) (base := w.heap.size) (ok := fun k_ => ((((w.heap.size ≤ k_) ∧ (k_ ≠ gb364 ∧ (k_ ≠ gb365 ∧ k_ ≠ gb366))) ∧ k_ ≠ gb375) ∧ k_ ≠ gb376)) (n := t372.length) (c := co55) ?_).2.2; exact zr8_23); (case side2 => exact (qvR HO374.out).2.1); rintro e w56 ⟨rfl, hb⟩; refine ⟨_, rfl, ?_⟩; have n0_ := qaM (qvB (by (with_reducible repeat (first | apply qvA | apply qvN | apply qvD)); exact (qvM (qvM (qvF (p := ⟨gb376, 1, none⟩) (qvF (p := ⟨gb376, 0, none⟩) (qvF (p := ⟨gb375, 1, none⟩) (qvF (p := ⟨gb375, 0, none⟩) (qvM (qvM HO370.out (fun k_ hk => (⟨hk, hk.1.2⟩ : _ ∧ k_ ≠ gb375))) (fun k_ hk => (⟨hk, hk.1.2⟩ : _ ∧ k_ ≠ gb376))) (fun _ hk => hk.1.2) (.bool t367)) (fun _ hk => hk.1.2) (.slice Ao50 t368.length co50)) (fun _ hk => hk.2) (.bool t371)) (fun _ hk => hk.2) (.slice Ao55 t372.length co55)) (fun _ h_ => h_.1)) (fun _ h_ => h_.1))) hb); have n1_ := qaM (qvB zr8_23 hb); have n2_ := qaM (qbB (g := gb364) (o := .cells #[.bool a0_0, .slice A0_1 l0_1.length c0_1] 25 (0, 0)) zr8_19 hb); have n3_ := qaM (qbB (g := gb365) (o := .cells #[.bool a1_0, .slice A1_1 l1_1.length c1_1] 25 (0, 0)) zr8_20 hb); have n4_ := qaM (qbB (g := gb366) (o := .cells #[.bool false, .slice none 0 0] 25 (0, 0)) zr8_21 hb); have n5_ := qaM (qbB (g := gb375) (o := .cells #[.bool t367, .slice Ao50 t368.length co50] 25 (0, 0)) zr8_16 hb); have n6_ := qaM (qbB (g := gb376) (o := .cells #[.bool t371, .slice Ao55 t372.length co55] 25 (0, 0)) zr8_17 hb); have n7_ := qaM (qbT zr8_10 hb); clear HO370; clear HO374; clear BK364; clear BK365; clear BK366; clear BK375; clear BK376; clear HB; have HO370 := n0_; have HO374 := n1_; have BK364 := n2_; have BK365 := n3_; have BK366 := n4_; have BK375 := n5_; have BK376 := n6_; have HB := n7_; clear n0_ n1_ n2_ n3_ n4_ n5_ n6_ n7_; (try clear hb); (try clear hb2); (try clear hk); (try clear hi)))
  have n0_ := qaM (qvD HO370.out)
  have n1_ := qaM (qvD HO374.out)
  have n2_ := qaM (qbD BK364.out)
  have n3_ := qaM (qbD BK365.out)
  have n4_ := qaM (qbD BK366.out)
  have n5_ := qaM (qbD BK375.out)
  have n6_ := qaM (qbD BK376.out)
  have n7_ := qaM (qwD HB.out)
  clear HO370
  clear HO374
  clear BK364
  clear BK365
  clear BK366
  clear BK375
  clear BK376
  clear HB
  have HO370 := n0_
  have HO374 := n1_
  have BK364 := n2_
  have BK365 := n3_
  have BK366 := n4_
  have BK375 := n5_
  have BK376 := n6_
  have HB := n7_
  clear n0_ n1_ n2_ n3_ n4_ n5_ n6_ n7_
  refine start_ (n := 6) (S := fun w' => w'.cell? ⟨gb375, 0, none⟩ = some (.bool t367) ∧ w'.cell? ⟨gb375, 1, none⟩ = some (.slice Ao50 t368.length co50) ∧ w'.cell? ⟨gb376, 0, none⟩ = some (.bool t371) ∧ w'.cell? ⟨gb376, 1, none⟩ = some (.slice Ao55 t372.length co55)) (ds := []) #[false, false, false, false, false, false] zr8_27 rfl rfl ⟨(qbC BK375.out 0).trans rfl, (qbC BK375.out 1).trans rfl, (qbC BK376.out 0).trans rfl, (qbC BK376.out 1).trans rfl⟩ (fun hHeld => ?_)
  generalize w56.drew = w57 at HO370 HO374 BK364 BK365 BK366 BK375 BK376 HB hHeld ⊢
  refine take_ (i := 0) (N := some 23) (v := ?_) (a' := ?_) #[true, false, false, false, false, false] rfl rfl zr8_27 (fun _ _ _ h => h) (Or.inl ⟨by rfl, ?_⟩) hHeld ?_ ?_
  rotate_left
  ·rintro w' ⟨s0, s1, s2, s3⟩
   go_simp
   with_reducible rfl
  rotate_left
  ·simp only [Act.put, qsA, qsZ, qsS, i64_w, i32_w]
   rfl
  refine take_ (i := 1) (N := some 24) (v := ?_) (a' := ?_) #[true, true, false, false, false, false] rfl rfl zr8_27 (fun _ _ _ h => h) (Or.inl ⟨by rfl, ?_⟩) hHeld ?_ ?_
  rotate_left
  ·rintro w' ⟨s0, s1, s2, s3⟩
   go_simp
   with_reducible rfl
  rotate_left
  ·simp only [Act.put, qsA, qsZ, qsS, i64_w, i32_w]
   rfl
  refine join_ (σ := Nat × Nat) 2 #[true, true, true, true, false, false] (fun s_ => [(9, .pointer (some ⟨s_.1, 0, none⟩)), (10, .pointer (some ⟨s_.2, 0, none⟩))]) (fun s_ w' => (w'.cell? ⟨gb375, 0, none⟩ = some (.bool t367) ∧ w'.cell? ⟨gb375, 1, none⟩ = some (.slice Ao50 t368.length co50) ∧ w'.cell? ⟨gb376, 0, none⟩ = some (.bool t371) ∧ w'.cell? ⟨gb376, 1, none⟩ = some (.slice Ao55 t372.length co55)) ∧ (Kd.V (Kd.int .u32) 22 w' w.heap.size (fun k_ => (w.heap.size ≤ k_) ∧ k_ ≠ gb364 ∧ k_ ≠ gb365 ∧ k_ ≠ gb366 ∧ k_ ≠ gb375 ∧ k_ ≠ gb376 ∧ k_ ≠ s_.1 ∧ k_ ≠ s_.2) (.slice Ao50 t368.length co50) t368) ∧ (Kd.V (Kd.int .u32) 22 w' w.heap.size (fun k_ => (w.heap.size ≤ k_) ∧ k_ ≠ gb364 ∧ k_ ≠ gb365 ∧ k_ ≠ gb366 ∧ k_ ≠ gb375 ∧ k_ ≠ gb376 ∧ k_ ≠ s_.1 ∧ k_ ≠ s_.2) (.slice Ao55 t372.length co55) t372) ∧ (w'.heap[gb364]? = some (.cells #[.bool a0_0, .slice A0_1 l0_1.length c0_1] 25 (0, 0))) ∧ (w'.heap[gb365]? = some (.cells #[.bool a1_0, .slice A1_1 l1_1.length c1_1] 25 (0, 0))) ∧ (w'.heap[gb366]? = some (.cells #[.bool false, .slice none 0 0] 25 (0, 0))) ∧ (w'.heap[gb375]? = some (.cells #[.bool t367, .slice Ao50 t368.length co50] 25 (0, 0))) ∧ (w'.heap[gb376]? = some (.cells #[.bool t371, .slice Ao55 t372.length co55] 25 (0, 0))) ∧ (w'.heap[s_.1]? = some (.cells #[.bool false, .slice none 0 0] 25 (0, 0))) ∧ (w'.heap[s_.2]? = some (.cells #[.bool false, .slice none 0 0] 25 (0, 0))) ∧ (w.heap.size ≤ s_.1) ∧ (w.heap.size ≤ s_.1) ∧ (gb364 ≠ s_.1) ∧ (s_.1 ≠ gb364) ∧ (gb365 ≠ s_.1) ∧ (s_.1 ≠ gb365) ∧ (gb366 ≠ s_.1) ∧ (s_.1 ≠ gb366) ∧ (gb375 ≠ s_.1) ∧ (s_.1 ≠ gb375) ∧ (gb376 ≠ s_.1) ∧ (s_.1 ≠ gb376) ∧ (s_.2 ≠ s_.1) ∧ (s_.1 ≠ s_.2) ∧ (w.heap.size ≤ s_.2) ∧ (w.heap.size ≤ s_.2) ∧ (gb364 ≠ s_.2) ∧ (s_.2 ≠ gb364) ∧ (gb365 ≠ s_.2) ∧ (s_.2 ≠ gb365) ∧ (gb366 ≠ s_.2) ∧ (s_.2 ≠ gb366) ∧ (gb375 ≠ s_.2) ∧ (s_.2 ≠ gb375) ∧ (gb376 ≠ s_.2) ∧ (s_.2 ≠ gb376) ∧ (Below w.heap.size w w')) ?_ ?_
  rotate_left
  ·intro hCont
   refine two_ (i := 2) (j := 3) (Ni := some 9) (Nj := some 10) #[true, true, true, false, false, false] #[true, true, false, true, false, false] rfl rfl rfl rfl zr8_27 (by decide) (by decide) (fun K hK => ?_) (fun K hK => ?_)
   ·skip
    refine box_step ?hg (N := 9) ?hd (cs := #[.bool false, .slice none 0 0]) (t := 25) ?hr ?_; (case hd => rfl); (case hg => rfl); (case hr => first | (go_simp; done) | (go_simp; rfl))
    intro gb378 hg w58 hbox hb
    have n0_ := qaM (qvB (qvE zr8_12 gb378 (Nat.le_of_eq hg.symm)) hb)
    have n1_ := qaM (qvB (qvE zr8_13 gb378 (Nat.le_of_eq hg.symm)) hb)
    have n2_ := qaM (qbB (g := gb364) (o := .cells #[.bool a0_0, .slice A0_1 l0_1.length c0_1] 25 (0, 0)) zr8_1 hb)
    have n3_ := qaM (qbB (g := gb365) (o := .cells #[.bool a1_0, .slice A1_1 l1_1.length c1_1] 25 (0, 0)) zr8_2 hb)
    have n4_ := qaM (qbB (g := gb366) (o := .cells #[.bool false, .slice none 0 0] 25 (0, 0)) zr8_3 hb)
    have n5_ := qaM (qbB (g := gb375) (o := .cells #[.bool t367, .slice Ao50 t368.length co50] 25 (0, 0)) zr8_4 hb)
    have n6_ := qaM (qbB (g := gb376) (o := .cells #[.bool t371, .slice Ao55 t372.length co55] 25 (0, 0)) zr8_5 hb)
    have n7_ := qaM (qbT zr8_10 hb)
    have n8_ := qaM (hbox)
    have n9_ := qaM ((by rw [hg]; exact (qbS zr8_10) : w.heap.size ≤ gb378))
    have n10_ := qaM ((by rw [hg]; exact (qbS zr8_10) : w.heap.size ≤ gb378))
    have n11_ := qaM ((by rw [hg]; exact qnL (qbL (g := gb364) (o := .cells #[.bool a0_0, .slice A0_1 l0_1.length c0_1] 25 (0, 0)) zr8_1) : gb364 ≠ gb378))
    have n12_ := qaM ((by rw [hg]; exact qnG (qbL (g := gb364) (o := .cells #[.bool a0_0, .slice A0_1 l0_1.length c0_1] 25 (0, 0)) zr8_1) : gb378 ≠ gb364))
    have n13_ := qaM ((by rw [hg]; exact qnL (qbL (g := gb365) (o := .cells #[.bool a1_0, .slice A1_1 l1_1.length c1_1] 25 (0, 0)) zr8_2) : gb365 ≠ gb378))
    have n14_ := qaM ((by rw [hg]; exact qnG (qbL (g := gb365) (o := .cells #[.bool a1_0, .slice A1_1 l1_1.length c1_1] 25 (0, 0)) zr8_2) : gb378 ≠ gb365))
    have n15_ := qaM ((by rw [hg]; exact qnL (qbL (g := gb366) (o := .cells #[.bool false, .slice none 0 0] 25 (0, 0)) zr8_3) : gb366 ≠ gb378))
    have n16_ := qaM ((by rw [hg]; exact qnG (qbL (g := gb366) (o := .cells #[.bool false, .slice none 0 0] 25 (0, 0)) zr8_3) : gb378 ≠ gb366))
    have n17_ := qaM ((by rw [hg]; exact qnL (qbL (g := gb375) (o := .cells #[.bool t367, .slice Ao50 t368.length co50] 25 (0, 0)) zr8_4) : gb375 ≠ gb378))
    have n18_ := qaM ((by rw [hg]; exact qnG (qbL (g := gb375) (o := .cells #[.bool t367, .slice Ao50 t368.length co50] 25 (0, 0)) zr8_4) : gb378 ≠ gb375))
    have n19_ := qaM ((by rw [hg]; exact qnL (qbL (g := gb376) (o := .cells #[.bool t371, .slice Ao55 t372.length co55] 25 (0, 0)) zr8_5) : gb376 ≠ gb378))
    have n20_ := qaM ((by rw [hg]; exact qnG (qbL (g := gb376) (o := .cells #[.bool t371, .slice Ao55 t372.length co55] 25 (0, 0)) zr8_5) : gb378 ≠ gb376))
    clear HO370
    clear HO374
    clear BK364
    clear BK365
    clear BK366
    clear BK375
    clear BK376
    clear HB
    have HO370 := n0_
    have HO374 := n1_
    have BK364 := n2_
    have BK365 := n3_
    have BK366 := n4_
    have BK375 := n5_
    have BK376 := n6_
    have HB := n7_
    have BK378 := n8_
    have GW378 := n9_
    have GE378 := n10_
    have NB364_378 := n11_
    have NB378_364 := n12_
    have NB365_378 := n13_
    have NB378_365 := n14_
    have NB366_378 := n15_
    have NB378_366 := n16_
    have NB375_378 := n17_
    have NB378_375 := n18_
    have NB376_378 := n19_
    have NB378_376 := n20_
    clear n0_ n1_ n2_ n3_ n4_ n5_ n6_ n7_ n8_ n9_ n10_ n11_ n12_ n13_ n14_ n15_ n16_ n17_ n18_ n19_ n20_
    clear hb hbox hg
    refine hK.out _ _ ⟨(qbC BK375.out 0).trans rfl, (qbC BK375.out 1).trans rfl, (qbC BK376.out 0).trans rfl, (qbC BK376.out 1).trans rfl⟩ (fun hHeld => ?_)
    clear hK K
    refine norm_ (a' := ?_) ?_ ?_
    rotate_left
    ·show Act.put _ (some 9) _ = _
     simp only [Act.put, qsA, qsZ, qsS, i64_w, i32_w]
     rfl
    refine one_ (i := 3) (N := some 10) #[true, true, true, true, false, false] rfl rfl zr8_27 (by decide) (fun K hK => ?_)
    refine box_step ?hg (N := 10) ?hd (cs := #[.bool false, .slice none 0 0]) (t := 25) ?hr ?_; (case hd => rfl); (case hg => rfl); (case hr => first | (go_simp; done) | (go_simp; rfl))
    intro gb379 hg w59 hbox hb
    have n0_ := qaM (qvB (qvE zr8_12 gb379 (Nat.le_of_eq hg.symm)) hb)
    have n1_ := qaM (qvB (qvE zr8_13 gb379 (Nat.le_of_eq hg.symm)) hb)
    have n2_ := qaM (qbB (g := gb364) (o := .cells #[.bool a0_0, .slice A0_1 l0_1.length c0_1] 25 (0, 0)) zr8_1 hb)
    have n3_ := qaM (qbB (g := gb365) (o := .cells #[.bool a1_0, .slice A1_1 l1_1.length c1_1] 25 (0, 0)) zr8_2 hb)
    have n4_ := qaM (qbB (g := gb366) (o := .cells #[.bool false, .slice none 0 0] 25 (0, 0)) zr8_3 hb)
    have n5_ := qaM (qbB (g := gb375) (o := .cells #[.bool t367, .slice Ao50 t368.length co50] 25 (0, 0)) zr8_4 hb)
    have n6_ := qaM (qbB (g := gb376) (o := .cells #[.bool t371, .slice Ao55 t372.length co55] 25 (0, 0)) zr8_5 hb)
    have n7_ := qaM (qbB (g := gb378) (o := .cells #[.bool false, .slice none 0 0] 25 (0, 0)) zr8_7 hb)
    have n8_ := qaM (qbT zr8_25 hb)
    have n9_ := qaM (hbox)
    have n10_ := qaM ((by rw [hg]; exact (qbS zr8_25) : w.heap.size ≤ gb379))
    have n11_ := qaM ((by rw [hg]; exact (qbS zr8_25) : w.heap.size ≤ gb379))
    have n12_ := qaM ((by rw [hg]; exact qnL (qbL (g := gb364) (o := .cells #[.bool a0_0, .slice A0_1 l0_1.length c0_1] 25 (0, 0)) zr8_1) : gb364 ≠ gb379))
    have n13_ := qaM ((by rw [hg]; exact qnG (qbL (g := gb364) (o := .cells #[.bool a0_0, .slice A0_1 l0_1.length c0_1] 25 (0, 0)) zr8_1) : gb379 ≠ gb364))
    have n14_ := qaM ((by rw [hg]; exact qnL (qbL (g := gb365) (o := .cells #[.bool a1_0, .slice A1_1 l1_1.length c1_1] 25 (0, 0)) zr8_2) : gb365 ≠ gb379))
    have n15_ := qaM ((by rw [hg]; exact qnG (qbL (g := gb365) (o := .cells #[.bool a1_0, .slice A1_1 l1_1.length c1_1] 25 (0, 0)) zr8_2) : gb379 ≠ gb365))
    have n16_ := qaM ((by rw [hg]; exact qnL (qbL (g := gb366) (o := .cells #[.bool false, .slice none 0 0] 25 (0, 0)) zr8_3) : gb366 ≠ gb379))
    have n17_ := qaM ((by rw [hg]; exact qnG (qbL (g := gb366) (o := .cells #[.bool false, .slice none 0 0] 25 (0, 0)) zr8_3) : gb379 ≠ gb366))
    have n18_ := qaM ((by rw [hg]; exact qnL (qbL (g := gb375) (o := .cells #[.bool t367, .slice Ao50 t368.length co50] 25 (0, 0)) zr8_4) : gb375 ≠ gb379))
    have n19_ := qaM ((by rw [hg]; exact qnG (qbL (g := gb375) (o := .cells #[.bool t367, .slice Ao50 t368.length co50] 25 (0, 0)) zr8_4) : gb379 ≠ gb375))
    have n20_ := qaM ((by rw [hg]; exact qnL (qbL (g := gb376) (o := .cells #[.bool t371, .slice Ao55 t372.length co55] 25 (0, 0)) zr8_5) : gb376 ≠ gb379))
    have n21_ := qaM ((by rw [hg]; exact qnG (qbL (g := gb376) (o := .cells #[.bool t371, .slice Ao55 t372.length co55] 25 (0, 0)) zr8_5) : gb379 ≠ gb376))
    have n22_ := qaM ((by rw [hg]; exact qnL (qbL (g := gb378) (o := .cells #[.bool false, .slice none 0 0] 25 (0, 0)) zr8_7) : gb378 ≠ gb379))
    have n23_ := qaM ((by rw [hg]; exact qnG (qbL (g := gb378) (o := .cells #[.bool false, .slice none 0 0] 25 (0, 0)) zr8_7) : gb379 ≠ gb378))
    clear HO370
    clear HO374
    clear BK364
    clear BK365
    clear BK366
    clear BK375
    clear BK376
    clear BK378
    clear HB
    have HO370 := n0_
    have HO374 := n1_
    have BK364 := n2_
    have BK365 := n3_
    have BK366 := n4_
    have BK375 := n5_
    have BK376 := n6_
    have BK378 := n7_
    have HB := n8_
    have BK379 := n9_
    have GW379 := n10_
    have GE379 := n11_
    have NB364_379 := n12_
    have NB379_364 := n13_
    have NB365_379 := n14_
    have NB379_365 := n15_
    have NB366_379 := n16_
    have NB379_366 := n17_
    have NB375_379 := n18_
    have NB379_375 := n19_
    have NB376_379 := n20_
    have NB379_376 := n21_
    have NB378_379 := n22_
    have NB379_378 := n23_
    clear n0_ n1_ n2_ n3_ n4_ n5_ n6_ n7_ n8_ n9_ n10_ n11_ n12_ n13_ n14_ n15_ n16_ n17_ n18_ n19_ n20_ n21_ n22_ n23_
    clear hb hbox hg
    refine hK.out _ _ ⟨(qbC BK375.out 0).trans rfl, (qbC BK375.out 1).trans rfl, (qbC BK376.out 0).trans rfl, (qbC BK376.out 1).trans rfl⟩ (fun hHeld => ?_)
    clear hK K
    refine norm_ (a' := ?_) ?_ ?_
    rotate_left
    ·show Act.put _ (some 10) _ = _
     simp only [Act.put, qsA, qsZ, qsS, i64_w, i32_w]
     rfl
    exact norm_ (by simp only [putAll, Act.put, qsA, qsZ, qsS]) (hCont (gb378, gb379) _ ⟨hHeld, (by (with_reducible repeat (first | apply qvA | apply qvN | apply qvD)); exact qvM HO370.out (fun _ hk => ⟨hk.1.1.1.1.1, ⟨hk.1.1.1.1.2.1, ⟨hk.1.1.1.1.2.2.1, ⟨hk.1.1.1.1.2.2.2, ⟨hk.1.1.1.2, ⟨hk.1.1.2, ⟨hk.1.2, hk.2⟩⟩⟩⟩⟩⟩⟩)), (by (with_reducible repeat (first | apply qvA | apply qvN | apply qvD)); exact qvM HO374.out (fun _ hk => ⟨hk.1.1.1.1.1, ⟨hk.1.1.1.1.2.1, ⟨hk.1.1.1.1.2.2.1, ⟨hk.1.1.1.1.2.2.2, ⟨hk.1.1.1.2, ⟨hk.1.1.2, ⟨hk.1.2, hk.2⟩⟩⟩⟩⟩⟩⟩)), zr8_1, zr8_2, zr8_3, zr8_4, zr8_5, zr8_7, zr8_8, GW378.out, GE378.out, NB364_378.out, NB378_364.out, NB365_378.out, NB378_365.out, NB366_378.out, NB378_366.out, NB375_378.out, NB378_375.out, NB376_378.out, NB378_376.out, NB379_378.out, NB378_379.out, GW379.out, GE379.out, NB364_379.out, NB379_364.out, NB365_379.out, NB379_365.out, NB366_379.out, NB379_366.out, NB375_379.out, NB379_375.out, NB376_379.out, NB379_376.out, zr8_0⟩)
   ·skip
    refine box_step ?hg (N := 10) ?hd (cs := #[.bool false, .slice none 0 0]) (t := 25) ?hr ?_; (case hd => rfl); (case hg => rfl); (case hr => first | (go_simp; done) | (go_simp; rfl))
    intro gb379 hg w58 hbox hb
    have n0_ := qaM (qvB (qvE zr8_12 gb379 (Nat.le_of_eq hg.symm)) hb)
    have n1_ := qaM (qvB (qvE zr8_13 gb379 (Nat.le_of_eq hg.symm)) hb)
    have n2_ := qaM (qbB (g := gb364) (o := .cells #[.bool a0_0, .slice A0_1 l0_1.length c0_1] 25 (0, 0)) zr8_1 hb)
    have n3_ := qaM (qbB (g := gb365) (o := .cells #[.bool a1_0, .slice A1_1 l1_1.length c1_1] 25 (0, 0)) zr8_2 hb)
    have n4_ := qaM (qbB (g := gb366) (o := .cells #[.bool false, .slice none 0 0] 25 (0, 0)) zr8_3 hb)
    have n5_ := qaM (qbB (g := gb375) (o := .cells #[.bool t367, .slice Ao50 t368.length co50] 25 (0, 0)) zr8_4 hb)
    have n6_ := qaM (qbB (g := gb376) (o := .cells #[.bool t371, .slice Ao55 t372.length co55] 25 (0, 0)) zr8_5 hb)
    have n7_ := qaM (qbT zr8_10 hb)
    have n8_ := qaM (hbox)
    have n9_ := qaM ((by rw [hg]; exact (qbS zr8_10) : w.heap.size ≤ gb379))
    have n10_ := qaM ((by rw [hg]; exact (qbS zr8_10) : w.heap.size ≤ gb379))
    have n11_ := qaM ((by rw [hg]; exact qnL (qbL (g := gb364) (o := .cells #[.bool a0_0, .slice A0_1 l0_1.length c0_1] 25 (0, 0)) zr8_1) : gb364 ≠ gb379))
    have n12_ := qaM ((by rw [hg]; exact qnG (qbL (g := gb364) (o := .cells #[.bool a0_0, .slice A0_1 l0_1.length c0_1] 25 (0, 0)) zr8_1) : gb379 ≠ gb364))
    have n13_ := qaM ((by rw [hg]; exact qnL (qbL (g := gb365) (o := .cells #[.bool a1_0, .slice A1_1 l1_1.length c1_1] 25 (0, 0)) zr8_2) : gb365 ≠ gb379))
    have n14_ := qaM ((by rw [hg]; exact qnG (qbL (g := gb365) (o := .cells #[.bool a1_0, .slice A1_1 l1_1.length c1_1] 25 (0, 0)) zr8_2) : gb379 ≠ gb365))
    have n15_ := qaM ((by rw [hg]; exact qnL (qbL (g := gb366) (o := .cells #[.bool false, .slice none 0 0] 25 (0, 0)) zr8_3) : gb366 ≠ gb379))
    have n16_ := qaM ((by rw [hg]; exact qnG (qbL (g := gb366) (o := .cells #[.bool false, .slice none 0 0] 25 (0, 0)) zr8_3) : gb379 ≠ gb366))
    have n17_ := qaM ((by rw [hg]; exact qnL (qbL (g := gb375) (o := .cells #[.bool t367, .slice Ao50 t368.length co50] 25 (0, 0)) zr8_4) : gb375 ≠ gb379))
    have n18_ := qaM ((by rw [hg]; exact qnG (qbL (g := gb375) (o := .cells #[.bool t367, .slice Ao50 t368.length co50] 25 (0, 0)) zr8_4) : gb379 ≠ gb375))
    have n19_ := qaM ((by rw [hg]; exact qnL (qbL (g := gb376) (o := .cells #[.bool t371, .slice Ao55 t372.length co55] 25 (0, 0)) zr8_5) : gb376 ≠ gb379))
    have n20_ := qaM ((by rw [hg]; exact qnG (qbL (g := gb376) (o := .cells #[.bool t371, .slice Ao55 t372.length co55] 25 (0, 0)) zr8_5) : gb379 ≠ gb376))
    clear HO370
    clear HO374
    clear BK364
    clear BK365
    clear BK366
    clear BK375
    clear BK376
    clear HB
    have HO370 := n0_
    have HO374 := n1_
    have BK364 := n2_
    have BK365 := n3_
    have BK366 := n4_
    have BK375 := n5_
    have BK376 := n6_
    have HB := n7_
    have BK379 := n8_
    have GW379 := n9_
    have GE379 := n10_
    have NB364_379 := n11_
    have NB379_364 := n12_
    have NB365_379 := n13_
    have NB379_365 := n14_
    have NB366_379 := n15_
    have NB379_366 := n16_
    have NB375_379 := n17_
    have NB379_375 := n18_
    have NB376_379 := n19_
    have NB379_376 := n20_
    clear n0_ n1_ n2_ n3_ n4_ n5_ n6_ n7_ n8_ n9_ n10_ n11_ n12_ n13_ n14_ n15_ n16_ n17_ n18_ n19_ n20_
    clear hb hbox hg
    refine hK.out _ _ ⟨(qbC BK375.out 0).trans rfl, (qbC BK375.out 1).trans rfl, (qbC BK376.out 0).trans rfl, (qbC BK376.out 1).trans rfl⟩ (fun hHeld => ?_)
    clear hK K
    refine norm_ (a' := ?_) ?_ ?_
    rotate_left
    ·show Act.put _ (some 10) _ = _
     simp only [Act.put, qsA, qsZ, qsS, i64_w, i32_w]
     rfl
    refine one_ (i := 2) (N := some 9) #[true, true, true, true, false, false] rfl rfl zr8_27 (by decide) (fun K hK => ?_)
    refine box_step ?hg (N := 9) ?hd (cs := #[.bool false, .slice none 0 0]) (t := 25) ?hr ?_; (case hd => rfl); (case hg => rfl); (case hr => first | (go_simp; done) | (go_simp; rfl))
    intro gb378 hg w59 hbox hb
    have n0_ := qaM (qvB (qvE zr8_12 gb378 (Nat.le_of_eq hg.symm)) hb)
    have n1_ := qaM (qvB (qvE zr8_13 gb378 (Nat.le_of_eq hg.symm)) hb)
    have n2_ := qaM (qbB (g := gb364) (o := .cells #[.bool a0_0, .slice A0_1 l0_1.length c0_1] 25 (0, 0)) zr8_1 hb)
    have n3_ := qaM (qbB (g := gb365) (o := .cells #[.bool a1_0, .slice A1_1 l1_1.length c1_1] 25 (0, 0)) zr8_2 hb)
    have n4_ := qaM (qbB (g := gb366) (o := .cells #[.bool false, .slice none 0 0] 25 (0, 0)) zr8_3 hb)
    have n5_ := qaM (qbB (g := gb375) (o := .cells #[.bool t367, .slice Ao50 t368.length co50] 25 (0, 0)) zr8_4 hb)
    have n6_ := qaM (qbB (g := gb376) (o := .cells #[.bool t371, .slice Ao55 t372.length co55] 25 (0, 0)) zr8_5 hb)
    have n7_ := qaM (qbB (g := gb379) (o := .cells #[.bool false, .slice none 0 0] 25 (0, 0)) zr8_8 hb)
    have n8_ := qaM (qbT zr8_26 hb)
    have n9_ := qaM (hbox)
    have n10_ := qaM ((by rw [hg]; exact (qbS zr8_26) : w.heap.size ≤ gb378))
    have n11_ := qaM ((by rw [hg]; exact (qbS zr8_26) : w.heap.size ≤ gb378))
    have n12_ := qaM ((by rw [hg]; exact qnL (qbL (g := gb364) (o := .cells #[.bool a0_0, .slice A0_1 l0_1.length c0_1] 25 (0, 0)) zr8_1) : gb364 ≠ gb378))
    have n13_ := qaM ((by rw [hg]; exact qnG (qbL (g := gb364) (o := .cells #[.bool a0_0, .slice A0_1 l0_1.length c0_1] 25 (0, 0)) zr8_1) : gb378 ≠ gb364))
    have n14_ := qaM ((by rw [hg]; exact qnL (qbL (g := gb365) (o := .cells #[.bool a1_0, .slice A1_1 l1_1.length c1_1] 25 (0, 0)) zr8_2) : gb365 ≠ gb378))
    have n15_ := qaM ((by rw [hg]; exact qnG (qbL (g := gb365) (o := .cells #[.bool a1_0, .slice A1_1 l1_1.length c1_1] 25 (0, 0)) zr8_2) : gb378 ≠ gb365))
    have n16_ := qaM ((by rw [hg]; exact qnL (qbL (g := gb366) (o := .cells #[.bool false, .slice none 0 0] 25 (0, 0)) zr8_3) : gb366 ≠ gb378))
    have n17_ := qaM ((by rw [hg]; exact qnG (qbL (g := gb366) (o := .cells #[.bool false, .slice none 0 0] 25 (0, 0)) zr8_3) : gb378 ≠ gb366))
    have n18_ := qaM ((by rw [hg]; exact qnL (qbL (g := gb375) (o := .cells #[.bool t367, .slice Ao50 t368.length co50] 25 (0, 0)) zr8_4) : gb375 ≠ gb378))
    have n19_ := qaM ((by rw [hg]; exact qnG (qbL (g := gb375) (o := .cells #[.bool t367, .slice Ao50 t368.length co50] 25 (0, 0)) zr8_4) : gb378 ≠ gb375))
    have n20_ := qaM ((by rw [hg]; exact qnL (qbL (g := gb376) (o := .cells #[.bool t371, .slice Ao55 t372.length co55] 25 (0, 0)) zr8_5) : gb376 ≠ gb378))
    have n21_ := qaM ((by rw [hg]; exact qnG (qbL (g := gb376) (o := .cells #[.bool t371, .slice Ao55 t372.length co55] 25 (0, 0)) zr8_5) : gb378 ≠ gb376))
    have n22_ := qaM ((by rw [hg]; exact qnL (qbL (g := gb379) (o := .cells #[.bool false, .slice none 0 0] 25 (0, 0)) zr8_8) : gb379 ≠ gb378))
    have n23_ := qaM ((by rw [hg]; exact qnG (qbL (g := gb379) (o := .cells #[.bool false, .slice none 0 0] 25 (0, 0)) zr8_8) : gb378 ≠ gb379))
    clear HO370
    clear HO374
    clear BK364
    clear BK365
    clear BK366
    clear BK375
    clear BK376
    clear BK379
    clear HB
    have HO370 := n0_
    have HO374 := n1_
    have BK364 := n2_
    have BK365 := n3_
    have BK366 := n4_
    have BK375 := n5_
    have BK376 := n6_
    have BK379 := n7_
    have HB := n8_
    have BK378 := n9_
    have GW378 := n10_
    have GE378 := n11_
    have NB364_378 := n12_
    have NB378_364 := n13_
    have NB365_378 := n14_
    have NB378_365 := n15_
    have NB366_378 := n16_
    have NB378_366 := n17_
    have NB375_378 := n18_
    have NB378_375 := n19_
    have NB376_378 := n20_
    have NB378_376 := n21_
    have NB379_378 := n22_
    have NB378_379 := n23_
    clear n0_ n1_ n2_ n3_ n4_ n5_ n6_ n7_ n8_ n9_ n10_ n11_ n12_ n13_ n14_ n15_ n16_ n17_ n18_ n19_ n20_ n21_ n22_ n23_
    clear hb hbox hg
    refine hK.out _ _ ⟨(qbC BK375.out 0).trans rfl, (qbC BK375.out 1).trans rfl, (qbC BK376.out 0).trans rfl, (qbC BK376.out 1).trans rfl⟩ (fun hHeld => ?_)
    clear hK K
    refine norm_ (a' := ?_) ?_ ?_
    rotate_left
    ·show Act.put _ (some 9) _ = _
     simp only [Act.put, qsA, qsZ, qsS, i64_w, i32_w]
     rfl
    exact norm_ (by simp only [putAll, Act.put, qsA, qsZ, qsS]) (hCont (gb378, gb379) _ ⟨hHeld, (by (with_reducible repeat (first | apply qvA | apply qvN | apply qvD)); exact qvM HO370.out (fun _ hk => ⟨hk.1.1.1.1.1, ⟨hk.1.1.1.1.2.1, ⟨hk.1.1.1.1.2.2.1, ⟨hk.1.1.1.1.2.2.2, ⟨hk.1.1.1.2, ⟨hk.1.1.2, ⟨hk.2, hk.1.2⟩⟩⟩⟩⟩⟩⟩)), (by (with_reducible repeat (first | apply qvA | apply qvN | apply qvD)); exact qvM HO374.out (fun _ hk => ⟨hk.1.1.1.1.1, ⟨hk.1.1.1.1.2.1, ⟨hk.1.1.1.1.2.2.1, ⟨hk.1.1.1.1.2.2.2, ⟨hk.1.1.1.2, ⟨hk.1.1.2, ⟨hk.2, hk.1.2⟩⟩⟩⟩⟩⟩⟩)), zr8_1, zr8_2, zr8_3, zr8_4, zr8_5, zr8_7, zr8_8, GW378.out, GE378.out, NB364_378.out, NB378_364.out, NB365_378.out, NB378_365.out, NB366_378.out, NB378_366.out, NB375_378.out, NB378_375.out, NB376_378.out, NB378_376.out, NB379_378.out, NB378_379.out, GW379.out, GE379.out, NB364_379.out, NB379_364.out, NB365_379.out, NB379_365.out, NB366_379.out, NB379_366.out, NB375_379.out, NB379_375.out, NB376_379.out, NB379_376.out, (by repeat (first | (with_reducible first | exact HB.out | apply qwA | apply qwN | apply qwD | refine qwS ?_ GE364.out | refine qwS ?_ GE365.out | refine qwS ?_ GE366.out | refine qwS ?_ GE375.out | refine qwS ?_ GE376.out | refine qwS ?_ GE379.out | refine qwS ?_ GE378.out) | exact HB.out))⟩)
  rintro ⟨gb378, gb379⟩ w60 ⟨hS_, h0_, h1_, h2_, h3_, h4_, h5_, h6_, h7_, h8_, h9_, h10_, h11_, h12_, h13_, h14_, h15_, h16_, h17_, h18_, h19_, h20_, h21_, h22_, h23_, h24_, h25_, h26_, h27_, h28_, h29_, h30_, h31_, h32_, h33_, h34_, h35_⟩
  have n0_ : Aside0 (Kd.V (Kd.int .u32) 22 w60 w.heap.size (fun k_ => (w.heap.size ≤ k_) ∧ k_ ≠ gb364 ∧ k_ ≠ gb365 ∧ k_ ≠ gb366 ∧ k_ ≠ gb375 ∧ k_ ≠ gb376 ∧ k_ ≠ gb378 ∧ k_ ≠ gb379) (.slice Ao50 t368.length co50) t368) := ⟨h0_⟩
  have n1_ : Aside0 (Kd.V (Kd.int .u32) 22 w60 w.heap.size (fun k_ => (w.heap.size ≤ k_) ∧ k_ ≠ gb364 ∧ k_ ≠ gb365 ∧ k_ ≠ gb366 ∧ k_ ≠ gb375 ∧ k_ ≠ gb376 ∧ k_ ≠ gb378 ∧ k_ ≠ gb379) (.slice Ao55 t372.length co55) t372) := ⟨h1_⟩
  have n2_ : Aside0 (w60.heap[gb364]? = some (.cells #[.bool a0_0, .slice A0_1 l0_1.length c0_1] 25 (0, 0))) := ⟨h2_⟩
  have n3_ : Aside0 (w60.heap[gb365]? = some (.cells #[.bool a1_0, .slice A1_1 l1_1.length c1_1] 25 (0, 0))) := ⟨h3_⟩
  have n4_ : Aside0 (w60.heap[gb366]? = some (.cells #[.bool false, .slice none 0 0] 25 (0, 0))) := ⟨h4_⟩
  have n5_ : Aside0 (w60.heap[gb375]? = some (.cells #[.bool t367, .slice Ao50 t368.length co50] 25 (0, 0))) := ⟨h5_⟩
  have n6_ : Aside0 (w60.heap[gb376]? = some (.cells #[.bool t371, .slice Ao55 t372.length co55] 25 (0, 0))) := ⟨h6_⟩
  have n7_ : Aside0 (w60.heap[gb378]? = some (.cells #[.bool false, .slice none 0 0] 25 (0, 0))) := ⟨h7_⟩
  have n8_ : Aside0 (w60.heap[gb379]? = some (.cells #[.bool false, .slice none 0 0] 25 (0, 0))) := ⟨h8_⟩
  have n9_ : Aside0 (w.heap.size ≤ gb378) := ⟨h9_⟩
  have n10_ : Aside0 (w.heap.size ≤ gb378) := ⟨h10_⟩
  have n11_ : Aside0 (gb364 ≠ gb378) := ⟨h11_⟩
  have n12_ : Aside0 (gb378 ≠ gb364) := ⟨h12_⟩
  have n13_ : Aside0 (gb365 ≠ gb378) := ⟨h13_⟩
  have n14_ : Aside0 (gb378 ≠ gb365) := ⟨h14_⟩
  have n15_ : Aside0 (gb366 ≠ gb378) := ⟨h15_⟩
  have n16_ : Aside0 (gb378 ≠ gb366) := ⟨h16_⟩
  have n17_ : Aside0 (gb375 ≠ gb378) := ⟨h17_⟩
  have n18_ : Aside0 (gb378 ≠ gb375) := ⟨h18_⟩
  have n19_ : Aside0 (gb376 ≠ gb378) := ⟨h19_⟩
  have n20_ : Aside0 (gb378 ≠ gb376) := ⟨h20_⟩
  have n21_ : Aside0 (gb379 ≠ gb378) := ⟨h21_⟩
  have n22_ : Aside0 (gb378 ≠ gb379) := ⟨h22_⟩
  have n23_ : Aside0 (w.heap.size ≤ gb379) := ⟨h23_⟩
  have n24_ : Aside0 (w.heap.size ≤ gb379) := ⟨h24_⟩
  have n25_ : Aside0 (gb364 ≠ gb379) := ⟨h25_⟩
  have n26_ : Aside0 (gb379 ≠ gb364) := ⟨h26_⟩
  have n27_ : Aside0 (gb365 ≠ gb379) := ⟨h27_⟩
  have n28_ : Aside0 (gb379 ≠ gb365) := ⟨h28_⟩
  have n29_ : Aside0 (gb366 ≠ gb379) := ⟨h29_⟩
  have n30_ : Aside0 (gb379 ≠ gb366) := ⟨h30_⟩
  have n31_ : Aside0 (gb375 ≠ gb379) := ⟨h31_⟩
  have n32_ : Aside0 (gb379 ≠ gb375) := ⟨h32_⟩
  have n33_ : Aside0 (gb376 ≠ gb379) := ⟨h33_⟩
  have n34_ : Aside0 (gb379 ≠ gb376) := ⟨h34_⟩
  have n35_ : Aside0 (Below w.heap.size w w60) := ⟨h35_⟩
  clear HO370
  clear HO374
  clear BK364
  clear BK365
  clear BK366
  clear BK375
  clear BK376
  clear HB
  clear h0_ h1_ h2_ h3_ h4_ h5_ h6_ h7_ h8_ h9_ h10_ h11_ h12_ h13_ h14_ h15_ h16_ h17_ h18_ h19_ h20_ h21_ h22_ h23_ h24_ h25_ h26_ h27_ h28_ h29_ h30_ h31_ h32_ h33_ h34_ h35_
  have HO370 := n0_
  have HO374 := n1_
  have BK364 := n2_
  have BK365 := n3_
  have BK366 := n4_
  have BK375 := n5_
  have BK376 := n6_
  have BK378 := n7_
  have BK379 := n8_
  have GW378 := n9_
  have GE378 := n10_
  have NB364_378 := n11_
  have NB378_364 := n12_
  have NB365_378 := n13_
  have NB378_365 := n14_
  have NB366_378 := n15_
  have NB378_366 := n16_
  have NB375_378 := n17_
  have NB378_375 := n18_
  have NB376_378 := n19_
  have NB378_376 := n20_
  have NB379_378 := n21_
  have NB378_379 := n22_
  have GW379 := n23_
  have GE379 := n24_
  have NB364_379 := n25_
  have NB379_364 := n26_
  have NB365_379 := n27_
  have NB379_365 := n28_
  have NB366_379 := n29_
  have NB379_366 := n30_
  have NB375_379 := n31_
  have NB379_375 := n32_
  have NB376_379 := n33_
  have NB379_376 := n34_
  have HB := n35_
  clear n0_ n1_ n2_ n3_ n4_ n5_ n6_ n7_ n8_ n9_ n10_ n11_ n12_ n13_ n14_ n15_ n16_ n17_ n18_ n19_ n20_ n21_ n22_ n23_ n24_ n25_ n26_ n27_ n28_ n29_ n30_ n31_ n32_ n33_ n34_ n35_
  have hHeld : w60.cell? ⟨gb375, 0, none⟩ = some (.bool t367) ∧ w60.cell? ⟨gb375, 1, none⟩ = some (.slice Ao50 t368.length co50) ∧ w60.cell? ⟨gb376, 0, none⟩ = some (.bool t371) ∧ w60.cell? ⟨gb376, 1, none⟩ = some (.slice Ao55 t372.length co55) := hS_
  refine norm_ (a' := ?_) ?_ ?_
  rotate_left
  ·simp only [putAll, Act.put, qsA, qsZ, qsS]
   rfl
  refine one_ (i := 4) (N := none) #[true, true, true, true, true, false] rfl rfl zr8_27 (by decide) (fun K hK => ?_)
  have hs61 : w60.cell? ⟨gb378, 0, none⟩ = some (.bool false) := (qbC BK378.out 0).trans rfl
  have hfs61 := blk_frozen BK378.out 0
  have hns61_0 := NB364_378.out
  have hns61_1 := NB365_378.out
  have hns61_2 := NB366_378.out
  have hns61_3 := NB375_378.out
  have hns61_4 := NB376_378.out
  have hns61_6 := NB379_378.out
  have hms61_0 := NB378_364.out
  have hms61_1 := NB378_365.out
  have hms61_2 := NB378_366.out
  have hms61_3 := NB378_375.out
  have hms61_4 := NB378_376.out
  have hms61_6 := NB378_379.out
  have hs62 : w60.cell? ⟨gb378, 1, none⟩ = some (.slice none 0 0) := (qbC BK378.out 1).trans rfl
  have hfs62 := blk_frozen BK378.out 1
  have hns62_0 := NB364_378.out
  have hns62_1 := NB365_378.out
  have hns62_2 := NB366_378.out
  have hns62_3 := NB375_378.out
  have hns62_4 := NB376_378.out
  have hns62_6 := NB379_378.out
  have hms62_0 := NB378_364.out
  have hms62_1 := NB378_365.out
  have hms62_2 := NB378_366.out
  have hms62_3 := NB378_375.out
  have hms62_4 := NB378_376.out
  have hms62_6 := NB378_379.out
  refine skip_ (w1 := ?_) (by rfl) rfl ?_ ?_
  rotate_left
  ·go_simp
   rfl
  refine hK.out _ _ ⟨((cell_far (p := ⟨gb378, _, none⟩) NB375_378.out _).trans (((cell_far (p := ⟨gb378, _, none⟩) NB375_378.out _).trans (hHeld.1)))), ((cell_far (p := ⟨gb378, _, none⟩) NB375_378.out _).trans (((cell_far (p := ⟨gb378, _, none⟩) NB375_378.out _).trans (hHeld.2.1)))), ((cell_far (p := ⟨gb378, _, none⟩) NB376_378.out _).trans (((cell_far (p := ⟨gb378, _, none⟩) NB376_378.out _).trans (hHeld.2.2.1)))), ((cell_far (p := ⟨gb378, _, none⟩) NB376_378.out _).trans (((cell_far (p := ⟨gb378, _, none⟩) NB376_378.out _).trans (hHeld.2.2.2))))⟩ (fun hHeld => ?_)
  clear hK K
  refine one_ (i := 5) (N := none) #[true, true, true, true, true, true] rfl rfl zr8_27 (by decide) (fun K hK => ?_)
  have hs63 : w60.cell? ⟨gb379, 0, none⟩ = some (.bool false) := (qbC BK379.out 0).trans rfl
  have hfs63 := blk_frozen BK379.out 0
  have hns63_0 := NB364_379.out
  have hns63_1 := NB365_379.out
  have hns63_2 := NB366_379.out
  have hns63_3 := NB375_379.out
  have hns63_4 := NB376_379.out
  have hns63_5 := NB378_379.out
  have hms63_0 := NB379_364.out
  have hms63_1 := NB379_365.out
  have hms63_2 := NB379_366.out
  have hms63_3 := NB379_375.out
  have hms63_4 := NB379_376.out
  have hms63_5 := NB379_378.out
  have hs64 : w60.cell? ⟨gb379, 1, none⟩ = some (.slice none 0 0) := (qbC BK379.out 1).trans rfl
  have hfs64 := blk_frozen BK379.out 1
  have hns64_0 := NB364_379.out
  have hns64_1 := NB365_379.out
  have hns64_2 := NB366_379.out
  have hns64_3 := NB375_379.out
  have hns64_4 := NB376_379.out
  have hns64_5 := NB378_379.out
  have hms64_0 := NB379_364.out
  have hms64_1 := NB379_365.out
  have hms64_2 := NB379_366.out
  have hms64_3 := NB379_375.out
  have hms64_4 := NB379_376.out
  have hms64_5 := NB379_378.out
  refine skip_ (w1 := ?_) (by rfl) rfl ?_ ?_
  rotate_left
  ·go_simp
   rfl
  refine hK.out _ _ ⟨((cell_far (p := ⟨gb379, _, none⟩) NB375_379.out _).trans (((cell_far (p := ⟨gb379, _, none⟩) NB375_379.out _).trans (hHeld.1)))), ((cell_far (p := ⟨gb379, _, none⟩) NB375_379.out _).trans (((cell_far (p := ⟨gb379, _, none⟩) NB375_379.out _).trans (hHeld.2.1)))), ((cell_far (p := ⟨gb379, _, none⟩) NB376_379.out _).trans (((cell_far (p := ⟨gb379, _, none⟩) NB376_379.out _).trans (hHeld.2.2.1)))), ((cell_far (p := ⟨gb379, _, none⟩) NB376_379.out _).trans (((cell_far (p := ⟨gb379, _, none⟩) NB376_379.out _).trans (hHeld.2.2.2))))⟩ (fun hHeld => ?_)
  clear hK K
  refine done_ zr8_27 ?_
  have hnb65 := NB376_378.out
  have hnc65 := NB378_376.out
  have hnb66 := NB376_379.out
  have hnc66 := NB379_376.out
  have hcz67_0 : w60.cell? ⟨gb376, 0, none⟩ = some (.bool t371) := (qbC BK376.out 0).trans rfl
  have hcz67_1 : w60.cell? ⟨gb376, 1, none⟩ = some (.slice Ao55 t372.length co55) := (qbC BK376.out 1).trans rfl
  have hfz67_0 := blk_frozen BK376.out 0
  have hfz67_1 := blk_frozen BK376.out 1
  go_upto_if 27 with (first | ((with_reducible refine gate_callee (f := 40) rfl ?_); refine goesL_ (some 26) rfl rfl Try.func40 zr8_27 rfl #[.agg #[.bool t371, .slice Ao55 t372.length co55]] rfl zr8_9 ?_; (with_reducible refine (spec_Wide_Sign.calls t371 _ _ t372 t380 _ ?side1 ?side2 A32.out).mono ?_); (case side1 => refine (qvR (e := 22) (base := w.heap.size) (ok := fun k_ => ((w.heap.size ≤ k_) ∧ (k_ ≠ gb364 ∧ (k_ ≠ gb365 ∧ (k_ ≠ gb366 ∧ (k_ ≠ gb375 ∧ (k_ ≠ gb376 ∧ (k_ ≠ gb378 ∧ k_ ≠ gb379)))))))) (n := t372.length) (c := co55) ?_).2.2; exact zr8_18); (case side2 => exact (qvR HO374.out).2.1); rintro e w68 ⟨rfl, hb⟩; refine ⟨_, rfl, ?_⟩; have n0_ := qaM (qvB (by (with_reducible repeat (first | apply qvA | apply qvN | apply qvD)); exact (qvM (qvM (qvF (p := ⟨gb379, 1, none⟩) (qvF (p := ⟨gb379, 0, none⟩) (qvF (p := ⟨gb378, 1, none⟩) (qvF (p := ⟨gb378, 0, none⟩) (qvM (qvM HO370.out (fun k_ hk => (⟨hk, hk.2.2.2.2.2.2.1⟩ : _ ∧ k_ ≠ gb378))) (fun k_ hk => (⟨hk, hk.1.2.2.2.2.2.2.2⟩ : _ ∧ k_ ≠ gb379))) (fun _ hk => hk.1.2) (.bool t367)) (fun _ hk => hk.1.2) (.slice Ao50 t368.length co50)) (fun _ hk => hk.2) (.bool t371)) (fun _ hk => hk.2) (.slice Ao55 t372.length co55)) (fun _ h_ => h_.1)) (fun _ h_ => h_.1))) hb); have n1_ := qaM (qvB zr8_18 hb); have n2_ := qaM (qbB (g := gb364) (o := .cells #[.bool a0_0, .slice A0_1 l0_1.length c0_1] 25 (0, 0)) (by (with_reducible repeat (first | refine qbN ?_ _ | refine qbD ?_ | refine qbA ?_ _)); refine qbF ?_ NB364_379.out _; (with_reducible repeat (first | refine qbN ?_ _ | refine qbD ?_ | refine qbA ?_ _)); refine qbF ?_ NB364_379.out _; (with_reducible repeat (first | refine qbN ?_ _ | refine qbD ?_ | refine qbA ?_ _)); refine qbF ?_ NB364_378.out _; (with_reducible repeat (first | refine qbN ?_ _ | refine qbD ?_ | refine qbA ?_ _)); refine qbF ?_ NB364_378.out _; (with_reducible repeat (first | refine qbN ?_ _ | refine qbD ?_ | refine qbA ?_ _)); exact BK364.out) hb); have n3_ := qaM (qbB (g := gb365) (o := .cells #[.bool a1_0, .slice A1_1 l1_1.length c1_1] 25 (0, 0)) (by (with_reducible repeat (first | refine qbN ?_ _ | refine qbD ?_ | refine qbA ?_ _)); refine qbF ?_ NB365_379.out _; (with_reducible repeat (first | refine qbN ?_ _ | refine qbD ?_ | refine qbA ?_ _)); refine qbF ?_ NB365_379.out _; (with_reducible repeat (first | refine qbN ?_ _ | refine qbD ?_ | refine qbA ?_ _)); refine qbF ?_ NB365_378.out _; (with_reducible repeat (first | refine qbN ?_ _ | refine qbD ?_ | refine qbA ?_ _)); refine qbF ?_ NB365_378.out _; (with_reducible repeat (first | refine qbN ?_ _ | refine qbD ?_ | refine qbA ?_ _)); exact BK365.out) hb); have n4_ := qaM (qbB (g := gb366) (o := .cells #[.bool false, .slice none 0 0] 25 (0, 0)) (by (with_reducible repeat (first | refine qbN ?_ _ | refine qbD ?_ | refine qbA ?_ _)); refine qbF ?_ NB366_379.out _; (with_reducible repeat (first | refine qbN ?_ _ | refine qbD ?_ | refine qbA ?_ _)); refine qbF ?_ NB366_379.out _; (with_reducible repeat (first | refine qbN ?_ _ | refine qbD ?_ | refine qbA ?_ _)); refine qbF ?_ NB366_378.out _; (with_reducible repeat (first | refine qbN ?_ _ | refine qbD ?_ | refine qbA ?_ _)); refine qbF ?_ NB366_378.out _; (with_reducible repeat (first | refine qbN ?_ _ | refine qbD ?_ | refine qbA ?_ _)); exact BK366.out) hb); have n5_ := qaM (qbB (g := gb375) (o := .cells #[.bool t367, .slice Ao50 t368.length co50] 25 (0, 0)) (by (with_reducible repeat (first | refine qbN ?_ _ | refine qbD ?_ | refine qbA ?_ _)); refine qbF ?_ NB375_379.out _; (with_reducible repeat (first | refine qbN ?_ _ | refine qbD ?_ | refine qbA ?_ _)); refine qbF ?_ NB375_379.out _; (with_reducible repeat (first | refine qbN ?_ _ | refine qbD ?_ | refine qbA ?_ _)); refine qbF ?_ NB375_378.out _; (with_reducible repeat (first | refine qbN ?_ _ | refine qbD ?_ | refine qbA ?_ _)); refine qbF ?_ NB375_378.out _; (with_reducible repeat (first | refine qbN ?_ _ | refine qbD ?_ | refine qbA ?_ _)); exact BK375.out) hb); have n6_ := qaM (qbB (g := gb376) (o := .cells #[.bool t371, .slice Ao55 t372.length co55] 25 (0, 0)) (by (with_reducible repeat (first | refine qbN ?_ _ | refine qbD ?_ | refine qbA ?_ _)); refine qbF ?_ NB376_379.out _; (with_reducible repeat (first | refine qbN ?_ _ | refine qbD ?_ | refine qbA ?_ _)); refine qbF ?_ NB376_379.out _; (with_reducible repeat (first | refine qbN ?_ _ | refine qbD ?_ | refine qbA ?_ _)); refine qbF ?_ NB376_378.out _; (with_reducible repeat (first | refine qbN ?_ _ | refine qbD ?_ | refine qbA ?_ _)); refine qbF ?_ NB376_378.out _; (with_reducible repeat (first | refine qbN ?_ _ | refine qbD ?_ | refine qbA ?_ _)); exact BK376.out) hb); have n7_ := qaM (qbB (g := gb378) (o := .cells #[.bool t367, .slice Ao50 t368.length co50] 25 (0, 0)) (by (with_reducible repeat (first | refine qbN ?_ _ | refine qbD ?_ | refine qbA ?_ _)); refine qbF ?_ NB378_379.out _; (with_reducible repeat (first | refine qbN ?_ _ | refine qbD ?_ | refine qbA ?_ _)); refine qbF ?_ NB378_379.out _; (with_reducible repeat (first | refine qbN ?_ _ | refine qbD ?_ | refine qbA ?_ _)); refine qbP (cs := #[.bool t367, .slice none 0 0]) ?_ 1 _ rfl; (with_reducible repeat (first | refine qbN ?_ _ | refine qbD ?_ | refine qbA ?_ _)); refine qbP (cs := #[.bool false, .slice none 0 0]) ?_ 0 _ rfl; (with_reducible repeat (first | refine qbN ?_ _ | refine qbD ?_ | refine qbA ?_ _)); exact BK378.out) hb); have n8_ := qaM (qbB (g := gb379) (o := .cells #[.bool t371, .slice Ao55 t372.length co55] 25 (0, 0)) (by (with_reducible repeat (first | refine qbN ?_ _ | refine qbD ?_ | refine qbA ?_ _)); refine qbP (cs := #[.bool t371, .slice none 0 0]) ?_ 1 _ rfl; (with_reducible repeat (first | refine qbN ?_ _ | refine qbD ?_ | refine qbA ?_ _)); refine qbP (cs := #[.bool false, .slice none 0 0]) ?_ 0 _ rfl; (with_reducible repeat (first | refine qbN ?_ _ | refine qbD ?_ | refine qbA ?_ _)); refine qbF ?_ NB379_378.out _; (with_reducible repeat (first | refine qbN ?_ _ | refine qbD ?_ | refine qbA ?_ _)); refine qbF ?_ NB379_378.out _; (with_reducible repeat (first | refine qbN ?_ _ | refine qbD ?_ | refine qbA ?_ _)); exact BK379.out) hb); have n9_ := qaM (qbT zr8_0 hb); clear HO370; clear HO374; clear BK364; clear BK365; clear BK366; clear BK375; clear BK376; clear BK378; clear BK379; clear HB; have HO370 := n0_; have HO374 := n1_; have BK364 := n2_; have BK365 := n3_; have BK366 := n4_; have BK375 := n5_; have BK376 := n6_; have BK378 := n7_; have BK379 := n8_; have HB := n9_; clear n0_ n1_ n2_ n3_ n4_ n5_ n6_ n7_ n8_ n9_; (try clear hb); (try clear hb2); (try clear hk); (try clear hi)))
  (try simp only [Act.put, qsA, qsZ, qsS])
  go_cut [] (fun wc => ∃ (kq : Nat) (x379000_32 : Bool) (x379001_32 : List Int) (x380000_32 : Bool) (x380001_32 : List Int) (u379001 : Value) (u380001 : Value), Aside0 (spec_RoundWide.j0 kq a2 a0_0 l0_1 a1_0 l1_1 x379000_32 x379001_32 x380000_32 x380001_32 = some (r1, r2)) ∧ Aside0 (kq ≤ k) ∧ Aside0 (Kd.V (Kd.int .u32) 22 wc w.heap.size (fun k_ => (w.heap.size ≤ k_) ∧ k_ ≠ gb364 ∧ k_ ≠ gb365 ∧ k_ ≠ gb366 ∧ k_ ≠ gb375 ∧ k_ ≠ gb376 ∧ k_ ≠ gb378 ∧ k_ ≠ gb379) (.slice Ao50 t368.length co50) t368) ∧ Aside0 (Kd.V (Kd.int .u32) 22 wc w.heap.size (fun k_ => (w.heap.size ≤ k_) ∧ k_ ≠ gb364 ∧ k_ ≠ gb365 ∧ k_ ≠ gb366 ∧ k_ ≠ gb375 ∧ k_ ≠ gb376 ∧ k_ ≠ gb378 ∧ k_ ≠ gb379) (.slice Ao55 t372.length co55) t372) ∧ Aside0 (Kd.V (Kd.int .u32) 22 wc w.heap.size (fun k_ => (w.heap.size ≤ k_) ∧ k_ ≠ gb364 ∧ k_ ≠ gb365 ∧ k_ ≠ gb366 ∧ k_ ≠ gb375 ∧ k_ ≠ gb376 ∧ k_ ≠ gb378 ∧ k_ ≠ gb379) u379001 x379001_32) ∧ Aside0 (Kd.V (Kd.int .u32) 22 wc w.heap.size (fun k_ => (w.heap.size ≤ k_) ∧ k_ ≠ gb364 ∧ k_ ≠ gb365 ∧ k_ ≠ gb366 ∧ k_ ≠ gb375 ∧ k_ ≠ gb376 ∧ k_ ≠ gb378 ∧ k_ ≠ gb379) u380001 x380001_32) ∧ Aside0 (wc.heap[gb364]? = some (.cells #[.bool a0_0, (.slice A0_1 l0_1.length c0_1)] 25 (0, 0))) ∧ Aside0 (wc.heap[gb365]? = some (.cells #[.bool a1_0, (.slice A1_1 l1_1.length c1_1)] 25 (0, 0))) ∧ Aside0 (wc.heap[gb366]? = some (.cells #[.bool false, (.slice none 0 0)] 25 (0, 0))) ∧ Aside0 (wc.heap[gb375]? = some (.cells #[.bool t367, (.slice Ao50 t368.length co50)] 25 (0, 0))) ∧ Aside0 (wc.heap[gb376]? = some (.cells #[.bool t371, (.slice Ao55 t372.length co55)] 25 (0, 0))) ∧ Aside0 (wc.heap[gb378]? = some (.cells #[.bool x379000_32, u379001] 25 (0, 0))) ∧ Aside0 (wc.heap[gb379]? = some (.cells #[.bool x380000_32, u380001] 25 (0, 0))) ∧ Aside0 (Below w.heap.size w wc))
  case first =>
   have H := HC33.out
   clear HC33
   by_cases c69 : t380 < 0
   ·rw [if_pos c69] at H
    have c69b0 : decide (t380 < 0) = true := decide_eq_true c69
    clear c69
    (first | rw [c69b0] | (simp only [i64_w, i32_w]; rw [c69b0]) | skip)
    replace H := Option.bind_eq_some_iff.mp H
    obtain ⟨⟨t381, t382⟩, A700, H⟩ := H
    replace H : ((spec_WideSub.f k t367 t368 t381 t382).bind fun bt385 => ((spec_WideAdd.f k t371 t372 a1_0 l1_1).bind fun bt389 => (spec_RoundWide.j0 k a2 a0_0 l0_1 a1_0 l1_1 bt385.1 bt385.2 bt389.1 bt389.2))) = some (r1, r2) := H
    have A70 := qaM A700
    clear A700
    replace H := Option.bind_eq_some_iff.mp H
    obtain ⟨⟨t385, t386⟩, A710, H⟩ := H
    replace H : ((spec_WideAdd.f k t371 t372 a1_0 l1_1).bind fun bt389 => (spec_RoundWide.j0 k a2 a0_0 l0_1 a1_0 l1_1 t385 t386 bt389.1 bt389.2)) = some (r1, r2) := H
    have A71 := qaM A710
    clear A710
    replace H := Option.bind_eq_some_iff.mp H
    obtain ⟨⟨t389, t390⟩, A720, H⟩ := H
    replace H : (spec_RoundWide.j0 k a2 a0_0 l0_1 a1_0 l1_1 t385 t386 t389 t390) = some (r1, r2) := H
    have A72 := qaM A720
    clear A720
    have H' := qaM H
    clear H
    try go_wp2
    have n0_ := qaM (qvD HO370.out)
    have n1_ := qaM (qvD HO374.out)
    have n2_ := qaM (qbD BK364.out)
    have n3_ := qaM (qbD BK365.out)
    have n4_ := qaM (qbD BK366.out)
    have n5_ := qaM (qbD BK375.out)
    have n6_ := qaM (qbD BK376.out)
    have n7_ := qaM (qbD BK378.out)
    have n8_ := qaM (qbD BK379.out)
    have n9_ := qaM (qwD HB.out)
    clear HO370
    clear HO374
    clear BK364
    clear BK365
    clear BK366
    clear BK375
    clear BK376
    clear BK378
    clear BK379
    clear HB
    have HO370 := n0_
    have HO374 := n1_
    have BK364 := n2_
    have BK365 := n3_
    have BK366 := n4_
    have BK375 := n5_
    have BK376 := n6_
    have BK378 := n7_
    have BK379 := n8_
    have HB := n9_
    clear n0_ n1_ n2_ n3_ n4_ n5_ n6_ n7_ n8_ n9_
    refine start_ (n := 8) (S := fun w' => w'.cell? ⟨gb375, 0, none⟩ = some (.bool t367) ∧ w'.cell? ⟨gb375, 1, none⟩ = some (.slice Ao50 t368.length co50) ∧ w'.cell? ⟨gb376, 0, none⟩ = some (.bool t371) ∧ w'.cell? ⟨gb376, 1, none⟩ = some (.slice Ao55 t372.length co55) ∧ w'.cell? ⟨gb365, 0, none⟩ = some (.bool a1_0) ∧ w'.cell? ⟨gb365, 1, none⟩ = some (.slice A1_1 l1_1.length c1_1)) (ds := []) #[false, false, false, false, false, false, false, false] zr8_27 rfl rfl ⟨(qbC BK375.out 0).trans rfl, (qbC BK375.out 1).trans rfl, (qbC BK376.out 0).trans rfl, (qbC BK376.out 1).trans rfl, (qbC BK365.out 0).trans rfl, (qbC BK365.out 1).trans rfl⟩ (fun hHeld => ?_); refine with_tabW spec_RoundWide.tab6 spec_RoundWide.bits6 (fun HT_ HW_ => ?_)
    generalize w68.drew = w73 at HO370 HO374 BK364 BK365 BK366 BK375 BK376 BK378 BK379 HB hHeld ⊢
    refine take_ (i := 0) (N := some 28) (v := ?_) (a' := ?_) #[true, false, false, false, false, false, false, false] rfl rfl (take_ofW HT_.out HW_.out zr8_27) (fun _ _ _ h => h) (Or.inl ⟨by rfl, ?_⟩) hHeld ?_ ?_
    rotate_left
    ·rintro w' ⟨s0, s1, s2, s3, s4, s5⟩
     go_simp
     with_reducible rfl
    rotate_left
    ·simp only [Act.put, qsA, qsZ, qsS, i64_w, i32_w]
     rfl
    refine take_ (i := 3) (N := some 31) (v := ?_) (a' := ?_) #[true, false, false, true, false, false, false, false] rfl rfl (take_ofW HT_.out HW_.out zr8_27) (fun _ _ _ h => h) (Or.inl ⟨by rfl, ?_⟩) hHeld ?_ ?_
    rotate_left
    ·rintro w' ⟨s0, s1, s2, s3, s4, s5⟩
     go_simp
     with_reducible rfl
    rotate_left
    ·simp only [Act.put, qsA, qsZ, qsS, i64_w, i32_w]
     rfl
    refine take_ (i := 4) (N := some 32) (v := ?_) (a' := ?_) #[true, false, false, true, true, false, false, false] rfl rfl (take_ofW HT_.out HW_.out zr8_27) (fun _ _ _ h => h) (Or.inl ⟨by rfl, ?_⟩) hHeld ?_ ?_
    rotate_left
    ·rintro w' ⟨s0, s1, s2, s3, s4, s5⟩
     go_simp
     with_reducible rfl
    rotate_left
    ·simp only [Act.put, qsA, qsZ, qsS, i64_w, i32_w]
     rfl
    refine one_ (i := 1) (N := some 29) #[true, true, false, true, true, false, false, false] rfl rfl (one_of HT_.out zr8_27) (by decide) (fun K hK => ?_)
    refine goes_ Try.func17 zr8_27 rfl #[.int .i64 1] (by rfl) rfl rfl zr8_9 ?_
    with_reducible refine (spec_WideInt.calls k 1 t381 t382 _ A70.out).mono ?_
    rintro e w74 ⟨v383, rfl, ho0, hb⟩
    refine ⟨_, rfl, ?_⟩
    have n0_ := qaM (qvB zr8_12 hb)
    have n1_ := qaM (qvB zr8_13 hb)
    have n2_ := qaM (qvL (qvM (ok' := fun k_ => (w.heap.size ≤ k_) ∧ k_ ≠ gb364 ∧ k_ ≠ gb365 ∧ k_ ≠ gb366 ∧ k_ ≠ gb375 ∧ k_ ≠ gb376 ∧ k_ ≠ gb378 ∧ k_ ≠ gb379) ho0 (fun k_ hk_ => ⟨(Nat.le_trans (qbS zr8_0) hk_), (qfB (g := gb364) (o := .cells #[.bool a0_0, .slice A0_1 l0_1.length c0_1] 25 (0, 0)) zr8_1 k_ hk_), (qfB (g := gb365) (o := .cells #[.bool a1_0, .slice A1_1 l1_1.length c1_1] 25 (0, 0)) zr8_2 k_ hk_), (qfB (g := gb366) (o := .cells #[.bool false, .slice none 0 0] 25 (0, 0)) zr8_3 k_ hk_), (qfB (g := gb375) (o := .cells #[.bool t367, .slice Ao50 t368.length co50] 25 (0, 0)) zr8_4 k_ hk_), (qfB (g := gb376) (o := .cells #[.bool t371, .slice Ao55 t372.length co55] 25 (0, 0)) zr8_5 k_ hk_), (qfB (g := gb378) (o := .cells #[.bool t367, .slice Ao50 t368.length co50] 25 (0, 0)) zr8_7 k_ hk_), (qfB (g := gb379) (o := .cells #[.bool t371, .slice Ao55 t372.length co55] 25 (0, 0)) zr8_8 k_ hk_)⟩)) (qbS zr8_0))
    have n3_ := qaM (qbB (g := gb364) (o := .cells #[.bool a0_0, .slice A0_1 l0_1.length c0_1] 25 (0, 0)) zr8_1 hb)
    have n4_ := qaM (qbB (g := gb365) (o := .cells #[.bool a1_0, .slice A1_1 l1_1.length c1_1] 25 (0, 0)) zr8_2 hb)
    have n5_ := qaM (qbB (g := gb366) (o := .cells #[.bool false, .slice none 0 0] 25 (0, 0)) zr8_3 hb)
    have n6_ := qaM (qbB (g := gb375) (o := .cells #[.bool t367, .slice Ao50 t368.length co50] 25 (0, 0)) zr8_4 hb)
    have n7_ := qaM (qbB (g := gb376) (o := .cells #[.bool t371, .slice Ao55 t372.length co55] 25 (0, 0)) zr8_5 hb)
    have n8_ := qaM (qbB (g := gb378) (o := .cells #[.bool t367, .slice Ao50 t368.length co50] 25 (0, 0)) zr8_7 hb)
    have n9_ := qaM (qbB (g := gb379) (o := .cells #[.bool t371, .slice Ao55 t372.length co55] 25 (0, 0)) zr8_8 hb)
    have n10_ := qaM (qbT zr8_0 hb)
    clear HO370
    clear HO374
    clear BK364
    clear BK365
    clear BK366
    clear BK375
    clear BK376
    clear BK378
    clear BK379
    clear HB
    have HO370 := n0_
    have HO374 := n1_
    have HO384 := n2_
    have BK364 := n3_
    have BK365 := n4_
    have BK366 := n5_
    have BK375 := n6_
    have BK376 := n7_
    have BK378 := n8_
    have BK379 := n9_
    have HB := n10_
    clear n0_ n1_ n2_ n3_ n4_ n5_ n6_ n7_ n8_ n9_ n10_
    (try clear hb)
    (try clear hb2)
    (try clear hk)
    (try clear hi)
    (try clear ho0)
    obtain ⟨Ao75, co75, eo75⟩ := Kd.V_slice HO384.out
    (first | subst eo75 | (injection eo75 with f1_ f2_ f3_; have f4_ := f1_.symm; have f5_ := f3_.symm; clear f1_ f2_ f3_; subst f4_; subst f5_))
    refine hK.out _ _ ⟨(qbC BK375.out 0).trans rfl, (qbC BK375.out 1).trans rfl, (qbC BK376.out 0).trans rfl, (qbC BK376.out 1).trans rfl, (qbC BK365.out 0).trans rfl, (qbC BK365.out 1).trans rfl⟩ (fun hHeld => ?_)
    clear hK K
    refine norm_ (a' := ?_) ?_ ?_
    rotate_left
    ·show Act.put _ (some 29) _ = _
     simp only [Act.put, qsA, qsZ, qsS, i64_w, i32_w]
     rfl
    refine one_ (i := 2) (N := some 30) #[true, true, true, true, true, false, false, false] rfl rfl (one_of HT_.out zr8_27) (by decide) (fun K hK => ?_)
    refine goes_ Try.func25 zr8_27 rfl #[.agg #[.bool t367, .slice Ao50 t368.length co50], .agg #[.bool t381, .slice Ao75 t382.length co75]] (by rfl) rfl rfl zr8_9 ?_
    with_reducible refine (spec_WideSub.calls k t367 _ _ t368 t381 (fun k_ => ((w.heap.size ≤ k_) ∧ (k_ ≠ gb364 ∧ (k_ ≠ gb365 ∧ (k_ ≠ gb366 ∧ (k_ ≠ gb375 ∧ (k_ ≠ gb376 ∧ (k_ ≠ gb378 ∧ k_ ≠ gb379)))))))) _ _ t382 t385 t386 _ ?side1 ?side2 ?side3 A71.out).mono ?_
    (case side1 => repeat (first | exact (qvR HO370.out).2.2 | (with_reducible refine Kd.C_alloc ?_ _) | (with_reducible refine Kd.C_drewN ?_ _) | (with_reducible refine Kd.C_drew ?_)))
    (case side2 => exact (qvR HO370.out).2.1)
    (case side3 => exact HO384.out)
    rintro e w76 ⟨v387, rfl, ho0, hb⟩
    refine ⟨_, rfl, ?_⟩
    have n0_ := qaM (qvB zr8_12 hb)
    have n1_ := qaM (qvB zr8_13 hb)
    have n2_ := qaM (qvB (by (with_reducible repeat (first | apply qvA | apply qvN | apply qvD)); exact HO384.out) hb)
    have n3_ := qaM (qvL (qvM (ok' := fun k_ => (w.heap.size ≤ k_) ∧ k_ ≠ gb364 ∧ k_ ≠ gb365 ∧ k_ ≠ gb366 ∧ k_ ≠ gb375 ∧ k_ ≠ gb376 ∧ k_ ≠ gb378 ∧ k_ ≠ gb379) ho0 (fun k_ hk_ => ⟨Or.elim hk_ (fun hs_ => hs_.1) (fun hn_ => (Nat.le_trans (qbS zr8_0) hn_)), Or.elim hk_ (fun hs_ => hs_.2.1) (fun hn_ => (qfB (g := gb364) (o := .cells #[.bool a0_0, .slice A0_1 l0_1.length c0_1] 25 (0, 0)) zr8_1 k_ hn_)), Or.elim hk_ (fun hs_ => hs_.2.2.1) (fun hn_ => (qfB (g := gb365) (o := .cells #[.bool a1_0, .slice A1_1 l1_1.length c1_1] 25 (0, 0)) zr8_2 k_ hn_)), Or.elim hk_ (fun hs_ => hs_.2.2.2.1) (fun hn_ => (qfB (g := gb366) (o := .cells #[.bool false, .slice none 0 0] 25 (0, 0)) zr8_3 k_ hn_)), Or.elim hk_ (fun hs_ => hs_.2.2.2.2.1) (fun hn_ => (qfB (g := gb375) (o := .cells #[.bool t367, .slice Ao50 t368.length co50] 25 (0, 0)) zr8_4 k_ hn_)), Or.elim hk_ (fun hs_ => hs_.2.2.2.2.2.1) (fun hn_ => (qfB (g := gb376) (o := .cells #[.bool t371, .slice Ao55 t372.length co55] 25 (0, 0)) zr8_5 k_ hn_)), Or.elim hk_ (fun hs_ => hs_.2.2.2.2.2.2.1) (fun hn_ => (qfB (g := gb378) (o := .cells #[.bool t367, .slice Ao50 t368.length co50] 25 (0, 0)) zr8_7 k_ hn_)), Or.elim hk_ (fun hs_ => hs_.2.2.2.2.2.2.2) (fun hn_ => (qfB (g := gb379) (o := .cells #[.bool t371, .slice Ao55 t372.length co55] 25 (0, 0)) zr8_8 k_ hn_))⟩)) (qbS zr8_0))
    have n4_ := qaM (qbB (g := gb364) (o := .cells #[.bool a0_0, .slice A0_1 l0_1.length c0_1] 25 (0, 0)) zr8_1 hb)
    have n5_ := qaM (qbB (g := gb365) (o := .cells #[.bool a1_0, .slice A1_1 l1_1.length c1_1] 25 (0, 0)) zr8_2 hb)
    have n6_ := qaM (qbB (g := gb366) (o := .cells #[.bool false, .slice none 0 0] 25 (0, 0)) zr8_3 hb)
    have n7_ := qaM (qbB (g := gb375) (o := .cells #[.bool t367, .slice Ao50 t368.length co50] 25 (0, 0)) zr8_4 hb)
    have n8_ := qaM (qbB (g := gb376) (o := .cells #[.bool t371, .slice Ao55 t372.length co55] 25 (0, 0)) zr8_5 hb)
    have n9_ := qaM (qbB (g := gb378) (o := .cells #[.bool t367, .slice Ao50 t368.length co50] 25 (0, 0)) zr8_7 hb)
    have n10_ := qaM (qbB (g := gb379) (o := .cells #[.bool t371, .slice Ao55 t372.length co55] 25 (0, 0)) zr8_8 hb)
    have n11_ := qaM (qbT zr8_0 hb)
    clear HO370
    clear HO374
    clear HO384
    clear BK364
    clear BK365
    clear BK366
    clear BK375
    clear BK376
    clear BK378
    clear BK379
    clear HB
    have HO370 := n0_
    have HO374 := n1_
    have HO384 := n2_
    have HO388 := n3_
    have BK364 := n4_
    have BK365 := n5_
    have BK366 := n6_
    have BK375 := n7_
    have BK376 := n8_
    have BK378 := n9_
    have BK379 := n10_
    have HB := n11_
    clear n0_ n1_ n2_ n3_ n4_ n5_ n6_ n7_ n8_ n9_ n10_ n11_
    (try clear hb)
    (try clear hb2)
    (try clear hk)
    (try clear hi)
    (try clear ho0)
    refine hK.out _ _ ⟨(qbC BK375.out 0).trans rfl, (qbC BK375.out 1).trans rfl, (qbC BK376.out 0).trans rfl, (qbC BK376.out 1).trans rfl, (qbC BK365.out 0).trans rfl, (qbC BK365.out 1).trans rfl⟩ (fun hHeld => ?_)
    clear hK K
    refine norm_ (a' := ?_) ?_ ?_
    rotate_left
    ·show Act.put _ (some 30) _ = _
     simp only [Act.put, qsA, qsZ, qsS, i64_w, i32_w]
     rfl
    refine one_ (i := 5) (N := some 33) #[true, true, true, true, true, true, false, false] rfl rfl (one_of HT_.out zr8_27) (by decide) (fun K hK => ?_)
    refine goes_ Try.func11 zr8_27 rfl #[.agg #[.bool t371, .slice Ao55 t372.length co55], .agg #[.bool a1_0, .slice A1_1 l1_1.length c1_1]] (by rfl) rfl rfl zr8_9 ?_
    with_reducible refine (spec_WideAdd.calls k t371 _ _ t372 a1_0 _ _ l1_1 t389 t390 _ ?side1 ?side2 ?side3 ?side4 A72.out).mono ?_
    (case side1 => repeat (first | exact (qvR HO374.out).2.2 | (with_reducible refine Kd.C_alloc ?_ _) | (with_reducible refine Kd.C_drewN ?_ _) | (with_reducible refine Kd.C_drew ?_)))
    (case side2 => exact (qvR HO374.out).2.1)
    (case side3 => repeat (first | exact (Kd.C_below HR1_1.out HB.out) | (with_reducible refine Kd.C_alloc ?_ _) | (with_reducible refine Kd.C_drewN ?_ _) | (with_reducible refine Kd.C_drew ?_)))
    (case side4 => exact HC1_1.out)
    rintro e w77 ⟨v391, rfl, ho0, hb⟩
    refine ⟨_, rfl, ?_⟩
    have n0_ := qaM (qvB zr8_12 hb)
    have n1_ := qaM (qvB zr8_13 hb)
    have n2_ := qaM (qvB (by (with_reducible repeat (first | apply qvA | apply qvN | apply qvD)); exact HO384.out) hb)
    have n3_ := qaM (qvB (by (with_reducible repeat (first | apply qvA | apply qvN | apply qvD)); exact HO388.out) hb)
    have n4_ := qaM (qvL (qvM (ok' := fun k_ => (w.heap.size ≤ k_) ∧ k_ ≠ gb364 ∧ k_ ≠ gb365 ∧ k_ ≠ gb366 ∧ k_ ≠ gb375 ∧ k_ ≠ gb376 ∧ k_ ≠ gb378 ∧ k_ ≠ gb379) ho0 (fun k_ hk_ => ⟨(Nat.le_trans (qbS zr8_0) hk_), (qfB (g := gb364) (o := .cells #[.bool a0_0, .slice A0_1 l0_1.length c0_1] 25 (0, 0)) zr8_1 k_ hk_), (qfB (g := gb365) (o := .cells #[.bool a1_0, .slice A1_1 l1_1.length c1_1] 25 (0, 0)) zr8_2 k_ hk_), (qfB (g := gb366) (o := .cells #[.bool false, .slice none 0 0] 25 (0, 0)) zr8_3 k_ hk_), (qfB (g := gb375) (o := .cells #[.bool t367, .slice Ao50 t368.length co50] 25 (0, 0)) zr8_4 k_ hk_), (qfB (g := gb376) (o := .cells #[.bool t371, .slice Ao55 t372.length co55] 25 (0, 0)) zr8_5 k_ hk_), (qfB (g := gb378) (o := .cells #[.bool t367, .slice Ao50 t368.length co50] 25 (0, 0)) zr8_7 k_ hk_), (qfB (g := gb379) (o := .cells #[.bool t371, .slice Ao55 t372.length co55] 25 (0, 0)) zr8_8 k_ hk_)⟩)) (qbS zr8_0))
    have n5_ := qaM (qbB (g := gb364) (o := .cells #[.bool a0_0, .slice A0_1 l0_1.length c0_1] 25 (0, 0)) zr8_1 hb)
    have n6_ := qaM (qbB (g := gb365) (o := .cells #[.bool a1_0, .slice A1_1 l1_1.length c1_1] 25 (0, 0)) zr8_2 hb)
    have n7_ := qaM (qbB (g := gb366) (o := .cells #[.bool false, .slice none 0 0] 25 (0, 0)) zr8_3 hb)
    have n8_ := qaM (qbB (g := gb375) (o := .cells #[.bool t367, .slice Ao50 t368.length co50] 25 (0, 0)) zr8_4 hb)
    have n9_ := qaM (qbB (g := gb376) (o := .cells #[.bool t371, .slice Ao55 t372.length co55] 25 (0, 0)) zr8_5 hb)
    have n10_ := qaM (qbB (g := gb378) (o := .cells #[.bool t367, .slice Ao50 t368.length co50] 25 (0, 0)) zr8_7 hb)
    have n11_ := qaM (qbB (g := gb379) (o := .cells #[.bool t371, .slice Ao55 t372.length co55] 25 (0, 0)) zr8_8 hb)
    have n12_ := qaM (qbT zr8_0 hb)
    clear HO370
    clear HO374
    clear HO384
    clear HO388
    clear BK364
    clear BK365
    clear BK366
    clear BK375
    clear BK376
    clear BK378
    clear BK379
    clear HB
    have HO370 := n0_
    have HO374 := n1_
    have HO384 := n2_
    have HO388 := n3_
    have HO392 := n4_
    have BK364 := n5_
    have BK365 := n6_
    have BK366 := n7_
    have BK375 := n8_
    have BK376 := n9_
    have BK378 := n10_
    have BK379 := n11_
    have HB := n12_
    clear n0_ n1_ n2_ n3_ n4_ n5_ n6_ n7_ n8_ n9_ n10_ n11_ n12_
    (try clear hb)
    (try clear hb2)
    (try clear hk)
    (try clear hi)
    (try clear ho0)
    obtain ⟨Ao79, co79, eo79⟩ := Kd.V_slice HO388.out
    (first | subst eo79 | (injection eo79 with f1_ f2_ f3_; have f4_ := f1_.symm; have f5_ := f3_.symm; clear f1_ f2_ f3_; subst f4_; subst f5_))
    obtain ⟨Ao82, co82, eo82⟩ := Kd.V_slice HO392.out
    (first | subst eo82 | (injection eo82 with f1_ f2_ f3_; have f4_ := f1_.symm; have f5_ := f3_.symm; clear f1_ f2_ f3_; subst f4_; subst f5_))
    refine hK.out _ _ ⟨(qbC BK375.out 0).trans rfl, (qbC BK375.out 1).trans rfl, (qbC BK376.out 0).trans rfl, (qbC BK376.out 1).trans rfl, (qbC BK365.out 0).trans rfl, (qbC BK365.out 1).trans rfl⟩ (fun hHeld => ?_)
    clear hK K
    refine norm_ (a' := ?_) ?_ ?_
    rotate_left
    ·show Act.put _ (some 33) _ = _
     simp only [Act.put, qsA, qsZ, qsS, i64_w, i32_w]
     rfl
    refine one_ (i := 6) (N := none) #[true, true, true, true, true, true, true, false] rfl rfl (one_of HT_.out zr8_27) (by decide) (fun K hK => ?_)
    have hs78 : w77.cell? ⟨gb378, 0, none⟩ = some (.bool t367) := (qbC BK378.out 0).trans rfl
    have hfs78 := blk_frozen BK378.out 0
    have hns78_0 := NB364_378.out
    have hns78_1 := NB365_378.out
    have hns78_2 := NB366_378.out
    have hns78_3 := NB375_378.out
    have hns78_4 := NB376_378.out
    have hns78_6 := NB379_378.out
    have hms78_0 := NB378_364.out
    have hms78_1 := NB378_365.out
    have hms78_2 := NB378_366.out
    have hms78_3 := NB378_375.out
    have hms78_4 := NB378_376.out
    have hms78_6 := NB378_379.out
    have hs80 : w77.cell? ⟨gb378, 1, none⟩ = some (.slice Ao50 t368.length co50) := (qbC BK378.out 1).trans rfl
    have hfs80 := blk_frozen BK378.out 1
    have hns80_0 := NB364_378.out
    have hns80_1 := NB365_378.out
    have hns80_2 := NB366_378.out
    have hns80_3 := NB375_378.out
    have hns80_4 := NB376_378.out
    have hns80_6 := NB379_378.out
    have hms80_0 := NB378_364.out
    have hms80_1 := NB378_365.out
    have hms80_2 := NB378_366.out
    have hms80_3 := NB378_375.out
    have hms80_4 := NB378_376.out
    have hms80_6 := NB378_379.out
    refine skip_ (w1 := ?_) (by rfl) rfl ?_ ?_
    rotate_left
    ·go_simp
     rfl
    refine hK.out _ _ ⟨((cell_far (p := ⟨gb378, _, none⟩) NB375_378.out _).trans (((cell_far (p := ⟨gb378, _, none⟩) NB375_378.out _).trans (hHeld.1)))), ((cell_far (p := ⟨gb378, _, none⟩) NB375_378.out _).trans (((cell_far (p := ⟨gb378, _, none⟩) NB375_378.out _).trans (hHeld.2.1)))), ((cell_far (p := ⟨gb378, _, none⟩) NB376_378.out _).trans (((cell_far (p := ⟨gb378, _, none⟩) NB376_378.out _).trans (hHeld.2.2.1)))), ((cell_far (p := ⟨gb378, _, none⟩) NB376_378.out _).trans (((cell_far (p := ⟨gb378, _, none⟩) NB376_378.out _).trans (hHeld.2.2.2.1)))), ((cell_far (p := ⟨gb378, _, none⟩) NB365_378.out _).trans (((cell_far (p := ⟨gb378, _, none⟩) NB365_378.out _).trans (hHeld.2.2.2.2.1)))), ((cell_far (p := ⟨gb378, _, none⟩) NB365_378.out _).trans (((cell_far (p := ⟨gb378, _, none⟩) NB365_378.out _).trans (hHeld.2.2.2.2.2))))⟩ (fun hHeld => ?_)
    clear hK K
    refine one_ (i := 7) (N := none) #[true, true, true, true, true, true, true, true] rfl rfl (one_of HT_.out zr8_27) (by decide) (fun K hK => ?_)
    have hs81 : w77.cell? ⟨gb379, 0, none⟩ = some (.bool t371) := (qbC BK379.out 0).trans rfl
    have hfs81 := blk_frozen BK379.out 0
    have hns81_0 := NB364_379.out
    have hns81_1 := NB365_379.out
    have hns81_2 := NB366_379.out
    have hns81_3 := NB375_379.out
    have hns81_4 := NB376_379.out
    have hns81_5 := NB378_379.out
    have hms81_0 := NB379_364.out
    have hms81_1 := NB379_365.out
    have hms81_2 := NB379_366.out
    have hms81_3 := NB379_375.out
    have hms81_4 := NB379_376.out
    have hms81_5 := NB379_378.out
    have hs83 : w77.cell? ⟨gb379, 1, none⟩ = some (.slice Ao55 t372.length co55) := (qbC BK379.out 1).trans rfl
    have hfs83 := blk_frozen BK379.out 1
    have hns83_0 := NB364_379.out
    have hns83_1 := NB365_379.out
    have hns83_2 := NB366_379.out
    have hns83_3 := NB375_379.out
    have hns83_4 := NB376_379.out
    have hns83_5 := NB378_379.out
    have hms83_0 := NB379_364.out
    have hms83_1 := NB379_365.out
    have hms83_2 := NB379_366.out
    have hms83_3 := NB379_375.out
    have hms83_4 := NB379_376.out
    have hms83_5 := NB379_378.out
    refine skip_ (w1 := ?_) (by rfl) rfl ?_ ?_
    rotate_left
    ·go_simp
     rfl
    refine hK.out _ _ ⟨((cell_far (p := ⟨gb379, _, none⟩) NB375_379.out _).trans (((cell_far (p := ⟨gb379, _, none⟩) NB375_379.out _).trans (hHeld.1)))), ((cell_far (p := ⟨gb379, _, none⟩) NB375_379.out _).trans (((cell_far (p := ⟨gb379, _, none⟩) NB375_379.out _).trans (hHeld.2.1)))), ((cell_far (p := ⟨gb379, _, none⟩) NB376_379.out _).trans (((cell_far (p := ⟨gb379, _, none⟩) NB376_379.out _).trans (hHeld.2.2.1)))), ((cell_far (p := ⟨gb379, _, none⟩) NB376_379.out _).trans (((cell_far (p := ⟨gb379, _, none⟩) NB376_379.out _).trans (hHeld.2.2.2.1)))), ((cell_far (p := ⟨gb379, _, none⟩) NB365_379.out _).trans (((cell_far (p := ⟨gb379, _, none⟩) NB365_379.out _).trans (hHeld.2.2.2.2.1)))), ((cell_far (p := ⟨gb379, _, none⟩) NB365_379.out _).trans (((cell_far (p := ⟨gb379, _, none⟩) NB365_379.out _).trans (hHeld.2.2.2.2.2))))⟩ (fun hHeld => ?_)
    clear hK K
    refine done_ (done_of HT_.out zr8_27) ?_
    try go_wp2
    go_meet
    case rel => exact ⟨_, (t385), (t386), (t389), (t390), (.slice Ao79 t386.length co79), (.slice Ao82 t390.length co82), H', ⟨by first | omega | exact Nat.le_refl _⟩, ⟨by (with_reducible repeat (first | apply qvA | apply qvN | apply qvD)); exact qvM (qvF (p := ⟨gb379, 1, none⟩) (qvF (p := ⟨gb379, 0, none⟩) (qvF (p := ⟨gb378, 1, none⟩) (qvF (p := ⟨gb378, 0, none⟩) (qvM (qvM HO370.out (fun k_ hk => (⟨hk, hk.2.2.2.2.2.2.1⟩ : _ ∧ k_ ≠ gb378))) (fun k_ hk => (⟨hk, hk.1.2.2.2.2.2.2.2⟩ : _ ∧ k_ ≠ gb379))) (fun _ hk => hk.1.2) (.bool t385)) (fun _ hk => hk.1.2) (.slice Ao79 t386.length co79)) (fun _ hk => hk.2) (.bool t389)) (fun _ hk => hk.2) (.slice Ao82 t390.length co82)) (fun _ hk => ⟨hk.1.1.1, ⟨hk.1.1.2.1, ⟨hk.1.1.2.2.1, ⟨hk.1.1.2.2.2.1, ⟨hk.1.1.2.2.2.2.1, ⟨hk.1.1.2.2.2.2.2.1, ⟨hk.1.1.2.2.2.2.2.2.1, hk.1.1.2.2.2.2.2.2.2⟩⟩⟩⟩⟩⟩⟩)⟩, ⟨by (with_reducible repeat (first | apply qvA | apply qvN | apply qvD)); exact qvM (qvF (p := ⟨gb379, 1, none⟩) (qvF (p := ⟨gb379, 0, none⟩) (qvF (p := ⟨gb378, 1, none⟩) (qvF (p := ⟨gb378, 0, none⟩) (qvM (qvM HO374.out (fun k_ hk => (⟨hk, hk.2.2.2.2.2.2.1⟩ : _ ∧ k_ ≠ gb378))) (fun k_ hk => (⟨hk, hk.1.2.2.2.2.2.2.2⟩ : _ ∧ k_ ≠ gb379))) (fun _ hk => hk.1.2) (.bool t385)) (fun _ hk => hk.1.2) (.slice Ao79 t386.length co79)) (fun _ hk => hk.2) (.bool t389)) (fun _ hk => hk.2) (.slice Ao82 t390.length co82)) (fun _ hk => ⟨hk.1.1.1, ⟨hk.1.1.2.1, ⟨hk.1.1.2.2.1, ⟨hk.1.1.2.2.2.1, ⟨hk.1.1.2.2.2.2.1, ⟨hk.1.1.2.2.2.2.2.1, ⟨hk.1.1.2.2.2.2.2.2.1, hk.1.1.2.2.2.2.2.2.2⟩⟩⟩⟩⟩⟩⟩)⟩, ⟨by (with_reducible repeat (first | apply qvA | apply qvN | apply qvD)); exact qvM (qvF (p := ⟨gb379, 1, none⟩) (qvF (p := ⟨gb379, 0, none⟩) (qvF (p := ⟨gb378, 1, none⟩) (qvF (p := ⟨gb378, 0, none⟩) (qvM (qvM HO388.out (fun k_ hk => (⟨hk, hk.2.2.2.2.2.2.1⟩ : _ ∧ k_ ≠ gb378))) (fun k_ hk => (⟨hk, hk.1.2.2.2.2.2.2.2⟩ : _ ∧ k_ ≠ gb379))) (fun _ hk => hk.1.2) (.bool t385)) (fun _ hk => hk.1.2) (.slice Ao79 t386.length co79)) (fun _ hk => hk.2) (.bool t389)) (fun _ hk => hk.2) (.slice Ao82 t390.length co82)) (fun _ hk => ⟨hk.1.1.1, ⟨hk.1.1.2.1, ⟨hk.1.1.2.2.1, ⟨hk.1.1.2.2.2.1, ⟨hk.1.1.2.2.2.2.1, ⟨hk.1.1.2.2.2.2.2.1, ⟨hk.1.1.2.2.2.2.2.2.1, hk.1.1.2.2.2.2.2.2.2⟩⟩⟩⟩⟩⟩⟩)⟩, ⟨by (with_reducible repeat (first | apply qvA | apply qvN | apply qvD)); exact qvM (qvF (p := ⟨gb379, 1, none⟩) (qvF (p := ⟨gb379, 0, none⟩) (qvF (p := ⟨gb378, 1, none⟩) (qvF (p := ⟨gb378, 0, none⟩) (qvM (qvM HO392.out (fun k_ hk => (⟨hk, hk.2.2.2.2.2.2.1⟩ : _ ∧ k_ ≠ gb378))) (fun k_ hk => (⟨hk, hk.1.2.2.2.2.2.2.2⟩ : _ ∧ k_ ≠ gb379))) (fun _ hk => hk.1.2) (.bool t385)) (fun _ hk => hk.1.2) (.slice Ao79 t386.length co79)) (fun _ hk => hk.2) (.bool t389)) (fun _ hk => hk.2) (.slice Ao82 t390.length co82)) (fun _ hk => ⟨hk.1.1.1, ⟨hk.1.1.2.1, ⟨hk.1.1.2.2.1, ⟨hk.1.1.2.2.2.1, ⟨hk.1.1.2.2.2.2.1, ⟨hk.1.1.2.2.2.2.2.1, ⟨hk.1.1.2.2.2.2.2.2.1, hk.1.1.2.2.2.2.2.2.2⟩⟩⟩⟩⟩⟩⟩)⟩, ⟨by (with_reducible repeat (first | refine qbN ?_ _ | refine qbD ?_ | refine qbA ?_ _)); refine qbF ?_ NB364_379.out _; (with_reducible repeat (first | refine qbN ?_ _ | refine qbD ?_ | refine qbA ?_ _)); refine qbF ?_ NB364_379.out _; (with_reducible repeat (first | refine qbN ?_ _ | refine qbD ?_ | refine qbA ?_ _)); refine qbF ?_ NB364_378.out _; (with_reducible repeat (first | refine qbN ?_ _ | refine qbD ?_ | refine qbA ?_ _)); refine qbF ?_ NB364_378.out _; (with_reducible repeat (first | refine qbN ?_ _ | refine qbD ?_ | refine qbA ?_ _)); exact BK364.out⟩, ⟨by (with_reducible repeat (first | refine qbN ?_ _ | refine qbD ?_ | refine qbA ?_ _)); refine qbF ?_ NB365_379.out _; (with_reducible repeat (first | refine qbN ?_ _ | refine qbD ?_ | refine qbA ?_ _)); refine qbF ?_ NB365_379.out _; (with_reducible repeat (first | refine qbN ?_ _ | refine qbD ?_ | refine qbA ?_ _)); refine qbF ?_ NB365_378.out _; (with_reducible repeat (first | refine qbN ?_ _ | refine qbD ?_ | refine qbA ?_ _)); refine qbF ?_ NB365_378.out _; (with_reducible repeat (first | refine qbN ?_ _ | refine qbD ?_ | refine qbA ?_ _)); exact BK365.out⟩, ⟨by (with_reducible repeat (first | refine qbN ?_ _ | refine qbD ?_ | refine qbA ?_ _)); refine qbF ?_ NB366_379.out _; (with_reducible repeat (first | refine qbN ?_ _ | refine qbD ?_ | refine qbA ?_ _)); refine qbF ?_ NB366_379.out _; (with_reducible repeat (first | refine qbN ?_ _ | refine qbD ?_ | refine qbA ?_ _)); refine qbF ?_ NB366_378.out _; (with_reducible repeat (first | refine qbN ?_ _ | refine qbD ?_ | refine qbA ?_ _)); refine qbF ?_ NB366_378.out _; (with_reducible repeat (first | refine qbN ?_ _ | refine qbD ?_ | refine qbA ?_ _)); exact BK366.out⟩, ⟨by (with_reducible repeat (first | refine qbN ?_ _ | refine qbD ?_ | refine qbA ?_ _)); refine qbF ?_ NB375_379.out _; (with_reducible repeat (first | refine qbN ?_ _ | refine qbD ?_ | refine qbA ?_ _)); refine qbF ?_ NB375_379.out _; (with_reducible repeat (first | refine qbN ?_ _ | refine qbD ?_ | refine qbA ?_ _)); refine qbF ?_ NB375_378.out _; (with_reducible repeat (first | refine qbN ?_ _ | refine qbD ?_ | refine qbA ?_ _)); refine qbF ?_ NB375_378.out _; (with_reducible repeat (first | refine qbN ?_ _ | refine qbD ?_ | refine qbA ?_ _)); exact BK375.out⟩, ⟨by (with_reducible repeat (first | refine qbN ?_ _ | refine qbD ?_ | refine qbA ?_ _)); refine qbF ?_ NB376_379.out _; (with_reducible repeat (first | refine qbN ?_ _ | refine qbD ?_ | refine qbA ?_ _)); refine qbF ?_ NB376_379.out _; (with_reducible repeat (first | refine qbN ?_ _ | refine qbD ?_ | refine qbA ?_ _)); refine qbF ?_ NB376_378.out _; (with_reducible repeat (first | refine qbN ?_ _ | refine qbD ?_ | refine qbA ?_ _)); refine qbF ?_ NB376_378.out _; (with_reducible repeat (first | refine qbN ?_ _ | refine qbD ?_ | refine qbA ?_ _)); exact BK376.out⟩, ⟨by (with_reducible repeat (first | refine qbN ?_ _ | refine qbD ?_ | refine qbA ?_ _)); refine qbF ?_ NB378_379.out _; (with_reducible repeat (first | refine qbN ?_ _ | refine qbD ?_ | refine qbA ?_ _)); refine qbF ?_ NB378_379.out _; (with_reducible repeat (first | refine qbN ?_ _ | refine qbD ?_ | refine qbA ?_ _)); refine qbP (cs := #[.bool t385, .slice Ao50 t368.length co50]) ?_ 1 _ rfl; (with_reducible repeat (first | refine qbN ?_ _ | refine qbD ?_ | refine qbA ?_ _)); refine qbP (cs := #[.bool t367, .slice Ao50 t368.length co50]) ?_ 0 _ rfl; (with_reducible repeat (first | refine qbN ?_ _ | refine qbD ?_ | refine qbA ?_ _)); exact BK378.out⟩, ⟨by (with_reducible repeat (first | refine qbN ?_ _ | refine qbD ?_ | refine qbA ?_ _)); refine qbP (cs := #[.bool t389, .slice Ao55 t372.length co55]) ?_ 1 _ rfl; (with_reducible repeat (first | refine qbN ?_ _ | refine qbD ?_ | refine qbA ?_ _)); refine qbP (cs := #[.bool t371, .slice Ao55 t372.length co55]) ?_ 0 _ rfl; (with_reducible repeat (first | refine qbN ?_ _ | refine qbD ?_ | refine qbA ?_ _)); refine qbF ?_ NB379_378.out _; (with_reducible repeat (first | refine qbN ?_ _ | refine qbD ?_ | refine qbA ?_ _)); refine qbF ?_ NB379_378.out _; (with_reducible repeat (first | refine qbN ?_ _ | refine qbD ?_ | refine qbA ?_ _)); exact BK379.out⟩, ⟨by repeat (first | (with_reducible first | exact HB.out | apply qwA | apply qwN | apply qwD | refine qwS ?_ GE364.out | refine qwS ?_ GE365.out | refine qwS ?_ GE366.out | refine qwS ?_ GE375.out | refine qwS ?_ GE376.out | refine qwS ?_ GE378.out | refine qwS ?_ GE379.out) | exact HB.out)⟩⟩
   ·rw [if_neg c69] at H
    have c69b0 : decide (t380 < 0) = false := decide_eq_false c69
    clear c69
    (first | rw [c69b0] | (simp only [i64_w, i32_w]; rw [c69b0]) | skip)
    have H' := qaM H
    clear H
    go_wp2
    go_meet
    case rel => exact ⟨_, (t367), (t368), (t371), (t372), (.slice Ao50 t368.length co50), (.slice Ao55 t372.length co55), H', ⟨by first | omega | exact Nat.le_refl _⟩, ⟨by (with_reducible repeat (first | apply qvA | apply qvN | apply qvD)); exact HO370.out⟩, ⟨by (with_reducible repeat (first | apply qvA | apply qvN | apply qvD)); exact HO374.out⟩, ⟨by (with_reducible repeat (first | apply qvA | apply qvN | apply qvD)); exact HO370.out⟩, ⟨by (with_reducible repeat (first | apply qvA | apply qvN | apply qvD)); exact HO374.out⟩, ⟨by (with_reducible repeat (first | refine qbN ?_ _ | refine qbD ?_ | refine qbA ?_ _)); exact BK364.out⟩, ⟨by (with_reducible repeat (first | refine qbN ?_ _ | refine qbD ?_ | refine qbA ?_ _)); exact BK365.out⟩, ⟨by (with_reducible repeat (first | refine qbN ?_ _ | refine qbD ?_ | refine qbA ?_ _)); exact BK366.out⟩, ⟨by (with_reducible repeat (first | refine qbN ?_ _ | refine qbD ?_ | refine qbA ?_ _)); exact BK375.out⟩, ⟨by (with_reducible repeat (first | refine qbN ?_ _ | refine qbD ?_ | refine qbA ?_ _)); exact BK376.out⟩, ⟨by (with_reducible repeat (first | refine qbN ?_ _ | refine qbD ?_ | refine qbA ?_ _)); exact BK378.out⟩, ⟨by (with_reducible repeat (first | refine qbN ?_ _ | refine qbD ?_ | refine qbA ?_ _)); exact BK379.out⟩, ⟨by repeat (first | (with_reducible first | exact HB.out | apply qwA | apply qwN | apply qwD | refine qwS ?_ GE364.out | refine qwS ?_ GE365.out | refine qwS ?_ GE366.out | refine qwS ?_ GE375.out | refine qwS ?_ GE376.out | refine qwS ?_ GE378.out | refine qwS ?_ GE379.out) | exact HB.out)⟩⟩
  case rest =>
   clear HC33
   try clear c1
   try clear c2
   try clear p2
   try clear c4
   try clear c6
   try clear c11
   try clear c17
   try clear c25
   try clear c40
   try clear c65
   try clear c66
   try clear c69
   try clear c69b0
   try clear hcz67_0
   try clear hcz67_1
   try clear hfz67_0
   try clear hfz67_1
   obtain ⟨kq, x379000_32, x379001_32, x380000_32, x380001_32, u379001, u380001, HA, HJ32, HO_376001, HO_377001, HO_379001, HO_380001, BK364, BK365, BK366, BK375, BK376, BK378, BK379, HB⟩ := hcut
   cases kq with
   | zero => exact absurd HA.out (by simp [spec_RoundWide.j0])
   | succ kj32 =>
    have H := HA.out
    clear HA
    simp only [spec_RoundWide.j0] at H
    replace H := Option.bind_eq_some_iff.mp H
    obtain ⟨⟨t393, t394⟩, A840, H⟩ := H
    replace H : ((spec_WideCmp.f kj32 t393 t394 a1_0 l1_1).bind fun t397 => (if (x379001_32.length : Int) = 0 then (spec_RoundWide.j1 kj32 a2 t397 true a0_0 l0_1 x379000_32 x379001_32) else (if 0 < (x379001_32.length : Int) then (spec_RoundWide.j1 kj32 a2 t397 ((Go.bits .and .u32 (rd x379001_32 0) 1) == 0) a0_0 l0_1 x379000_32 x379001_32) else (none)))) = some (r1, r2) := H
    have A84 := qaM A840
    clear A840
    replace H := Option.bind_eq_some_iff.mp H
    obtain ⟨t397, A850, H⟩ := H
    replace H : (if (x379001_32.length : Int) = 0 then (spec_RoundWide.j1 kj32 a2 t397 true a0_0 l0_1 x379000_32 x379001_32) else (if 0 < (x379001_32.length : Int) then (spec_RoundWide.j1 kj32 a2 t397 ((Go.bits .and .u32 (rd x379001_32 0) 1) == 0) a0_0 l0_1 x379000_32 x379001_32) else (none))) = some (r1, r2) := H
    have A85 := qaM A850
    clear A850
    have HC86 := qaM H
    clear H
    try go_wp2
    have n0_ := qaM (qvD HO_376001.out)
    have n1_ := qaM (qvD HO_377001.out)
    have n2_ := qaM (qvD HO_379001.out)
    have n3_ := qaM (qvD HO_380001.out)
    have n4_ := qaM (qbD BK364.out)
    have n5_ := qaM (qbD BK365.out)
    have n6_ := qaM (qbD BK366.out)
    have n7_ := qaM (qbD BK375.out)
    have n8_ := qaM (qbD BK376.out)
    have n9_ := qaM (qbD BK378.out)
    have n10_ := qaM (qbD BK379.out)
    have n11_ := qaM (qwD HB.out)
    clear HO_376001
    clear HO_377001
    clear HO_379001
    clear HO_380001
    clear BK364
    clear BK365
    clear BK366
    clear BK375
    clear BK376
    clear BK378
    clear BK379
    clear HB
    have HO_376001 := n0_
    have HO_377001 := n1_
    have HO_379001 := n2_
    have HO_380001 := n3_
    have BK364 := n4_
    have BK365 := n5_
    have BK366 := n6_
    have BK375 := n7_
    have BK376 := n8_
    have BK378 := n9_
    have BK379 := n10_
    have HB := n11_
    clear n0_ n1_ n2_ n3_ n4_ n5_ n6_ n7_ n8_ n9_ n10_ n11_
    obtain ⟨Ao88, co88, eo88⟩ := Kd.V_slice HO_380001.out
    (first | subst eo88 | (injection eo88 with f1_ f2_ f3_; have f4_ := f1_.symm; have f5_ := f3_.symm; clear f1_ f2_ f3_; subst f4_; subst f5_))
    refine start_ (n := 6) (S := fun w' => w'.cell? ⟨gb379, 0, none⟩ = some (.bool x380000_32) ∧ w'.cell? ⟨gb379, 1, none⟩ = some (.slice Ao88 x380001_32.length co88) ∧ w'.cell? ⟨gb365, 0, none⟩ = some (.bool a1_0) ∧ w'.cell? ⟨gb365, 1, none⟩ = some (.slice A1_1 l1_1.length c1_1)) (ds := []) #[false, false, false, false, false, false] zr8_27 rfl rfl ⟨(qbC BK379.out 0).trans rfl, (qbC BK379.out 1).trans rfl, (qbC BK365.out 0).trans rfl, (qbC BK365.out 1).trans rfl⟩ (fun hHeld => ?_)
    generalize wc.drew = w87 at HO_376001 HO_377001 HO_379001 HO_380001 BK364 BK365 BK366 BK375 BK376 BK378 BK379 HB hHeld ⊢
    refine take_ (i := 0) (N := some 34) (v := ?_) (a' := ?_) #[true, false, false, false, false, false] rfl rfl zr8_27 (fun _ _ _ h => h) (Or.inl ⟨by rfl, ?_⟩) hHeld ?_ ?_
    rotate_left
    ·rintro w' ⟨s0, s1, s2, s3⟩
     go_simp
     with_reducible rfl
    rotate_left
    ·simp only [Act.put, qsA, qsZ, qsS, i64_w, i32_w]
     rfl
    refine take_ (i := 1) (N := some 35) (v := ?_) (a' := ?_) #[true, true, false, false, false, false] rfl rfl zr8_27 (fun _ _ _ h => h) (Or.inl ⟨by rfl, ?_⟩) hHeld ?_ ?_
    rotate_left
    ·rintro w' ⟨s0, s1, s2, s3⟩
     go_simp
     with_reducible rfl
    rotate_left
    ·simp only [Act.put, qsA, qsZ, qsS, i64_w, i32_w]
     rfl
    refine take_ (i := 3) (N := some 37) (v := ?_) (a' := ?_) #[true, true, false, true, false, false] rfl rfl zr8_27 (fun _ _ _ h => h) (Or.inl ⟨by rfl, ?_⟩) hHeld ?_ ?_
    rotate_left
    ·rintro w' ⟨s0, s1, s2, s3⟩
     go_simp
     with_reducible rfl
    rotate_left
    ·simp only [Act.put, qsA, qsZ, qsS, i64_w, i32_w]
     rfl
    refine one_ (i := 2) (N := some 36) #[true, true, true, true, false, false] rfl rfl zr8_27 (by decide) (fun K hK => ?_)
    refine goes_ Try.func11 zr8_27 rfl #[.agg #[.bool x380000_32, .slice Ao88 x380001_32.length co88], .agg #[.bool x380000_32, .slice Ao88 x380001_32.length co88]] (by rfl) rfl rfl zr8_9 ?_
    with_reducible refine (spec_WideAdd.calls kj32 x380000_32 _ _ x380001_32 x380000_32 _ _ x380001_32 t393 t394 _ ?side1 ?side2 ?side3 ?side4 A84.out).mono ?_
    (case side1 => repeat (first | exact (qvR HO_380001.out).2.2 | (with_reducible refine Kd.C_alloc ?_ _) | (with_reducible refine Kd.C_drewN ?_ _) | (with_reducible refine Kd.C_drew ?_)))
    (case side2 => exact (qvR HO_380001.out).2.1)
    (case side3 => repeat (first | exact (qvR HO_380001.out).2.2 | (with_reducible refine Kd.C_alloc ?_ _) | (with_reducible refine Kd.C_drewN ?_ _) | (with_reducible refine Kd.C_drew ?_)))
    (case side4 => exact (qvR HO_380001.out).2.1)
    rintro e w89 ⟨v395, rfl, ho0, hb⟩
    refine ⟨_, rfl, ?_⟩
    have n0_ := qaM (qvB zr8_28 hb)
    have n1_ := qaM (qvB zr8_29 hb)
    have n2_ := qaM (qvB zr8_30 hb)
    have n3_ := qaM (qvB zr8_31 hb)
    have n4_ := qaM (qvL (qvM (ok' := fun k_ => (w.heap.size ≤ k_) ∧ k_ ≠ gb364 ∧ k_ ≠ gb365 ∧ k_ ≠ gb366 ∧ k_ ≠ gb375 ∧ k_ ≠ gb376 ∧ k_ ≠ gb378 ∧ k_ ≠ gb379) ho0 (fun k_ hk_ => ⟨(Nat.le_trans (qbS zr8_0) hk_), (qfB (g := gb364) (o := .cells #[.bool a0_0, .slice A0_1 l0_1.length c0_1] 25 (0, 0)) zr8_1 k_ hk_), (qfB (g := gb365) (o := .cells #[.bool a1_0, .slice A1_1 l1_1.length c1_1] 25 (0, 0)) zr8_2 k_ hk_), (qfB (g := gb366) (o := .cells #[.bool false, .slice none 0 0] 25 (0, 0)) zr8_3 k_ hk_), (qfB (g := gb375) (o := .cells #[.bool t367, .slice Ao50 t368.length co50] 25 (0, 0)) zr8_4 k_ hk_), (qfB (g := gb376) (o := .cells #[.bool t371, .slice Ao55 t372.length co55] 25 (0, 0)) zr8_5 k_ hk_), (qfB (g := gb378) (o := .cells #[.bool x379000_32, u379001] 25 (0, 0)) zr8_7 k_ hk_), (qfB (g := gb379) (o := .cells #[.bool x380000_32, .slice Ao88 x380001_32.length co88] 25 (0, 0)) zr8_8 k_ hk_)⟩)) (qbS zr8_0))
    have n5_ := qaM (qbB (g := gb364) (o := .cells #[.bool a0_0, .slice A0_1 l0_1.length c0_1] 25 (0, 0)) zr8_1 hb)
    have n6_ := qaM (qbB (g := gb365) (o := .cells #[.bool a1_0, .slice A1_1 l1_1.length c1_1] 25 (0, 0)) zr8_2 hb)
    have n7_ := qaM (qbB (g := gb366) (o := .cells #[.bool false, .slice none 0 0] 25 (0, 0)) zr8_3 hb)
    have n8_ := qaM (qbB (g := gb375) (o := .cells #[.bool t367, .slice Ao50 t368.length co50] 25 (0, 0)) zr8_4 hb)
    have n9_ := qaM (qbB (g := gb376) (o := .cells #[.bool t371, .slice Ao55 t372.length co55] 25 (0, 0)) zr8_5 hb)
    have n10_ := qaM (qbB (g := gb378) (o := .cells #[.bool x379000_32, u379001] 25 (0, 0)) zr8_7 hb)
    have n11_ := qaM (qbB (g := gb379) (o := .cells #[.bool x380000_32, .slice Ao88 x380001_32.length co88] 25 (0, 0)) zr8_8 hb)
    have n12_ := qaM (qbT zr8_0 hb)
    clear HO_376001
    clear HO_377001
    clear HO_379001
    clear HO_380001
    clear BK364
    clear BK365
    clear BK366
    clear BK375
    clear BK376
    clear BK378
    clear BK379
    clear HB
    have HO_376001 := n0_
    have HO_377001 := n1_
    have HO_379001 := n2_
    have HO_380001 := n3_
    have HO396 := n4_
    have BK364 := n5_
    have BK365 := n6_
    have BK366 := n7_
    have BK375 := n8_
    have BK376 := n9_
    have BK378 := n10_
    have BK379 := n11_
    have HB := n12_
    clear n0_ n1_ n2_ n3_ n4_ n5_ n6_ n7_ n8_ n9_ n10_ n11_ n12_
    (try clear hb)
    (try clear hb2)
    (try clear hk)
    (try clear hi)
    (try clear ho0)
    obtain ⟨Ao90, co90, eo90⟩ := Kd.V_slice HO396.out
    (first | subst eo90 | (injection eo90 with f1_ f2_ f3_; have f4_ := f1_.symm; have f5_ := f3_.symm; clear f1_ f2_ f3_; subst f4_; subst f5_))
    refine hK.out _ _ ⟨(qbC BK379.out 0).trans rfl, (qbC BK379.out 1).trans rfl, (qbC BK365.out 0).trans rfl, (qbC BK365.out 1).trans rfl⟩ (fun hHeld => ?_)
    clear hK K
    refine norm_ (a' := ?_) ?_ ?_
    rotate_left
    ·show Act.put _ (some 36) _ = _
     simp only [Act.put, qsA, qsZ, qsS, i64_w, i32_w]
     rfl
    refine one_ (i := 4) (N := some 38) #[true, true, true, true, true, false] rfl rfl zr8_27 (by decide) (fun K hK => ?_)
    refine goes_ Try.func26 zr8_27 rfl #[.agg #[.bool t393, .slice Ao90 t394.length co90], .agg #[.bool a1_0, .slice A1_1 l1_1.length c1_1]] (by rfl) rfl rfl zr8_9 ?_
    with_reducible refine (spec_WideCmp.calls kj32 t393 _ _ t394 a1_0 _ _ l1_1 t397 _ ?side1 ?side2 ?side3 ?side4 A85.out).mono ?_
    (case side1 => repeat (first | exact (qvR HO396.out).2.2 | (with_reducible refine Kd.C_alloc ?_ _) | (with_reducible refine Kd.C_drewN ?_ _) | (with_reducible refine Kd.C_drew ?_)))
    (case side2 => exact (qvR HO396.out).2.1)
    (case side3 => repeat (first | exact (Kd.C_below HR1_1.out HB.out) | (with_reducible refine Kd.C_alloc ?_ _) | (with_reducible refine Kd.C_drewN ?_ _) | (with_reducible refine Kd.C_drew ?_)))
    (case side4 => exact HC1_1.out)
    rintro e w91 ⟨rfl, hb⟩
    refine ⟨_, rfl, ?_⟩
    have n0_ := qaM (qvB zr8_28 hb)
    have n1_ := qaM (qvB zr8_29 hb)
    have n2_ := qaM (qvB zr8_30 hb)
    have n3_ := qaM (qvB zr8_31 hb)
    have n4_ := qaM (qvB (by (with_reducible repeat (first | apply qvA | apply qvN | apply qvD)); exact HO396.out) hb)
    have n5_ := qaM (qbB (g := gb364) (o := .cells #[.bool a0_0, .slice A0_1 l0_1.length c0_1] 25 (0, 0)) zr8_1 hb)
    have n6_ := qaM (qbB (g := gb365) (o := .cells #[.bool a1_0, .slice A1_1 l1_1.length c1_1] 25 (0, 0)) zr8_2 hb)
    have n7_ := qaM (qbB (g := gb366) (o := .cells #[.bool false, .slice none 0 0] 25 (0, 0)) zr8_3 hb)
    have n8_ := qaM (qbB (g := gb375) (o := .cells #[.bool t367, .slice Ao50 t368.length co50] 25 (0, 0)) zr8_4 hb)
    have n9_ := qaM (qbB (g := gb376) (o := .cells #[.bool t371, .slice Ao55 t372.length co55] 25 (0, 0)) zr8_5 hb)
    have n10_ := qaM (qbB (g := gb378) (o := .cells #[.bool x379000_32, u379001] 25 (0, 0)) zr8_7 hb)
    have n11_ := qaM (qbB (g := gb379) (o := .cells #[.bool x380000_32, .slice Ao88 x380001_32.length co88] 25 (0, 0)) zr8_8 hb)
    have n12_ := qaM (qbT zr8_0 hb)
    clear HO_376001
    clear HO_377001
    clear HO_379001
    clear HO_380001
    clear HO396
    clear BK364
    clear BK365
    clear BK366
    clear BK375
    clear BK376
    clear BK378
    clear BK379
    clear HB
    have HO_376001 := n0_
    have HO_377001 := n1_
    have HO_379001 := n2_
    have HO_380001 := n3_
    have HO396 := n4_
    have BK364 := n5_
    have BK365 := n6_
    have BK366 := n7_
    have BK375 := n8_
    have BK376 := n9_
    have BK378 := n10_
    have BK379 := n11_
    have HB := n12_
    clear n0_ n1_ n2_ n3_ n4_ n5_ n6_ n7_ n8_ n9_ n10_ n11_ n12_
    (try clear hb)
    (try clear hb2)
    (try clear hk)
    (try clear hi)
    refine hK.out _ _ ⟨(qbC BK379.out 0).trans rfl, (qbC BK379.out 1).trans rfl, (qbC BK365.out 0).trans rfl, (qbC BK365.out 1).trans rfl⟩ (fun hHeld => ?_)
    clear hK K
    refine norm_ (a' := ?_) ?_ ?_
    rotate_left
    ·show Act.put _ (some 38) _ = _
     simp only [Act.put, qsA, qsZ, qsS, i64_w, i32_w]
     rfl
    refine pure_ (i := 5) (N := some 11) (v := ?_) (a' := ?_) #[true, true, true, true, true, true] rfl rfl zr8_27 (fun _ _ _ h => h) (Or.inl ⟨by rfl, ?_⟩) ?_ ?_
    rotate_left
    ·intro w'
     go_simp
     with_reducible rfl
    rotate_left
    ·simp only [Act.put, qsA, qsZ, qsS, i64_w, i32_w]
     rfl
    refine done_ zr8_27 ?_
    go_upto_region 8 with (fail)
    go_cut [12] (fun v12 wc => ∃ (kq : Nat) (x12_85 : Bool), v12 = .bool x12_85 ∧ Aside0 (spec_RoundWide.j1 kq a2 t397 x12_85 a0_0 l0_1 x379000_32 x379001_32 = some (r1, r2)) ∧ Aside0 (kq ≤ kj32) ∧ Aside0 (Kd.V (Kd.int .u32) 22 wc w.heap.size (fun k_ => (w.heap.size ≤ k_) ∧ k_ ≠ gb364 ∧ k_ ≠ gb365 ∧ k_ ≠ gb366 ∧ k_ ≠ gb375 ∧ k_ ≠ gb376 ∧ k_ ≠ gb378 ∧ k_ ≠ gb379) (.slice Ao50 t368.length co50) t368) ∧ Aside0 (Kd.V (Kd.int .u32) 22 wc w.heap.size (fun k_ => (w.heap.size ≤ k_) ∧ k_ ≠ gb364 ∧ k_ ≠ gb365 ∧ k_ ≠ gb366 ∧ k_ ≠ gb375 ∧ k_ ≠ gb376 ∧ k_ ≠ gb378 ∧ k_ ≠ gb379) (.slice Ao55 t372.length co55) t372) ∧ Aside0 (Kd.V (Kd.int .u32) 22 wc w.heap.size (fun k_ => (w.heap.size ≤ k_) ∧ k_ ≠ gb364 ∧ k_ ≠ gb365 ∧ k_ ≠ gb366 ∧ k_ ≠ gb375 ∧ k_ ≠ gb376 ∧ k_ ≠ gb378 ∧ k_ ≠ gb379) u379001 x379001_32) ∧ Aside0 (Kd.V (Kd.int .u32) 22 wc w.heap.size (fun k_ => (w.heap.size ≤ k_) ∧ k_ ≠ gb364 ∧ k_ ≠ gb365 ∧ k_ ≠ gb366 ∧ k_ ≠ gb375 ∧ k_ ≠ gb376 ∧ k_ ≠ gb378 ∧ k_ ≠ gb379) (.slice Ao88 x380001_32.length co88) x380001_32) ∧ Aside0 (wc.heap[gb364]? = some (.cells #[.bool a0_0, (.slice A0_1 l0_1.length c0_1)] 25 (0, 0))) ∧ Aside0 (wc.heap[gb365]? = some (.cells #[.bool a1_0, (.slice A1_1 l1_1.length c1_1)] 25 (0, 0))) ∧ Aside0 (wc.heap[gb366]? = some (.cells #[.bool false, (.slice none 0 0)] 25 (0, 0))) ∧ Aside0 (wc.heap[gb375]? = some (.cells #[.bool t367, (.slice Ao50 t368.length co50)] 25 (0, 0))) ∧ Aside0 (wc.heap[gb376]? = some (.cells #[.bool t371, (.slice Ao55 t372.length co55)] 25 (0, 0))) ∧ Aside0 (wc.heap[gb378]? = some (.cells #[.bool x379000_32, u379001] 25 (0, 0))) ∧ Aside0 (wc.heap[gb379]? = some (.cells #[.bool x380000_32, (.slice Ao88 x380001_32.length co88)] 25 (0, 0))) ∧ Aside0 (Below w.heap.size w wc))
    case first =>
     have H := HC86.out
     clear HC86
     by_cases c92 : (x379001_32.length : Int) = 0
     ·rw [if_pos c92] at H
      have c92b0 : ((x379001_32.length : Int) == 0) = true := beq_iff_eq.mpr c92
      have c92b1 : ((x379001_32.length : Int) != 0) = false := bne_eq_false_iff_eq.mpr c92
      clear c92
      (first | rw [c92b0] | (simp only [i64_w, i32_w]; rw [c92b0]) | skip)
      have H' := qaM H
      clear H
      have hnb93 := NB378_364.out
      have hnc93 := NB364_378.out
      have hnb94 := NB378_365.out
      have hnc94 := NB365_378.out
      have hnb95 := NB378_366.out
      have hnc95 := NB366_378.out
      have hnb96 := NB378_375.out
      have hnc96 := NB375_378.out
      have hnb97 := NB378_376.out
      have hnc97 := NB376_378.out
      have hnb98 := NB378_379.out
      have hnc98 := NB379_378.out
      have hcz99_0 : w91.cell? ⟨gb378, 0, none⟩ = some (.bool x379000_32) := (qbC BK378.out 0).trans rfl
      have hcz99_1 : w91.cell? ⟨gb378, 1, none⟩ = some (u379001) := (qbC BK378.out 1).trans rfl
      have hfz99_0 := blk_frozen BK378.out 0
      have hfz99_1 := blk_frozen BK378.out 1
      obtain ⟨Ao100, co100, eo100⟩ := Kd.V_slice HO_379001.out
      subst eo100
      go_wp2
      go_meet
      case rel => exact ⟨_, (true), (by first | rfl | (simp; done) | (simp [*]; done)), H', ⟨by have := HJ32.out; first | omega | exact Nat.le_refl _⟩, ⟨by (with_reducible repeat (first | apply qvA | apply qvN | apply qvD)); exact HO_376001.out⟩, ⟨by (with_reducible repeat (first | apply qvA | apply qvN | apply qvD)); exact HO_377001.out⟩, ⟨by (with_reducible repeat (first | apply qvA | apply qvN | apply qvD)); exact HO_379001.out⟩, ⟨by (with_reducible repeat (first | apply qvA | apply qvN | apply qvD)); exact HO_380001.out⟩, ⟨by (with_reducible repeat (first | refine qbN ?_ _ | refine qbD ?_ | refine qbA ?_ _)); exact BK364.out⟩, ⟨by (with_reducible repeat (first | refine qbN ?_ _ | refine qbD ?_ | refine qbA ?_ _)); exact BK365.out⟩, ⟨by (with_reducible repeat (first | refine qbN ?_ _ | refine qbD ?_ | refine qbA ?_ _)); exact BK366.out⟩, ⟨by (with_reducible repeat (first | refine qbN ?_ _ | refine qbD ?_ | refine qbA ?_ _)); exact BK375.out⟩, ⟨by (with_reducible repeat (first | refine qbN ?_ _ | refine qbD ?_ | refine qbA ?_ _)); exact BK376.out⟩, ⟨by (with_reducible repeat (first | refine qbN ?_ _ | refine qbD ?_ | refine qbA ?_ _)); exact BK378.out⟩, ⟨by (with_reducible repeat (first | refine qbN ?_ _ | refine qbD ?_ | refine qbA ?_ _)); exact BK379.out⟩, ⟨by repeat (first | (with_reducible first | exact HB.out | apply qwA | apply qwN | apply qwD | refine qwS ?_ GE364.out | refine qwS ?_ GE365.out | refine qwS ?_ GE366.out | refine qwS ?_ GE375.out | refine qwS ?_ GE376.out | refine qwS ?_ GE378.out | refine qwS ?_ GE379.out) | exact HB.out)⟩⟩
     ·rw [if_neg c92] at H
      have c92b0 : ((x379001_32.length : Int) == 0) = false := beq_eq_false_iff_ne.mpr c92
      have c92b1 : ((x379001_32.length : Int) != 0) = true := bne_iff_ne.mpr c92
      have c92b2 : ¬ (x379001_32 = []) := fun h_ => c92 (by rw [h_]; rfl)
      (first | rw [c92b0] | (simp only [i64_w, i32_w]; rw [c92b0]) | skip)
      by_cases c101 : 0 < (x379001_32.length : Int)
      ·rw [if_pos c101] at H
       have c101b0 : decide (0 < (x379001_32.length : Int)) = true := decide_eq_true c101
       have c101b1 : decide (0 < x379001_32.length) = true := decide_eq_true (by omega)
       clear c101
       have H' := qaM H
       clear H
       have hnb102 := NB378_364.out
       have hnc102 := NB364_378.out
       have hnb103 := NB378_365.out
       have hnc103 := NB365_378.out
       have hnb104 := NB378_366.out
       have hnc104 := NB366_378.out
       have hnb105 := NB378_375.out
       have hnc105 := NB375_378.out
       have hnb106 := NB378_376.out
       have hnc106 := NB376_378.out
       have hnb107 := NB378_379.out
       have hnc107 := NB379_378.out
       have hcz108_0 : w91.cell? ⟨gb378, 0, none⟩ = some (.bool x379000_32) := (qbC BK378.out 0).trans rfl
       have hcz108_1 : w91.cell? ⟨gb378, 1, none⟩ = some (u379001) := (qbC BK378.out 1).trans rfl
       have hfz108_0 := blk_frozen BK378.out 0
       have hfz108_1 := blk_frozen BK378.out 1
       obtain ⟨Ao109, co109, eo109⟩ := Kd.V_slice HO_379001.out
       subst eo109
       have p398 : 0 ≤ (0 : Int) := (by omega)
       have q398 : 0 < (x379001_32.length : Int) := qoD (by first | (with_reducible assumption) | assumption)
       obtain ⟨ad398, e398, hx398_0⟩ := Kd.at_int (qvR HO_379001.out).2.2 0 p398 q398
       cases e398
       have qi398 : (0 < x379001_32.length) = True := eq_true (by omega)
       (try rw [show ((0 : Int)).toNat = 0 from rfl] at hx398_0)
       (try rw [Addr.add_zero'] at hx398_0)
       replace p398 := eq_true p398
       replace q398 := eq_true q398
       go_wp2
       go_meet
       case rel => exact ⟨_, (((Go.bits .and .u32 (rd x379001_32 0) 1) == 0)), (by first | rfl | (simp; done) | (simp [*]; done)), H', ⟨by have := HJ32.out; first | omega | exact Nat.le_refl _⟩, ⟨by (with_reducible repeat (first | apply qvA | apply qvN | apply qvD)); exact HO_376001.out⟩, ⟨by (with_reducible repeat (first | apply qvA | apply qvN | apply qvD)); exact HO_377001.out⟩, ⟨by (with_reducible repeat (first | apply qvA | apply qvN | apply qvD)); exact HO_379001.out⟩, ⟨by (with_reducible repeat (first | apply qvA | apply qvN | apply qvD)); exact HO_380001.out⟩, ⟨by (with_reducible repeat (first | refine qbN ?_ _ | refine qbD ?_ | refine qbA ?_ _)); exact BK364.out⟩, ⟨by (with_reducible repeat (first | refine qbN ?_ _ | refine qbD ?_ | refine qbA ?_ _)); exact BK365.out⟩, ⟨by (with_reducible repeat (first | refine qbN ?_ _ | refine qbD ?_ | refine qbA ?_ _)); exact BK366.out⟩, ⟨by (with_reducible repeat (first | refine qbN ?_ _ | refine qbD ?_ | refine qbA ?_ _)); exact BK375.out⟩, ⟨by (with_reducible repeat (first | refine qbN ?_ _ | refine qbD ?_ | refine qbA ?_ _)); exact BK376.out⟩, ⟨by (with_reducible repeat (first | refine qbN ?_ _ | refine qbD ?_ | refine qbA ?_ _)); exact BK378.out⟩, ⟨by (with_reducible repeat (first | refine qbN ?_ _ | refine qbD ?_ | refine qbA ?_ _)); exact BK379.out⟩, ⟨by repeat (first | (with_reducible first | exact HB.out | apply qwA | apply qwN | apply qwD | refine qwS ?_ GE364.out | refine qwS ?_ GE365.out | refine qwS ?_ GE366.out | refine qwS ?_ GE375.out | refine qwS ?_ GE376.out | refine qwS ?_ GE378.out | refine qwS ?_ GE379.out) | exact HB.out)⟩⟩
      ·rw [if_neg c101] at H
       exact absurd H (by simp)
    case rest =>
     clear HC86
     try clear c1
     try clear c2
     try clear p2
     try clear p3
     try clear q3
     try clear hx3
     try clear qi3
     try clear c4
     try clear c6
     try clear c9
     try clear c10
     try clear c11
     try clear c17
     try clear c25
     try clear c26
     try clear p39
     try clear q39
     try clear hx39
     try clear qi39
     try clear c40
     try clear c65
     try clear c66
     try clear c69
     try clear c69b0
     try clear c92
     try clear c92b0
     try clear c92b1
     try clear c92b2
     try clear c93
     try clear c94
     try clear c95
     try clear c96
     try clear c97
     try clear c98
     try clear c101
     try clear c101b0
     try clear c101b1
     try clear c102
     try clear c103
     try clear c104
     try clear c105
     try clear c106
     try clear c107
     try clear hcz108_0
     try clear hcz108_1
     try clear hcz67_0
     try clear hcz67_1
     try clear hcz99_0
     try clear hcz99_1
     try clear hfz108_0
     try clear hfz108_1
     try clear hfz67_0
     try clear hfz67_1
     try clear hfz99_0
     try clear hfz99_1
     try clear hx398_0
     try clear p2
     try clear p398
     try clear q398
     obtain ⟨kq, x12_85, rfl, HA, HJ85, HO_376001, HO_377001, HO_379001, HO_380001, BK364, BK365, BK366, BK375, BK376, BK378, BK379, HB⟩ := hcut
     cases kq with
     | zero => exact absurd HA.out (by simp [spec_RoundWide.j1])
     | succ kj85 =>
      have H := HA.out
      clear HA
      simp only [spec_RoundWide.j1] at H
      replace H := Option.bind_eq_some_iff.mp H
      obtain ⟨t399, A1100, H⟩ := H
      replace H : (if t399 = true then ((spec_WideInt.f kj85 1).bind fun bt400 => ((spec_WideAdd.f kj85 x379000_32 x379001_32 bt400.1 bt400.2).bind fun bt404 => (some (bt404.1, bt404.2)))) else (some (x379000_32, x379001_32))) = some (r1, r2) := H
      have A110 := qaM A1100
      clear A1100
      by_cases c111 : t399 = true
      ·subst c111
       have H1 : ((spec_WideInt.f kj85 1).bind fun bt400 => ((spec_WideAdd.f kj85 x379000_32 x379001_32 bt400.1 bt400.2).bind fun bt404 => (some (bt404.1, bt404.2)))) = some (r1, r2) := by rw [if_pos rfl] at H; exact H
       clear H
       have H := H1
       clear H1
       replace H := Option.bind_eq_some_iff.mp H
       obtain ⟨⟨t400, t401⟩, A1120, H⟩ := H
       replace H : ((spec_WideAdd.f kj85 x379000_32 x379001_32 t400 t401).bind fun bt404 => (some (bt404.1, bt404.2))) = some (r1, r2) := H
       have A112 := qaM A1120
       clear A1120
       replace H := Option.bind_eq_some_iff.mp H
       obtain ⟨⟨t404, t405⟩, A1130, H⟩ := H
       replace H : (some (t404, t405)) = some (r1, r2) := H
       have A113 := qaM A1130
       clear A1130
       simp only [Option.some.injEq, Prod.mk.injEq] at H
       obtain ⟨rfl, rfl⟩ := H
       have hnb114 := NB364_365.out
       have hnc114 := NB365_364.out
       have hnb115 := NB364_366.out
       have hnc115 := NB366_364.out
       have hnb116 := NB364_375.out
       have hnc116 := NB375_364.out
       have hnb117 := NB364_376.out
       have hnc117 := NB376_364.out
       have hnb118 := NB364_378.out
       have hnc118 := NB378_364.out
       have hnb119 := NB364_379.out
       have hnc119 := NB379_364.out
       have hcz120_0 : wc.cell? ⟨gb364, 0, none⟩ = some (.bool a0_0) := (qbC BK364.out 0).trans rfl
       have hcz120_1 : wc.cell? ⟨gb364, 1, none⟩ = some (.slice A0_1 l0_1.length c0_1) := (qbC BK364.out 1).trans rfl
       have hfz120_0 := blk_frozen BK364.out 0
       have hfz120_1 := blk_frozen BK364.out 1
       try go_wp2_with (first | ((with_reducible refine gate_callee (f := 41) rfl ?_); refine goesL_ (some 56) rfl rfl Try.func41 zr8_27 rfl #[.int .i64 a2, .int .i64 t397, .bool x12_85, .bool a0_0] rfl zr8_9 ?_; (with_reducible refine (spec_upper.calls a2 t397 x12_85 a0_0 true _ A110.out).mono ?_); rintro e w' ⟨rfl, ⟨nd, rfl⟩⟩; refine ⟨_, rfl, ?_⟩; (try (rw [drewN_self wc]; generalize hq_ : World.drewN wc _ = wc; have n0_ : Aside0 (Kd.V (Kd.int .u32) 22 wc w.heap.size (fun k_ => (w.heap.size ≤ k_) ∧ k_ ≠ gb364 ∧ k_ ≠ gb365 ∧ k_ ≠ gb366 ∧ k_ ≠ gb375 ∧ k_ ≠ gb376 ∧ k_ ≠ gb378 ∧ k_ ≠ gb379) (.slice Ao50 t368.length co50) t368) := ⟨by rw [← hq_]; exact zr8_28⟩; have n1_ : Aside0 (Kd.V (Kd.int .u32) 22 wc w.heap.size (fun k_ => (w.heap.size ≤ k_) ∧ k_ ≠ gb364 ∧ k_ ≠ gb365 ∧ k_ ≠ gb366 ∧ k_ ≠ gb375 ∧ k_ ≠ gb376 ∧ k_ ≠ gb378 ∧ k_ ≠ gb379) (.slice Ao55 t372.length co55) t372) := ⟨by rw [← hq_]; exact zr8_29⟩; have n2_ : Aside0 (Kd.V (Kd.int .u32) 22 wc w.heap.size (fun k_ => (w.heap.size ≤ k_) ∧ k_ ≠ gb364 ∧ k_ ≠ gb365 ∧ k_ ≠ gb366 ∧ k_ ≠ gb375 ∧ k_ ≠ gb376 ∧ k_ ≠ gb378 ∧ k_ ≠ gb379) u379001 x379001_32) := ⟨by rw [← hq_]; exact zr8_30⟩; have n3_ : Aside0 (Kd.V (Kd.int .u32) 22 wc w.heap.size (fun k_ => (w.heap.size ≤ k_) ∧ k_ ≠ gb364 ∧ k_ ≠ gb365 ∧ k_ ≠ gb366 ∧ k_ ≠ gb375 ∧ k_ ≠ gb376 ∧ k_ ≠ gb378 ∧ k_ ≠ gb379) (.slice Ao88 x380001_32.length co88) x380001_32) := ⟨by rw [← hq_]; exact zr8_31⟩; have n4_ : Aside0 (wc.heap[gb364]? = some (.cells #[.bool a0_0, .slice A0_1 l0_1.length c0_1] 25 (0, 0))) := ⟨by rw [← hq_]; exact zr8_1⟩; have n5_ : Aside0 (wc.heap[gb365]? = some (.cells #[.bool a1_0, .slice A1_1 l1_1.length c1_1] 25 (0, 0))) := ⟨by rw [← hq_]; exact zr8_2⟩; have n6_ : Aside0 (wc.heap[gb366]? = some (.cells #[.bool false, .slice none 0 0] 25 (0, 0))) := ⟨by rw [← hq_]; exact zr8_3⟩; have n7_ : Aside0 (wc.heap[gb375]? = some (.cells #[.bool t367, .slice Ao50 t368.length co50] 25 (0, 0))) := ⟨by rw [← hq_]; exact zr8_4⟩; have n8_ : Aside0 (wc.heap[gb376]? = some (.cells #[.bool t371, .slice Ao55 t372.length co55] 25 (0, 0))) := ⟨by rw [← hq_]; exact zr8_5⟩; have n9_ : Aside0 (wc.heap[gb378]? = some (.cells #[.bool x379000_32, u379001] 25 (0, 0))) := ⟨by rw [← hq_]; exact zr8_7⟩; have n10_ : Aside0 (wc.heap[gb379]? = some (.cells #[.bool x380000_32, .slice Ao88 x380001_32.length co88] 25 (0, 0))) := ⟨by rw [← hq_]; exact zr8_8⟩; have n11_ : Aside0 (Below w.heap.size w wc) := ⟨by rw [← hq_]; exact zr8_0⟩; clear HO_376001 HO_377001 HO_379001 HO_380001 BK364 BK365 BK366 BK375 BK376 BK378 BK379 HB hq_; have HO_376001 := n0_; have HO_377001 := n1_; have HO_379001 := n2_; have HO_380001 := n3_; have BK364 := n4_; have BK365 := n5_; have BK366 := n6_; have BK375 := n7_; have BK376 := n8_; have BK378 := n9_; have BK379 := n10_; have HB := n11_; clear n0_ n1_ n2_ n3_ n4_ n5_ n6_ n7_ n8_ n9_ n10_ n11_))))
       have n0_ := qaM (qvD HO_376001.out)
       have n1_ := qaM (qvD HO_377001.out)
       have n2_ := qaM (qvD HO_379001.out)
       have n3_ := qaM (qvD HO_380001.out)
       have n4_ := qaM (qbD BK364.out)
       have n5_ := qaM (qbD BK365.out)
       have n6_ := qaM (qbD BK366.out)
       have n7_ := qaM (qbD BK375.out)
       have n8_ := qaM (qbD BK376.out)
       have n9_ := qaM (qbD BK378.out)
       have n10_ := qaM (qbD BK379.out)
       have n11_ := qaM (qwD HB.out)
       clear HO_376001
       clear HO_377001
       clear HO_379001
       clear HO_380001
       clear BK364
       clear BK365
       clear BK366
       clear BK375
       clear BK376
       clear BK378
       clear BK379
       clear HB
       have HO_376001 := n0_
       have HO_377001 := n1_
       have HO_379001 := n2_
       have HO_380001 := n3_
       have BK364 := n4_
       have BK365 := n5_
       have BK366 := n6_
       have BK375 := n7_
       have BK376 := n8_
       have BK378 := n9_
       have BK379 := n10_
       have HB := n11_
       clear n0_ n1_ n2_ n3_ n4_ n5_ n6_ n7_ n8_ n9_ n10_ n11_
       refine start_ (n := 4) (S := fun w' => w'.cell? ⟨gb378, 0, none⟩ = some (.bool x379000_32) ∧ w'.cell? ⟨gb378, 1, none⟩ = some (u379001)) (ds := []) #[false, false, false, false] zr8_27 rfl rfl ⟨(qbC BK378.out 0).trans rfl, (qbC BK378.out 1).trans rfl⟩ (fun hHeld => ?_)
       generalize wc.drew = w121 at HO_376001 HO_377001 HO_379001 HO_380001 BK364 BK365 BK366 BK375 BK376 BK378 BK379 HB hHeld ⊢
       refine take_ (i := 0) (N := some 57) (v := ?_) (a' := ?_) #[true, false, false, false] rfl rfl zr8_27 (fun _ _ _ h => h) (Or.inl ⟨by rfl, ?_⟩) hHeld ?_ ?_
       rotate_left
       ·rintro w' ⟨s0, s1⟩
        go_simp
        with_reducible rfl
       rotate_left
       ·simp only [Act.put, qsA, qsZ, qsS, i64_w, i32_w]
        rfl
       refine one_ (i := 1) (N := some 58) #[true, true, false, false] rfl rfl zr8_27 (by decide) (fun K hK => ?_)
       refine goes_ Try.func17 zr8_27 rfl #[.int .i64 1] (by rfl) rfl rfl zr8_9 ?_
       with_reducible refine (spec_WideInt.calls kj85 1 t400 t401 _ A112.out).mono ?_
       rintro e w122 ⟨v402, rfl, ho0, hb⟩
       refine ⟨_, rfl, ?_⟩
       have n0_ := qaM (qvB zr8_28 hb)
       have n1_ := qaM (qvB zr8_29 hb)
       have n2_ := qaM (qvB zr8_30 hb)
       have n3_ := qaM (qvB zr8_31 hb)
       have n4_ := qaM (qvL (qvM (ok' := fun k_ => (w.heap.size ≤ k_) ∧ k_ ≠ gb364 ∧ k_ ≠ gb365 ∧ k_ ≠ gb366 ∧ k_ ≠ gb375 ∧ k_ ≠ gb376 ∧ k_ ≠ gb378 ∧ k_ ≠ gb379) ho0 (fun k_ hk_ => ⟨(Nat.le_trans (qbS zr8_0) hk_), (qfB (g := gb364) (o := .cells #[.bool a0_0, .slice A0_1 l0_1.length c0_1] 25 (0, 0)) zr8_1 k_ hk_), (qfB (g := gb365) (o := .cells #[.bool a1_0, .slice A1_1 l1_1.length c1_1] 25 (0, 0)) zr8_2 k_ hk_), (qfB (g := gb366) (o := .cells #[.bool false, .slice none 0 0] 25 (0, 0)) zr8_3 k_ hk_), (qfB (g := gb375) (o := .cells #[.bool t367, .slice Ao50 t368.length co50] 25 (0, 0)) zr8_4 k_ hk_), (qfB (g := gb376) (o := .cells #[.bool t371, .slice Ao55 t372.length co55] 25 (0, 0)) zr8_5 k_ hk_), (qfB (g := gb378) (o := .cells #[.bool x379000_32, u379001] 25 (0, 0)) zr8_7 k_ hk_), (qfB (g := gb379) (o := .cells #[.bool x380000_32, .slice Ao88 x380001_32.length co88] 25 (0, 0)) zr8_8 k_ hk_)⟩)) (qbS zr8_0))
       have n5_ := qaM (qbB (g := gb364) (o := .cells #[.bool a0_0, .slice A0_1 l0_1.length c0_1] 25 (0, 0)) zr8_1 hb)
       have n6_ := qaM (qbB (g := gb365) (o := .cells #[.bool a1_0, .slice A1_1 l1_1.length c1_1] 25 (0, 0)) zr8_2 hb)
       have n7_ := qaM (qbB (g := gb366) (o := .cells #[.bool false, .slice none 0 0] 25 (0, 0)) zr8_3 hb)
       have n8_ := qaM (qbB (g := gb375) (o := .cells #[.bool t367, .slice Ao50 t368.length co50] 25 (0, 0)) zr8_4 hb)
       have n9_ := qaM (qbB (g := gb376) (o := .cells #[.bool t371, .slice Ao55 t372.length co55] 25 (0, 0)) zr8_5 hb)
       have n10_ := qaM (qbB (g := gb378) (o := .cells #[.bool x379000_32, u379001] 25 (0, 0)) zr8_7 hb)
       have n11_ := qaM (qbB (g := gb379) (o := .cells #[.bool x380000_32, .slice Ao88 x380001_32.length co88] 25 (0, 0)) zr8_8 hb)
       have n12_ := qaM (qbT zr8_0 hb)
       clear HO_376001
       clear HO_377001
       clear HO_379001
       clear HO_380001
       clear BK364
       clear BK365
       clear BK366
       clear BK375
       clear BK376
       clear BK378
       clear BK379
       clear HB
       have HO_376001 := n0_
       have HO_377001 := n1_
       have HO_379001 := n2_
       have HO_380001 := n3_
       have HO403 := n4_
       have BK364 := n5_
       have BK365 := n6_
       have BK366 := n7_
       have BK375 := n8_
       have BK376 := n9_
       have BK378 := n10_
       have BK379 := n11_
       have HB := n12_
       clear n0_ n1_ n2_ n3_ n4_ n5_ n6_ n7_ n8_ n9_ n10_ n11_ n12_
       (try clear hb)
       (try clear hb2)
       (try clear hk)
       (try clear hi)
       (try clear ho0)
       obtain ⟨Ao123, co123, eo123⟩ := Kd.V_slice HO_379001.out
       (first | subst eo123 | (injection eo123 with f1_ f2_ f3_; have f4_ := f1_.symm; have f5_ := f3_.symm; clear f1_ f2_ f3_; subst f4_; subst f5_))
       obtain ⟨Ao124, co124, eo124⟩ := Kd.V_slice HO403.out
       (first | subst eo124 | (injection eo124 with f1_ f2_ f3_; have f4_ := f1_.symm; have f5_ := f3_.symm; clear f1_ f2_ f3_; subst f4_; subst f5_))
       refine hK.out _ _ ⟨(qbC BK378.out 0).trans rfl, (qbC BK378.out 1).trans rfl⟩ (fun hHeld => ?_)
       clear hK K
       refine norm_ (a' := ?_) ?_ ?_
       rotate_left
       ·show Act.put _ (some 58) _ = _
        simp only [Act.put, qsA, qsZ, qsS, i64_w, i32_w]
        rfl
       refine one_ (i := 2) (N := some 59) #[true, true, true, false] rfl rfl zr8_27 (by decide) (fun K hK => ?_)
       refine goes_ Try.func11 zr8_27 rfl #[.agg #[.bool x379000_32, .slice Ao123 x379001_32.length co123], .agg #[.bool t400, .slice Ao124 t401.length co124]] (by rfl) rfl rfl zr8_9 ?_
       with_reducible refine (spec_WideAdd.calls kj85 x379000_32 _ _ x379001_32 t400 _ _ t401 t404 t405 _ ?side1 ?side2 ?side3 ?side4 A113.out).mono ?_
       (case side1 => repeat (first | exact (qvR HO_379001.out).2.2 | (with_reducible refine Kd.C_alloc ?_ _) | (with_reducible refine Kd.C_drewN ?_ _) | (with_reducible refine Kd.C_drew ?_)))
       (case side2 => exact (qvR HO_379001.out).2.1)
       (case side3 => repeat (first | exact (qvR HO403.out).2.2 | (with_reducible refine Kd.C_alloc ?_ _) | (with_reducible refine Kd.C_drewN ?_ _) | (with_reducible refine Kd.C_drew ?_)))
       (case side4 => exact (qvR HO403.out).2.1)
       rintro e w125 ⟨v406, rfl, ho0, hb⟩
       refine ⟨_, rfl, ?_⟩
       have n0_ := qaM (qvB zr8_28 hb)
       have n1_ := qaM (qvB zr8_29 hb)
       have n2_ := qaM (qvB zr8_30 hb)
       have n3_ := qaM (qvB zr8_31 hb)
       have n4_ := qaM (qvB (by (with_reducible repeat (first | apply qvA | apply qvN | apply qvD)); exact HO403.out) hb)
       have n5_ := qaM (qvL (qvM (ok' := fun k_ => (w.heap.size ≤ k_) ∧ k_ ≠ gb364 ∧ k_ ≠ gb365 ∧ k_ ≠ gb366 ∧ k_ ≠ gb375 ∧ k_ ≠ gb376 ∧ k_ ≠ gb378 ∧ k_ ≠ gb379) ho0 (fun k_ hk_ => ⟨(Nat.le_trans (qbS zr8_0) hk_), (qfB (g := gb364) (o := .cells #[.bool a0_0, .slice A0_1 l0_1.length c0_1] 25 (0, 0)) zr8_1 k_ hk_), (qfB (g := gb365) (o := .cells #[.bool a1_0, .slice A1_1 l1_1.length c1_1] 25 (0, 0)) zr8_2 k_ hk_), (qfB (g := gb366) (o := .cells #[.bool false, .slice none 0 0] 25 (0, 0)) zr8_3 k_ hk_), (qfB (g := gb375) (o := .cells #[.bool t367, .slice Ao50 t368.length co50] 25 (0, 0)) zr8_4 k_ hk_), (qfB (g := gb376) (o := .cells #[.bool t371, .slice Ao55 t372.length co55] 25 (0, 0)) zr8_5 k_ hk_), (qfB (g := gb378) (o := .cells #[.bool x379000_32, .slice Ao123 x379001_32.length co123] 25 (0, 0)) zr8_7 k_ hk_), (qfB (g := gb379) (o := .cells #[.bool x380000_32, .slice Ao88 x380001_32.length co88] 25 (0, 0)) zr8_8 k_ hk_)⟩)) (qbS zr8_0))
       have n6_ := qaM (qbB (g := gb364) (o := .cells #[.bool a0_0, .slice A0_1 l0_1.length c0_1] 25 (0, 0)) zr8_1 hb)
       have n7_ := qaM (qbB (g := gb365) (o := .cells #[.bool a1_0, .slice A1_1 l1_1.length c1_1] 25 (0, 0)) zr8_2 hb)
       have n8_ := qaM (qbB (g := gb366) (o := .cells #[.bool false, .slice none 0 0] 25 (0, 0)) zr8_3 hb)
       have n9_ := qaM (qbB (g := gb375) (o := .cells #[.bool t367, .slice Ao50 t368.length co50] 25 (0, 0)) zr8_4 hb)
       have n10_ := qaM (qbB (g := gb376) (o := .cells #[.bool t371, .slice Ao55 t372.length co55] 25 (0, 0)) zr8_5 hb)
       have n11_ := qaM (qbB (g := gb378) (o := .cells #[.bool x379000_32, .slice Ao123 x379001_32.length co123] 25 (0, 0)) zr8_7 hb)
       have n12_ := qaM (qbB (g := gb379) (o := .cells #[.bool x380000_32, .slice Ao88 x380001_32.length co88] 25 (0, 0)) zr8_8 hb)
       have n13_ := qaM (qbT zr8_0 hb)
       clear HO_376001
       clear HO_377001
       clear HO_379001
       clear HO_380001
       clear HO403
       clear BK364
       clear BK365
       clear BK366
       clear BK375
       clear BK376
       clear BK378
       clear BK379
       clear HB
       have HO_376001 := n0_
       have HO_377001 := n1_
       have HO_379001 := n2_
       have HO_380001 := n3_
       have HO403 := n4_
       have HO407 := n5_
       have BK364 := n6_
       have BK365 := n7_
       have BK366 := n8_
       have BK375 := n9_
       have BK376 := n10_
       have BK378 := n11_
       have BK379 := n12_
       have HB := n13_
       clear n0_ n1_ n2_ n3_ n4_ n5_ n6_ n7_ n8_ n9_ n10_ n11_ n12_ n13_
       (try clear hb)
       (try clear hb2)
       (try clear hk)
       (try clear hi)
       (try clear ho0)
       obtain ⟨Ao127, co127, eo127⟩ := Kd.V_slice HO407.out
       (first | subst eo127 | (injection eo127 with f1_ f2_ f3_; have f4_ := f1_.symm; have f5_ := f3_.symm; clear f1_ f2_ f3_; subst f4_; subst f5_))
       refine hK.out _ _ ⟨(qbC BK378.out 0).trans rfl, (qbC BK378.out 1).trans rfl⟩ (fun hHeld => ?_)
       clear hK K
       refine norm_ (a' := ?_) ?_ ?_
       rotate_left
       ·show Act.put _ (some 59) _ = _
        simp only [Act.put, qsA, qsZ, qsS, i64_w, i32_w]
        rfl
       refine one_ (i := 3) (N := none) #[true, true, true, true] rfl rfl zr8_27 (by decide) (fun K hK => ?_)
       have hs126 : w125.cell? ⟨gb366, 0, none⟩ = some (.bool false) := (qbC BK366.out 0).trans rfl
       have hfs126 := blk_frozen BK366.out 0
       have hns126_0 := NB364_366.out
       have hns126_1 := NB365_366.out
       have hns126_3 := NB375_366.out
       have hns126_4 := NB376_366.out
       have hns126_5 := NB378_366.out
       have hns126_6 := NB379_366.out
       have hms126_0 := NB366_364.out
       have hms126_1 := NB366_365.out
       have hms126_3 := NB366_375.out
       have hms126_4 := NB366_376.out
       have hms126_5 := NB366_378.out
       have hms126_6 := NB366_379.out
       have hs128 : w125.cell? ⟨gb366, 1, none⟩ = some (.slice none 0 0) := (qbC BK366.out 1).trans rfl
       have hfs128 := blk_frozen BK366.out 1
       have hns128_0 := NB364_366.out
       have hns128_1 := NB365_366.out
       have hns128_3 := NB375_366.out
       have hns128_4 := NB376_366.out
       have hns128_5 := NB378_366.out
       have hns128_6 := NB379_366.out
       have hms128_0 := NB366_364.out
       have hms128_1 := NB366_365.out
       have hms128_3 := NB366_375.out
       have hms128_4 := NB366_376.out
       have hms128_5 := NB366_378.out
       have hms128_6 := NB366_379.out
       refine skip_ (w1 := ?_) (by rfl) rfl ?_ ?_
       rotate_left
       ·go_simp
        rfl
       refine hK.out _ _ ⟨((cell_far (p := ⟨gb366, _, none⟩) NB378_366.out _).trans (((cell_far (p := ⟨gb366, _, none⟩) NB378_366.out _).trans (hHeld.1)))), ((cell_far (p := ⟨gb366, _, none⟩) NB378_366.out _).trans (((cell_far (p := ⟨gb366, _, none⟩) NB378_366.out _).trans (hHeld.2))))⟩ (fun hHeld => ?_)
       clear hK K
       refine done_ zr8_27 ?_
       try go_wp2
       refine bodyPost_ret (results_cell_row rfl _ _ gb366 25 #[.bool t404, .slice Ao127 t405.length co127] (0, 0) _ rfl (by (with_reducible repeat (first | refine qbN ?_ _ | refine qbD ?_ | refine qbA ?_ _)); refine qbP (cs := #[.bool t404, .slice none 0 0]) ?_ 1 _ rfl; (with_reducible repeat (first | refine qbN ?_ _ | refine qbD ?_ | refine qbA ?_ _)); refine qbP (cs := #[.bool false, .slice none 0 0]) ?_ 0 _ rfl; (with_reducible repeat (first | refine qbN ?_ _ | refine qbD ?_ | refine qbA ?_ _)); exact BK366.out) Try.underlying25 rfl zr8_27) rfl ?_
       exact ⟨_, by first | rfl | (simp [errW_none, errW_some] <;> rfl) | (simp [*, errW_none, errW_some] <;> rfl), by (with_reducible repeat (first | apply qvA | apply qvN | apply qvD)); exact qvM (qvF (p := ⟨gb366, 1, none⟩) (qvF (p := ⟨gb366, 0, none⟩) (qvM HO407.out (fun k_ hk => (⟨hk, hk.2.2.2.1⟩ : _ ∧ k_ ≠ gb366))) (fun _ hk => hk.2) (.bool t404)) (fun _ hk => hk.2) (.slice Ao127 t405.length co127)) (fun _ hk => hk.1.1), by repeat (first | (with_reducible first | exact HB.out | apply qwA | apply qwN | apply qwD | refine qwS ?_ GE364.out | refine qwS ?_ GE365.out | refine qwS ?_ GE366.out | refine qwS ?_ GE375.out | refine qwS ?_ GE376.out | refine qwS ?_ GE378.out | refine qwS ?_ GE379.out) | exact HB.out)⟩
      ·replace c111 := Bool.eq_false_iff.mpr c111
       subst c111
       have H1 : (some (x379000_32, x379001_32)) = some (r1, r2) := by rw [if_neg (show ¬ (false = true) by decide)] at H; exact H
       clear H
       have H := H1
       clear H1
       simp only [Option.some.injEq, Prod.mk.injEq] at H
       obtain ⟨rfl, rfl⟩ := H
       have hnb129 := NB364_365.out
       have hnc129 := NB365_364.out
       have hnb130 := NB364_366.out
       have hnc130 := NB366_364.out
       have hnb131 := NB364_375.out
       have hnc131 := NB375_364.out
       have hnb132 := NB364_376.out
       have hnc132 := NB376_364.out
       have hnb133 := NB364_378.out
       have hnc133 := NB378_364.out
       have hnb134 := NB364_379.out
       have hnc134 := NB379_364.out
       have hcz135_0 : wc.cell? ⟨gb364, 0, none⟩ = some (.bool a0_0) := (qbC BK364.out 0).trans rfl
       have hcz135_1 : wc.cell? ⟨gb364, 1, none⟩ = some (.slice A0_1 l0_1.length c0_1) := (qbC BK364.out 1).trans rfl
       have hfz135_0 := blk_frozen BK364.out 0
       have hfz135_1 := blk_frozen BK364.out 1
       go_wp2_with (first | ((with_reducible refine gate_callee (f := 41) rfl ?_); refine goesL_ (some 56) rfl rfl Try.func41 zr8_27 rfl #[.int .i64 a2, .int .i64 t397, .bool x12_85, .bool a0_0] rfl zr8_9 ?_; (with_reducible refine (spec_upper.calls a2 t397 x12_85 a0_0 false _ A110.out).mono ?_); rintro e w' ⟨rfl, ⟨nd, rfl⟩⟩; refine ⟨_, rfl, ?_⟩; (try (rw [drewN_self wc]; generalize hq_ : World.drewN wc _ = wc; have n0_ : Aside0 (Kd.V (Kd.int .u32) 22 wc w.heap.size (fun k_ => (w.heap.size ≤ k_) ∧ k_ ≠ gb364 ∧ k_ ≠ gb365 ∧ k_ ≠ gb366 ∧ k_ ≠ gb375 ∧ k_ ≠ gb376 ∧ k_ ≠ gb378 ∧ k_ ≠ gb379) (.slice Ao50 t368.length co50) t368) := ⟨by rw [← hq_]; exact zr8_28⟩; have n1_ : Aside0 (Kd.V (Kd.int .u32) 22 wc w.heap.size (fun k_ => (w.heap.size ≤ k_) ∧ k_ ≠ gb364 ∧ k_ ≠ gb365 ∧ k_ ≠ gb366 ∧ k_ ≠ gb375 ∧ k_ ≠ gb376 ∧ k_ ≠ gb378 ∧ k_ ≠ gb379) (.slice Ao55 t372.length co55) t372) := ⟨by rw [← hq_]; exact zr8_29⟩; have n2_ : Aside0 (Kd.V (Kd.int .u32) 22 wc w.heap.size (fun k_ => (w.heap.size ≤ k_) ∧ k_ ≠ gb364 ∧ k_ ≠ gb365 ∧ k_ ≠ gb366 ∧ k_ ≠ gb375 ∧ k_ ≠ gb376 ∧ k_ ≠ gb378 ∧ k_ ≠ gb379) u379001 x379001_32) := ⟨by rw [← hq_]; exact zr8_30⟩; have n3_ : Aside0 (Kd.V (Kd.int .u32) 22 wc w.heap.size (fun k_ => (w.heap.size ≤ k_) ∧ k_ ≠ gb364 ∧ k_ ≠ gb365 ∧ k_ ≠ gb366 ∧ k_ ≠ gb375 ∧ k_ ≠ gb376 ∧ k_ ≠ gb378 ∧ k_ ≠ gb379) (.slice Ao88 x380001_32.length co88) x380001_32) := ⟨by rw [← hq_]; exact zr8_31⟩; have n4_ : Aside0 (wc.heap[gb364]? = some (.cells #[.bool a0_0, .slice A0_1 l0_1.length c0_1] 25 (0, 0))) := ⟨by rw [← hq_]; exact zr8_1⟩; have n5_ : Aside0 (wc.heap[gb365]? = some (.cells #[.bool a1_0, .slice A1_1 l1_1.length c1_1] 25 (0, 0))) := ⟨by rw [← hq_]; exact zr8_2⟩; have n6_ : Aside0 (wc.heap[gb366]? = some (.cells #[.bool false, .slice none 0 0] 25 (0, 0))) := ⟨by rw [← hq_]; exact zr8_3⟩; have n7_ : Aside0 (wc.heap[gb375]? = some (.cells #[.bool t367, .slice Ao50 t368.length co50] 25 (0, 0))) := ⟨by rw [← hq_]; exact zr8_4⟩; have n8_ : Aside0 (wc.heap[gb376]? = some (.cells #[.bool t371, .slice Ao55 t372.length co55] 25 (0, 0))) := ⟨by rw [← hq_]; exact zr8_5⟩; have n9_ : Aside0 (wc.heap[gb378]? = some (.cells #[.bool x379000_32, u379001] 25 (0, 0))) := ⟨by rw [← hq_]; exact zr8_7⟩; have n10_ : Aside0 (wc.heap[gb379]? = some (.cells #[.bool x380000_32, .slice Ao88 x380001_32.length co88] 25 (0, 0))) := ⟨by rw [← hq_]; exact zr8_8⟩; have n11_ : Aside0 (Below w.heap.size w wc) := ⟨by rw [← hq_]; exact zr8_0⟩; clear HO_376001 HO_377001 HO_379001 HO_380001 BK364 BK365 BK366 BK375 BK376 BK378 BK379 HB hq_; have HO_376001 := n0_; have HO_377001 := n1_; have HO_379001 := n2_; have HO_380001 := n3_; have BK364 := n4_; have BK365 := n5_; have BK366 := n6_; have BK375 := n7_; have BK376 := n8_; have BK378 := n9_; have BK379 := n10_; have HB := n11_; clear n0_ n1_ n2_ n3_ n4_ n5_ n6_ n7_ n8_ n9_ n10_ n11_)); have hnb136 := NB378_365.out; have hnc136 := NB365_378.out; have hnb137 := NB378_366.out; have hnc137 := NB366_378.out; have hnb138 := NB378_375.out; have hnc138 := NB375_378.out; have hnb139 := NB378_376.out; have hnc139 := NB376_378.out; have hnb140 := NB378_379.out; have hnc140 := NB379_378.out; have hcz141_0 : wc.cell? ⟨gb378, 0, none⟩ = some (.bool x379000_32) := (qbC BK378.out 0).trans rfl; have hcz141_1 : wc.cell? ⟨gb378, 1, none⟩ = some (u379001) := (qbC BK378.out 1).trans rfl; have hfz141_0 := blk_frozen BK378.out 0; have hfz141_1 := blk_frozen BK378.out 1; have hnb142 := NB366_365.out; have hnc142 := NB365_366.out; have hnb143 := NB366_375.out; have hnc143 := NB375_366.out; have hnb144 := NB366_376.out; have hnc144 := NB376_366.out; have hnb145 := NB366_379.out; have hnc145 := NB379_366.out; have hcz146_0 : wc.cell? ⟨gb366, 0, none⟩ = some (.bool false) := (qbC BK366.out 0).trans rfl; have hcz146_1 : wc.cell? ⟨gb366, 1, none⟩ = some (.slice none 0 0) := (qbC BK366.out 1).trans rfl; have hfz146_0 := blk_frozen BK366.out 0; have hfz146_1 := blk_frozen BK366.out 1; obtain ⟨Ao147, co147, eo147⟩ := Kd.V_slice HO_379001.out; subst eo147))
       refine bodyPost_ret (results_cell_row rfl _ _ gb366 25 #[.bool x379000_32, .slice Ao147 x379001_32.length co147] (0, 0) _ rfl (by (with_reducible repeat (first | refine qbN ?_ _ | refine qbD ?_ | refine qbA ?_ _)); refine qbP (cs := #[.bool x379000_32, .slice none 0 0]) ?_ 1 _ rfl; (with_reducible repeat (first | refine qbN ?_ _ | refine qbD ?_ | refine qbA ?_ _)); refine qbP (cs := #[.bool false, .slice none 0 0]) ?_ 0 _ rfl; (with_reducible repeat (first | refine qbN ?_ _ | refine qbD ?_ | refine qbA ?_ _)); exact BK366.out) Try.underlying25 rfl zr8_27) rfl ?_
       exact ⟨_, by first | rfl | (simp [errW_none, errW_some] <;> rfl) | (simp [*, errW_none, errW_some] <;> rfl), by (with_reducible repeat (first | apply qvA | apply qvN | apply qvD)); exact qvM (qvF (p := ⟨gb366, 1, none⟩) (qvF (p := ⟨gb366, 0, none⟩) (qvM HO_379001.out (fun k_ hk => (⟨hk, hk.2.2.2.1⟩ : _ ∧ k_ ≠ gb366))) (fun _ hk => hk.2) (.bool x379000_32)) (fun _ hk => hk.2) (.slice Ao147 x379001_32.length co147)) (fun _ hk => hk.1.1), by repeat (first | (with_reducible first | exact HB.out | apply qwA | apply qwN | apply qwD | refine qwS ?_ GE364.out | refine qwS ?_ GE365.out | refine qwS ?_ GE366.out | refine qwS ?_ GE375.out | refine qwS ?_ GE376.out | refine qwS ?_ GE378.out | refine qwS ?_ GE379.out) | exact HB.out)⟩

end Go.Proofs.Ytelpdndlmhcdoaa.QR
