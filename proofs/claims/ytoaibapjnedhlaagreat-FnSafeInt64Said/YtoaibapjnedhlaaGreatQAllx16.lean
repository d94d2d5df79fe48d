/- Printed by a program of this session (print2.py) over the kit's print: the functions that a law reaches, over contracts proved by hand. Lean checks it. -/
import Derived.Test.YtoaibapjnedhlaaGreatQAllx0
import Derived.Test.YtoaibapjnedhlaaGreatQAllx4
import Derived.Test.YtoaibapjnedhlaaGreatQAllx5
import Derived.Test.YtoaibapjnedhlaaGreatQAllx9
import Derived.Test.YtoaibapjnedhlaaGreatQAllx13
import Derived.Test.YtoaibapjnedhlaaGreatQAllx15
namespace Go.Proofs.YtoaibapjnedhlaaGreat.QAll
open Go.RowKit Go.Proofs.YtoaibapjnedhlaaGreatW.PrintWords Go.Proofs.YtoaibapjnedhlaaGreatW.PrintLast Go.Proofs.YtoaibapjnedhlaaGreatW.PrintMore
attribute [local go_sem] max2_int min2_int max_two min_two max_three min_three max_four min_four   -- for this text's walks alone
set_option linter.unusedVariables false
set_option linter.unusedSimpArgs false

theorem zd16_0 {p : Prop} (h : p := by (with_reducible repeat (first | refine qbN ?_ _ | refine qbD ?_ | refine qbA ?_ _)); exact BK292.out) : p := h
theorem zd16_1 {p : Prop} (h : p := by (with_reducible repeat (first | refine qbN ?_ _ | refine qbD ?_ | refine qbA ?_ _)); exact BK297.out) : p := h
theorem zd16_2 {p : Prop} (h : p := by repeat (first | (with_reducible first | exact HB.out | apply qwA | apply qwN | apply qwD | refine qwS ?_ GE292.out | refine qwS ?_ GE297.out) | exact HB.out)) : p := h
theorem zd16_3 {p : Prop} (h : p := by repeat (first | (with_reducible first | exact HB.out | apply qwA | apply qwN | apply qwD | refine qwS ?_ GE292.out | refine qwS ?_ GE297.out | refine qwS ?_ GE316.out) | exact HB.out)) : p := h
theorem zd16_4 {p : Prop} (h : p := by repeat (first | (with_reducible first | exact HB.out | apply qwA | apply qwN | apply qwD | refine qwS ?_ GE292.out | refine qwS ?_ GE297.out | refine qwS ?_ GE317.out) | exact HB.out)) : p := h
theorem zd16_5 {p : Prop} (h : p := by repeat (first | (with_reducible first | exact HB.out | apply qwA | apply qwN | apply qwD | refine qwS ?_ GE292.out | refine qwS ?_ GE297.out | refine qwS ?_ GE316.out | refine qwS ?_ GE317.out) | exact HB.out)) : p := h
theorem zd16_6 {p : Prop} (h : p := by (with_reducible repeat (first | refine qbN ?_ _ | refine qbD ?_ | refine qbA ?_ _)); exact BK316.out) : p := h
theorem zd16_7 {p : Prop} (h : p := by (with_reducible repeat (first | refine qbN ?_ _ | refine qbD ?_ | refine qbA ?_ _)); exact BK317.out) : p := h
theorem zd16_8 {p : Prop} (h : p := by (with_reducible repeat (first | apply qvA | apply qvN | apply qvD)); exact HO_293001.out) : p := h
theorem zd16_9 {p : Prop} (h : p := by (with_reducible repeat (first | apply qvA | apply qvN | apply qvD)); exact HO_298001.out) : p := h
theorem zd16_10 {p : Prop} (h : p := by first | (simp only [putAll, Act.put, qsA, qsZ, qsS]; done) | (simp only [putAll, Act.put, qsA, qsZ, qsS]; rfl)) : p := h
theorem zd16_11 {p : Prop} (h : p := by (try simp only [List.map_toArray, List.map_cons, List.map_nil]); first | done | rfl | (simp only [List.length_drop, List.length_take]; rfl)) : p := h
theorem zd16_12 {p : Prop} (h : p := by (with_reducible repeat (first | apply qvA | apply qvN | apply qvD)); exact HO307.out) : p := h
theorem zd16_13 {p : Prop} (h : p := by kernel_rfl) : p := h
theorem zd16_14 {p : Prop} (h : p := by (with_reducible repeat (first | apply qvA | apply qvN | apply qvD)); exact qvM HO_293001.out (fun _ hk => ⟨hk.1.1, ⟨hk.1.2.1, ⟨hk.1.2.2, hk.2⟩⟩⟩)) : p := h
theorem zd16_15 {p : Prop} (h : p := by (with_reducible repeat (first | apply qvA | apply qvN | apply qvD)); exact qvM HO_298001.out (fun _ hk => ⟨hk.1.1, ⟨hk.1.2.1, ⟨hk.1.2.2, hk.2⟩⟩⟩)) : p := h
theorem zd16_16 {p : Prop} (h : p := by (with_reducible repeat (first | apply qvA | apply qvN | apply qvD)); exact HO311.out) : p := h
theorem zd16_17 {p : Prop} (h : p := by (with_reducible repeat (first | apply qvA | apply qvN | apply qvD)); exact HO315.out) : p := h
theorem zd16_18 {p : Prop} (h : p := by repeat (first | (with_reducible first | exact HB.out | apply qwA | apply qwN | apply qwD | refine qwS ?_ GE292.out) | exact HB.out)) : p := h
theorem zd16_19 {p : Prop} (h : p := by (with_reducible repeat (first | apply qvA | apply qvN | apply qvD)); exact HO0_1.out) : p := h
theorem zd16_20 {p : Prop} (h : p := by (with_reducible repeat (first | apply qvA | apply qvN | apply qvD)); exact qvM HO307.out (fun _ hk => ⟨hk.1.1, ⟨hk.1.2.1, ⟨hk.1.2.2, hk.2⟩⟩⟩)) : p := h
theorem zd16_21 {p : Prop} (h : p := by repeat (first | (with_reducible first | exact HB.out | apply qwA | apply qwN | apply qwD | refine qwS ?_ GE292.out | refine qwS ?_ GE297.out | refine qwS ?_ GE317.out | refine qwS ?_ GE316.out) | exact HB.out)) : p := h
theorem zd16_22 {p : Prop} (h : p := by (with_reducible repeat (first | apply qvA | apply qvN | apply qvD)); exact qvM HO_293001.out (fun _ hk => ⟨hk.1.1, ⟨hk.1.2.1, ⟨hk.1.2.2.1, ⟨hk.2, hk.1.2.2.2⟩⟩⟩⟩)) : p := h
theorem zd16_23 {p : Prop} (h : p := by (with_reducible repeat (first | apply qvA | apply qvN | apply qvD)); exact qvM HO_298001.out (fun _ hk => ⟨hk.1.1, ⟨hk.1.2.1, ⟨hk.1.2.2.1, ⟨hk.2, hk.1.2.2.2⟩⟩⟩⟩)) : p := h
theorem zd16_24 {p : Prop} (h : p := by (with_reducible repeat (first | apply qvA | apply qvN | apply qvD)); exact qvM HO_293001.out (fun _ hk => ⟨hk.1.1, ⟨hk.1.2.1, ⟨hk.1.2.2.1, ⟨hk.1.2.2.2, hk.2⟩⟩⟩⟩)) : p := h
theorem zd16_25 {p : Prop} (h : p := by (with_reducible repeat (first | apply qvA | apply qvN | apply qvD)); exact qvM HO_298001.out (fun _ hk => ⟨hk.1.1, ⟨hk.1.2.1, ⟨hk.1.2.2.1, ⟨hk.1.2.2.2, hk.2⟩⟩⟩⟩)) : p := h
theorem zd16_26 {p : Prop} (h : p := by (with_reducible repeat (first | apply qvA | apply qvN | apply qvD)); exact HO296.out) : p := h
theorem zd16_27 {p : Prop} (h : p := by first | (with_reducible assumption) | assumption) : p := h
theorem zd16_28 {p : Prop} (h : p := by first | rfl | (simp; done) | (simp [*]; done)) : p := h
theorem zd16_29 {p : Prop} (h : p := by repeat (first | (with_reducible first | exact HB.out | apply qwA | apply qwN | apply qwD) | exact HB.out)) : p := h
theorem zd16_30 {p : Prop} (h : p := by (with_reducible repeat (first | apply qvA | apply qvN | apply qvD)); exact qvM HO307.out (fun _ hk => ⟨hk.1.1, ⟨hk.1.2.1, ⟨hk.1.2.2.1, ⟨hk.2, hk.1.2.2.2⟩⟩⟩⟩)) : p := h
theorem zd16_31 {p : Prop} (h : p := by (with_reducible repeat (first | apply qvA | apply qvN | apply qvD)); exact qvM HO307.out (fun _ hk => ⟨hk.1.1, ⟨hk.1.2.1, ⟨hk.1.2.2.1, ⟨hk.1.2.2.2, hk.2⟩⟩⟩⟩)) : p := h
theorem zd16_32 {p : Prop} (h : p := by (with_reducible repeat (first | apply qvA | apply qvN | apply qvD)); exact qvM HO311.out (fun _ hk => ⟨hk.1.1, ⟨hk.1.2.1, ⟨hk.1.2.2, hk.2⟩⟩⟩)) : p := h
theorem zd16_33 {p : Prop} (h : p := by (with_reducible repeat (first | apply qvA | apply qvN | apply qvD)); exact qvM HO315.out (fun _ hk => ⟨hk.1.1, ⟨hk.1.2.1, ⟨hk.1.2.2, hk.2⟩⟩⟩)) : p := h
theorem zd16_34 {p : Prop} (h : p := by decide) : p := h
/-! ### spec_ToWords: function 17 -/
mutual
def spec_ToWords.j0 : Nat → Int → Bool → Bool → List Int → Option (List Int × Bool)
 | 0, _, _, _, _ => none
 | k + 1, x1, x7, x293000, x293001 => if x293000 = true then ((spec_Two.f k (wrap64 (64 * x1))).bind fun bt304 => ((spec_WideDiv.f k x293000 x293001 bt304.1 bt304.2).bind fun bt308 => ((spec_Two.f k (wrap64 (64 * x1))).bind fun bt318 => ((spec_WideAdd.f k bt308.2.2.1 bt308.2.2.2 bt318.1 bt318.2).bind fun bt322 => (spec_ToWords.j1 k x1 x7 bt322.1 bt322.2))))) else (spec_ToWords.j1 k x1 x7 x293000 x293001)
def spec_ToWords.j1 : Nat → Int → Bool → Bool → List Int → Option (List Int × Bool)
 | 0, _, _, _, _ => none
 | k + 1, x1, x7, x293000, x293001 => if 0 ≤ x1 then (if (x1 : Int).toNat ≤ 35184372088832 then ((some (List.replicate (x1 : Int).toNat 0 : List Int)).bind fun y326 => (spec_ToWords.l0 k x7 y326 (y326.length : Int) 0 x293000 x293001)) else (none)) else (none)
def spec_ToWords.l0 : Nat → Bool → List Int → Int → Int → Bool → List Int → Option (List Int × Bool)
 | 0, _, _, _, _, _, _ => none
 | k + 1, x7, x10, x46, x47, x293000, x293001 => if x47 < x46 then (spec_ToWords.l1 k x7 x10 x47 0 x46 x47 x293000 x293001) else (some (x10, x7))
def spec_ToWords.l1 : Nat → Bool → List Int → Int → Int → Int → Int → Bool → List Int → Option (List Int × Bool)
 | 0, _, _, _, _, _, _, _, _ => none
 | k + 1, x7, x10, x11, x12, x46, x47, x293000, x293001 => if x12 < 2 then (if (wrap64 ((wrap64 (2 * x11)) + x12)) < (x293001.length : Int) then (if 0 ≤ x11 then (if x11 < (x10.length : Int) then (if 0 ≤ (wrap64 ((wrap64 (2 * x11)) + x12)) then (if 0 ≤ (wrap64 (32 * x12)) then (spec_ToWords.l1 k x7 (x10.set (x11 : Int).toNat (Go.bits .or .u64 (rd x10 x11) (shl .u64 (IntKind.u64.wrap (rd x293001 (wrap64 ((wrap64 (2 * x11)) + x12)))) (wrap64 (32 * x12))))) x11 (wrap64 (x12 + 1)) x46 x47 x293000 x293001) else (none)) else (none)) else (none)) else (none)) else (spec_ToWords.l1 k x7 x10 x11 (wrap64 (x12 + 1)) x46 x47 x293000 x293001)) else (spec_ToWords.l0 k x7 x10 x46 (wrap64 (x47 + 1)) x293000 x293001)
end
def spec_ToWords.f (k : Nat) (a0_0 : Bool) (l0_1 : List Int) (a1 : Int) : Option (List Int × Bool) := (spec_Two.f k (wrap64 ((wrap64 (64 * a1)) - 1))).bind fun bt293 => ((spec_WideCmp.f k a0_0 l0_1 bt293.1 bt293.2).bind fun t298 => (if t298 < 0 then ((spec_Wide_Negated.f k bt293.1 bt293.2).bind fun bt299 => ((spec_WideCmp.f k a0_0 l0_1 bt299.1 bt299.2).bind fun t303 => (spec_ToWords.j0 k a1 (decide (t303 ≥ 0)) a0_0 l0_1))) else (spec_ToWords.j0 k a1 false a0_0 l0_1)))
theorem spec_ToWords.mono_l : ∀ k, (∀ y0 y1 y2 y3, LeO (spec_ToWords.j0 k y0 y1 y2 y3) (spec_ToWords.j0 (k + 1) y0 y1 y2 y3)) ∧ (∀ y0 y1 y2 y3, LeO (spec_ToWords.j1 k y0 y1 y2 y3) (spec_ToWords.j1 (k + 1) y0 y1 y2 y3)) ∧ (∀ y0 y1 y2 y3 y4 y5, LeO (spec_ToWords.l0 k y0 y1 y2 y3 y4 y5) (spec_ToWords.l0 (k + 1) y0 y1 y2 y3 y4 y5)) ∧ (∀ y0 y1 y2 y3 y4 y5 y6 y7, LeO (spec_ToWords.l1 k y0 y1 y2 y3 y4 y5 y6 y7) (spec_ToWords.l1 (k + 1) y0 y1 y2 y3 y4 y5 y6 y7))
 | 0 => ⟨fun _ _ _ _ r h => by simp [spec_ToWords.j0] at h, fun _ _ _ _ r h => by simp [spec_ToWords.j1] at h, fun _ _ _ _ _ _ r h => by simp [spec_ToWords.l0] at h, fun _ _ _ _ _ _ _ _ r h => by simp [spec_ToWords.l1] at h⟩
 | k + 1 => by
  obtain ⟨ih0, ih1, ih2, ih3⟩ := spec_ToWords.mono_l k
  refine ⟨?_, ?_, ?_, ?_⟩
  ·intro y0 y1 y2 y3
   unfold spec_ToWords.j0
   repeat' first
   | (with_reducible exact ih0 _ _ _ _)
   | (with_reducible exact ih1 _ _ _ _)
   | (with_reducible exact ih2 _ _ _ _ _ _)
   | (with_reducible exact ih3 _ _ _ _ _ _ _ _)
   | (with_reducible exact spec_Two.mono _ _)
   | (with_reducible exact spec_WideAdd.mono _ _ _ _ _)
   | (with_reducible exact spec_WideCmp.mono _ _ _ _ _)
   | (with_reducible exact spec_WideDiv.mono _ _ _ _ _)
   | (with_reducible exact spec_Wide_Negated.mono _ _ _)
   | (with_reducible exact LeO.refl _)
   | (with_reducible exact LeO.none _)
   | (with_reducible refine LeO.ite ?_ ?_)
   | (with_reducible refine LeO.bind ?_ (fun _ => ?_))
   | exact ih0 _ _ _ _
   | exact ih1 _ _ _ _
   | exact ih2 _ _ _ _ _ _
   | exact ih3 _ _ _ _ _ _ _ _
   | exact spec_Two.mono _ _
   | exact spec_WideAdd.mono _ _ _ _ _
   | exact spec_WideCmp.mono _ _ _ _ _
   | exact spec_WideDiv.mono _ _ _ _ _
   | exact spec_Wide_Negated.mono _ _ _
   | exact LeO.none _
   | refine LeO.ite ?_ ?_
   | refine LeO.bind ?_ (fun _ => ?_)
  ·intro y0 y1 y2 y3
   unfold spec_ToWords.j1
   repeat' first
   | (with_reducible exact ih0 _ _ _ _)
   | (with_reducible exact ih1 _ _ _ _)
   | (with_reducible exact ih2 _ _ _ _ _ _)
   | (with_reducible exact ih3 _ _ _ _ _ _ _ _)
   | (with_reducible exact spec_Two.mono _ _)
   | (with_reducible exact spec_WideAdd.mono _ _ _ _ _)
   | (with_reducible exact spec_WideCmp.mono _ _ _ _ _)
   | (with_reducible exact spec_WideDiv.mono _ _ _ _ _)
   | (with_reducible exact spec_Wide_Negated.mono _ _ _)
   | (with_reducible exact LeO.refl _)
   | (with_reducible exact LeO.none _)
   | (with_reducible refine LeO.ite ?_ ?_)
   | (with_reducible refine LeO.bind ?_ (fun _ => ?_))
   | exact ih0 _ _ _ _
   | exact ih1 _ _ _ _
   | exact ih2 _ _ _ _ _ _
   | exact ih3 _ _ _ _ _ _ _ _
   | exact spec_Two.mono _ _
   | exact spec_WideAdd.mono _ _ _ _ _
   | exact spec_WideCmp.mono _ _ _ _ _
   | exact spec_WideDiv.mono _ _ _ _ _
   | exact spec_Wide_Negated.mono _ _ _
   | exact LeO.none _
   | refine LeO.ite ?_ ?_
   | refine LeO.bind ?_ (fun _ => ?_)
  ·intro y0 y1 y2 y3 y4 y5
   unfold spec_ToWords.l0
   repeat' first
   | (with_reducible exact ih0 _ _ _ _)
   | (with_reducible exact ih1 _ _ _ _)
   | (with_reducible exact ih2 _ _ _ _ _ _)
   | (with_reducible exact ih3 _ _ _ _ _ _ _ _)
   | (with_reducible exact spec_Two.mono _ _)
   | (with_reducible exact spec_WideAdd.mono _ _ _ _ _)
   | (with_reducible exact spec_WideCmp.mono _ _ _ _ _)
   | (with_reducible exact spec_WideDiv.mono _ _ _ _ _)
   | (with_reducible exact spec_Wide_Negated.mono _ _ _)
   | (with_reducible exact LeO.refl _)
   | (with_reducible exact LeO.none _)
   | (with_reducible refine LeO.ite ?_ ?_)
   | (with_reducible refine LeO.bind ?_ (fun _ => ?_))
   | exact ih0 _ _ _ _
   | exact ih1 _ _ _ _
   | exact ih2 _ _ _ _ _ _
   | exact ih3 _ _ _ _ _ _ _ _
   | exact spec_Two.mono _ _
   | exact spec_WideAdd.mono _ _ _ _ _
   | exact spec_WideCmp.mono _ _ _ _ _
   | exact spec_WideDiv.mono _ _ _ _ _
   | exact spec_Wide_Negated.mono _ _ _
   | exact LeO.none _
   | refine LeO.ite ?_ ?_
   | refine LeO.bind ?_ (fun _ => ?_)
  ·intro y0 y1 y2 y3 y4 y5 y6 y7
   unfold spec_ToWords.l1
   repeat' first
   | (with_reducible exact ih0 _ _ _ _)
   | (with_reducible exact ih1 _ _ _ _)
   | (with_reducible exact ih2 _ _ _ _ _ _)
   | (with_reducible exact ih3 _ _ _ _ _ _ _ _)
   | (with_reducible exact spec_Two.mono _ _)
   | (with_reducible exact spec_WideAdd.mono _ _ _ _ _)
   | (with_reducible exact spec_WideCmp.mono _ _ _ _ _)
   | (with_reducible exact spec_WideDiv.mono _ _ _ _ _)
   | (with_reducible exact spec_Wide_Negated.mono _ _ _)
   | (with_reducible exact LeO.refl _)
   | (with_reducible exact LeO.none _)
   | (with_reducible refine LeO.ite ?_ ?_)
   | (with_reducible refine LeO.bind ?_ (fun _ => ?_))
   | exact ih0 _ _ _ _
   | exact ih1 _ _ _ _
   | exact ih2 _ _ _ _ _ _
   | exact ih3 _ _ _ _ _ _ _ _
   | exact spec_Two.mono _ _
   | exact spec_WideAdd.mono _ _ _ _ _
   | exact spec_WideCmp.mono _ _ _ _ _
   | exact spec_WideDiv.mono _ _ _ _ _
   | exact spec_Wide_Negated.mono _ _ _
   | exact LeO.none _
   | refine LeO.ite ?_ ?_
   | refine LeO.bind ?_ (fun _ => ?_)
theorem spec_ToWords.mono : ∀ a0 a1 a2 k, LeO (spec_ToWords.f k a0 a1 a2) (spec_ToWords.f (k + 1) a0 a1 a2) := by
 intro a0 a1 a2 k
 obtain ⟨ih0, ih1, ih2, ih3⟩ := spec_ToWords.mono_l k
 unfold spec_ToWords.f
 repeat' first
   | (with_reducible exact ih0 _ _ _ _)
   | (with_reducible exact ih1 _ _ _ _)
   | (with_reducible exact ih2 _ _ _ _ _ _)
   | (with_reducible exact ih3 _ _ _ _ _ _ _ _)
   | (with_reducible exact spec_Two.mono _ _)
   | (with_reducible exact spec_WideAdd.mono _ _ _ _ _)
   | (with_reducible exact spec_WideCmp.mono _ _ _ _ _)
   | (with_reducible exact spec_WideDiv.mono _ _ _ _ _)
   | (with_reducible exact spec_Wide_Negated.mono _ _ _)
   | (with_reducible exact LeO.refl _)
   | (with_reducible exact LeO.none _)
   | (with_reducible refine LeO.ite ?_ ?_)
   | (with_reducible refine LeO.bind ?_ (fun _ => ?_))
   | exact ih0 _ _ _ _
   | exact ih1 _ _ _ _
   | exact ih2 _ _ _ _ _ _
   | exact ih3 _ _ _ _ _ _ _ _
   | exact spec_Two.mono _ _
   | exact spec_WideAdd.mono _ _ _ _ _
   | exact spec_WideCmp.mono _ _ _ _ _
   | exact spec_WideDiv.mono _ _ _ _ _
   | exact spec_Wide_Negated.mono _ _ _
   | exact LeO.none _
   | refine LeO.ite ?_ ?_
   | refine LeO.bind ?_ (fun _ => ?_)
def spec_ToWords.T2 : Bool × List (List Nat × List Nat) := (true, [([], []), ([], []), ([0, 1], [0, 1]), ([2], [2]), ([3, 2], [3]), ([4], [4]), ([4], [4]), ([6, 4, 4], [4, 6]), ([5, 7, 7, 4], [4, 5, 7]), ([8, 4], [4, 8]), ([4, 9], [4, 9]), ([10, 8, 0, 1, 2, 3, 4, 5, 6, 7, 8, 9, 10], [10])])
def spec_ToWords.B2 : List Nat := [0, 0, 3, 7, 15, 31, 31, 95, 255, 511, 1023, 2047]
theorem spec_ToWords.tab2 : rtab .any (opsOf Tryz.f17 2) = spec_ToWords.T2 := by kernel_rfl
theorem spec_ToWords.bits2 : waitsOk spec_ToWords.T2.2 spec_ToWords.B2 = true := by kernel_rfl
def spec_ToWords.T4 : Bool × List (List Nat × List Nat) := (true, [([], []), ([], []), ([1], [1]), ([2], [2]), ([0, 3, 3], [0, 3]), ([4], [4]), ([5], [5]), ([5], [5]), ([], []), ([], []), ([8, 6, 4, 0, 1, 2, 3, 4, 5, 6, 8, 9], [6, 8]), ([9, 7, 10, 0, 1, 2, 3, 4, 5, 6, 7, 8, 9, 10], [7, 9])])
def spec_ToWords.B4 : List Nat := [0, 0, 2, 6, 15, 31, 63, 63, 0, 0, 895, 2047]
theorem spec_ToWords.tab4 : rtab .any (opsOf Tryz.f17 4) = spec_ToWords.T4 := by kernel_rfl
theorem spec_ToWords.bits4 : waitsOk spec_ToWords.T4.2 spec_ToWords.B4 = true := by kernel_rfl
def spec_ToWords.T14 : Bool × List (List Nat × List Nat) := (true, [([], []), ([], []), ([0, 1], [0, 1]), ([2], [2]), ([], []), ([4], [4]), ([], []), ([6], [6]), ([], []), ([7, 8], [7, 8]), ([5, 9], [5, 9]), ([10], [10]), ([11], [11]), ([], []), ([13], [13]), ([12, 14], [12, 14]), ([3, 15], [3, 15]), ([0, 1, 0, 1, 2, 3, 4, 5, 6, 7, 8, 9, 10, 11, 12, 13, 14, 15, 16], [0, 1]), ([17, 16, 0, 1, 2, 3, 4, 5, 6, 7, 8, 9, 10, 11, 12, 13, 14, 15, 16], [16, 17])])
def spec_ToWords.B14 : List Nat := [0, 0, 3, 7, 0, 16, 0, 64, 0, 448, 1008, 2032, 4080, 0, 8192, 32752, 65535, 131071, 262143]
theorem spec_ToWords.tab14 : rtab .any (opsOf Tryz.f17 14) = spec_ToWords.T14 := by kernel_rfl
theorem spec_ToWords.bits14 : waitsOk spec_ToWords.T14.2 spec_ToWords.B14 = true := by kernel_rfl
set_option maxHeartbeats 8000000 in
set_option maxRecDepth 100000 in
theorem spec_ToWords.calls (k : Nat) (a0_0 : Bool) (P0_1_ : Nat → Prop) (A0_1 : Option Addr) (c0_1 : Nat) (l0_1 : List Int) (a1 : Int) (r1 : List Int) (r2 : Bool) (w : World) (hs0_1 : Kd.V (Kd.int .u32) 104 w w.heap.size (fun k_ => P0_1_ k_) (.slice A0_1 l0_1.length c0_1) l0_1) (h : spec_ToWords.f k a0_0 l0_1 a1 = some (r1, r2)) :
  Calls Tryz.prog 17 #[.agg #[.bool a0_0, .slice A0_1 l0_1.length c0_1], .int .i64 a1] w fun e w' => ∃ v0_ : Value, e = .returned (.tuple #[v0_, .bool r2]) ∧ Kd.R (Kd.int .u64) 30 w' w.heap.size (fun k_ => (w.heap.size ≤ k_)) v0_ r1 ∧ Below w.heap.size w w' := by
 have hu27 := Tryz.underlying27
 have HO0_1 := qaM (show Kd.V (Kd.int .u32) 104 w w.heap.size (fun k_ => (P0_1_ k_ ∨ w.heap.size ≤ k_)) (.slice A0_1 l0_1.length c0_1) l0_1 from qvM hs0_1 (fun k_ hk => .inl hk))
 have HB := qaM (Below.refl w.heap.size w)
 have H : ((spec_Two.f k (wrap64 ((wrap64 (64 * a1)) - 1))).bind fun bt293 => ((spec_WideCmp.f k a0_0 l0_1 bt293.1 bt293.2).bind fun t298 => (if t298 < 0 then ((spec_Wide_Negated.f k bt293.1 bt293.2).bind fun bt299 => ((spec_WideCmp.f k a0_0 l0_1 bt299.1 bt299.2).bind fun t303 => (spec_ToWords.j0 k a1 (decide (t303 ≥ 0)) a0_0 l0_1))) else (spec_ToWords.j0 k a1 false a0_0 l0_1)))) = some (r1, r2) := h
 clear h
 replace H := Option.bind_eq_some_iff.mp H
 obtain ⟨⟨t293, t294⟩, A30, H⟩ := H
 replace H : ((spec_WideCmp.f k a0_0 l0_1 t293 t294).bind fun t298 => (if t298 < 0 then ((spec_Wide_Negated.f k t293 t294).bind fun bt299 => ((spec_WideCmp.f k a0_0 l0_1 bt299.1 bt299.2).bind fun t303 => (spec_ToWords.j0 k a1 (decide (t303 ≥ 0)) a0_0 l0_1))) else (spec_ToWords.j0 k a1 false a0_0 l0_1))) = some (r1, r2) := H
 have A3 := qaM A30
 clear A30
 have HC4 := qaM H
 clear H
 go_enter Tryz.func17, Tryz.ntmps17
 go_upto_region 2 with (first | ((with_reducible refine gate_dst (N := 2) rfl ?_); refine box_event ?hg (N := 2) ?hd (cs := #[.bool a0_0, .slice A0_1 l0_1.length c0_1]) (t := 27) ?hr ?_; (case hd => rfl); (case hg => rfl); (case hr => first | (go_simp; done) | (go_simp; rfl)); intro gb292 hg w5 hbox hb; have n0_ := qaM (qvB (qvE zd16_19 gb292 (Nat.le_of_eq hg.symm)) hb); have n1_ := qaM (qbT zd16_29 hb); have n2_ := qaM (hbox); have n3_ := qaM ((by rw [hg]; exact (qbS zd16_29) : w.heap.size ≤ gb292)); have n4_ := qaM ((by rw [hg]; exact (qbS zd16_29) : w.heap.size ≤ gb292)); clear HO0_1; clear HB; have HO0_1 := n0_; have HB := n1_; have BK292 := n2_; have GW292 := n3_; have GE292 := n4_; clear n0_ n1_ n2_ n3_ n4_; clear hb hbox hg) | ((with_reducible refine gate_callee (f := 13) rfl ?_); refine goesL_ (some 16) rfl rfl Tryz.func13 zd16_13 rfl #[.int .i64 (wrap64 ((wrap64 (64 * a1)) - 1))] rfl zd16_11 ?_; (with_reducible refine (spec_Two.calls k (wrap64 ((wrap64 (64 * a1)) - 1)) t293 t294 _ A3.out).mono ?_); rintro e w6 ⟨v295, rfl, ho0, hb⟩; refine ⟨_, rfl, ?_⟩; have n0_ := qaM (qvB zd16_19 hb); have n1_ := qaM (qvL (qvM (ok' := fun k_ => (P0_1_ k_ ∨ w.heap.size ≤ k_) ∧ k_ ≠ gb292) ho0 (fun k_ hk_ => ⟨(.inr (Nat.le_trans (qbS zd16_18) hk_)), (qfB (g := gb292) (o := .cells #[.bool a0_0, .slice A0_1 l0_1.length c0_1] 27 (0, 0)) zd16_0 k_ hk_)⟩)) (qbS zd16_18)); have n2_ := qaM (qbB (g := gb292) (o := .cells #[.bool a0_0, .slice A0_1 l0_1.length c0_1] 27 (0, 0)) zd16_0 hb); have n3_ := qaM (qbT zd16_18 hb); clear HO0_1; clear BK292; clear HB; have HO0_1 := n0_; have HO296 := n1_; have BK292 := n2_; have HB := n3_; clear n0_ n1_ n2_ n3_; (try clear hb); (try clear hb2); (try clear hk); (try clear hi); (try clear ho0)) | ((with_reducible refine gate_dst (N := 6) rfl ?_); refine box_event ?hg (N := 6) ?hd (cs := #[.bool false, .slice none 0 0]) (t := 27) ?hr ?_; (case hd => rfl); (case hg => rfl); (case hr => first | (go_simp; done) | (go_simp; rfl)); intro gb297 hg w7 hbox hb; have n0_ := qaM (qvB (qvE zd16_19 gb297 (Nat.le_of_eq hg.symm)) hb); have n1_ := qaM (qvB (qvE zd16_26 gb297 (Nat.le_of_eq hg.symm)) hb); have n2_ := qaM (qbB (g := gb292) (o := .cells #[.bool a0_0, .slice A0_1 l0_1.length c0_1] 27 (0, 0)) zd16_0 hb); have n3_ := qaM (qbT zd16_18 hb); have n4_ := qaM (hbox); have n5_ := qaM ((by rw [hg]; exact (qbS zd16_18) : w.heap.size ≤ gb297)); have n6_ := qaM ((by rw [hg]; exact (qbS zd16_18) : w.heap.size ≤ gb297)); have n7_ := qaM ((by rw [hg]; exact qnL (qbL (g := gb292) (o := .cells #[.bool a0_0, .slice A0_1 l0_1.length c0_1] 27 (0, 0)) zd16_0) : gb292 ≠ gb297)); have n8_ := qaM ((by rw [hg]; exact qnG (qbL (g := gb292) (o := .cells #[.bool a0_0, .slice A0_1 l0_1.length c0_1] 27 (0, 0)) zd16_0) : gb297 ≠ gb292)); clear HO0_1; clear HO296; clear BK292; clear HB; have HO0_1 := n0_; have HO296 := n1_; have BK292 := n2_; have HB := n3_; have BK297 := n4_; have GW297 := n5_; have GE297 := n6_; have NB292_297 := n7_; have NB297_292 := n8_; clear n0_ n1_ n2_ n3_ n4_ n5_ n6_ n7_ n8_; clear hb hbox hg; have hnb8 := NB297_292.out; have hnc8 := NB292_297.out; have hcz9_0 : w7.cell? ⟨gb297, 0, none⟩ = some (.bool false) := (qbC BK297.out 0).trans rfl; have hcz9_1 : w7.cell? ⟨gb297, 1, none⟩ = some (.slice none 0 0) := (qbC BK297.out 1).trans rfl; have hfz9_0 := blk_frozen BK297.out 0; have hfz9_1 := blk_frozen BK297.out 1; obtain ⟨Ao10, co10, eo10⟩ := Kd.V_slice HO296.out; subst eo10))
 (try simp only [Act.put, qsA, qsZ, qsS])
 go_cut [7] (fun v7 wc => ∃ (kq : Nat) (x7_3 : Bool), v7 = .bool x7_3 ∧ Aside0 (spec_ToWords.j0 kq a1 x7_3 a0_0 l0_1 = some (r1, r2)) ∧ Aside0 (kq ≤ k) ∧ Aside0 (Kd.V (Kd.int .u32) 104 wc w.heap.size (fun k_ => (P0_1_ k_ ∨ w.heap.size ≤ k_) ∧ k_ ≠ gb292 ∧ k_ ≠ gb297) (.slice A0_1 l0_1.length c0_1) l0_1) ∧ Aside0 (Kd.V (Kd.int .u32) 104 wc w.heap.size (fun k_ => (P0_1_ k_ ∨ w.heap.size ≤ k_) ∧ k_ ≠ gb292 ∧ k_ ≠ gb297) (.slice Ao10 t294.length co10) t294) ∧ Aside0 (wc.heap[gb292]? = some (.cells #[.bool a0_0, (.slice A0_1 l0_1.length c0_1)] 27 (0, 0))) ∧ Aside0 (wc.heap[gb297]? = some (.cells #[.bool t293, (.slice Ao10 t294.length co10)] 27 (0, 0))) ∧ Aside0 (Below w.heap.size w wc))
 case first =>
  have H := HC4.out
  clear HC4
  replace H := Option.bind_eq_some_iff.mp H
  obtain ⟨t298, A110, H⟩ := H
  replace H : (if t298 < 0 then ((spec_Wide_Negated.f k t293 t294).bind fun bt299 => ((spec_WideCmp.f k a0_0 l0_1 bt299.1 bt299.2).bind fun t303 => (spec_ToWords.j0 k a1 (decide (t303 ≥ 0)) a0_0 l0_1))) else (spec_ToWords.j0 k a1 false a0_0 l0_1)) = some (r1, r2) := H
  have A11 := qaM A110
  clear A110
  by_cases c12 : t298 < 0
  ·rw [if_pos c12] at H
   have c12b0 : decide (t298 < 0) = true := decide_eq_true c12
   clear c12
   (first | rw [c12b0] | (simp only [i64_w, i32_w]; rw [c12b0]) | skip)
   replace H := Option.bind_eq_some_iff.mp H
   obtain ⟨⟨t299, t300⟩, A130, H⟩ := H
   replace H : ((spec_WideCmp.f k a0_0 l0_1 t299 t300).bind fun t303 => (spec_ToWords.j0 k a1 (decide (t303 ≥ 0)) a0_0 l0_1)) = some (r1, r2) := H
   have A13 := qaM A130
   clear A130
   replace H := Option.bind_eq_some_iff.mp H
   obtain ⟨t303, A140, H⟩ := H
   replace H : (spec_ToWords.j0 k a1 (decide (t303 ≥ 0)) a0_0 l0_1) = some (r1, r2) := H
   have A14 := qaM A140
   clear A140
   have H' := qaM H
   clear H
   try go_wp2
   have n0_ : Aside0 (Kd.V (Kd.int .u32) 104 ((w7.setCell ⟨gb297, 0, none⟩ (.bool t293)).setCell ⟨gb297, 1, none⟩ (.slice Ao10 t294.length co10)) w.heap.size (fun k_ => (P0_1_ k_ ∨ w.heap.size ≤ k_) ∧ k_ ≠ gb292 ∧ k_ ≠ gb297) (.slice A0_1 l0_1.length c0_1) l0_1) := ⟨by (with_reducible repeat (first | apply qvA | apply qvN | apply qvD)); exact qvM (qvF (p := ⟨gb297, 1, none⟩) (qvF (p := ⟨gb297, 0, none⟩) (qvM HO0_1.out (fun k_ hk => (⟨hk, hk.2⟩ : _ ∧ k_ ≠ gb297))) (fun _ hk => hk.2) (.bool t293)) (fun _ hk => hk.2) (.slice Ao10 t294.length co10)) (fun _ hk => ⟨hk.1.1.1, ⟨hk.1.1.2, hk.1.2⟩⟩)⟩
   have n1_ : Aside0 (Kd.V (Kd.int .u32) 104 ((w7.setCell ⟨gb297, 0, none⟩ (.bool t293)).setCell ⟨gb297, 1, none⟩ (.slice Ao10 t294.length co10)) w.heap.size (fun k_ => (P0_1_ k_ ∨ w.heap.size ≤ k_) ∧ k_ ≠ gb292 ∧ k_ ≠ gb297) (.slice Ao10 t294.length co10) t294) := ⟨by (with_reducible repeat (first | apply qvA | apply qvN | apply qvD)); exact qvM (qvF (p := ⟨gb297, 1, none⟩) (qvF (p := ⟨gb297, 0, none⟩) (qvM HO296.out (fun k_ hk => (⟨hk, hk.2⟩ : _ ∧ k_ ≠ gb297))) (fun _ hk => hk.2) (.bool t293)) (fun _ hk => hk.2) (.slice Ao10 t294.length co10)) (fun _ hk => ⟨hk.1.1.1, ⟨hk.1.1.2, hk.1.2⟩⟩)⟩
   have n2_ : Aside0 (((w7.setCell ⟨gb297, 0, none⟩ (.bool t293)).setCell ⟨gb297, 1, none⟩ (.slice Ao10 t294.length co10)).heap[gb292]? = some (.cells #[.bool a0_0, .slice A0_1 l0_1.length c0_1] 27 (0, 0))) := ⟨by (with_reducible repeat (first | refine qbN ?_ _ | refine qbD ?_ | refine qbA ?_ _)); refine qbF ?_ NB292_297.out _; (with_reducible repeat (first | refine qbN ?_ _ | refine qbD ?_ | refine qbA ?_ _)); refine qbF ?_ NB292_297.out _; (with_reducible repeat (first | refine qbN ?_ _ | refine qbD ?_ | refine qbA ?_ _)); exact BK292.out⟩
   have n3_ : Aside0 (((w7.setCell ⟨gb297, 0, none⟩ (.bool t293)).setCell ⟨gb297, 1, none⟩ (.slice Ao10 t294.length co10)).heap[gb297]? = some (.cells #[.bool t293, .slice Ao10 t294.length co10] 27 (0, 0))) := ⟨by (with_reducible repeat (first | refine qbN ?_ _ | refine qbD ?_ | refine qbA ?_ _)); refine qbP (cs := #[.bool t293, .slice none 0 0]) ?_ 1 _ rfl; (with_reducible repeat (first | refine qbN ?_ _ | refine qbD ?_ | refine qbA ?_ _)); refine qbP (cs := #[.bool false, .slice none 0 0]) ?_ 0 _ rfl; (with_reducible repeat (first | refine qbN ?_ _ | refine qbD ?_ | refine qbA ?_ _)); exact BK297.out⟩
   have n4_ : Aside0 (Below w.heap.size w ((w7.setCell ⟨gb297, 0, none⟩ (.bool t293)).setCell ⟨gb297, 1, none⟩ (.slice Ao10 t294.length co10))) := ⟨by repeat (first | (with_reducible first | exact HB.out | apply qwA | apply qwN | apply qwD | refine qwS ?_ GE292.out | refine qwS ?_ GE297.out) | exact HB.out)⟩
   (try clear HO0_1)
   (try clear HO296)
   (try clear BK292)
   (try clear BK297)
   (try clear HB)
   generalize ((w7.setCell ⟨gb297, 0, none⟩ (.bool t293)).setCell ⟨gb297, 1, none⟩ (.slice Ao10 t294.length co10)) = w15 at n0_ n1_ n2_ n3_ n4_ ⊢
   have HO0_1 := n0_
   have HO296 := n1_
   have BK292 := n2_
   have BK297 := n3_
   have HB := n4_
   clear n0_ n1_ n2_ n3_ n4_
   have n0_ := qaM (qvD HO0_1.out)
   have n1_ := qaM (qvD HO296.out)
   have n2_ := qaM (qbD BK292.out)
   have n3_ := qaM (qbD BK297.out)
   have n4_ := qaM (qwD HB.out)
   clear HO0_1
   clear HO296
   clear BK292
   clear BK297
   clear HB
   have HO0_1 := n0_
   have HO296 := n1_
   have BK292 := n2_
   have BK297 := n3_
   have HB := n4_
   clear n0_ n1_ n2_ n3_ n4_
   refine start_ (n := 12) (S := fun w' => w'.cell? ⟨gb292, 0, none⟩ = some (.bool a0_0) ∧ w'.cell? ⟨gb292, 1, none⟩ = some (.slice A0_1 l0_1.length c0_1) ∧ w'.cell? ⟨gb297, 0, none⟩ = some (.bool t293) ∧ w'.cell? ⟨gb297, 1, none⟩ = some (.slice Ao10 t294.length co10)) (ds := []) #[false, false, false, false, false, false, false, false, false, false, false, false] zd16_13 rfl rfl ⟨(qbC BK292.out 0).trans rfl, (qbC BK292.out 1).trans rfl, (qbC BK297.out 0).trans rfl, (qbC BK297.out 1).trans rfl⟩ (fun hHeld => ?_); refine with_tabW spec_ToWords.tab2 spec_ToWords.bits2 (fun HT_ HW_ => ?_)
   generalize w15.drew = w16 at HO0_1 HO296 BK292 BK297 HB hHeld ⊢
   refine take_ (i := 0) (N := some 17) (v := ?_) (a' := ?_) #[true, false, false, false, false, false, false, false, false, false, false, false] rfl rfl (take_ofW HT_.out HW_.out zd16_13) (fun _ _ _ h => h) (Or.inl ⟨by rfl, ?_⟩) hHeld ?_ ?_
   rotate_left
   ·rintro w' ⟨s0, s1, s2, s3⟩
    go_simp
    with_reducible rfl
   rotate_left
   ·simp only [Act.put, qsA, qsZ, qsS, i64_w, i32_w]
    rfl
   refine take_ (i := 1) (N := some 18) (v := ?_) (a' := ?_) #[true, true, false, false, false, false, false, false, false, false, false, false] rfl rfl (take_ofW HT_.out HW_.out zd16_13) (fun _ _ _ h => h) (Or.inl ⟨by rfl, ?_⟩) hHeld ?_ ?_
   rotate_left
   ·rintro w' ⟨s0, s1, s2, s3⟩
    go_simp
    with_reducible rfl
   rotate_left
   ·simp only [Act.put, qsA, qsZ, qsS, i64_w, i32_w]
    rfl
   refine one_ (i := 2) (N := some 19) #[true, true, true, false, false, false, false, false, false, false, false, false] rfl rfl (one_of HT_.out zd16_13) zd16_34 (fun K hK => ?_)
   refine goes_ Tryz.func18 zd16_13 rfl #[.agg #[.bool a0_0, .slice A0_1 l0_1.length c0_1], .agg #[.bool t293, .slice Ao10 t294.length co10]] (by rfl) rfl rfl zd16_11 ?_
   with_reducible refine (spec_WideCmp.calls k a0_0 _ _ l0_1 t293 _ _ t294 t298 _ ?side1 ?side2 ?side3 ?side4 A11.out).mono ?_
   (case side1 => repeat (first | exact (qvR HO0_1.out).2.2 | (with_reducible refine Kd.C_alloc ?_ _) | (with_reducible refine Kd.C_drewN ?_ _) | (with_reducible refine Kd.C_drew ?_)))
   (case side2 => exact (qvR HO0_1.out).2.1)
   (case side3 => repeat (first | exact (qvR HO296.out).2.2 | (with_reducible refine Kd.C_alloc ?_ _) | (with_reducible refine Kd.C_drewN ?_ _) | (with_reducible refine Kd.C_drew ?_)))
   (case side4 => exact (qvR HO296.out).2.1)
   rintro e w17 ⟨rfl, hb⟩
   refine ⟨_, rfl, ?_⟩
   have n0_ := qaM (qvB zd16_19 hb)
   have n1_ := qaM (qvB zd16_26 hb)
   have n2_ := qaM (qbB (g := gb292) (o := .cells #[.bool a0_0, .slice A0_1 l0_1.length c0_1] 27 (0, 0)) zd16_0 hb)
   have n3_ := qaM (qbB (g := gb297) (o := .cells #[.bool t293, .slice Ao10 t294.length co10] 27 (0, 0)) zd16_1 hb)
   have n4_ := qaM (qbT zd16_2 hb)
   clear HO0_1
   clear HO296
   clear BK292
   clear BK297
   clear HB
   have HO0_1 := n0_
   have HO296 := n1_
   have BK292 := n2_
   have BK297 := n3_
   have HB := n4_
   clear n0_ n1_ n2_ n3_ n4_
   (try clear hb)
   (try clear hb2)
   (try clear hk)
   (try clear hi)
   refine hK.out _ _ ⟨(qbC BK292.out 0).trans rfl, (qbC BK292.out 1).trans rfl, (qbC BK297.out 0).trans rfl, (qbC BK297.out 1).trans rfl⟩ (fun hHeld => ?_)
   clear hK K
   refine norm_ (a' := ?_) ?_ ?_
   rotate_left
   ·show Act.put _ (some 19) _ = _
    simp only [Act.put, qsA, qsZ, qsS, i64_w, i32_w]
    rfl
   refine pure_ (i := 3) (N := some 20) (v := ?_) (a' := ?_) #[true, true, true, true, false, false, false, false, false, false, false, false] rfl rfl (any_of HT_.out zd16_13) (fun _ _ _ h => h) (Or.inl ⟨by rfl, ?_⟩) ?_ ?_
   rotate_left
   ·intro w'
    go_simp
    with_reducible rfl
   rotate_left
   ·simp only [Act.put, qsA, qsZ, qsS, i64_w, i32_w]
    rfl
   refine pure_ (i := 4) (N := some 21) (v := ?_) (a' := ?_) #[true, true, true, true, true, false, false, false, false, false, false, false] rfl rfl (any_of HT_.out zd16_13) (fun _ _ _ h => h) (Or.inl ⟨by rfl, ?_⟩) ?_ ?_
   rotate_left
   ·intro w'
    go_simp
    with_reducible rfl
   rotate_left
   ·simp only [Act.put, qsA, qsZ, qsS, i64_w, i32_w]
    rfl
   refine take_ (i := 5) (N := some 22) (v := ?_) (a' := ?_) #[true, true, true, true, true, true, false, false, false, false, false, false] rfl rfl (take_ofW HT_.out HW_.out zd16_13) (fun _ _ _ h => h) (Or.inl ⟨by rfl, ?_⟩) hHeld ?_ ?_
   rotate_left
   ·rintro w' ⟨s0, s1, s2, s3⟩
    go_simp
    with_reducible rfl
   rotate_left
   ·simp only [Act.put, qsA, qsZ, qsS, i64_w, i32_w]
    rfl
   refine take_ (i := 6) (N := some 23) (v := ?_) (a' := ?_) #[true, true, true, true, true, true, true, false, false, false, false, false] rfl rfl (take_ofW HT_.out HW_.out zd16_13) (fun _ _ _ h => h) (Or.inl ⟨by rfl, ?_⟩) hHeld ?_ ?_
   rotate_left
   ·rintro w' ⟨s0, s1, s2, s3⟩
    go_simp
    with_reducible rfl
   rotate_left
   ·simp only [Act.put, qsA, qsZ, qsS, i64_w, i32_w]
    rfl
   refine one_ (i := 7) (N := some 24) #[true, true, true, true, true, true, true, true, false, false, false, false] rfl rfl (one_of HT_.out zd16_13) zd16_34 (fun K hK => ?_)
   refine goes_ Tryz.func14 zd16_13 rfl #[.agg #[.bool t293, .slice Ao10 t294.length co10]] (by rfl) rfl rfl zd16_11 ?_
   with_reducible refine (spec_Wide_Negated.calls k t293 (fun k_ => ((P0_1_ k_ ∨ w.heap.size ≤ k_) ∧ (k_ ≠ gb292 ∧ k_ ≠ gb297))) _ _ t294 t299 t300 _ ?side1 A13.out).mono ?_
   (case side1 => exact HO296.out)
   rintro e w18 ⟨v301, rfl, ho0, hb⟩
   refine ⟨_, rfl, ?_⟩
   have n0_ := qaM (qvB zd16_19 hb)
   have n1_ := qaM (qvB zd16_26 hb)
   have n2_ := qaM (qvL (qvM (ok' := fun k_ => (P0_1_ k_ ∨ w.heap.size ≤ k_) ∧ k_ ≠ gb292 ∧ k_ ≠ gb297) ho0 (fun k_ hk_ => ⟨Or.elim hk_ (fun hs_ => hs_.1) (fun hn_ => (.inr (Nat.le_trans (qbS zd16_2) hn_))), Or.elim hk_ (fun hs_ => hs_.2.1) (fun hn_ => (qfB (g := gb292) (o := .cells #[.bool a0_0, .slice A0_1 l0_1.length c0_1] 27 (0, 0)) zd16_0 k_ hn_)), Or.elim hk_ (fun hs_ => hs_.2.2) (fun hn_ => (qfB (g := gb297) (o := .cells #[.bool t293, .slice Ao10 t294.length co10] 27 (0, 0)) zd16_1 k_ hn_))⟩)) (qbS zd16_2))
   have n3_ := qaM (qbB (g := gb292) (o := .cells #[.bool a0_0, .slice A0_1 l0_1.length c0_1] 27 (0, 0)) zd16_0 hb)
   have n4_ := qaM (qbB (g := gb297) (o := .cells #[.bool t293, .slice Ao10 t294.length co10] 27 (0, 0)) zd16_1 hb)
   have n5_ := qaM (qbT zd16_2 hb)
   clear HO0_1
   clear HO296
   clear BK292
   clear BK297
   clear HB
   have HO0_1 := n0_
   have HO296 := n1_
   have HO302 := n2_
   have BK292 := n3_
   have BK297 := n4_
   have HB := n5_
   clear n0_ n1_ n2_ n3_ n4_ n5_
   (try clear hb)
   (try clear hb2)
   (try clear hk)
   (try clear hi)
   (try clear ho0)
   obtain ⟨Ao19, co19, eo19⟩ := Kd.V_slice HO302.out
   (first | subst eo19 | (injection eo19 with f1_ f2_ f3_; have f4_ := f1_.symm; have f5_ := f3_.symm; clear f1_ f2_ f3_; subst f4_; subst f5_))
   refine hK.out _ _ ⟨(qbC BK292.out 0).trans rfl, (qbC BK292.out 1).trans rfl, (qbC BK297.out 0).trans rfl, (qbC BK297.out 1).trans rfl⟩ (fun hHeld => ?_)
   clear hK K
   refine norm_ (a' := ?_) ?_ ?_
   rotate_left
   ·show Act.put _ (some 24) _ = _
    simp only [Act.put, qsA, qsZ, qsS, i64_w, i32_w]
    rfl
   refine one_ (i := 8) (N := some 25) #[true, true, true, true, true, true, true, true, true, false, false, false] rfl rfl (one_of HT_.out zd16_13) zd16_34 (fun K hK => ?_)
   refine goes_ Tryz.func18 zd16_13 rfl #[.agg #[.bool a0_0, .slice A0_1 l0_1.length c0_1], .agg #[.bool t299, .slice Ao19 t300.length co19]] (by rfl) rfl rfl zd16_11 ?_
   with_reducible refine (spec_WideCmp.calls k a0_0 _ _ l0_1 t299 _ _ t300 t303 _ ?side1 ?side2 ?side3 ?side4 A14.out).mono ?_
   (case side1 => repeat (first | exact (qvR HO0_1.out).2.2 | (with_reducible refine Kd.C_alloc ?_ _) | (with_reducible refine Kd.C_drewN ?_ _) | (with_reducible refine Kd.C_drew ?_)))
   (case side2 => exact (qvR HO0_1.out).2.1)
   (case side3 => repeat (first | exact (qvR HO302.out).2.2 | (with_reducible refine Kd.C_alloc ?_ _) | (with_reducible refine Kd.C_drewN ?_ _) | (with_reducible refine Kd.C_drew ?_)))
   (case side4 => exact (qvR HO302.out).2.1)
   rintro e w20 ⟨rfl, hb⟩
   refine ⟨_, rfl, ?_⟩
   have n0_ := qaM (qvB zd16_19 hb)
   have n1_ := qaM (qvB zd16_26 hb)
   have n2_ := qaM (qvB (by (with_reducible repeat (first | apply qvA | apply qvN | apply qvD)); exact HO302.out) hb)
   have n3_ := qaM (qbB (g := gb292) (o := .cells #[.bool a0_0, .slice A0_1 l0_1.length c0_1] 27 (0, 0)) zd16_0 hb)
   have n4_ := qaM (qbB (g := gb297) (o := .cells #[.bool t293, .slice Ao10 t294.length co10] 27 (0, 0)) zd16_1 hb)
   have n5_ := qaM (qbT zd16_2 hb)
   clear HO0_1
   clear HO296
   clear HO302
   clear BK292
   clear BK297
   clear HB
   have HO0_1 := n0_
   have HO296 := n1_
   have HO302 := n2_
   have BK292 := n3_
   have BK297 := n4_
   have HB := n5_
   clear n0_ n1_ n2_ n3_ n4_ n5_
   (try clear hb)
   (try clear hb2)
   (try clear hk)
   (try clear hi)
   refine hK.out _ _ ⟨(qbC BK292.out 0).trans rfl, (qbC BK292.out 1).trans rfl, (qbC BK297.out 0).trans rfl, (qbC BK297.out 1).trans rfl⟩ (fun hHeld => ?_)
   clear hK K
   refine norm_ (a' := ?_) ?_ ?_
   rotate_left
   ·show Act.put _ (some 25) _ = _
    simp only [Act.put, qsA, qsZ, qsS, i64_w, i32_w]
    rfl
   refine pure_ (i := 9) (N := some 26) (v := ?_) (a' := ?_) #[true, true, true, true, true, true, true, true, true, true, false, false] rfl rfl (any_of HT_.out zd16_13) (fun _ _ _ h => h) (Or.inl ⟨by rfl, ?_⟩) ?_ ?_
   rotate_left
   ·intro w'
    go_simp
    with_reducible rfl
   rotate_left
   ·simp only [Act.put, qsA, qsZ, qsS, i64_w, i32_w]
    rfl
   refine pure_ (i := 10) (N := some 27) (v := ?_) (a' := ?_) #[true, true, true, true, true, true, true, true, true, true, true, false] rfl rfl (any_of HT_.out zd16_13) (fun _ _ _ h => h) (Or.inl ⟨by rfl, ?_⟩) ?_ ?_
   rotate_left
   ·intro w'
    go_simp
    with_reducible rfl
   rotate_left
   ·simp only [Act.put, qsA, qsZ, qsS, i64_w, i32_w]
    rfl
   refine pure_ (i := 11) (N := some 7) (v := ?_) (a' := ?_) #[true, true, true, true, true, true, true, true, true, true, true, true] rfl rfl (any_of HT_.out zd16_13) (fun _ _ _ h => h) (Or.inl ⟨by rfl, ?_⟩) ?_ ?_
   rotate_left
   ·intro w'
    go_simp
    with_reducible rfl
   rotate_left
   ·simp only [Act.put, qsA, qsZ, qsS, i64_w, i32_w]
    rfl
   refine done_ (done_of HT_.out zd16_13) ?_
   try go_wp2
   go_meet
   case rel => exact ⟨_, (decide (t303 ≥ 0)), zd16_28, H', ⟨by first | omega | exact Nat.le_refl _⟩, ⟨by (with_reducible repeat (first | apply qvA | apply qvN | apply qvD)); exact HO0_1.out⟩, ⟨by (with_reducible repeat (first | apply qvA | apply qvN | apply qvD)); exact HO296.out⟩, ⟨by (with_reducible repeat (first | refine qbN ?_ _ | refine qbD ?_ | refine qbA ?_ _)); exact BK292.out⟩, ⟨by (with_reducible repeat (first | refine qbN ?_ _ | refine qbD ?_ | refine qbA ?_ _)); exact BK297.out⟩, ⟨by repeat (first | (with_reducible first | exact HB.out | apply qwA | apply qwN | apply qwD | refine qwS ?_ GE292.out | refine qwS ?_ GE297.out) | exact HB.out)⟩⟩
  ·rw [if_neg c12] at H
   have c12b0 : decide (t298 < 0) = false := decide_eq_false c12
   clear c12
   (first | rw [c12b0] | (simp only [i64_w, i32_w]; rw [c12b0]) | skip)
   have H' := qaM H
   clear H
   try go_wp2
   have n0_ : Aside0 (Kd.V (Kd.int .u32) 104 ((w7.setCell ⟨gb297, 0, none⟩ (.bool t293)).setCell ⟨gb297, 1, none⟩ (.slice Ao10 t294.length co10)) w.heap.size (fun k_ => (P0_1_ k_ ∨ w.heap.size ≤ k_) ∧ k_ ≠ gb292 ∧ k_ ≠ gb297) (.slice A0_1 l0_1.length c0_1) l0_1) := ⟨by (with_reducible repeat (first | apply qvA | apply qvN | apply qvD)); exact qvM (qvF (p := ⟨gb297, 1, none⟩) (qvF (p := ⟨gb297, 0, none⟩) (qvM HO0_1.out (fun k_ hk => (⟨hk, hk.2⟩ : _ ∧ k_ ≠ gb297))) (fun _ hk => hk.2) (.bool t293)) (fun _ hk => hk.2) (.slice Ao10 t294.length co10)) (fun _ hk => ⟨hk.1.1.1, ⟨hk.1.1.2, hk.1.2⟩⟩)⟩
   have n1_ : Aside0 (Kd.V (Kd.int .u32) 104 ((w7.setCell ⟨gb297, 0, none⟩ (.bool t293)).setCell ⟨gb297, 1, none⟩ (.slice Ao10 t294.length co10)) w.heap.size (fun k_ => (P0_1_ k_ ∨ w.heap.size ≤ k_) ∧ k_ ≠ gb292 ∧ k_ ≠ gb297) (.slice Ao10 t294.length co10) t294) := ⟨by (with_reducible repeat (first | apply qvA | apply qvN | apply qvD)); exact qvM (qvF (p := ⟨gb297, 1, none⟩) (qvF (p := ⟨gb297, 0, none⟩) (qvM HO296.out (fun k_ hk => (⟨hk, hk.2⟩ : _ ∧ k_ ≠ gb297))) (fun _ hk => hk.2) (.bool t293)) (fun _ hk => hk.2) (.slice Ao10 t294.length co10)) (fun _ hk => ⟨hk.1.1.1, ⟨hk.1.1.2, hk.1.2⟩⟩)⟩
   have n2_ : Aside0 (((w7.setCell ⟨gb297, 0, none⟩ (.bool t293)).setCell ⟨gb297, 1, none⟩ (.slice Ao10 t294.length co10)).heap[gb292]? = some (.cells #[.bool a0_0, .slice A0_1 l0_1.length c0_1] 27 (0, 0))) := ⟨by (with_reducible repeat (first | refine qbN ?_ _ | refine qbD ?_ | refine qbA ?_ _)); refine qbF ?_ NB292_297.out _; (with_reducible repeat (first | refine qbN ?_ _ | refine qbD ?_ | refine qbA ?_ _)); refine qbF ?_ NB292_297.out _; (with_reducible repeat (first | refine qbN ?_ _ | refine qbD ?_ | refine qbA ?_ _)); exact BK292.out⟩
   have n3_ : Aside0 (((w7.setCell ⟨gb297, 0, none⟩ (.bool t293)).setCell ⟨gb297, 1, none⟩ (.slice Ao10 t294.length co10)).heap[gb297]? = some (.cells #[.bool t293, .slice Ao10 t294.length co10] 27 (0, 0))) := ⟨by (with_reducible repeat (first | refine qbN ?_ _ | refine qbD ?_ | refine qbA ?_ _)); refine qbP (cs := #[.bool t293, .slice none 0 0]) ?_ 1 _ rfl; (with_reducible repeat (first | refine qbN ?_ _ | refine qbD ?_ | refine qbA ?_ _)); refine qbP (cs := #[.bool false, .slice none 0 0]) ?_ 0 _ rfl; (with_reducible repeat (first | refine qbN ?_ _ | refine qbD ?_ | refine qbA ?_ _)); exact BK297.out⟩
   have n4_ : Aside0 (Below w.heap.size w ((w7.setCell ⟨gb297, 0, none⟩ (.bool t293)).setCell ⟨gb297, 1, none⟩ (.slice Ao10 t294.length co10))) := ⟨by repeat (first | (with_reducible first | exact HB.out | apply qwA | apply qwN | apply qwD | refine qwS ?_ GE292.out | refine qwS ?_ GE297.out) | exact HB.out)⟩
   (try clear HO0_1)
   (try clear HO296)
   (try clear BK292)
   (try clear BK297)
   (try clear HB)
   generalize ((w7.setCell ⟨gb297, 0, none⟩ (.bool t293)).setCell ⟨gb297, 1, none⟩ (.slice Ao10 t294.length co10)) = w21 at n0_ n1_ n2_ n3_ n4_ ⊢
   have HO0_1 := n0_
   have HO296 := n1_
   have BK292 := n2_
   have BK297 := n3_
   have HB := n4_
   clear n0_ n1_ n2_ n3_ n4_
   have n0_ := qaM (qvD HO0_1.out)
   have n1_ := qaM (qvD HO296.out)
   have n2_ := qaM (qbD BK292.out)
   have n3_ := qaM (qbD BK297.out)
   have n4_ := qaM (qwD HB.out)
   clear HO0_1
   clear HO296
   clear BK292
   clear BK297
   clear HB
   have HO0_1 := n0_
   have HO296 := n1_
   have BK292 := n2_
   have BK297 := n3_
   have HB := n4_
   clear n0_ n1_ n2_ n3_ n4_
   refine start_ (n := 12) (S := fun w' => w'.cell? ⟨gb292, 0, none⟩ = some (.bool a0_0) ∧ w'.cell? ⟨gb292, 1, none⟩ = some (.slice A0_1 l0_1.length c0_1) ∧ w'.cell? ⟨gb297, 0, none⟩ = some (.bool t293) ∧ w'.cell? ⟨gb297, 1, none⟩ = some (.slice Ao10 t294.length co10)) (ds := []) #[false, false, false, false, false, false, false, false, false, false, false, false] zd16_13 rfl rfl ⟨(qbC BK292.out 0).trans rfl, (qbC BK292.out 1).trans rfl, (qbC BK297.out 0).trans rfl, (qbC BK297.out 1).trans rfl⟩ (fun hHeld => ?_); refine with_tabW spec_ToWords.tab2 spec_ToWords.bits2 (fun HT_ HW_ => ?_)
   generalize w21.drew = w22 at HO0_1 HO296 BK292 BK297 HB hHeld ⊢
   refine take_ (i := 0) (N := some 17) (v := ?_) (a' := ?_) #[true, false, false, false, false, false, false, false, false, false, false, false] rfl rfl (take_ofW HT_.out HW_.out zd16_13) (fun _ _ _ h => h) (Or.inl ⟨by rfl, ?_⟩) hHeld ?_ ?_
   rotate_left
   ·rintro w' ⟨s0, s1, s2, s3⟩
    go_simp
    with_reducible rfl
   rotate_left
   ·simp only [Act.put, qsA, qsZ, qsS, i64_w, i32_w]
    rfl
   refine take_ (i := 1) (N := some 18) (v := ?_) (a' := ?_) #[true, true, false, false, false, false, false, false, false, false, false, false] rfl rfl (take_ofW HT_.out HW_.out zd16_13) (fun _ _ _ h => h) (Or.inl ⟨by rfl, ?_⟩) hHeld ?_ ?_
   rotate_left
   ·rintro w' ⟨s0, s1, s2, s3⟩
    go_simp
    with_reducible rfl
   rotate_left
   ·simp only [Act.put, qsA, qsZ, qsS, i64_w, i32_w]
    rfl
   refine one_ (i := 2) (N := some 19) #[true, true, true, false, false, false, false, false, false, false, false, false] rfl rfl (one_of HT_.out zd16_13) zd16_34 (fun K hK => ?_)
   refine goes_ Tryz.func18 zd16_13 rfl #[.agg #[.bool a0_0, .slice A0_1 l0_1.length c0_1], .agg #[.bool t293, .slice Ao10 t294.length co10]] (by rfl) rfl rfl zd16_11 ?_
   with_reducible refine (spec_WideCmp.calls k a0_0 _ _ l0_1 t293 _ _ t294 t298 _ ?side1 ?side2 ?side3 ?side4 A11.out).mono ?_
   (case side1 => repeat (first | exact (qvR HO0_1.out).2.2 | (with_reducible refine Kd.C_alloc ?_ _) | (with_reducible refine Kd.C_drewN ?_ _) | (with_reducible refine Kd.C_drew ?_)))
   (case side2 => exact (qvR HO0_1.out).2.1)
   (case side3 => repeat (first | exact (qvR HO296.out).2.2 | (with_reducible refine Kd.C_alloc ?_ _) | (with_reducible refine Kd.C_drewN ?_ _) | (with_reducible refine Kd.C_drew ?_)))
   (case side4 => exact (qvR HO296.out).2.1)
   rintro e w23 ⟨rfl, hb⟩
   refine ⟨_, rfl, ?_⟩
   have n0_ := qaM (qvB zd16_19 hb)
   have n1_ := qaM (qvB zd16_26 hb)
   have n2_ := qaM (qbB (g := gb292) (o := .cells #[.bool a0_0, .slice A0_1 l0_1.length c0_1] 27 (0, 0)) zd16_0 hb)
   have n3_ := qaM (qbB (g := gb297) (o := .cells #[.bool t293, .slice Ao10 t294.length co10] 27 (0, 0)) zd16_1 hb)
   have n4_ := qaM (qbT zd16_2 hb)
   clear HO0_1
   clear HO296
   clear BK292
   clear BK297
   clear HB
   have HO0_1 := n0_
   have HO296 := n1_
   have BK292 := n2_
   have BK297 := n3_
   have HB := n4_
   clear n0_ n1_ n2_ n3_ n4_
   (try clear hb)
   (try clear hb2)
   (try clear hk)
   (try clear hi)
   refine hK.out _ _ ⟨(qbC BK292.out 0).trans rfl, (qbC BK292.out 1).trans rfl, (qbC BK297.out 0).trans rfl, (qbC BK297.out 1).trans rfl⟩ (fun hHeld => ?_)
   clear hK K
   refine norm_ (a' := ?_) ?_ ?_
   rotate_left
   ·show Act.put _ (some 19) _ = _
    simp only [Act.put, qsA, qsZ, qsS, i64_w, i32_w]
    rfl
   refine pure_ (i := 3) (N := some 20) (v := ?_) (a' := ?_) #[true, true, true, true, false, false, false, false, false, false, false, false] rfl rfl (any_of HT_.out zd16_13) (fun _ _ _ h => h) (Or.inl ⟨by rfl, ?_⟩) ?_ ?_
   rotate_left
   ·intro w'
    go_simp
    with_reducible rfl
   rotate_left
   ·simp only [Act.put, qsA, qsZ, qsS, i64_w, i32_w]
    rfl
   refine pure_ (i := 4) (N := some 21) (v := ?_) (a' := ?_) #[true, true, true, true, true, false, false, false, false, false, false, false] rfl rfl (any_of HT_.out zd16_13) (fun _ _ _ h => h) (Or.inl ⟨by rfl, ?_⟩) ?_ ?_
   rotate_left
   ·intro w'
    go_simp
    with_reducible rfl
   rotate_left
   ·simp only [Act.put, qsA, qsZ, qsS, i64_w, i32_w]
    rfl
   refine pure_ (i := 5) (N := some 22) (v := undef) (a' := ?_) #[true, true, true, true, true, true, false, false, false, false, false, false] rfl rfl (any_of HT_.out zd16_13) (fun _ _ _ h => h) (Or.inr ⟨by rfl, rfl⟩) ?_ ?_
   rotate_left
   ·simp only [Act.put, qsA, qsZ, qsS, i64_w, i32_w]
    rfl
   refine pure_ (i := 6) (N := some 23) (v := undef) (a' := ?_) #[true, true, true, true, true, true, true, false, false, false, false, false] rfl rfl (any_of HT_.out zd16_13) (fun _ _ _ h => h) (Or.inr ⟨by rfl, rfl⟩) ?_ ?_
   rotate_left
   ·simp only [Act.put, qsA, qsZ, qsS, i64_w, i32_w]
    rfl
   refine pure_ (i := 7) (N := some 24) (v := undef) (a' := ?_) #[true, true, true, true, true, true, true, true, false, false, false, false] rfl rfl (any_of HT_.out zd16_13) (fun _ _ _ h => h) (Or.inr ⟨by rfl, rfl⟩) ?_ ?_
   rotate_left
   ·simp only [Act.put, qsA, qsZ, qsS, i64_w, i32_w]
    rfl
   refine pure_ (i := 8) (N := some 25) (v := undef) (a' := ?_) #[true, true, true, true, true, true, true, true, true, false, false, false] rfl rfl (any_of HT_.out zd16_13) (fun _ _ _ h => h) (Or.inr ⟨by rfl, rfl⟩) ?_ ?_
   rotate_left
   ·simp only [Act.put, qsA, qsZ, qsS, i64_w, i32_w]
    rfl
   refine pure_ (i := 9) (N := some 26) (v := undef) (a' := ?_) #[true, true, true, true, true, true, true, true, true, true, false, false] rfl rfl (any_of HT_.out zd16_13) (fun _ _ _ h => h) (Or.inr ⟨by rfl, rfl⟩) ?_ ?_
   rotate_left
   ·simp only [Act.put, qsA, qsZ, qsS, i64_w, i32_w]
    rfl
   refine pure_ (i := 10) (N := some 27) (v := ?_) (a' := ?_) #[true, true, true, true, true, true, true, true, true, true, true, false] rfl rfl (any_of HT_.out zd16_13) (fun _ _ _ h => h) (Or.inl ⟨by rfl, ?_⟩) ?_ ?_
   rotate_left
   ·intro w'
    go_simp
    with_reducible rfl
   rotate_left
   ·simp only [Act.put, qsA, qsZ, qsS, i64_w, i32_w]
    rfl
   refine pure_ (i := 11) (N := some 7) (v := ?_) (a' := ?_) #[true, true, true, true, true, true, true, true, true, true, true, true] rfl rfl (any_of HT_.out zd16_13) (fun _ _ _ h => h) (Or.inl ⟨by rfl, ?_⟩) ?_ ?_
   rotate_left
   ·intro w'
    go_simp
    with_reducible rfl
   rotate_left
   ·simp only [Act.put, qsA, qsZ, qsS, i64_w, i32_w]
    rfl
   refine done_ (done_of HT_.out zd16_13) ?_
   try go_wp2
   go_meet
   case rel => exact ⟨_, (false), zd16_28, H', ⟨by first | omega | exact Nat.le_refl _⟩, ⟨by (with_reducible repeat (first | apply qvA | apply qvN | apply qvD)); exact HO0_1.out⟩, ⟨by (with_reducible repeat (first | apply qvA | apply qvN | apply qvD)); exact HO296.out⟩, ⟨by (with_reducible repeat (first | refine qbN ?_ _ | refine qbD ?_ | refine qbA ?_ _)); exact BK292.out⟩, ⟨by (with_reducible repeat (first | refine qbN ?_ _ | refine qbD ?_ | refine qbA ?_ _)); exact BK297.out⟩, ⟨by repeat (first | (with_reducible first | exact HB.out | apply qwA | apply qwN | apply qwD | refine qwS ?_ GE292.out | refine qwS ?_ GE297.out) | exact HB.out)⟩⟩
 case rest =>
  clear HC4
  try clear c1
  try clear p2
  try clear p6
  try clear c8
  try clear c12
  try clear c12b0
  try clear c13
  try clear c14
  try clear c17
  try clear c18
  try clear hcz9_0
  try clear hcz9_1
  try clear hfz9_0
  try clear hfz9_1
  obtain ⟨kq, x7_3, rfl, HA, HJ3, HO_293001, HO_298001, BK292, BK297, HB⟩ := hcut
  cases kq with
  | zero => exact absurd HA.out (by simp [spec_ToWords.j0])
  | succ kj3 =>
   have H := HA.out
   clear HA
   simp only [spec_ToWords.j0] at H
   have HC24 := qaM H
   clear H
   have hnb25 := NB292_297.out
   have hnc25 := NB297_292.out
   have hcz26_0 : wc.cell? ⟨gb292, 0, none⟩ = some (.bool a0_0) := (qbC BK292.out 0).trans rfl
   have hcz26_1 : wc.cell? ⟨gb292, 1, none⟩ = some (.slice A0_1 l0_1.length c0_1) := (qbC BK292.out 1).trans rfl
   have hfz26_0 := blk_frozen BK292.out 0
   have hfz26_1 := blk_frozen BK292.out 1
   go_upto_if 29 with (fail)
   go_cut [] (fun wc => ∃ (kq : Nat) (x293000_23 : Bool) (x293001_23 : List Int) (u293001 : Value), Aside0 (spec_ToWords.j1 kq a1 x7_3 x293000_23 x293001_23 = some (r1, r2)) ∧ Aside0 (kq ≤ kj3) ∧ Aside0 (Kd.V (Kd.int .u32) 104 wc w.heap.size (fun k_ => (P0_1_ k_ ∨ w.heap.size ≤ k_) ∧ k_ ≠ gb292 ∧ k_ ≠ gb297) u293001 x293001_23) ∧ Aside0 (Kd.V (Kd.int .u32) 104 wc w.heap.size (fun k_ => (P0_1_ k_ ∨ w.heap.size ≤ k_) ∧ k_ ≠ gb292 ∧ k_ ≠ gb297) (.slice Ao10 t294.length co10) t294) ∧ Aside0 (wc.heap[gb292]? = some (.cells #[.bool x293000_23, u293001] 27 (0, 0))) ∧ Aside0 (wc.heap[gb297]? = some (.cells #[.bool t293, (.slice Ao10 t294.length co10)] 27 (0, 0))) ∧ Aside0 (Below w.heap.size w wc))
   case first =>
    have H := HC24.out
    clear HC24
    by_cases c27 : a0_0 = true
    ·subst c27
     have H1 : ((spec_Two.f kj3 (wrap64 (64 * a1))).bind fun bt304 => ((spec_WideDiv.f kj3 true l0_1 bt304.1 bt304.2).bind fun bt308 => ((spec_Two.f kj3 (wrap64 (64 * a1))).bind fun bt318 => ((spec_WideAdd.f kj3 bt308.2.2.1 bt308.2.2.2 bt318.1 bt318.2).bind fun bt322 => (spec_ToWords.j1 kj3 a1 x7_3 bt322.1 bt322.2))))) = some (r1, r2) := by rw [if_pos rfl] at H; exact H
     clear H
     have H := H1
     clear H1
     replace H := Option.bind_eq_some_iff.mp H
     obtain ⟨⟨t304, t305⟩, A280, H⟩ := H
     replace H : ((spec_WideDiv.f kj3 true l0_1 t304 t305).bind fun bt308 => ((spec_Two.f kj3 (wrap64 (64 * a1))).bind fun bt318 => ((spec_WideAdd.f kj3 bt308.2.2.1 bt308.2.2.2 bt318.1 bt318.2).bind fun bt322 => (spec_ToWords.j1 kj3 a1 x7_3 bt322.1 bt322.2)))) = some (r1, r2) := H
     have A28 := qaM A280
     clear A280
     replace H := Option.bind_eq_some_iff.mp H
     obtain ⟨⟨t308, t309, t312, t313⟩, A290, H⟩ := H
     replace H : ((spec_Two.f kj3 (wrap64 (64 * a1))).bind fun bt318 => ((spec_WideAdd.f kj3 t312 t313 bt318.1 bt318.2).bind fun bt322 => (spec_ToWords.j1 kj3 a1 x7_3 bt322.1 bt322.2))) = some (r1, r2) := H
     have A29 := qaM A290
     clear A290
     replace H := Option.bind_eq_some_iff.mp H
     obtain ⟨⟨t318, t319⟩, A300, H⟩ := H
     replace H : ((spec_WideAdd.f kj3 t312 t313 t318 t319).bind fun bt322 => (spec_ToWords.j1 kj3 a1 x7_3 bt322.1 bt322.2)) = some (r1, r2) := H
     have A30 := qaM A300
     clear A300
     replace H := Option.bind_eq_some_iff.mp H
     obtain ⟨⟨t322, t323⟩, A310, H⟩ := H
     replace H : (spec_ToWords.j1 kj3 a1 x7_3 t322 t323) = some (r1, r2) := H
     have A31 := qaM A310
     clear A310
     have H' := qaM H
     clear H
     try go_wp2
     have n0_ := qaM (qvD HO_293001.out)
     have n1_ := qaM (qvD HO_298001.out)
     have n2_ := qaM (qbD BK292.out)
     have n3_ := qaM (qbD BK297.out)
     have n4_ := qaM (qwD HB.out)
     clear HO_293001
     clear HO_298001
     clear BK292
     clear BK297
     clear HB
     have HO_293001 := n0_
     have HO_298001 := n1_
     have BK292 := n2_
     have BK297 := n3_
     have HB := n4_
     clear n0_ n1_ n2_ n3_ n4_
     refine start_ (n := 12) (S := fun w' => w'.cell? ⟨gb292, 0, none⟩ = some (.bool true) ∧ w'.cell? ⟨gb292, 1, none⟩ = some (.slice A0_1 l0_1.length c0_1)) (ds := []) #[false, false, false, false, false, false, false, false, false, false, false, false] zd16_13 rfl rfl ⟨(qbC BK292.out 0).trans rfl, (qbC BK292.out 1).trans rfl⟩ (fun hHeld => ?_); refine with_tabW spec_ToWords.tab4 spec_ToWords.bits4 (fun HT_ HW_ => ?_)
     generalize wc.drew = w32 at HO_293001 HO_298001 BK292 BK297 HB hHeld ⊢
     refine pure_ (i := 1) (N := some 32) (v := ?_) (a' := ?_) #[false, true, false, false, false, false, false, false, false, false, false, false] rfl rfl (any_of HT_.out zd16_13) (fun _ _ _ h => h) (Or.inl ⟨by rfl, ?_⟩) ?_ ?_
     rotate_left
     ·intro w'
      go_simp
      with_reducible rfl
     rotate_left
     ·simp only [Act.put, qsA, qsZ, qsS, i64_w, i32_w]
      rfl
     refine pure_ (i := 2) (N := some 33) (v := ?_) (a' := ?_) #[false, true, true, false, false, false, false, false, false, false, false, false] rfl rfl (any_of HT_.out zd16_13) (fun _ _ _ h => h) (Or.inl ⟨by rfl, ?_⟩) ?_ ?_
     rotate_left
     ·intro w'
      go_simp
      with_reducible rfl
     rotate_left
     ·simp only [Act.put, qsA, qsZ, qsS, i64_w, i32_w]
      rfl
     refine take_ (i := 0) (N := some 31) (v := ?_) (a' := ?_) #[true, true, true, false, false, false, false, false, false, false, false, false] rfl rfl (take_ofW HT_.out HW_.out zd16_13) (fun _ _ _ h => h) (Or.inl ⟨by rfl, ?_⟩) hHeld ?_ ?_
     rotate_left
     ·rintro w' ⟨s0, s1⟩
      go_simp
      with_reducible rfl
     rotate_left
     ·simp only [Act.put, qsA, qsZ, qsS, i64_w, i32_w]
      rfl
     refine join_ (σ := Value × Value × Value × Nat × Nat) 2 #[true, true, true, true, true, true, true, true, true, true, false, false] (fun s_ => [(34, .agg #[.bool t304, s_.1]), (35, .tuple #[.agg #[.bool t308, s_.2.1], .agg #[.bool t312, s_.2.2.1]]), (8, .pointer (some ⟨s_.2.2.2.1, 0, none⟩)), (9, .pointer (some ⟨s_.2.2.2.2, 0, none⟩)), (30, .tuple #[.agg #[.bool t308, s_.2.1], .agg #[.bool t312, s_.2.2.1]]), (36, .agg #[.bool t308, s_.2.1]), (37, .agg #[.bool t312, s_.2.2.1])]) (fun s_ w' => (w'.cell? ⟨gb292, 0, none⟩ = some (.bool true) ∧ w'.cell? ⟨gb292, 1, none⟩ = some (.slice A0_1 l0_1.length c0_1)) ∧ (Kd.V (Kd.int .u32) 104 w' w.heap.size (fun k_ => (P0_1_ k_ ∨ w.heap.size ≤ k_) ∧ k_ ≠ gb292 ∧ k_ ≠ gb297 ∧ k_ ≠ s_.2.2.2.1 ∧ k_ ≠ s_.2.2.2.2) s_.1 t305) ∧ (Kd.V (Kd.int .u32) 104 w' w.heap.size (fun k_ => (P0_1_ k_ ∨ w.heap.size ≤ k_) ∧ k_ ≠ gb292 ∧ k_ ≠ gb297 ∧ k_ ≠ s_.2.2.2.1 ∧ k_ ≠ s_.2.2.2.2) s_.2.1 t309) ∧ (Kd.V (Kd.int .u32) 104 w' w.heap.size (fun k_ => (P0_1_ k_ ∨ w.heap.size ≤ k_) ∧ k_ ≠ gb292 ∧ k_ ≠ gb297 ∧ k_ ≠ s_.2.2.2.1 ∧ k_ ≠ s_.2.2.2.2) s_.2.2.1 t313) ∧ (Kd.V (Kd.int .u32) 104 w' w.heap.size (fun k_ => (P0_1_ k_ ∨ w.heap.size ≤ k_) ∧ k_ ≠ gb292 ∧ k_ ≠ gb297 ∧ k_ ≠ s_.2.2.2.1 ∧ k_ ≠ s_.2.2.2.2) (.slice A0_1 l0_1.length c0_1) l0_1) ∧ (Kd.V (Kd.int .u32) 104 w' w.heap.size (fun k_ => (P0_1_ k_ ∨ w.heap.size ≤ k_) ∧ k_ ≠ gb292 ∧ k_ ≠ gb297 ∧ k_ ≠ s_.2.2.2.1 ∧ k_ ≠ s_.2.2.2.2) (.slice Ao10 t294.length co10) t294) ∧ (w'.heap[gb292]? = some (.cells #[.bool true, .slice A0_1 l0_1.length c0_1] 27 (0, 0))) ∧ (w'.heap[gb297]? = some (.cells #[.bool t293, .slice Ao10 t294.length co10] 27 (0, 0))) ∧ (w'.heap[s_.2.2.2.1]? = some (.cells #[.bool false, .slice none 0 0] 27 (0, 0))) ∧ (w'.heap[s_.2.2.2.2]? = some (.cells #[.bool false, .slice none 0 0] 27 (0, 0))) ∧ (w.heap.size ≤ s_.2.2.2.1) ∧ (w.heap.size ≤ s_.2.2.2.1) ∧ (gb292 ≠ s_.2.2.2.1) ∧ (s_.2.2.2.1 ≠ gb292) ∧ (gb297 ≠ s_.2.2.2.1) ∧ (s_.2.2.2.1 ≠ gb297) ∧ (s_.2.2.2.2 ≠ s_.2.2.2.1) ∧ (s_.2.2.2.1 ≠ s_.2.2.2.2) ∧ (w.heap.size ≤ s_.2.2.2.2) ∧ (w.heap.size ≤ s_.2.2.2.2) ∧ (gb292 ≠ s_.2.2.2.2) ∧ (s_.2.2.2.2 ≠ gb292) ∧ (gb297 ≠ s_.2.2.2.2) ∧ (s_.2.2.2.2 ≠ gb297) ∧ (Below w.heap.size w w')) ?_ ?_
     rotate_left
     ·intro hJ3_4_8_9
      refine join_ (σ := Value × Value × Value × Nat) 3 #[true, true, true, true, true, true, true, true, true, false, false, false] (fun s_ => [(34, .agg #[.bool t304, s_.1]), (35, .tuple #[.agg #[.bool t308, s_.2.1], .agg #[.bool t312, s_.2.2.1]]), (8, .pointer (some ⟨s_.2.2.2, 0, none⟩)), (30, .tuple #[.agg #[.bool t308, s_.2.1], .agg #[.bool t312, s_.2.2.1]]), (36, .agg #[.bool t308, s_.2.1]), (37, .agg #[.bool t312, s_.2.2.1])]) (fun s_ w' => (w'.cell? ⟨gb292, 0, none⟩ = some (.bool true) ∧ w'.cell? ⟨gb292, 1, none⟩ = some (.slice A0_1 l0_1.length c0_1)) ∧ (Kd.V (Kd.int .u32) 104 w' w.heap.size (fun k_ => (P0_1_ k_ ∨ w.heap.size ≤ k_) ∧ k_ ≠ gb292 ∧ k_ ≠ gb297 ∧ k_ ≠ s_.2.2.2) s_.1 t305) ∧ (Kd.V (Kd.int .u32) 104 w' w.heap.size (fun k_ => (P0_1_ k_ ∨ w.heap.size ≤ k_) ∧ k_ ≠ gb292 ∧ k_ ≠ gb297 ∧ k_ ≠ s_.2.2.2) s_.2.1 t309) ∧ (Kd.V (Kd.int .u32) 104 w' w.heap.size (fun k_ => (P0_1_ k_ ∨ w.heap.size ≤ k_) ∧ k_ ≠ gb292 ∧ k_ ≠ gb297 ∧ k_ ≠ s_.2.2.2) s_.2.2.1 t313) ∧ (Kd.V (Kd.int .u32) 104 w' w.heap.size (fun k_ => (P0_1_ k_ ∨ w.heap.size ≤ k_) ∧ k_ ≠ gb292 ∧ k_ ≠ gb297 ∧ k_ ≠ s_.2.2.2) (.slice A0_1 l0_1.length c0_1) l0_1) ∧ (Kd.V (Kd.int .u32) 104 w' w.heap.size (fun k_ => (P0_1_ k_ ∨ w.heap.size ≤ k_) ∧ k_ ≠ gb292 ∧ k_ ≠ gb297 ∧ k_ ≠ s_.2.2.2) (.slice Ao10 t294.length co10) t294) ∧ (w'.heap[gb292]? = some (.cells #[.bool true, .slice A0_1 l0_1.length c0_1] 27 (0, 0))) ∧ (w'.heap[gb297]? = some (.cells #[.bool t293, .slice Ao10 t294.length co10] 27 (0, 0))) ∧ (w'.heap[s_.2.2.2]? = some (.cells #[.bool false, .slice none 0 0] 27 (0, 0))) ∧ (w.heap.size ≤ s_.2.2.2) ∧ (w.heap.size ≤ s_.2.2.2) ∧ (gb292 ≠ s_.2.2.2) ∧ (s_.2.2.2 ≠ gb292) ∧ (gb297 ≠ s_.2.2.2) ∧ (s_.2.2.2 ≠ gb297) ∧ (Below w.heap.size w w')) ?_ ?_
      rotate_left
      ·intro hJ3_4_8
       refine join_ (σ := Value × Value × Value × Nat) 3 #[true, true, true, true, true, true, true, true, false, true, false, false] (fun s_ => [(34, .agg #[.bool t304, s_.1]), (35, .tuple #[.agg #[.bool t308, s_.2.1], .agg #[.bool t312, s_.2.2.1]]), (9, .pointer (some ⟨s_.2.2.2, 0, none⟩)), (30, .tuple #[.agg #[.bool t308, s_.2.1], .agg #[.bool t312, s_.2.2.1]]), (36, .agg #[.bool t308, s_.2.1]), (37, .agg #[.bool t312, s_.2.2.1])]) (fun s_ w' => (w'.cell? ⟨gb292, 0, none⟩ = some (.bool true) ∧ w'.cell? ⟨gb292, 1, none⟩ = some (.slice A0_1 l0_1.length c0_1)) ∧ (Kd.V (Kd.int .u32) 104 w' w.heap.size (fun k_ => (P0_1_ k_ ∨ w.heap.size ≤ k_) ∧ k_ ≠ gb292 ∧ k_ ≠ gb297 ∧ k_ ≠ s_.2.2.2) s_.1 t305) ∧ (Kd.V (Kd.int .u32) 104 w' w.heap.size (fun k_ => (P0_1_ k_ ∨ w.heap.size ≤ k_) ∧ k_ ≠ gb292 ∧ k_ ≠ gb297 ∧ k_ ≠ s_.2.2.2) s_.2.1 t309) ∧ (Kd.V (Kd.int .u32) 104 w' w.heap.size (fun k_ => (P0_1_ k_ ∨ w.heap.size ≤ k_) ∧ k_ ≠ gb292 ∧ k_ ≠ gb297 ∧ k_ ≠ s_.2.2.2) s_.2.2.1 t313) ∧ (Kd.V (Kd.int .u32) 104 w' w.heap.size (fun k_ => (P0_1_ k_ ∨ w.heap.size ≤ k_) ∧ k_ ≠ gb292 ∧ k_ ≠ gb297 ∧ k_ ≠ s_.2.2.2) (.slice A0_1 l0_1.length c0_1) l0_1) ∧ (Kd.V (Kd.int .u32) 104 w' w.heap.size (fun k_ => (P0_1_ k_ ∨ w.heap.size ≤ k_) ∧ k_ ≠ gb292 ∧ k_ ≠ gb297 ∧ k_ ≠ s_.2.2.2) (.slice Ao10 t294.length co10) t294) ∧ (w'.heap[gb292]? = some (.cells #[.bool true, .slice A0_1 l0_1.length c0_1] 27 (0, 0))) ∧ (w'.heap[gb297]? = some (.cells #[.bool t293, .slice Ao10 t294.length co10] 27 (0, 0))) ∧ (w'.heap[s_.2.2.2]? = some (.cells #[.bool false, .slice none 0 0] 27 (0, 0))) ∧ (w.heap.size ≤ s_.2.2.2) ∧ (w.heap.size ≤ s_.2.2.2) ∧ (gb292 ≠ s_.2.2.2) ∧ (s_.2.2.2 ≠ gb292) ∧ (gb297 ≠ s_.2.2.2) ∧ (s_.2.2.2 ≠ gb297) ∧ (Below w.heap.size w w')) ?_ ?_
       rotate_left
       ·intro hJ3_4_9
        refine join_ (σ := Value × Nat × Nat) 6 #[true, true, true, true, false, false, false, false, true, true, false, false] (fun s_ => [(34, .agg #[.bool t304, s_.1]), (8, .pointer (some ⟨s_.2.1, 0, none⟩)), (9, .pointer (some ⟨s_.2.2, 0, none⟩))]) (fun s_ w' => (w'.cell? ⟨gb292, 0, none⟩ = some (.bool true) ∧ w'.cell? ⟨gb292, 1, none⟩ = some (.slice A0_1 l0_1.length c0_1)) ∧ (Kd.V (Kd.int .u32) 104 w' w.heap.size (fun k_ => (P0_1_ k_ ∨ w.heap.size ≤ k_) ∧ k_ ≠ gb292 ∧ k_ ≠ gb297 ∧ k_ ≠ s_.2.1 ∧ k_ ≠ s_.2.2) s_.1 t305) ∧ (Kd.V (Kd.int .u32) 104 w' w.heap.size (fun k_ => (P0_1_ k_ ∨ w.heap.size ≤ k_) ∧ k_ ≠ gb292 ∧ k_ ≠ gb297 ∧ k_ ≠ s_.2.1 ∧ k_ ≠ s_.2.2) (.slice A0_1 l0_1.length c0_1) l0_1) ∧ (Kd.V (Kd.int .u32) 104 w' w.heap.size (fun k_ => (P0_1_ k_ ∨ w.heap.size ≤ k_) ∧ k_ ≠ gb292 ∧ k_ ≠ gb297 ∧ k_ ≠ s_.2.1 ∧ k_ ≠ s_.2.2) (.slice Ao10 t294.length co10) t294) ∧ (w'.heap[gb292]? = some (.cells #[.bool true, .slice A0_1 l0_1.length c0_1] 27 (0, 0))) ∧ (w'.heap[gb297]? = some (.cells #[.bool t293, .slice Ao10 t294.length co10] 27 (0, 0))) ∧ (w'.heap[s_.2.1]? = some (.cells #[.bool false, .slice none 0 0] 27 (0, 0))) ∧ (w'.heap[s_.2.2]? = some (.cells #[.bool false, .slice none 0 0] 27 (0, 0))) ∧ (w.heap.size ≤ s_.2.1) ∧ (w.heap.size ≤ s_.2.1) ∧ (gb292 ≠ s_.2.1) ∧ (s_.2.1 ≠ gb292) ∧ (gb297 ≠ s_.2.1) ∧ (s_.2.1 ≠ gb297) ∧ (s_.2.2 ≠ s_.2.1) ∧ (s_.2.1 ≠ s_.2.2) ∧ (w.heap.size ≤ s_.2.2) ∧ (w.heap.size ≤ s_.2.2) ∧ (gb292 ≠ s_.2.2) ∧ (s_.2.2 ≠ gb292) ∧ (gb297 ≠ s_.2.2) ∧ (s_.2.2 ≠ gb297) ∧ (Below w.heap.size w w')) ?_ ?_
        rotate_left
        ·intro hJ3_8_9
         refine join_ (σ := Value × Value × Value) 4 #[true, true, true, true, true, true, true, true, false, false, false, false] (fun s_ => [(34, .agg #[.bool t304, s_.1]), (35, .tuple #[.agg #[.bool t308, s_.2.1], .agg #[.bool t312, s_.2.2]]), (30, .tuple #[.agg #[.bool t308, s_.2.1], .agg #[.bool t312, s_.2.2]]), (36, .agg #[.bool t308, s_.2.1]), (37, .agg #[.bool t312, s_.2.2])]) (fun s_ w' => (w'.cell? ⟨gb292, 0, none⟩ = some (.bool true) ∧ w'.cell? ⟨gb292, 1, none⟩ = some (.slice A0_1 l0_1.length c0_1)) ∧ (Kd.V (Kd.int .u32) 104 w' w.heap.size (fun k_ => (P0_1_ k_ ∨ w.heap.size ≤ k_) ∧ k_ ≠ gb292 ∧ k_ ≠ gb297) s_.1 t305) ∧ (Kd.V (Kd.int .u32) 104 w' w.heap.size (fun k_ => (P0_1_ k_ ∨ w.heap.size ≤ k_) ∧ k_ ≠ gb292 ∧ k_ ≠ gb297) s_.2.1 t309) ∧ (Kd.V (Kd.int .u32) 104 w' w.heap.size (fun k_ => (P0_1_ k_ ∨ w.heap.size ≤ k_) ∧ k_ ≠ gb292 ∧ k_ ≠ gb297) s_.2.2 t313) ∧ (Kd.V (Kd.int .u32) 104 w' w.heap.size (fun k_ => (P0_1_ k_ ∨ w.heap.size ≤ k_) ∧ k_ ≠ gb292 ∧ k_ ≠ gb297) (.slice A0_1 l0_1.length c0_1) l0_1) ∧ (Kd.V (Kd.int .u32) 104 w' w.heap.size (fun k_ => (P0_1_ k_ ∨ w.heap.size ≤ k_) ∧ k_ ≠ gb292 ∧ k_ ≠ gb297) (.slice Ao10 t294.length co10) t294) ∧ (w'.heap[gb292]? = some (.cells #[.bool true, .slice A0_1 l0_1.length c0_1] 27 (0, 0))) ∧ (w'.heap[gb297]? = some (.cells #[.bool t293, .slice Ao10 t294.length co10] 27 (0, 0))) ∧ (Below w.heap.size w w')) ?_ ?_
         rotate_left
         ·intro hJ3_4
          refine join_ (σ := Value × Nat) 7 #[true, true, true, true, false, false, false, false, true, false, false, false] (fun s_ => [(34, .agg #[.bool t304, s_.1]), (8, .pointer (some ⟨s_.2, 0, none⟩))]) (fun s_ w' => (w'.cell? ⟨gb292, 0, none⟩ = some (.bool true) ∧ w'.cell? ⟨gb292, 1, none⟩ = some (.slice A0_1 l0_1.length c0_1)) ∧ (Kd.V (Kd.int .u32) 104 w' w.heap.size (fun k_ => (P0_1_ k_ ∨ w.heap.size ≤ k_) ∧ k_ ≠ gb292 ∧ k_ ≠ gb297 ∧ k_ ≠ s_.2) s_.1 t305) ∧ (Kd.V (Kd.int .u32) 104 w' w.heap.size (fun k_ => (P0_1_ k_ ∨ w.heap.size ≤ k_) ∧ k_ ≠ gb292 ∧ k_ ≠ gb297 ∧ k_ ≠ s_.2) (.slice A0_1 l0_1.length c0_1) l0_1) ∧ (Kd.V (Kd.int .u32) 104 w' w.heap.size (fun k_ => (P0_1_ k_ ∨ w.heap.size ≤ k_) ∧ k_ ≠ gb292 ∧ k_ ≠ gb297 ∧ k_ ≠ s_.2) (.slice Ao10 t294.length co10) t294) ∧ (w'.heap[gb292]? = some (.cells #[.bool true, .slice A0_1 l0_1.length c0_1] 27 (0, 0))) ∧ (w'.heap[gb297]? = some (.cells #[.bool t293, .slice Ao10 t294.length co10] 27 (0, 0))) ∧ (w'.heap[s_.2]? = some (.cells #[.bool false, .slice none 0 0] 27 (0, 0))) ∧ (w.heap.size ≤ s_.2) ∧ (w.heap.size ≤ s_.2) ∧ (gb292 ≠ s_.2) ∧ (s_.2 ≠ gb292) ∧ (gb297 ≠ s_.2) ∧ (s_.2 ≠ gb297) ∧ (Below w.heap.size w w')) ?_ ?_
          rotate_left
          ·intro hJ3_8
           refine join_ (σ := Value × Nat) 7 #[true, true, true, true, false, false, false, false, false, true, false, false] (fun s_ => [(34, .agg #[.bool t304, s_.1]), (9, .pointer (some ⟨s_.2, 0, none⟩))]) (fun s_ w' => (w'.cell? ⟨gb292, 0, none⟩ = some (.bool true) ∧ w'.cell? ⟨gb292, 1, none⟩ = some (.slice A0_1 l0_1.length c0_1)) ∧ (Kd.V (Kd.int .u32) 104 w' w.heap.size (fun k_ => (P0_1_ k_ ∨ w.heap.size ≤ k_) ∧ k_ ≠ gb292 ∧ k_ ≠ gb297 ∧ k_ ≠ s_.2) s_.1 t305) ∧ (Kd.V (Kd.int .u32) 104 w' w.heap.size (fun k_ => (P0_1_ k_ ∨ w.heap.size ≤ k_) ∧ k_ ≠ gb292 ∧ k_ ≠ gb297 ∧ k_ ≠ s_.2) (.slice A0_1 l0_1.length c0_1) l0_1) ∧ (Kd.V (Kd.int .u32) 104 w' w.heap.size (fun k_ => (P0_1_ k_ ∨ w.heap.size ≤ k_) ∧ k_ ≠ gb292 ∧ k_ ≠ gb297 ∧ k_ ≠ s_.2) (.slice Ao10 t294.length co10) t294) ∧ (w'.heap[gb292]? = some (.cells #[.bool true, .slice A0_1 l0_1.length c0_1] 27 (0, 0))) ∧ (w'.heap[gb297]? = some (.cells #[.bool t293, .slice Ao10 t294.length co10] 27 (0, 0))) ∧ (w'.heap[s_.2]? = some (.cells #[.bool false, .slice none 0 0] 27 (0, 0))) ∧ (w.heap.size ≤ s_.2) ∧ (w.heap.size ≤ s_.2) ∧ (gb292 ≠ s_.2) ∧ (s_.2 ≠ gb292) ∧ (gb297 ≠ s_.2) ∧ (s_.2 ≠ gb297) ∧ (Below w.heap.size w w')) ?_ ?_
           rotate_left
           ·intro hJ3_9
            refine join_ (σ := Nat × Nat) 7 #[true, true, true, false, false, false, false, false, true, true, false, false] (fun s_ => [(8, .pointer (some ⟨s_.1, 0, none⟩)), (9, .pointer (some ⟨s_.2, 0, none⟩))]) (fun s_ w' => (w'.cell? ⟨gb292, 0, none⟩ = some (.bool true) ∧ w'.cell? ⟨gb292, 1, none⟩ = some (.slice A0_1 l0_1.length c0_1)) ∧ (Kd.V (Kd.int .u32) 104 w' w.heap.size (fun k_ => (P0_1_ k_ ∨ w.heap.size ≤ k_) ∧ k_ ≠ gb292 ∧ k_ ≠ gb297 ∧ k_ ≠ s_.1 ∧ k_ ≠ s_.2) (.slice A0_1 l0_1.length c0_1) l0_1) ∧ (Kd.V (Kd.int .u32) 104 w' w.heap.size (fun k_ => (P0_1_ k_ ∨ w.heap.size ≤ k_) ∧ k_ ≠ gb292 ∧ k_ ≠ gb297 ∧ k_ ≠ s_.1 ∧ k_ ≠ s_.2) (.slice Ao10 t294.length co10) t294) ∧ (w'.heap[gb292]? = some (.cells #[.bool true, .slice A0_1 l0_1.length c0_1] 27 (0, 0))) ∧ (w'.heap[gb297]? = some (.cells #[.bool t293, .slice Ao10 t294.length co10] 27 (0, 0))) ∧ (w'.heap[s_.1]? = some (.cells #[.bool false, .slice none 0 0] 27 (0, 0))) ∧ (w'.heap[s_.2]? = some (.cells #[.bool false, .slice none 0 0] 27 (0, 0))) ∧ (w.heap.size ≤ s_.1) ∧ (w.heap.size ≤ s_.1) ∧ (gb292 ≠ s_.1) ∧ (s_.1 ≠ gb292) ∧ (gb297 ≠ s_.1) ∧ (s_.1 ≠ gb297) ∧ (s_.2 ≠ s_.1) ∧ (s_.1 ≠ s_.2) ∧ (w.heap.size ≤ s_.2) ∧ (w.heap.size ≤ s_.2) ∧ (gb292 ≠ s_.2) ∧ (s_.2 ≠ gb292) ∧ (gb297 ≠ s_.2) ∧ (s_.2 ≠ gb297) ∧ (Below w.heap.size w w')) ?_ ?_
            rotate_left
            ·intro hJ8_9
             refine join_ (σ := Value) 8 #[true, true, true, true, false, false, false, false, false, false, false, false] (fun s_ => [(34, .agg #[.bool t304, s_])]) (fun s_ w' => (w'.cell? ⟨gb292, 0, none⟩ = some (.bool true) ∧ w'.cell? ⟨gb292, 1, none⟩ = some (.slice A0_1 l0_1.length c0_1)) ∧ (Kd.V (Kd.int .u32) 104 w' w.heap.size (fun k_ => (P0_1_ k_ ∨ w.heap.size ≤ k_) ∧ k_ ≠ gb292 ∧ k_ ≠ gb297) s_ t305) ∧ (Kd.V (Kd.int .u32) 104 w' w.heap.size (fun k_ => (P0_1_ k_ ∨ w.heap.size ≤ k_) ∧ k_ ≠ gb292 ∧ k_ ≠ gb297) (.slice A0_1 l0_1.length c0_1) l0_1) ∧ (Kd.V (Kd.int .u32) 104 w' w.heap.size (fun k_ => (P0_1_ k_ ∨ w.heap.size ≤ k_) ∧ k_ ≠ gb292 ∧ k_ ≠ gb297) (.slice Ao10 t294.length co10) t294) ∧ (w'.heap[gb292]? = some (.cells #[.bool true, .slice A0_1 l0_1.length c0_1] 27 (0, 0))) ∧ (w'.heap[gb297]? = some (.cells #[.bool t293, .slice Ao10 t294.length co10] 27 (0, 0))) ∧ (Below w.heap.size w w')) ?_ ?_
             rotate_left
             ·intro hJ3
              refine join_ (σ := Nat) 8 #[true, true, true, false, false, false, false, false, true, false, false, false] (fun s_ => [(8, .pointer (some ⟨s_, 0, none⟩))]) (fun s_ w' => (w'.cell? ⟨gb292, 0, none⟩ = some (.bool true) ∧ w'.cell? ⟨gb292, 1, none⟩ = some (.slice A0_1 l0_1.length c0_1)) ∧ (Kd.V (Kd.int .u32) 104 w' w.heap.size (fun k_ => (P0_1_ k_ ∨ w.heap.size ≤ k_) ∧ k_ ≠ gb292 ∧ k_ ≠ gb297 ∧ k_ ≠ s_) (.slice A0_1 l0_1.length c0_1) l0_1) ∧ (Kd.V (Kd.int .u32) 104 w' w.heap.size (fun k_ => (P0_1_ k_ ∨ w.heap.size ≤ k_) ∧ k_ ≠ gb292 ∧ k_ ≠ gb297 ∧ k_ ≠ s_) (.slice Ao10 t294.length co10) t294) ∧ (w'.heap[gb292]? = some (.cells #[.bool true, .slice A0_1 l0_1.length c0_1] 27 (0, 0))) ∧ (w'.heap[gb297]? = some (.cells #[.bool t293, .slice Ao10 t294.length co10] 27 (0, 0))) ∧ (w'.heap[s_]? = some (.cells #[.bool false, .slice none 0 0] 27 (0, 0))) ∧ (w.heap.size ≤ s_) ∧ (w.heap.size ≤ s_) ∧ (gb292 ≠ s_) ∧ (s_ ≠ gb292) ∧ (gb297 ≠ s_) ∧ (s_ ≠ gb297) ∧ (Below w.heap.size w w')) ?_ ?_
              rotate_left
              ·intro hJ8
               refine join_ (σ := Nat) 8 #[true, true, true, false, false, false, false, false, false, true, false, false] (fun s_ => [(9, .pointer (some ⟨s_, 0, none⟩))]) (fun s_ w' => (w'.cell? ⟨gb292, 0, none⟩ = some (.bool true) ∧ w'.cell? ⟨gb292, 1, none⟩ = some (.slice A0_1 l0_1.length c0_1)) ∧ (Kd.V (Kd.int .u32) 104 w' w.heap.size (fun k_ => (P0_1_ k_ ∨ w.heap.size ≤ k_) ∧ k_ ≠ gb292 ∧ k_ ≠ gb297 ∧ k_ ≠ s_) (.slice A0_1 l0_1.length c0_1) l0_1) ∧ (Kd.V (Kd.int .u32) 104 w' w.heap.size (fun k_ => (P0_1_ k_ ∨ w.heap.size ≤ k_) ∧ k_ ≠ gb292 ∧ k_ ≠ gb297 ∧ k_ ≠ s_) (.slice Ao10 t294.length co10) t294) ∧ (w'.heap[gb292]? = some (.cells #[.bool true, .slice A0_1 l0_1.length c0_1] 27 (0, 0))) ∧ (w'.heap[gb297]? = some (.cells #[.bool t293, .slice Ao10 t294.length co10] 27 (0, 0))) ∧ (w'.heap[s_]? = some (.cells #[.bool false, .slice none 0 0] 27 (0, 0))) ∧ (w.heap.size ≤ s_) ∧ (w.heap.size ≤ s_) ∧ (gb292 ≠ s_) ∧ (s_ ≠ gb292) ∧ (gb297 ≠ s_) ∧ (s_ ≠ gb297) ∧ (Below w.heap.size w w')) ?_ ?_
               rotate_left
               ·intro hJ9
                refine three_ (i := 3) (j := 8) (k := 9) (Ni := some 34) (Nj := some 8) (Nk := some 9) #[true, true, true, true, false, false, false, false, false, false, false, false] #[true, true, true, false, false, false, false, false, true, false, false, false] #[true, true, true, false, false, false, false, false, false, true, false, false] rfl rfl rfl rfl rfl rfl (three_of HT_.out zd16_13) zd16_34 zd16_34 zd16_34 (fun K hK => ?_) (fun K hK => ?_) (fun K hK => ?_)
                ·skip
                 refine goes_ Tryz.func13 zd16_13 rfl #[.int .i64 (wrap64 (64 * a1))] (by rfl) rfl rfl zd16_11 ?_
                 with_reducible refine (spec_Two.calls kj3 (wrap64 (64 * a1)) t304 t305 _ A28.out).mono ?_
                 rintro e w33 ⟨v306, rfl, ho0, hb⟩
                 refine ⟨_, rfl, ?_⟩
                 have n0_ := qaM (qvB zd16_8 hb)
                 have n1_ := qaM (qvB zd16_9 hb)
                 have n2_ := qaM (qvL (qvM (ok' := fun k_ => (P0_1_ k_ ∨ w.heap.size ≤ k_) ∧ k_ ≠ gb292 ∧ k_ ≠ gb297) ho0 (fun k_ hk_ => ⟨(.inr (Nat.le_trans (qbS zd16_2) hk_)), (qfB (g := gb292) (o := .cells #[.bool true, .slice A0_1 l0_1.length c0_1] 27 (0, 0)) zd16_0 k_ hk_), (qfB (g := gb297) (o := .cells #[.bool t293, .slice Ao10 t294.length co10] 27 (0, 0)) zd16_1 k_ hk_)⟩)) (qbS zd16_2))
                 have n3_ := qaM (qbB (g := gb292) (o := .cells #[.bool true, .slice A0_1 l0_1.length c0_1] 27 (0, 0)) zd16_0 hb)
                 have n4_ := qaM (qbB (g := gb297) (o := .cells #[.bool t293, .slice Ao10 t294.length co10] 27 (0, 0)) zd16_1 hb)
                 have n5_ := qaM (qbT zd16_2 hb)
                 clear HO_293001
                 clear HO_298001
                 clear BK292
                 clear BK297
                 clear HB
                 have HO_293001 := n0_
                 have HO_298001 := n1_
                 have HO307 := n2_
                 have BK292 := n3_
                 have BK297 := n4_
                 have HB := n5_
                 clear n0_ n1_ n2_ n3_ n4_ n5_
                 (try clear hb)
                 (try clear hb2)
                 (try clear hk)
                 (try clear hi)
                 (try clear ho0)
                 refine hK.out _ _ ⟨(qbC BK292.out 0).trans rfl, (qbC BK292.out 1).trans rfl⟩ (fun hHeld => ?_)
                 clear hK K
                 refine norm_ (a' := ?_) ?_ ?_
                 rotate_left
                 ·show Act.put _ (some 34) _ = _
                  simp only [Act.put, qsA, qsZ, qsS, i64_w, i32_w]
                  rfl
                 exact norm_ zd16_10 (hJ3 (v306) _ ⟨hHeld, zd16_12, zd16_8, zd16_9, zd16_0, zd16_1, zd16_2⟩)
                ·skip
                 refine box_step ?hg (N := 8) ?hd (cs := #[.bool false, .slice none 0 0]) (t := 27) ?hr ?_; (case hd => rfl); (case hg => rfl); (case hr => first | (go_simp; done) | (go_simp; rfl))
                 intro gb316 hg w33 hbox hb
                 have n0_ := qaM (qvB (qvE zd16_8 gb316 (Nat.le_of_eq hg.symm)) hb)
                 have n1_ := qaM (qvB (qvE zd16_9 gb316 (Nat.le_of_eq hg.symm)) hb)
                 have n2_ := qaM (qbB (g := gb292) (o := .cells #[.bool true, .slice A0_1 l0_1.length c0_1] 27 (0, 0)) zd16_0 hb)
                 have n3_ := qaM (qbB (g := gb297) (o := .cells #[.bool t293, .slice Ao10 t294.length co10] 27 (0, 0)) zd16_1 hb)
                 have n4_ := qaM (qbT zd16_2 hb)
                 have n5_ := qaM (hbox)
                 have n6_ := qaM ((by rw [hg]; exact (qbS zd16_2) : w.heap.size ≤ gb316))
                 have n7_ := qaM ((by rw [hg]; exact (qbS zd16_2) : w.heap.size ≤ gb316))
                 have n8_ := qaM ((by rw [hg]; exact qnL (qbL (g := gb292) (o := .cells #[.bool true, .slice A0_1 l0_1.length c0_1] 27 (0, 0)) zd16_0) : gb292 ≠ gb316))
                 have n9_ := qaM ((by rw [hg]; exact qnG (qbL (g := gb292) (o := .cells #[.bool true, .slice A0_1 l0_1.length c0_1] 27 (0, 0)) zd16_0) : gb316 ≠ gb292))
                 have n10_ := qaM ((by rw [hg]; exact qnL (qbL (g := gb297) (o := .cells #[.bool t293, .slice Ao10 t294.length co10] 27 (0, 0)) zd16_1) : gb297 ≠ gb316))
                 have n11_ := qaM ((by rw [hg]; exact qnG (qbL (g := gb297) (o := .cells #[.bool t293, .slice Ao10 t294.length co10] 27 (0, 0)) zd16_1) : gb316 ≠ gb297))
                 clear HO_293001
                 clear HO_298001
                 clear BK292
                 clear BK297
                 clear HB
                 have HO_293001 := n0_
                 have HO_298001 := n1_
                 have BK292 := n2_
                 have BK297 := n3_
                 have HB := n4_
                 have BK316 := n5_
                 have GW316 := n6_
                 have GE316 := n7_
                 have NB292_316 := n8_
                 have NB316_292 := n9_
                 have NB297_316 := n10_
                 have NB316_297 := n11_
                 clear n0_ n1_ n2_ n3_ n4_ n5_ n6_ n7_ n8_ n9_ n10_ n11_
                 clear hb hbox hg
                 refine hK.out _ _ ⟨(qbC BK292.out 0).trans rfl, (qbC BK292.out 1).trans rfl⟩ (fun hHeld => ?_)
                 clear hK K
                 refine norm_ (a' := ?_) ?_ ?_
                 rotate_left
                 ·show Act.put _ (some 8) _ = _
                  simp only [Act.put, qsA, qsZ, qsS, i64_w, i32_w]
                  rfl
                 exact norm_ zd16_10 (hJ8 (gb316) _ ⟨hHeld, zd16_14, zd16_15, zd16_0, zd16_1, zd16_6, GW316.out, GE316.out, NB292_316.out, NB316_292.out, NB297_316.out, NB316_297.out, zd16_3⟩)
                ·skip
                 refine box_step ?hg (N := 9) ?hd (cs := #[.bool false, .slice none 0 0]) (t := 27) ?hr ?_; (case hd => rfl); (case hg => rfl); (case hr => first | (go_simp; done) | (go_simp; rfl))
                 intro gb317 hg w33 hbox hb
                 have n0_ := qaM (qvB (qvE zd16_8 gb317 (Nat.le_of_eq hg.symm)) hb)
                 have n1_ := qaM (qvB (qvE zd16_9 gb317 (Nat.le_of_eq hg.symm)) hb)
                 have n2_ := qaM (qbB (g := gb292) (o := .cells #[.bool true, .slice A0_1 l0_1.length c0_1] 27 (0, 0)) zd16_0 hb)
                 have n3_ := qaM (qbB (g := gb297) (o := .cells #[.bool t293, .slice Ao10 t294.length co10] 27 (0, 0)) zd16_1 hb)
                 have n4_ := qaM (qbT zd16_2 hb)
                 have n5_ := qaM (hbox)
                 have n6_ := qaM ((by rw [hg]; exact (qbS zd16_2) : w.heap.size ≤ gb317))
                 have n7_ := qaM ((by rw [hg]; exact (qbS zd16_2) : w.heap.size ≤ gb317))
                 have n8_ := qaM ((by rw [hg]; exact qnL (qbL (g := gb292) (o := .cells #[.bool true, .slice A0_1 l0_1.length c0_1] 27 (0, 0)) zd16_0) : gb292 ≠ gb317))
                 have n9_ := qaM ((by rw [hg]; exact qnG (qbL (g := gb292) (o := .cells #[.bool true, .slice A0_1 l0_1.length c0_1] 27 (0, 0)) zd16_0) : gb317 ≠ gb292))
                 have n10_ := qaM ((by rw [hg]; exact qnL (qbL (g := gb297) (o := .cells #[.bool t293, .slice Ao10 t294.length co10] 27 (0, 0)) zd16_1) : gb297 ≠ gb317))
                 have n11_ := qaM ((by rw [hg]; exact qnG (qbL (g := gb297) (o := .cells #[.bool t293, .slice Ao10 t294.length co10] 27 (0, 0)) zd16_1) : gb317 ≠ gb297))
                 clear HO_293001
                 clear HO_298001
                 clear BK292
                 clear BK297
                 clear HB
                 have HO_293001 := n0_
                 have HO_298001 := n1_
                 have BK292 := n2_
                 have BK297 := n3_
                 have HB := n4_
                 have BK317 := n5_
                 have GW317 := n6_
                 have GE317 := n7_
                 have NB292_317 := n8_
                 have NB317_292 := n9_
                 have NB297_317 := n10_
                 have NB317_297 := n11_
                 clear n0_ n1_ n2_ n3_ n4_ n5_ n6_ n7_ n8_ n9_ n10_ n11_
                 clear hb hbox hg
                 refine hK.out _ _ ⟨(qbC BK292.out 0).trans rfl, (qbC BK292.out 1).trans rfl⟩ (fun hHeld => ?_)
                 clear hK K
                 refine norm_ (a' := ?_) ?_ ?_
                 rotate_left
                 ·show Act.put _ (some 9) _ = _
                  simp only [Act.put, qsA, qsZ, qsS, i64_w, i32_w]
                  rfl
                 exact norm_ zd16_10 (hJ9 (gb317) _ ⟨hHeld, zd16_14, zd16_15, zd16_0, zd16_1, zd16_7, GW317.out, GE317.out, NB292_317.out, NB317_292.out, NB297_317.out, NB317_297.out, zd16_4⟩)
               ·skip
                rintro gb317 w34 ⟨hS_, h0_, h1_, h2_, h3_, h4_, h5_, h6_, h7_, h8_, h9_, h10_, h11_⟩
                have n0_ : Aside0 (Kd.V (Kd.int .u32) 104 w34 w.heap.size (fun k_ => (P0_1_ k_ ∨ w.heap.size ≤ k_) ∧ k_ ≠ gb292 ∧ k_ ≠ gb297 ∧ k_ ≠ gb317) (.slice A0_1 l0_1.length c0_1) l0_1) := ⟨h0_⟩
                have n1_ : Aside0 (Kd.V (Kd.int .u32) 104 w34 w.heap.size (fun k_ => (P0_1_ k_ ∨ w.heap.size ≤ k_) ∧ k_ ≠ gb292 ∧ k_ ≠ gb297 ∧ k_ ≠ gb317) (.slice Ao10 t294.length co10) t294) := ⟨h1_⟩
                have n2_ : Aside0 (w34.heap[gb292]? = some (.cells #[.bool true, .slice A0_1 l0_1.length c0_1] 27 (0, 0))) := ⟨h2_⟩
                have n3_ : Aside0 (w34.heap[gb297]? = some (.cells #[.bool t293, .slice Ao10 t294.length co10] 27 (0, 0))) := ⟨h3_⟩
                have n4_ : Aside0 (w34.heap[gb317]? = some (.cells #[.bool false, .slice none 0 0] 27 (0, 0))) := ⟨h4_⟩
                have n5_ : Aside0 (w.heap.size ≤ gb317) := ⟨h5_⟩
                have n6_ : Aside0 (w.heap.size ≤ gb317) := ⟨h6_⟩
                have n7_ : Aside0 (gb292 ≠ gb317) := ⟨h7_⟩
                have n8_ : Aside0 (gb317 ≠ gb292) := ⟨h8_⟩
                have n9_ : Aside0 (gb297 ≠ gb317) := ⟨h9_⟩
                have n10_ : Aside0 (gb317 ≠ gb297) := ⟨h10_⟩
                have n11_ : Aside0 (Below w.heap.size w w34) := ⟨h11_⟩
                clear HO_293001
                clear HO_298001
                clear BK292
                clear BK297
                clear HB
                clear h0_ h1_ h2_ h3_ h4_ h5_ h6_ h7_ h8_ h9_ h10_ h11_
                have HO_293001 := n0_
                have HO_298001 := n1_
                have BK292 := n2_
                have BK297 := n3_
                have BK317 := n4_
                have GW317 := n5_
                have GE317 := n6_
                have NB292_317 := n7_
                have NB317_292 := n8_
                have NB297_317 := n9_
                have NB317_297 := n10_
                have HB := n11_
                clear n0_ n1_ n2_ n3_ n4_ n5_ n6_ n7_ n8_ n9_ n10_ n11_
                have hHeld : w34.cell? ⟨gb292, 0, none⟩ = some (.bool true) ∧ w34.cell? ⟨gb292, 1, none⟩ = some (.slice A0_1 l0_1.length c0_1) := hS_
                refine norm_ (a' := ?_) ?_ ?_
                rotate_left
                ·simp only [putAll, Act.put, qsA, qsZ, qsS]
                 rfl
                refine two_ (i := 3) (j := 8) (Ni := some 34) (Nj := some 8) #[true, true, true, true, false, false, false, false, false, true, false, false] #[true, true, true, false, false, false, false, false, true, true, false, false] rfl rfl rfl rfl (two_of HT_.out zd16_13) zd16_34 zd16_34 (fun K hK => ?_) (fun K hK => ?_)
                ·skip
                 refine goes_ Tryz.func13 zd16_13 rfl #[.int .i64 (wrap64 (64 * a1))] (by rfl) rfl rfl zd16_11 ?_
                 with_reducible refine (spec_Two.calls kj3 (wrap64 (64 * a1)) t304 t305 _ A28.out).mono ?_
                 rintro e w35 ⟨v306, rfl, ho0, hb⟩
                 refine ⟨_, rfl, ?_⟩
                 have n0_ := qaM (qvB zd16_8 hb)
                 have n1_ := qaM (qvB zd16_9 hb)
                 have n2_ := qaM (qvL (qvM (ok' := fun k_ => (P0_1_ k_ ∨ w.heap.size ≤ k_) ∧ k_ ≠ gb292 ∧ k_ ≠ gb297 ∧ k_ ≠ gb317) ho0 (fun k_ hk_ => ⟨(.inr (Nat.le_trans (qbS zd16_4) hk_)), (qfB (g := gb292) (o := .cells #[.bool true, .slice A0_1 l0_1.length c0_1] 27 (0, 0)) zd16_0 k_ hk_), (qfB (g := gb297) (o := .cells #[.bool t293, .slice Ao10 t294.length co10] 27 (0, 0)) zd16_1 k_ hk_), (qfB (g := gb317) (o := .cells #[.bool false, .slice none 0 0] 27 (0, 0)) zd16_7 k_ hk_)⟩)) (qbS zd16_4))
                 have n3_ := qaM (qbB (g := gb292) (o := .cells #[.bool true, .slice A0_1 l0_1.length c0_1] 27 (0, 0)) zd16_0 hb)
                 have n4_ := qaM (qbB (g := gb297) (o := .cells #[.bool t293, .slice Ao10 t294.length co10] 27 (0, 0)) zd16_1 hb)
                 have n5_ := qaM (qbB (g := gb317) (o := .cells #[.bool false, .slice none 0 0] 27 (0, 0)) zd16_7 hb)
                 have n6_ := qaM (qbT zd16_4 hb)
                 clear HO_293001
                 clear HO_298001
                 clear BK292
                 clear BK297
                 clear BK317
                 clear HB
                 have HO_293001 := n0_
                 have HO_298001 := n1_
                 have HO307 := n2_
                 have BK292 := n3_
                 have BK297 := n4_
                 have BK317 := n5_
                 have HB := n6_
                 clear n0_ n1_ n2_ n3_ n4_ n5_ n6_
                 (try clear hb)
                 (try clear hb2)
                 (try clear hk)
                 (try clear hi)
                 (try clear ho0)
                 refine hK.out _ _ ⟨(qbC BK292.out 0).trans rfl, (qbC BK292.out 1).trans rfl⟩ (fun hHeld => ?_)
                 clear hK K
                 refine norm_ (a' := ?_) ?_ ?_
                 rotate_left
                 ·show Act.put _ (some 34) _ = _
                  simp only [Act.put, qsA, qsZ, qsS, i64_w, i32_w]
                  rfl
                 exact norm_ zd16_10 (hJ3_9 (v306, gb317) _ ⟨hHeld, zd16_12, zd16_8, zd16_9, zd16_0, zd16_1, zd16_7, GW317.out, GE317.out, NB292_317.out, NB317_292.out, NB297_317.out, NB317_297.out, zd16_4⟩)
                ·skip
                 refine box_step ?hg (N := 8) ?hd (cs := #[.bool false, .slice none 0 0]) (t := 27) ?hr ?_; (case hd => rfl); (case hg => rfl); (case hr => first | (go_simp; done) | (go_simp; rfl))
                 intro gb316 hg w35 hbox hb
                 have n0_ := qaM (qvB (qvE zd16_8 gb316 (Nat.le_of_eq hg.symm)) hb)
                 have n1_ := qaM (qvB (qvE zd16_9 gb316 (Nat.le_of_eq hg.symm)) hb)
                 have n2_ := qaM (qbB (g := gb292) (o := .cells #[.bool true, .slice A0_1 l0_1.length c0_1] 27 (0, 0)) zd16_0 hb)
                 have n3_ := qaM (qbB (g := gb297) (o := .cells #[.bool t293, .slice Ao10 t294.length co10] 27 (0, 0)) zd16_1 hb)
                 have n4_ := qaM (qbB (g := gb317) (o := .cells #[.bool false, .slice none 0 0] 27 (0, 0)) zd16_7 hb)
                 have n5_ := qaM (qbT zd16_4 hb)
                 have n6_ := qaM (hbox)
                 have n7_ := qaM ((by rw [hg]; exact (qbS zd16_4) : w.heap.size ≤ gb316))
                 have n8_ := qaM ((by rw [hg]; exact (qbS zd16_4) : w.heap.size ≤ gb316))
                 have n9_ := qaM ((by rw [hg]; exact qnL (qbL (g := gb292) (o := .cells #[.bool true, .slice A0_1 l0_1.length c0_1] 27 (0, 0)) zd16_0) : gb292 ≠ gb316))
                 have n10_ := qaM ((by rw [hg]; exact qnG (qbL (g := gb292) (o := .cells #[.bool true, .slice A0_1 l0_1.length c0_1] 27 (0, 0)) zd16_0) : gb316 ≠ gb292))
                 have n11_ := qaM ((by rw [hg]; exact qnL (qbL (g := gb297) (o := .cells #[.bool t293, .slice Ao10 t294.length co10] 27 (0, 0)) zd16_1) : gb297 ≠ gb316))
                 have n12_ := qaM ((by rw [hg]; exact qnG (qbL (g := gb297) (o := .cells #[.bool t293, .slice Ao10 t294.length co10] 27 (0, 0)) zd16_1) : gb316 ≠ gb297))
                 have n13_ := qaM ((by rw [hg]; exact qnL (qbL (g := gb317) (o := .cells #[.bool false, .slice none 0 0] 27 (0, 0)) zd16_7) : gb317 ≠ gb316))
                 have n14_ := qaM ((by rw [hg]; exact qnG (qbL (g := gb317) (o := .cells #[.bool false, .slice none 0 0] 27 (0, 0)) zd16_7) : gb316 ≠ gb317))
                 clear HO_293001
                 clear HO_298001
                 clear BK292
                 clear BK297
                 clear BK317
                 clear HB
                 have HO_293001 := n0_
                 have HO_298001 := n1_
                 have BK292 := n2_
                 have BK297 := n3_
                 have BK317 := n4_
                 have HB := n5_
                 have BK316 := n6_
                 have GW316 := n7_
                 have GE316 := n8_
                 have NB292_316 := n9_
                 have NB316_292 := n10_
                 have NB297_316 := n11_
                 have NB316_297 := n12_
                 have NB317_316 := n13_
                 have NB316_317 := n14_
                 clear n0_ n1_ n2_ n3_ n4_ n5_ n6_ n7_ n8_ n9_ n10_ n11_ n12_ n13_ n14_
                 clear hb hbox hg
                 refine hK.out _ _ ⟨(qbC BK292.out 0).trans rfl, (qbC BK292.out 1).trans rfl⟩ (fun hHeld => ?_)
                 clear hK K
                 refine norm_ (a' := ?_) ?_ ?_
                 rotate_left
                 ·show Act.put _ (some 8) _ = _
                  simp only [Act.put, qsA, qsZ, qsS, i64_w, i32_w]
                  rfl
                 exact norm_ zd16_10 (hJ8_9 (gb316, gb317) _ ⟨hHeld, zd16_22, zd16_23, zd16_0, zd16_1, zd16_6, zd16_7, GW316.out, GE316.out, NB292_316.out, NB316_292.out, NB297_316.out, NB316_297.out, NB317_316.out, NB316_317.out, GW317.out, GE317.out, NB292_317.out, NB317_292.out, NB297_317.out, NB317_297.out, zd16_21⟩)
              ·skip
               rintro gb316 w34 ⟨hS_, h0_, h1_, h2_, h3_, h4_, h5_, h6_, h7_, h8_, h9_, h10_, h11_⟩
               have n0_ : Aside0 (Kd.V (Kd.int .u32) 104 w34 w.heap.size (fun k_ => (P0_1_ k_ ∨ w.heap.size ≤ k_) ∧ k_ ≠ gb292 ∧ k_ ≠ gb297 ∧ k_ ≠ gb316) (.slice A0_1 l0_1.length c0_1) l0_1) := ⟨h0_⟩
               have n1_ : Aside0 (Kd.V (Kd.int .u32) 104 w34 w.heap.size (fun k_ => (P0_1_ k_ ∨ w.heap.size ≤ k_) ∧ k_ ≠ gb292 ∧ k_ ≠ gb297 ∧ k_ ≠ gb316) (.slice Ao10 t294.length co10) t294) := ⟨h1_⟩
               have n2_ : Aside0 (w34.heap[gb292]? = some (.cells #[.bool true, .slice A0_1 l0_1.length c0_1] 27 (0, 0))) := ⟨h2_⟩
               have n3_ : Aside0 (w34.heap[gb297]? = some (.cells #[.bool t293, .slice Ao10 t294.length co10] 27 (0, 0))) := ⟨h3_⟩
               have n4_ : Aside0 (w34.heap[gb316]? = some (.cells #[.bool false, .slice none 0 0] 27 (0, 0))) := ⟨h4_⟩
               have n5_ : Aside0 (w.heap.size ≤ gb316) := ⟨h5_⟩
               have n6_ : Aside0 (w.heap.size ≤ gb316) := ⟨h6_⟩
               have n7_ : Aside0 (gb292 ≠ gb316) := ⟨h7_⟩
               have n8_ : Aside0 (gb316 ≠ gb292) := ⟨h8_⟩
               have n9_ : Aside0 (gb297 ≠ gb316) := ⟨h9_⟩
               have n10_ : Aside0 (gb316 ≠ gb297) := ⟨h10_⟩
               have n11_ : Aside0 (Below w.heap.size w w34) := ⟨h11_⟩
               clear HO_293001
               clear HO_298001
               clear BK292
               clear BK297
               clear HB
               clear h0_ h1_ h2_ h3_ h4_ h5_ h6_ h7_ h8_ h9_ h10_ h11_
               have HO_293001 := n0_
               have HO_298001 := n1_
               have BK292 := n2_
               have BK297 := n3_
               have BK316 := n4_
               have GW316 := n5_
               have GE316 := n6_
               have NB292_316 := n7_
               have NB316_292 := n8_
               have NB297_316 := n9_
               have NB316_297 := n10_
               have HB := n11_
               clear n0_ n1_ n2_ n3_ n4_ n5_ n6_ n7_ n8_ n9_ n10_ n11_
               have hHeld : w34.cell? ⟨gb292, 0, none⟩ = some (.bool true) ∧ w34.cell? ⟨gb292, 1, none⟩ = some (.slice A0_1 l0_1.length c0_1) := hS_
               refine norm_ (a' := ?_) ?_ ?_
               rotate_left
               ·simp only [putAll, Act.put, qsA, qsZ, qsS]
                rfl
               refine two_ (i := 3) (j := 9) (Ni := some 34) (Nj := some 9) #[true, true, true, true, false, false, false, false, true, false, false, false] #[true, true, true, false, false, false, false, false, true, true, false, false] rfl rfl rfl rfl (two_of HT_.out zd16_13) zd16_34 zd16_34 (fun K hK => ?_) (fun K hK => ?_)
               ·skip
                refine goes_ Tryz.func13 zd16_13 rfl #[.int .i64 (wrap64 (64 * a1))] (by rfl) rfl rfl zd16_11 ?_
                with_reducible refine (spec_Two.calls kj3 (wrap64 (64 * a1)) t304 t305 _ A28.out).mono ?_
                rintro e w35 ⟨v306, rfl, ho0, hb⟩
                refine ⟨_, rfl, ?_⟩
                have n0_ := qaM (qvB zd16_8 hb)
                have n1_ := qaM (qvB zd16_9 hb)
                have n2_ := qaM (qvL (qvM (ok' := fun k_ => (P0_1_ k_ ∨ w.heap.size ≤ k_) ∧ k_ ≠ gb292 ∧ k_ ≠ gb297 ∧ k_ ≠ gb316) ho0 (fun k_ hk_ => ⟨(.inr (Nat.le_trans (qbS zd16_3) hk_)), (qfB (g := gb292) (o := .cells #[.bool true, .slice A0_1 l0_1.length c0_1] 27 (0, 0)) zd16_0 k_ hk_), (qfB (g := gb297) (o := .cells #[.bool t293, .slice Ao10 t294.length co10] 27 (0, 0)) zd16_1 k_ hk_), (qfB (g := gb316) (o := .cells #[.bool false, .slice none 0 0] 27 (0, 0)) zd16_6 k_ hk_)⟩)) (qbS zd16_3))
                have n3_ := qaM (qbB (g := gb292) (o := .cells #[.bool true, .slice A0_1 l0_1.length c0_1] 27 (0, 0)) zd16_0 hb)
                have n4_ := qaM (qbB (g := gb297) (o := .cells #[.bool t293, .slice Ao10 t294.length co10] 27 (0, 0)) zd16_1 hb)
                have n5_ := qaM (qbB (g := gb316) (o := .cells #[.bool false, .slice none 0 0] 27 (0, 0)) zd16_6 hb)
                have n6_ := qaM (qbT zd16_3 hb)
                clear HO_293001
                clear HO_298001
                clear BK292
                clear BK297
                clear BK316
                clear HB
                have HO_293001 := n0_
                have HO_298001 := n1_
                have HO307 := n2_
                have BK292 := n3_
                have BK297 := n4_
                have BK316 := n5_
                have HB := n6_
                clear n0_ n1_ n2_ n3_ n4_ n5_ n6_
                (try clear hb)
                (try clear hb2)
                (try clear hk)
                (try clear hi)
                (try clear ho0)
                refine hK.out _ _ ⟨(qbC BK292.out 0).trans rfl, (qbC BK292.out 1).trans rfl⟩ (fun hHeld => ?_)
                clear hK K
                refine norm_ (a' := ?_) ?_ ?_
                rotate_left
                ·show Act.put _ (some 34) _ = _
                 simp only [Act.put, qsA, qsZ, qsS, i64_w, i32_w]
                 rfl
                exact norm_ zd16_10 (hJ3_8 (v306, gb316) _ ⟨hHeld, zd16_12, zd16_8, zd16_9, zd16_0, zd16_1, zd16_6, GW316.out, GE316.out, NB292_316.out, NB316_292.out, NB297_316.out, NB316_297.out, zd16_3⟩)
               ·skip
                refine box_step ?hg (N := 9) ?hd (cs := #[.bool false, .slice none 0 0]) (t := 27) ?hr ?_; (case hd => rfl); (case hg => rfl); (case hr => first | (go_simp; done) | (go_simp; rfl))
                intro gb317 hg w35 hbox hb
                have n0_ := qaM (qvB (qvE zd16_8 gb317 (Nat.le_of_eq hg.symm)) hb)
                have n1_ := qaM (qvB (qvE zd16_9 gb317 (Nat.le_of_eq hg.symm)) hb)
                have n2_ := qaM (qbB (g := gb292) (o := .cells #[.bool true, .slice A0_1 l0_1.length c0_1] 27 (0, 0)) zd16_0 hb)
                have n3_ := qaM (qbB (g := gb297) (o := .cells #[.bool t293, .slice Ao10 t294.length co10] 27 (0, 0)) zd16_1 hb)
                have n4_ := qaM (qbB (g := gb316) (o := .cells #[.bool false, .slice none 0 0] 27 (0, 0)) zd16_6 hb)
                have n5_ := qaM (qbT zd16_3 hb)
                have n6_ := qaM (hbox)
                have n7_ := qaM ((by rw [hg]; exact (qbS zd16_3) : w.heap.size ≤ gb317))
                have n8_ := qaM ((by rw [hg]; exact (qbS zd16_3) : w.heap.size ≤ gb317))
                have n9_ := qaM ((by rw [hg]; exact qnL (qbL (g := gb292) (o := .cells #[.bool true, .slice A0_1 l0_1.length c0_1] 27 (0, 0)) zd16_0) : gb292 ≠ gb317))
                have n10_ := qaM ((by rw [hg]; exact qnG (qbL (g := gb292) (o := .cells #[.bool true, .slice A0_1 l0_1.length c0_1] 27 (0, 0)) zd16_0) : gb317 ≠ gb292))
                have n11_ := qaM ((by rw [hg]; exact qnL (qbL (g := gb297) (o := .cells #[.bool t293, .slice Ao10 t294.length co10] 27 (0, 0)) zd16_1) : gb297 ≠ gb317))
                have n12_ := qaM ((by rw [hg]; exact qnG (qbL (g := gb297) (o := .cells #[.bool t293, .slice Ao10 t294.length co10] 27 (0, 0)) zd16_1) : gb317 ≠ gb297))
                have n13_ := qaM ((by rw [hg]; exact qnL (qbL (g := gb316) (o := .cells #[.bool false, .slice none 0 0] 27 (0, 0)) zd16_6) : gb316 ≠ gb317))
                have n14_ := qaM ((by rw [hg]; exact qnG (qbL (g := gb316) (o := .cells #[.bool false, .slice none 0 0] 27 (0, 0)) zd16_6) : gb317 ≠ gb316))
                clear HO_293001
                clear HO_298001
                clear BK292
                clear BK297
                clear BK316
                clear HB
                have HO_293001 := n0_
                have HO_298001 := n1_
                have BK292 := n2_
                have BK297 := n3_
                have BK316 := n4_
                have HB := n5_
                have BK317 := n6_
                have GW317 := n7_
                have GE317 := n8_
                have NB292_317 := n9_
                have NB317_292 := n10_
                have NB297_317 := n11_
                have NB317_297 := n12_
                have NB316_317 := n13_
                have NB317_316 := n14_
                clear n0_ n1_ n2_ n3_ n4_ n5_ n6_ n7_ n8_ n9_ n10_ n11_ n12_ n13_ n14_
                clear hb hbox hg
                refine hK.out _ _ ⟨(qbC BK292.out 0).trans rfl, (qbC BK292.out 1).trans rfl⟩ (fun hHeld => ?_)
                clear hK K
                refine norm_ (a' := ?_) ?_ ?_
                rotate_left
                ·show Act.put _ (some 9) _ = _
                 simp only [Act.put, qsA, qsZ, qsS, i64_w, i32_w]
                 rfl
                exact norm_ zd16_10 (hJ8_9 (gb316, gb317) _ ⟨hHeld, zd16_24, zd16_25, zd16_0, zd16_1, zd16_6, zd16_7, GW316.out, GE316.out, NB292_316.out, NB316_292.out, NB297_316.out, NB316_297.out, NB317_316.out, NB316_317.out, GW317.out, GE317.out, NB292_317.out, NB317_292.out, NB297_317.out, NB317_297.out, zd16_5⟩)
             ·skip
              rintro v306 w34 ⟨hS_, h0_, h1_, h2_, h3_, h4_, h5_⟩
              have n0_ : Aside0 (Kd.V (Kd.int .u32) 104 w34 w.heap.size (fun k_ => (P0_1_ k_ ∨ w.heap.size ≤ k_) ∧ k_ ≠ gb292 ∧ k_ ≠ gb297) v306 t305) := ⟨h0_⟩
              have n1_ : Aside0 (Kd.V (Kd.int .u32) 104 w34 w.heap.size (fun k_ => (P0_1_ k_ ∨ w.heap.size ≤ k_) ∧ k_ ≠ gb292 ∧ k_ ≠ gb297) (.slice A0_1 l0_1.length c0_1) l0_1) := ⟨h1_⟩
              have n2_ : Aside0 (Kd.V (Kd.int .u32) 104 w34 w.heap.size (fun k_ => (P0_1_ k_ ∨ w.heap.size ≤ k_) ∧ k_ ≠ gb292 ∧ k_ ≠ gb297) (.slice Ao10 t294.length co10) t294) := ⟨h2_⟩
              have n3_ : Aside0 (w34.heap[gb292]? = some (.cells #[.bool true, .slice A0_1 l0_1.length c0_1] 27 (0, 0))) := ⟨h3_⟩
              have n4_ : Aside0 (w34.heap[gb297]? = some (.cells #[.bool t293, .slice Ao10 t294.length co10] 27 (0, 0))) := ⟨h4_⟩
              have n5_ : Aside0 (Below w.heap.size w w34) := ⟨h5_⟩
              clear HO_293001
              clear HO_298001
              clear BK292
              clear BK297
              clear HB
              clear h0_ h1_ h2_ h3_ h4_ h5_
              have HO307 := n0_
              have HO_293001 := n1_
              have HO_298001 := n2_
              have BK292 := n3_
              have BK297 := n4_
              have HB := n5_
              clear n0_ n1_ n2_ n3_ n4_ n5_
              have hHeld : w34.cell? ⟨gb292, 0, none⟩ = some (.bool true) ∧ w34.cell? ⟨gb292, 1, none⟩ = some (.slice A0_1 l0_1.length c0_1) := hS_
              obtain ⟨Ao35, co35, eo35⟩ := Kd.V_slice HO307.out
              (first | subst eo35 | (injection eo35 with f1_ f2_ f3_; have f4_ := f1_.symm; have f5_ := f3_.symm; clear f1_ f2_ f3_; subst f4_; subst f5_))
              refine norm_ (a' := ?_) ?_ ?_
              rotate_left
              ·simp only [putAll, Act.put, qsA, qsZ, qsS]
               rfl
              refine three_ (i := 4) (j := 8) (k := 9) (Ni := some 35) (Nj := some 8) (Nk := some 9) #[true, true, true, true, true, false, false, false, false, false, false, false] #[true, true, true, true, false, false, false, false, true, false, false, false] #[true, true, true, true, false, false, false, false, false, true, false, false] rfl rfl rfl rfl rfl rfl (three_of HT_.out zd16_13) zd16_34 zd16_34 zd16_34 (fun K hK => ?_) (fun K hK => ?_) (fun K hK => ?_)
              ·skip
               refine goes_ Tryz.func26 zd16_13 rfl #[.agg #[.bool true, .slice A0_1 l0_1.length c0_1], .agg #[.bool t304, .slice Ao35 t305.length co35]] (by rfl) rfl rfl zd16_11 ?_
               with_reducible refine (spec_WideDiv.calls kj3 true _ _ l0_1 t304 _ _ t305 t308 t309 t312 t313 _ ?side1 ?side2 ?side3 ?side4 A29.out).mono ?_
               (case side1 => repeat (first | exact (qvR HO_293001.out).2.2 | (with_reducible refine Kd.C_alloc ?_ _) | (with_reducible refine Kd.C_drewN ?_ _) | (with_reducible refine Kd.C_drew ?_)))
               (case side2 => exact (qvR HO_293001.out).2.1)
               (case side3 => repeat (first | exact (qvR HO307.out).2.2 | (with_reducible refine Kd.C_alloc ?_ _) | (with_reducible refine Kd.C_drewN ?_ _) | (with_reducible refine Kd.C_drew ?_)))
               (case side4 => exact (qvR HO307.out).2.1)
               rintro e w36 ⟨v310, v314, rfl, ho0, ho1, hb⟩
               refine ⟨_, rfl, ?_⟩
               have n0_ := qaM (qvB zd16_8 hb)
               have n1_ := qaM (qvB zd16_9 hb)
               have n2_ := qaM (qvB zd16_12 hb)
               have n3_ := qaM (qvL (qvM (ok' := fun k_ => (P0_1_ k_ ∨ w.heap.size ≤ k_) ∧ k_ ≠ gb292 ∧ k_ ≠ gb297) ho0 (fun k_ hk_ => ⟨(.inr (Nat.le_trans (qbS zd16_2) hk_)), (qfB (g := gb292) (o := .cells #[.bool true, .slice A0_1 l0_1.length c0_1] 27 (0, 0)) zd16_0 k_ hk_), (qfB (g := gb297) (o := .cells #[.bool t293, .slice Ao10 t294.length co10] 27 (0, 0)) zd16_1 k_ hk_)⟩)) (qbS zd16_2))
               have n4_ := qaM (qvL (qvM (ok' := fun k_ => (P0_1_ k_ ∨ w.heap.size ≤ k_) ∧ k_ ≠ gb292 ∧ k_ ≠ gb297) ho1 (fun k_ hk_ => ⟨(.inr (Nat.le_trans (qbS zd16_2) hk_)), (qfB (g := gb292) (o := .cells #[.bool true, .slice A0_1 l0_1.length c0_1] 27 (0, 0)) zd16_0 k_ hk_), (qfB (g := gb297) (o := .cells #[.bool t293, .slice Ao10 t294.length co10] 27 (0, 0)) zd16_1 k_ hk_)⟩)) (qbS zd16_2))
               have n5_ := qaM (qbB (g := gb292) (o := .cells #[.bool true, .slice A0_1 l0_1.length c0_1] 27 (0, 0)) zd16_0 hb)
               have n6_ := qaM (qbB (g := gb297) (o := .cells #[.bool t293, .slice Ao10 t294.length co10] 27 (0, 0)) zd16_1 hb)
               have n7_ := qaM (qbT zd16_2 hb)
               clear HO_293001
               clear HO_298001
               clear HO307
               clear BK292
               clear BK297
               clear HB
               have HO_293001 := n0_
               have HO_298001 := n1_
               have HO307 := n2_
               have HO311 := n3_
               have HO315 := n4_
               have BK292 := n5_
               have BK297 := n6_
               have HB := n7_
               clear n0_ n1_ n2_ n3_ n4_ n5_ n6_ n7_
               (try clear hb)
               (try clear hb2)
               (try clear hk)
               (try clear hi)
               (try clear ho0)
               (try clear ho1)
               refine hK.out _ _ ⟨(qbC BK292.out 0).trans rfl, (qbC BK292.out 1).trans rfl⟩ (fun hHeld => ?_)
               clear hK K
               refine norm_ (a' := ?_) ?_ ?_
               rotate_left
               ·show Act.put _ (some 35) _ = _
                simp only [Act.put, qsA, qsZ, qsS, i64_w, i32_w]
                rfl
               refine pure_ (i := 5) (N := some 30) (v := ?_) (a' := ?_) #[true, true, true, true, true, true, false, false, false, false, false, false] rfl rfl (any_of HT_.out zd16_13) (fun _ _ _ h => h) (Or.inl ⟨by rfl, ?_⟩) ?_ ?_
               rotate_left
               ·intro w'
                go_simp
                with_reducible rfl
               rotate_left
               ·simp only [Act.put, qsA, qsZ, qsS, i64_w, i32_w]
                rfl
               refine pure_ (i := 6) (N := some 36) (v := ?_) (a' := ?_) #[true, true, true, true, true, true, true, false, false, false, false, false] rfl rfl (any_of HT_.out zd16_13) (fun _ _ _ h => h) (Or.inl ⟨by rfl, ?_⟩) ?_ ?_
               rotate_left
               ·intro w'
                go_simp
                with_reducible rfl
               rotate_left
               ·simp only [Act.put, qsA, qsZ, qsS, i64_w, i32_w]
                rfl
               refine pure_ (i := 7) (N := some 37) (v := ?_) (a' := ?_) #[true, true, true, true, true, true, true, true, false, false, false, false] rfl rfl (any_of HT_.out zd16_13) (fun _ _ _ h => h) (Or.inl ⟨by rfl, ?_⟩) ?_ ?_
               rotate_left
               ·intro w'
                go_simp
                with_reducible rfl
               rotate_left
               ·simp only [Act.put, qsA, qsZ, qsS, i64_w, i32_w]
                rfl
               exact norm_ zd16_10 (hJ3_4 (.slice Ao35 t305.length co35, v310, v314) _ ⟨hHeld, zd16_12, zd16_16, zd16_17, zd16_8, zd16_9, zd16_0, zd16_1, zd16_2⟩)
              ·skip
               refine box_step ?hg (N := 8) ?hd (cs := #[.bool false, .slice none 0 0]) (t := 27) ?hr ?_; (case hd => rfl); (case hg => rfl); (case hr => first | (go_simp; done) | (go_simp; rfl))
               intro gb316 hg w35 hbox hb
               have n0_ := qaM (qvB (qvE zd16_8 gb316 (Nat.le_of_eq hg.symm)) hb)
               have n1_ := qaM (qvB (qvE zd16_9 gb316 (Nat.le_of_eq hg.symm)) hb)
               have n2_ := qaM (qvB (qvE zd16_12 gb316 (Nat.le_of_eq hg.symm)) hb)
               have n3_ := qaM (qbB (g := gb292) (o := .cells #[.bool true, .slice A0_1 l0_1.length c0_1] 27 (0, 0)) zd16_0 hb)
               have n4_ := qaM (qbB (g := gb297) (o := .cells #[.bool t293, .slice Ao10 t294.length co10] 27 (0, 0)) zd16_1 hb)
               have n5_ := qaM (qbT zd16_2 hb)
               have n6_ := qaM (hbox)
               have n7_ := qaM ((by rw [hg]; exact (qbS zd16_2) : w.heap.size ≤ gb316))
               have n8_ := qaM ((by rw [hg]; exact (qbS zd16_2) : w.heap.size ≤ gb316))
               have n9_ := qaM ((by rw [hg]; exact qnL (qbL (g := gb292) (o := .cells #[.bool true, .slice A0_1 l0_1.length c0_1] 27 (0, 0)) zd16_0) : gb292 ≠ gb316))
               have n10_ := qaM ((by rw [hg]; exact qnG (qbL (g := gb292) (o := .cells #[.bool true, .slice A0_1 l0_1.length c0_1] 27 (0, 0)) zd16_0) : gb316 ≠ gb292))
               have n11_ := qaM ((by rw [hg]; exact qnL (qbL (g := gb297) (o := .cells #[.bool t293, .slice Ao10 t294.length co10] 27 (0, 0)) zd16_1) : gb297 ≠ gb316))
               have n12_ := qaM ((by rw [hg]; exact qnG (qbL (g := gb297) (o := .cells #[.bool t293, .slice Ao10 t294.length co10] 27 (0, 0)) zd16_1) : gb316 ≠ gb297))
               clear HO_293001
               clear HO_298001
               clear HO307
               clear BK292
               clear BK297
               clear HB
               have HO_293001 := n0_
               have HO_298001 := n1_
               have HO307 := n2_
               have BK292 := n3_
               have BK297 := n4_
               have HB := n5_
               have BK316 := n6_
               have GW316 := n7_
               have GE316 := n8_
               have NB292_316 := n9_
               have NB316_292 := n10_
               have NB297_316 := n11_
               have NB316_297 := n12_
               clear n0_ n1_ n2_ n3_ n4_ n5_ n6_ n7_ n8_ n9_ n10_ n11_ n12_
               clear hb hbox hg
               refine hK.out _ _ ⟨(qbC BK292.out 0).trans rfl, (qbC BK292.out 1).trans rfl⟩ (fun hHeld => ?_)
               clear hK K
               refine norm_ (a' := ?_) ?_ ?_
               rotate_left
               ·show Act.put _ (some 8) _ = _
                simp only [Act.put, qsA, qsZ, qsS, i64_w, i32_w]
                rfl
               exact norm_ zd16_10 (hJ3_8 ((.slice Ao35 t305.length co35 : Value), gb316) _ ⟨hHeld, zd16_20, zd16_14, zd16_15, zd16_0, zd16_1, zd16_6, GW316.out, GE316.out, NB292_316.out, NB316_292.out, NB297_316.out, NB316_297.out, zd16_3⟩)
              ·skip
               refine box_step ?hg (N := 9) ?hd (cs := #[.bool false, .slice none 0 0]) (t := 27) ?hr ?_; (case hd => rfl); (case hg => rfl); (case hr => first | (go_simp; done) | (go_simp; rfl))
               intro gb317 hg w35 hbox hb
               have n0_ := qaM (qvB (qvE zd16_8 gb317 (Nat.le_of_eq hg.symm)) hb)
               have n1_ := qaM (qvB (qvE zd16_9 gb317 (Nat.le_of_eq hg.symm)) hb)
               have n2_ := qaM (qvB (qvE zd16_12 gb317 (Nat.le_of_eq hg.symm)) hb)
               have n3_ := qaM (qbB (g := gb292) (o := .cells #[.bool true, .slice A0_1 l0_1.length c0_1] 27 (0, 0)) zd16_0 hb)
               have n4_ := qaM (qbB (g := gb297) (o := .cells #[.bool t293, .slice Ao10 t294.length co10] 27 (0, 0)) zd16_1 hb)
               have n5_ := qaM (qbT zd16_2 hb)
               have n6_ := qaM (hbox)
               have n7_ := qaM ((by rw [hg]; exact (qbS zd16_2) : w.heap.size ≤ gb317))
               have n8_ := qaM ((by rw [hg]; exact (qbS zd16_2) : w.heap.size ≤ gb317))
               have n9_ := qaM ((by rw [hg]; exact qnL (qbL (g := gb292) (o := .cells #[.bool true, .slice A0_1 l0_1.length c0_1] 27 (0, 0)) zd16_0) : gb292 ≠ gb317))
               have n10_ := qaM ((by rw [hg]; exact qnG (qbL (g := gb292) (o := .cells #[.bool true, .slice A0_1 l0_1.length c0_1] 27 (0, 0)) zd16_0) : gb317 ≠ gb292))
               have n11_ := qaM ((by rw [hg]; exact qnL (qbL (g := gb297) (o := .cells #[.bool t293, .slice Ao10 t294.length co10] 27 (0, 0)) zd16_1) : gb297 ≠ gb317))
               have n12_ := qaM ((by rw [hg]; exact qnG (qbL (g := gb297) (o := .cells #[.bool t293, .slice Ao10 t294.length co10] 27 (0, 0)) zd16_1) : gb317 ≠ gb297))
               clear HO_293001
               clear HO_298001
               clear HO307
               clear BK292
               clear BK297
               clear HB
               have HO_293001 := n0_
               have HO_298001 := n1_
               have HO307 := n2_
               have BK292 := n3_
               have BK297 := n4_
               have HB := n5_
               have BK317 := n6_
               have GW317 := n7_
               have GE317 := n8_
               have NB292_317 := n9_
               have NB317_292 := n10_
               have NB297_317 := n11_
               have NB317_297 := n12_
               clear n0_ n1_ n2_ n3_ n4_ n5_ n6_ n7_ n8_ n9_ n10_ n11_ n12_
               clear hb hbox hg
               refine hK.out _ _ ⟨(qbC BK292.out 0).trans rfl, (qbC BK292.out 1).trans rfl⟩ (fun hHeld => ?_)
               clear hK K
               refine norm_ (a' := ?_) ?_ ?_
               rotate_left
               ·show Act.put _ (some 9) _ = _
                simp only [Act.put, qsA, qsZ, qsS, i64_w, i32_w]
                rfl
               exact norm_ zd16_10 (hJ3_9 ((.slice Ao35 t305.length co35 : Value), gb317) _ ⟨hHeld, zd16_20, zd16_14, zd16_15, zd16_0, zd16_1, zd16_7, GW317.out, GE317.out, NB292_317.out, NB317_292.out, NB297_317.out, NB317_297.out, zd16_4⟩)
            ·skip
             rintro ⟨gb316, gb317⟩ w35 ⟨hS_, h0_, h1_, h2_, h3_, h4_, h5_, h6_, h7_, h8_, h9_, h10_, h11_, h12_, h13_, h14_, h15_, h16_, h17_, h18_, h19_, h20_⟩
             have n0_ : Aside0 (Kd.V (Kd.int .u32) 104 w35 w.heap.size (fun k_ => (P0_1_ k_ ∨ w.heap.size ≤ k_) ∧ k_ ≠ gb292 ∧ k_ ≠ gb297 ∧ k_ ≠ gb316 ∧ k_ ≠ gb317) (.slice A0_1 l0_1.length c0_1) l0_1) := ⟨h0_⟩
             have n1_ : Aside0 (Kd.V (Kd.int .u32) 104 w35 w.heap.size (fun k_ => (P0_1_ k_ ∨ w.heap.size ≤ k_) ∧ k_ ≠ gb292 ∧ k_ ≠ gb297 ∧ k_ ≠ gb316 ∧ k_ ≠ gb317) (.slice Ao10 t294.length co10) t294) := ⟨h1_⟩
             have n2_ : Aside0 (w35.heap[gb292]? = some (.cells #[.bool true, .slice A0_1 l0_1.length c0_1] 27 (0, 0))) := ⟨h2_⟩
             have n3_ : Aside0 (w35.heap[gb297]? = some (.cells #[.bool t293, .slice Ao10 t294.length co10] 27 (0, 0))) := ⟨h3_⟩
             have n4_ : Aside0 (w35.heap[gb316]? = some (.cells #[.bool false, .slice none 0 0] 27 (0, 0))) := ⟨h4_⟩
             have n5_ : Aside0 (w35.heap[gb317]? = some (.cells #[.bool false, .slice none 0 0] 27 (0, 0))) := ⟨h5_⟩
             have n6_ : Aside0 (w.heap.size ≤ gb316) := ⟨h6_⟩
             have n7_ : Aside0 (w.heap.size ≤ gb316) := ⟨h7_⟩
             have n8_ : Aside0 (gb292 ≠ gb316) := ⟨h8_⟩
             have n9_ : Aside0 (gb316 ≠ gb292) := ⟨h9_⟩
             have n10_ : Aside0 (gb297 ≠ gb316) := ⟨h10_⟩
             have n11_ : Aside0 (gb316 ≠ gb297) := ⟨h11_⟩
             have n12_ : Aside0 (gb317 ≠ gb316) := ⟨h12_⟩
             have n13_ : Aside0 (gb316 ≠ gb317) := ⟨h13_⟩
             have n14_ : Aside0 (w.heap.size ≤ gb317) := ⟨h14_⟩
             have n15_ : Aside0 (w.heap.size ≤ gb317) := ⟨h15_⟩
             have n16_ : Aside0 (gb292 ≠ gb317) := ⟨h16_⟩
             have n17_ : Aside0 (gb317 ≠ gb292) := ⟨h17_⟩
             have n18_ : Aside0 (gb297 ≠ gb317) := ⟨h18_⟩
             have n19_ : Aside0 (gb317 ≠ gb297) := ⟨h19_⟩
             have n20_ : Aside0 (Below w.heap.size w w35) := ⟨h20_⟩
             clear HO_293001
             clear HO_298001
             clear BK292
             clear BK297
             clear HB
             clear h0_ h1_ h2_ h3_ h4_ h5_ h6_ h7_ h8_ h9_ h10_ h11_ h12_ h13_ h14_ h15_ h16_ h17_ h18_ h19_ h20_
             have HO_293001 := n0_
             have HO_298001 := n1_
             have BK292 := n2_
             have BK297 := n3_
             have BK316 := n4_
             have BK317 := n5_
             have GW316 := n6_
             have GE316 := n7_
             have NB292_316 := n8_
             have NB316_292 := n9_
             have NB297_316 := n10_
             have NB316_297 := n11_
             have NB317_316 := n12_
             have NB316_317 := n13_
             have GW317 := n14_
             have GE317 := n15_
             have NB292_317 := n16_
             have NB317_292 := n17_
             have NB297_317 := n18_
             have NB317_297 := n19_
             have HB := n20_
             clear n0_ n1_ n2_ n3_ n4_ n5_ n6_ n7_ n8_ n9_ n10_ n11_ n12_ n13_ n14_ n15_ n16_ n17_ n18_ n19_ n20_
             have hHeld : w35.cell? ⟨gb292, 0, none⟩ = some (.bool true) ∧ w35.cell? ⟨gb292, 1, none⟩ = some (.slice A0_1 l0_1.length c0_1) := hS_
             refine norm_ (a' := ?_) ?_ ?_
             rotate_left
             ·simp only [putAll, Act.put, qsA, qsZ, qsS]
              rfl
             refine one_ (i := 3) (N := some 34) #[true, true, true, true, false, false, false, false, true, true, false, false] rfl rfl (one_of HT_.out zd16_13) zd16_34 (fun K hK => ?_)
             refine goes_ Tryz.func13 zd16_13 rfl #[.int .i64 (wrap64 (64 * a1))] (by rfl) rfl rfl zd16_11 ?_
             with_reducible refine (spec_Two.calls kj3 (wrap64 (64 * a1)) t304 t305 _ A28.out).mono ?_
             rintro e w36 ⟨v306, rfl, ho0, hb⟩
             refine ⟨_, rfl, ?_⟩
             have n0_ := qaM (qvB zd16_8 hb)
             have n1_ := qaM (qvB zd16_9 hb)
             have n2_ := qaM (qvL (qvM (ok' := fun k_ => (P0_1_ k_ ∨ w.heap.size ≤ k_) ∧ k_ ≠ gb292 ∧ k_ ≠ gb297 ∧ k_ ≠ gb316 ∧ k_ ≠ gb317) ho0 (fun k_ hk_ => ⟨(.inr (Nat.le_trans (qbS zd16_5) hk_)), (qfB (g := gb292) (o := .cells #[.bool true, .slice A0_1 l0_1.length c0_1] 27 (0, 0)) zd16_0 k_ hk_), (qfB (g := gb297) (o := .cells #[.bool t293, .slice Ao10 t294.length co10] 27 (0, 0)) zd16_1 k_ hk_), (qfB (g := gb316) (o := .cells #[.bool false, .slice none 0 0] 27 (0, 0)) zd16_6 k_ hk_), (qfB (g := gb317) (o := .cells #[.bool false, .slice none 0 0] 27 (0, 0)) zd16_7 k_ hk_)⟩)) (qbS zd16_5))
             have n3_ := qaM (qbB (g := gb292) (o := .cells #[.bool true, .slice A0_1 l0_1.length c0_1] 27 (0, 0)) zd16_0 hb)
             have n4_ := qaM (qbB (g := gb297) (o := .cells #[.bool t293, .slice Ao10 t294.length co10] 27 (0, 0)) zd16_1 hb)
             have n5_ := qaM (qbB (g := gb316) (o := .cells #[.bool false, .slice none 0 0] 27 (0, 0)) zd16_6 hb)
             have n6_ := qaM (qbB (g := gb317) (o := .cells #[.bool false, .slice none 0 0] 27 (0, 0)) zd16_7 hb)
             have n7_ := qaM (qbT zd16_5 hb)
             clear HO_293001
             clear HO_298001
             clear BK292
             clear BK297
             clear BK316
             clear BK317
             clear HB
             have HO_293001 := n0_
             have HO_298001 := n1_
             have HO307 := n2_
             have BK292 := n3_
             have BK297 := n4_
             have BK316 := n5_
             have BK317 := n6_
             have HB := n7_
             clear n0_ n1_ n2_ n3_ n4_ n5_ n6_ n7_
             (try clear hb)
             (try clear hb2)
             (try clear hk)
             (try clear hi)
             (try clear ho0)
             refine hK.out _ _ ⟨(qbC BK292.out 0).trans rfl, (qbC BK292.out 1).trans rfl⟩ (fun hHeld => ?_)
             clear hK K
             refine norm_ (a' := ?_) ?_ ?_
             rotate_left
             ·show Act.put _ (some 34) _ = _
              simp only [Act.put, qsA, qsZ, qsS, i64_w, i32_w]
              rfl
             exact norm_ zd16_10 (hJ3_8_9 (v306, gb316, gb317) _ ⟨hHeld, zd16_12, zd16_8, zd16_9, zd16_0, zd16_1, zd16_6, zd16_7, GW316.out, GE316.out, NB292_316.out, NB316_292.out, NB297_316.out, NB316_297.out, NB317_316.out, NB316_317.out, GW317.out, GE317.out, NB292_317.out, NB317_292.out, NB297_317.out, NB317_297.out, zd16_5⟩)
           ·skip
            rintro ⟨v306, gb317⟩ w35 ⟨hS_, h0_, h1_, h2_, h3_, h4_, h5_, h6_, h7_, h8_, h9_, h10_, h11_, h12_⟩
            have n0_ : Aside0 (Kd.V (Kd.int .u32) 104 w35 w.heap.size (fun k_ => (P0_1_ k_ ∨ w.heap.size ≤ k_) ∧ k_ ≠ gb292 ∧ k_ ≠ gb297 ∧ k_ ≠ gb317) v306 t305) := ⟨h0_⟩
            have n1_ : Aside0 (Kd.V (Kd.int .u32) 104 w35 w.heap.size (fun k_ => (P0_1_ k_ ∨ w.heap.size ≤ k_) ∧ k_ ≠ gb292 ∧ k_ ≠ gb297 ∧ k_ ≠ gb317) (.slice A0_1 l0_1.length c0_1) l0_1) := ⟨h1_⟩
            have n2_ : Aside0 (Kd.V (Kd.int .u32) 104 w35 w.heap.size (fun k_ => (P0_1_ k_ ∨ w.heap.size ≤ k_) ∧ k_ ≠ gb292 ∧ k_ ≠ gb297 ∧ k_ ≠ gb317) (.slice Ao10 t294.length co10) t294) := ⟨h2_⟩
            have n3_ : Aside0 (w35.heap[gb292]? = some (.cells #[.bool true, .slice A0_1 l0_1.length c0_1] 27 (0, 0))) := ⟨h3_⟩
            have n4_ : Aside0 (w35.heap[gb297]? = some (.cells #[.bool t293, .slice Ao10 t294.length co10] 27 (0, 0))) := ⟨h4_⟩
            have n5_ : Aside0 (w35.heap[gb317]? = some (.cells #[.bool false, .slice none 0 0] 27 (0, 0))) := ⟨h5_⟩
            have n6_ : Aside0 (w.heap.size ≤ gb317) := ⟨h6_⟩
            have n7_ : Aside0 (w.heap.size ≤ gb317) := ⟨h7_⟩
            have n8_ : Aside0 (gb292 ≠ gb317) := ⟨h8_⟩
            have n9_ : Aside0 (gb317 ≠ gb292) := ⟨h9_⟩
            have n10_ : Aside0 (gb297 ≠ gb317) := ⟨h10_⟩
            have n11_ : Aside0 (gb317 ≠ gb297) := ⟨h11_⟩
            have n12_ : Aside0 (Below w.heap.size w w35) := ⟨h12_⟩
            clear HO_293001
            clear HO_298001
            clear BK292
            clear BK297
            clear HB
            clear h0_ h1_ h2_ h3_ h4_ h5_ h6_ h7_ h8_ h9_ h10_ h11_ h12_
            have HO307 := n0_
            have HO_293001 := n1_
            have HO_298001 := n2_
            have BK292 := n3_
            have BK297 := n4_
            have BK317 := n5_
            have GW317 := n6_
            have GE317 := n7_
            have NB292_317 := n8_
            have NB317_292 := n9_
            have NB297_317 := n10_
            have NB317_297 := n11_
            have HB := n12_
            clear n0_ n1_ n2_ n3_ n4_ n5_ n6_ n7_ n8_ n9_ n10_ n11_ n12_
            have hHeld : w35.cell? ⟨gb292, 0, none⟩ = some (.bool true) ∧ w35.cell? ⟨gb292, 1, none⟩ = some (.slice A0_1 l0_1.length c0_1) := hS_
            obtain ⟨Ao36, co36, eo36⟩ := Kd.V_slice HO307.out
            (first | subst eo36 | (injection eo36 with f1_ f2_ f3_; have f4_ := f1_.symm; have f5_ := f3_.symm; clear f1_ f2_ f3_; subst f4_; subst f5_))
            refine norm_ (a' := ?_) ?_ ?_
            rotate_left
            ·simp only [putAll, Act.put, qsA, qsZ, qsS]
             rfl
            refine two_ (i := 4) (j := 8) (Ni := some 35) (Nj := some 8) #[true, true, true, true, true, false, false, false, false, true, false, false] #[true, true, true, true, false, false, false, false, true, true, false, false] rfl rfl rfl rfl (two_of HT_.out zd16_13) zd16_34 zd16_34 (fun K hK => ?_) (fun K hK => ?_)
            ·skip
             refine goes_ Tryz.func26 zd16_13 rfl #[.agg #[.bool true, .slice A0_1 l0_1.length c0_1], .agg #[.bool t304, .slice Ao36 t305.length co36]] (by rfl) rfl rfl zd16_11 ?_
             with_reducible refine (spec_WideDiv.calls kj3 true _ _ l0_1 t304 _ _ t305 t308 t309 t312 t313 _ ?side1 ?side2 ?side3 ?side4 A29.out).mono ?_
             (case side1 => repeat (first | exact (qvR HO_293001.out).2.2 | (with_reducible refine Kd.C_alloc ?_ _) | (with_reducible refine Kd.C_drewN ?_ _) | (with_reducible refine Kd.C_drew ?_)))
             (case side2 => exact (qvR HO_293001.out).2.1)
             (case side3 => repeat (first | exact (qvR HO307.out).2.2 | (with_reducible refine Kd.C_alloc ?_ _) | (with_reducible refine Kd.C_drewN ?_ _) | (with_reducible refine Kd.C_drew ?_)))
             (case side4 => exact (qvR HO307.out).2.1)
             rintro e w37 ⟨v310, v314, rfl, ho0, ho1, hb⟩
             refine ⟨_, rfl, ?_⟩
             have n0_ := qaM (qvB zd16_8 hb)
             have n1_ := qaM (qvB zd16_9 hb)
             have n2_ := qaM (qvB zd16_12 hb)
             have n3_ := qaM (qvL (qvM (ok' := fun k_ => (P0_1_ k_ ∨ w.heap.size ≤ k_) ∧ k_ ≠ gb292 ∧ k_ ≠ gb297 ∧ k_ ≠ gb317) ho0 (fun k_ hk_ => ⟨(.inr (Nat.le_trans (qbS zd16_4) hk_)), (qfB (g := gb292) (o := .cells #[.bool true, .slice A0_1 l0_1.length c0_1] 27 (0, 0)) zd16_0 k_ hk_), (qfB (g := gb297) (o := .cells #[.bool t293, .slice Ao10 t294.length co10] 27 (0, 0)) zd16_1 k_ hk_), (qfB (g := gb317) (o := .cells #[.bool false, .slice none 0 0] 27 (0, 0)) zd16_7 k_ hk_)⟩)) (qbS zd16_4))
             have n4_ := qaM (qvL (qvM (ok' := fun k_ => (P0_1_ k_ ∨ w.heap.size ≤ k_) ∧ k_ ≠ gb292 ∧ k_ ≠ gb297 ∧ k_ ≠ gb317) ho1 (fun k_ hk_ => ⟨(.inr (Nat.le_trans (qbS zd16_4) hk_)), (qfB (g := gb292) (o := .cells #[.bool true, .slice A0_1 l0_1.length c0_1] 27 (0, 0)) zd16_0 k_ hk_), (qfB (g := gb297) (o := .cells #[.bool t293, .slice Ao10 t294.length co10] 27 (0, 0)) zd16_1 k_ hk_), (qfB (g := gb317) (o := .cells #[.bool false, .slice none 0 0] 27 (0, 0)) zd16_7 k_ hk_)⟩)) (qbS zd16_4))
             have n5_ := qaM (qbB (g := gb292) (o := .cells #[.bool true, .slice A0_1 l0_1.length c0_1] 27 (0, 0)) zd16_0 hb)
             have n6_ := qaM (qbB (g := gb297) (o := .cells #[.bool t293, .slice Ao10 t294.length co10] 27 (0, 0)) zd16_1 hb)
             have n7_ := qaM (qbB (g := gb317) (o := .cells #[.bool false, .slice none 0 0] 27 (0, 0)) zd16_7 hb)
             have n8_ := qaM (qbT zd16_4 hb)
             clear HO_293001
             clear HO_298001
             clear HO307
             clear BK292
             clear BK297
             clear BK317
             clear HB
             have HO_293001 := n0_
             have HO_298001 := n1_
             have HO307 := n2_
             have HO311 := n3_
             have HO315 := n4_
             have BK292 := n5_
             have BK297 := n6_
             have BK317 := n7_
             have HB := n8_
             clear n0_ n1_ n2_ n3_ n4_ n5_ n6_ n7_ n8_
             (try clear hb)
             (try clear hb2)
             (try clear hk)
             (try clear hi)
             (try clear ho0)
             (try clear ho1)
             refine hK.out _ _ ⟨(qbC BK292.out 0).trans rfl, (qbC BK292.out 1).trans rfl⟩ (fun hHeld => ?_)
             clear hK K
             refine norm_ (a' := ?_) ?_ ?_
             rotate_left
             ·show Act.put _ (some 35) _ = _
              simp only [Act.put, qsA, qsZ, qsS, i64_w, i32_w]
              rfl
             refine pure_ (i := 5) (N := some 30) (v := ?_) (a' := ?_) #[true, true, true, true, true, true, false, false, false, true, false, false] rfl rfl (any_of HT_.out zd16_13) (fun _ _ _ h => h) (Or.inl ⟨by rfl, ?_⟩) ?_ ?_
             rotate_left
             ·intro w'
              go_simp
              with_reducible rfl
             rotate_left
             ·simp only [Act.put, qsA, qsZ, qsS, i64_w, i32_w]
              rfl
             refine pure_ (i := 6) (N := some 36) (v := ?_) (a' := ?_) #[true, true, true, true, true, true, true, false, false, true, false, false] rfl rfl (any_of HT_.out zd16_13) (fun _ _ _ h => h) (Or.inl ⟨by rfl, ?_⟩) ?_ ?_
             rotate_left
             ·intro w'
              go_simp
              with_reducible rfl
             rotate_left
             ·simp only [Act.put, qsA, qsZ, qsS, i64_w, i32_w]
              rfl
             refine pure_ (i := 7) (N := some 37) (v := ?_) (a' := ?_) #[true, true, true, true, true, true, true, true, false, true, false, false] rfl rfl (any_of HT_.out zd16_13) (fun _ _ _ h => h) (Or.inl ⟨by rfl, ?_⟩) ?_ ?_
             rotate_left
             ·intro w'
              go_simp
              with_reducible rfl
             rotate_left
             ·simp only [Act.put, qsA, qsZ, qsS, i64_w, i32_w]
              rfl
             exact norm_ zd16_10 (hJ3_4_9 (.slice Ao36 t305.length co36, v310, v314, gb317) _ ⟨hHeld, zd16_12, zd16_16, zd16_17, zd16_8, zd16_9, zd16_0, zd16_1, zd16_7, GW317.out, GE317.out, NB292_317.out, NB317_292.out, NB297_317.out, NB317_297.out, zd16_4⟩)
            ·skip
             refine box_step ?hg (N := 8) ?hd (cs := #[.bool false, .slice none 0 0]) (t := 27) ?hr ?_; (case hd => rfl); (case hg => rfl); (case hr => first | (go_simp; done) | (go_simp; rfl))
             intro gb316 hg w36 hbox hb
             have n0_ := qaM (qvB (qvE zd16_8 gb316 (Nat.le_of_eq hg.symm)) hb)
             have n1_ := qaM (qvB (qvE zd16_9 gb316 (Nat.le_of_eq hg.symm)) hb)
             have n2_ := qaM (qvB (qvE zd16_12 gb316 (Nat.le_of_eq hg.symm)) hb)
             have n3_ := qaM (qbB (g := gb292) (o := .cells #[.bool true, .slice A0_1 l0_1.length c0_1] 27 (0, 0)) zd16_0 hb)
             have n4_ := qaM (qbB (g := gb297) (o := .cells #[.bool t293, .slice Ao10 t294.length co10] 27 (0, 0)) zd16_1 hb)
             have n5_ := qaM (qbB (g := gb317) (o := .cells #[.bool false, .slice none 0 0] 27 (0, 0)) zd16_7 hb)
             have n6_ := qaM (qbT zd16_4 hb)
             have n7_ := qaM (hbox)
             have n8_ := qaM ((by rw [hg]; exact (qbS zd16_4) : w.heap.size ≤ gb316))
             have n9_ := qaM ((by rw [hg]; exact (qbS zd16_4) : w.heap.size ≤ gb316))
             have n10_ := qaM ((by rw [hg]; exact qnL (qbL (g := gb292) (o := .cells #[.bool true, .slice A0_1 l0_1.length c0_1] 27 (0, 0)) zd16_0) : gb292 ≠ gb316))
             have n11_ := qaM ((by rw [hg]; exact qnG (qbL (g := gb292) (o := .cells #[.bool true, .slice A0_1 l0_1.length c0_1] 27 (0, 0)) zd16_0) : gb316 ≠ gb292))
             have n12_ := qaM ((by rw [hg]; exact qnL (qbL (g := gb297) (o := .cells #[.bool t293, .slice Ao10 t294.length co10] 27 (0, 0)) zd16_1) : gb297 ≠ gb316))
             have n13_ := qaM ((by rw [hg]; exact qnG (qbL (g := gb297) (o := .cells #[.bool t293, .slice Ao10 t294.length co10] 27 (0, 0)) zd16_1) : gb316 ≠ gb297))
             have n14_ := qaM ((by rw [hg]; exact qnL (qbL (g := gb317) (o := .cells #[.bool false, .slice none 0 0] 27 (0, 0)) zd16_7) : gb317 ≠ gb316))
             have n15_ := qaM ((by rw [hg]; exact qnG (qbL (g := gb317) (o := .cells #[.bool false, .slice none 0 0] 27 (0, 0)) zd16_7) : gb316 ≠ gb317))
             clear HO_293001
             clear HO_298001
             clear HO307
             clear BK292
             clear BK297
             clear BK317
             clear HB
             have HO_293001 := n0_
             have HO_298001 := n1_
             have HO307 := n2_
             have BK292 := n3_
             have BK297 := n4_
             have BK317 := n5_
             have HB := n6_
             have BK316 := n7_
             have GW316 := n8_
             have GE316 := n9_
             have NB292_316 := n10_
             have NB316_292 := n11_
             have NB297_316 := n12_
             have NB316_297 := n13_
             have NB317_316 := n14_
             have NB316_317 := n15_
             clear n0_ n1_ n2_ n3_ n4_ n5_ n6_ n7_ n8_ n9_ n10_ n11_ n12_ n13_ n14_ n15_
             clear hb hbox hg
             refine hK.out _ _ ⟨(qbC BK292.out 0).trans rfl, (qbC BK292.out 1).trans rfl⟩ (fun hHeld => ?_)
             clear hK K
             refine norm_ (a' := ?_) ?_ ?_
             rotate_left
             ·show Act.put _ (some 8) _ = _
              simp only [Act.put, qsA, qsZ, qsS, i64_w, i32_w]
              rfl
             exact norm_ zd16_10 (hJ3_8_9 ((.slice Ao36 t305.length co36 : Value), gb316, gb317) _ ⟨hHeld, zd16_30, zd16_22, zd16_23, zd16_0, zd16_1, zd16_6, zd16_7, GW316.out, GE316.out, NB292_316.out, NB316_292.out, NB297_316.out, NB316_297.out, NB317_316.out, NB316_317.out, GW317.out, GE317.out, NB292_317.out, NB317_292.out, NB297_317.out, NB317_297.out, zd16_21⟩)
          ·skip
           rintro ⟨v306, gb316⟩ w35 ⟨hS_, h0_, h1_, h2_, h3_, h4_, h5_, h6_, h7_, h8_, h9_, h10_, h11_, h12_⟩
           have n0_ : Aside0 (Kd.V (Kd.int .u32) 104 w35 w.heap.size (fun k_ => (P0_1_ k_ ∨ w.heap.size ≤ k_) ∧ k_ ≠ gb292 ∧ k_ ≠ gb297 ∧ k_ ≠ gb316) v306 t305) := ⟨h0_⟩
           have n1_ : Aside0 (Kd.V (Kd.int .u32) 104 w35 w.heap.size (fun k_ => (P0_1_ k_ ∨ w.heap.size ≤ k_) ∧ k_ ≠ gb292 ∧ k_ ≠ gb297 ∧ k_ ≠ gb316) (.slice A0_1 l0_1.length c0_1) l0_1) := ⟨h1_⟩
           have n2_ : Aside0 (Kd.V (Kd.int .u32) 104 w35 w.heap.size (fun k_ => (P0_1_ k_ ∨ w.heap.size ≤ k_) ∧ k_ ≠ gb292 ∧ k_ ≠ gb297 ∧ k_ ≠ gb316) (.slice Ao10 t294.length co10) t294) := ⟨h2_⟩
           have n3_ : Aside0 (w35.heap[gb292]? = some (.cells #[.bool true, .slice A0_1 l0_1.length c0_1] 27 (0, 0))) := ⟨h3_⟩
           have n4_ : Aside0 (w35.heap[gb297]? = some (.cells #[.bool t293, .slice Ao10 t294.length co10] 27 (0, 0))) := ⟨h4_⟩
           have n5_ : Aside0 (w35.heap[gb316]? = some (.cells #[.bool false, .slice none 0 0] 27 (0, 0))) := ⟨h5_⟩
           have n6_ : Aside0 (w.heap.size ≤ gb316) := ⟨h6_⟩
           have n7_ : Aside0 (w.heap.size ≤ gb316) := ⟨h7_⟩
           have n8_ : Aside0 (gb292 ≠ gb316) := ⟨h8_⟩
           have n9_ : Aside0 (gb316 ≠ gb292) := ⟨h9_⟩
           have n10_ : Aside0 (gb297 ≠ gb316) := ⟨h10_⟩
           have n11_ : Aside0 (gb316 ≠ gb297) := ⟨h11_⟩
           have n12_ : Aside0 (Below w.heap.size w w35) := ⟨h12_⟩
           clear HO_293001
           clear HO_298001
           clear BK292
           clear BK297
           clear HB
           clear h0_ h1_ h2_ h3_ h4_ h5_ h6_ h7_ h8_ h9_ h10_ h11_ h12_
           have HO307 := n0_
           have HO_293001 := n1_
           have HO_298001 := n2_
           have BK292 := n3_
           have BK297 := n4_
           have BK316 := n5_
           have GW316 := n6_
           have GE316 := n7_
           have NB292_316 := n8_
           have NB316_292 := n9_
           have NB297_316 := n10_
           have NB316_297 := n11_
           have HB := n12_
           clear n0_ n1_ n2_ n3_ n4_ n5_ n6_ n7_ n8_ n9_ n10_ n11_ n12_
           have hHeld : w35.cell? ⟨gb292, 0, none⟩ = some (.bool true) ∧ w35.cell? ⟨gb292, 1, none⟩ = some (.slice A0_1 l0_1.length c0_1) := hS_
           obtain ⟨Ao36, co36, eo36⟩ := Kd.V_slice HO307.out
           (first | subst eo36 | (injection eo36 with f1_ f2_ f3_; have f4_ := f1_.symm; have f5_ := f3_.symm; clear f1_ f2_ f3_; subst f4_; subst f5_))
           refine norm_ (a' := ?_) ?_ ?_
           rotate_left
           ·simp only [putAll, Act.put, qsA, qsZ, qsS]
            rfl
           refine two_ (i := 4) (j := 9) (Ni := some 35) (Nj := some 9) #[true, true, true, true, true, false, false, false, true, false, false, false] #[true, true, true, true, false, false, false, false, true, true, false, false] rfl rfl rfl rfl (two_of HT_.out zd16_13) zd16_34 zd16_34 (fun K hK => ?_) (fun K hK => ?_)
           ·skip
            refine goes_ Tryz.func26 zd16_13 rfl #[.agg #[.bool true, .slice A0_1 l0_1.length c0_1], .agg #[.bool t304, .slice Ao36 t305.length co36]] (by rfl) rfl rfl zd16_11 ?_
            with_reducible refine (spec_WideDiv.calls kj3 true _ _ l0_1 t304 _ _ t305 t308 t309 t312 t313 _ ?side1 ?side2 ?side3 ?side4 A29.out).mono ?_
            (case side1 => repeat (first | exact (qvR HO_293001.out).2.2 | (with_reducible refine Kd.C_alloc ?_ _) | (with_reducible refine Kd.C_drewN ?_ _) | (with_reducible refine Kd.C_drew ?_)))
            (case side2 => exact (qvR HO_293001.out).2.1)
            (case side3 => repeat (first | exact (qvR HO307.out).2.2 | (with_reducible refine Kd.C_alloc ?_ _) | (with_reducible refine Kd.C_drewN ?_ _) | (with_reducible refine Kd.C_drew ?_)))
            (case side4 => exact (qvR HO307.out).2.1)
            rintro e w37 ⟨v310, v314, rfl, ho0, ho1, hb⟩
            refine ⟨_, rfl, ?_⟩
            have n0_ := qaM (qvB zd16_8 hb)
            have n1_ := qaM (qvB zd16_9 hb)
            have n2_ := qaM (qvB zd16_12 hb)
            have n3_ := qaM (qvL (qvM (ok' := fun k_ => (P0_1_ k_ ∨ w.heap.size ≤ k_) ∧ k_ ≠ gb292 ∧ k_ ≠ gb297 ∧ k_ ≠ gb316) ho0 (fun k_ hk_ => ⟨(.inr (Nat.le_trans (qbS zd16_3) hk_)), (qfB (g := gb292) (o := .cells #[.bool true, .slice A0_1 l0_1.length c0_1] 27 (0, 0)) zd16_0 k_ hk_), (qfB (g := gb297) (o := .cells #[.bool t293, .slice Ao10 t294.length co10] 27 (0, 0)) zd16_1 k_ hk_), (qfB (g := gb316) (o := .cells #[.bool false, .slice none 0 0] 27 (0, 0)) zd16_6 k_ hk_)⟩)) (qbS zd16_3))
            have n4_ := qaM (qvL (qvM (ok' := fun k_ => (P0_1_ k_ ∨ w.heap.size ≤ k_) ∧ k_ ≠ gb292 ∧ k_ ≠ gb297 ∧ k_ ≠ gb316) ho1 (fun k_ hk_ => ⟨(.inr (Nat.le_trans (qbS zd16_3) hk_)), (qfB (g := gb292) (o := .cells #[.bool true, .slice A0_1 l0_1.length c0_1] 27 (0, 0)) zd16_0 k_ hk_), (qfB (g := gb297) (o := .cells #[.bool t293, .slice Ao10 t294.length co10] 27 (0, 0)) zd16_1 k_ hk_), (qfB (g := gb316) (o := .cells #[.bool false, .slice none 0 0] 27 (0, 0)) zd16_6 k_ hk_)⟩)) (qbS zd16_3))
            have n5_ := qaM (qbB (g := gb292) (o := .cells #[.bool true, .slice A0_1 l0_1.length c0_1] 27 (0, 0)) zd16_0 hb)
            have n6_ := qaM (qbB (g := gb297) (o := .cells #[.bool t293, .slice Ao10 t294.length co10] 27 (0, 0)) zd16_1 hb)
            have n7_ := qaM (qbB (g := gb316) (o := .cells #[.bool false, .slice none 0 0] 27 (0, 0)) zd16_6 hb)
            have n8_ := qaM (qbT zd16_3 hb)
            clear HO_293001
            clear HO_298001
            clear HO307
            clear BK292
            clear BK297
            clear BK316
            clear HB
            have HO_293001 := n0_
            have HO_298001 := n1_
            have HO307 := n2_
            have HO311 := n3_
            have HO315 := n4_
            have BK292 := n5_
            have BK297 := n6_
            have BK316 := n7_
            have HB := n8_
            clear n0_ n1_ n2_ n3_ n4_ n5_ n6_ n7_ n8_
            (try clear hb)
            (try clear hb2)
            (try clear hk)
            (try clear hi)
            (try clear ho0)
            (try clear ho1)
            refine hK.out _ _ ⟨(qbC BK292.out 0).trans rfl, (qbC BK292.out 1).trans rfl⟩ (fun hHeld => ?_)
            clear hK K
            refine norm_ (a' := ?_) ?_ ?_
            rotate_left
            ·show Act.put _ (some 35) _ = _
             simp only [Act.put, qsA, qsZ, qsS, i64_w, i32_w]
             rfl
            refine pure_ (i := 5) (N := some 30) (v := ?_) (a' := ?_) #[true, true, true, true, true, true, false, false, true, false, false, false] rfl rfl (any_of HT_.out zd16_13) (fun _ _ _ h => h) (Or.inl ⟨by rfl, ?_⟩) ?_ ?_
            rotate_left
            ·intro w'
             go_simp
             with_reducible rfl
            rotate_left
            ·simp only [Act.put, qsA, qsZ, qsS, i64_w, i32_w]
             rfl
            refine pure_ (i := 6) (N := some 36) (v := ?_) (a' := ?_) #[true, true, true, true, true, true, true, false, true, false, false, false] rfl rfl (any_of HT_.out zd16_13) (fun _ _ _ h => h) (Or.inl ⟨by rfl, ?_⟩) ?_ ?_
            rotate_left
            ·intro w'
             go_simp
             with_reducible rfl
            rotate_left
            ·simp only [Act.put, qsA, qsZ, qsS, i64_w, i32_w]
             rfl
            refine pure_ (i := 7) (N := some 37) (v := ?_) (a' := ?_) #[true, true, true, true, true, true, true, true, true, false, false, false] rfl rfl (any_of HT_.out zd16_13) (fun _ _ _ h => h) (Or.inl ⟨by rfl, ?_⟩) ?_ ?_
            rotate_left
            ·intro w'
             go_simp
             with_reducible rfl
            rotate_left
            ·simp only [Act.put, qsA, qsZ, qsS, i64_w, i32_w]
             rfl
            exact norm_ zd16_10 (hJ3_4_8 (.slice Ao36 t305.length co36, v310, v314, gb316) _ ⟨hHeld, zd16_12, zd16_16, zd16_17, zd16_8, zd16_9, zd16_0, zd16_1, zd16_6, GW316.out, GE316.out, NB292_316.out, NB316_292.out, NB297_316.out, NB316_297.out, zd16_3⟩)
           ·skip
            refine box_step ?hg (N := 9) ?hd (cs := #[.bool false, .slice none 0 0]) (t := 27) ?hr ?_; (case hd => rfl); (case hg => rfl); (case hr => first | (go_simp; done) | (go_simp; rfl))
            intro gb317 hg w36 hbox hb
            have n0_ := qaM (qvB (qvE zd16_8 gb317 (Nat.le_of_eq hg.symm)) hb)
            have n1_ := qaM (qvB (qvE zd16_9 gb317 (Nat.le_of_eq hg.symm)) hb)
            have n2_ := qaM (qvB (qvE zd16_12 gb317 (Nat.le_of_eq hg.symm)) hb)
            have n3_ := qaM (qbB (g := gb292) (o := .cells #[.bool true, .slice A0_1 l0_1.length c0_1] 27 (0, 0)) zd16_0 hb)
            have n4_ := qaM (qbB (g := gb297) (o := .cells #[.bool t293, .slice Ao10 t294.length co10] 27 (0, 0)) zd16_1 hb)
            have n5_ := qaM (qbB (g := gb316) (o := .cells #[.bool false, .slice none 0 0] 27 (0, 0)) zd16_6 hb)
            have n6_ := qaM (qbT zd16_3 hb)
            have n7_ := qaM (hbox)
            have n8_ := qaM ((by rw [hg]; exact (qbS zd16_3) : w.heap.size ≤ gb317))
            have n9_ := qaM ((by rw [hg]; exact (qbS zd16_3) : w.heap.size ≤ gb317))
            have n10_ := qaM ((by rw [hg]; exact qnL (qbL (g := gb292) (o := .cells #[.bool true, .slice A0_1 l0_1.length c0_1] 27 (0, 0)) zd16_0) : gb292 ≠ gb317))
            have n11_ := qaM ((by rw [hg]; exact qnG (qbL (g := gb292) (o := .cells #[.bool true, .slice A0_1 l0_1.length c0_1] 27 (0, 0)) zd16_0) : gb317 ≠ gb292))
            have n12_ := qaM ((by rw [hg]; exact qnL (qbL (g := gb297) (o := .cells #[.bool t293, .slice Ao10 t294.length co10] 27 (0, 0)) zd16_1) : gb297 ≠ gb317))
            have n13_ := qaM ((by rw [hg]; exact qnG (qbL (g := gb297) (o := .cells #[.bool t293, .slice Ao10 t294.length co10] 27 (0, 0)) zd16_1) : gb317 ≠ gb297))
            have n14_ := qaM ((by rw [hg]; exact qnL (qbL (g := gb316) (o := .cells #[.bool false, .slice none 0 0] 27 (0, 0)) zd16_6) : gb316 ≠ gb317))
            have n15_ := qaM ((by rw [hg]; exact qnG (qbL (g := gb316) (o := .cells #[.bool false, .slice none 0 0] 27 (0, 0)) zd16_6) : gb317 ≠ gb316))
            clear HO_293001
            clear HO_298001
            clear HO307
            clear BK292
            clear BK297
            clear BK316
            clear HB
            have HO_293001 := n0_
            have HO_298001 := n1_
            have HO307 := n2_
            have BK292 := n3_
            have BK297 := n4_
            have BK316 := n5_
            have HB := n6_
            have BK317 := n7_
            have GW317 := n8_
            have GE317 := n9_
            have NB292_317 := n10_
            have NB317_292 := n11_
            have NB297_317 := n12_
            have NB317_297 := n13_
            have NB316_317 := n14_
            have NB317_316 := n15_
            clear n0_ n1_ n2_ n3_ n4_ n5_ n6_ n7_ n8_ n9_ n10_ n11_ n12_ n13_ n14_ n15_
            clear hb hbox hg
            refine hK.out _ _ ⟨(qbC BK292.out 0).trans rfl, (qbC BK292.out 1).trans rfl⟩ (fun hHeld => ?_)
            clear hK K
            refine norm_ (a' := ?_) ?_ ?_
            rotate_left
            ·show Act.put _ (some 9) _ = _
             simp only [Act.put, qsA, qsZ, qsS, i64_w, i32_w]
             rfl
            exact norm_ zd16_10 (hJ3_8_9 ((.slice Ao36 t305.length co36 : Value), gb316, gb317) _ ⟨hHeld, zd16_31, zd16_24, zd16_25, zd16_0, zd16_1, zd16_6, zd16_7, GW316.out, GE316.out, NB292_316.out, NB316_292.out, NB297_316.out, NB316_297.out, NB317_316.out, NB316_317.out, GW317.out, GE317.out, NB292_317.out, NB317_292.out, NB297_317.out, NB317_297.out, zd16_5⟩)
         ·skip
          rintro ⟨v306, v310, v314⟩ w36 ⟨hS_, h0_, h1_, h2_, h3_, h4_, h5_, h6_, h7_⟩
          have n0_ : Aside0 (Kd.V (Kd.int .u32) 104 w36 w.heap.size (fun k_ => (P0_1_ k_ ∨ w.heap.size ≤ k_) ∧ k_ ≠ gb292 ∧ k_ ≠ gb297) v306 t305) := ⟨h0_⟩
          have n1_ : Aside0 (Kd.V (Kd.int .u32) 104 w36 w.heap.size (fun k_ => (P0_1_ k_ ∨ w.heap.size ≤ k_) ∧ k_ ≠ gb292 ∧ k_ ≠ gb297) v310 t309) := ⟨h1_⟩
          have n2_ : Aside0 (Kd.V (Kd.int .u32) 104 w36 w.heap.size (fun k_ => (P0_1_ k_ ∨ w.heap.size ≤ k_) ∧ k_ ≠ gb292 ∧ k_ ≠ gb297) v314 t313) := ⟨h2_⟩
          have n3_ : Aside0 (Kd.V (Kd.int .u32) 104 w36 w.heap.size (fun k_ => (P0_1_ k_ ∨ w.heap.size ≤ k_) ∧ k_ ≠ gb292 ∧ k_ ≠ gb297) (.slice A0_1 l0_1.length c0_1) l0_1) := ⟨h3_⟩
          have n4_ : Aside0 (Kd.V (Kd.int .u32) 104 w36 w.heap.size (fun k_ => (P0_1_ k_ ∨ w.heap.size ≤ k_) ∧ k_ ≠ gb292 ∧ k_ ≠ gb297) (.slice Ao10 t294.length co10) t294) := ⟨h4_⟩
          have n5_ : Aside0 (w36.heap[gb292]? = some (.cells #[.bool true, .slice A0_1 l0_1.length c0_1] 27 (0, 0))) := ⟨h5_⟩
          have n6_ : Aside0 (w36.heap[gb297]? = some (.cells #[.bool t293, .slice Ao10 t294.length co10] 27 (0, 0))) := ⟨h6_⟩
          have n7_ : Aside0 (Below w.heap.size w w36) := ⟨h7_⟩
          clear HO_293001
          clear HO_298001
          clear BK292
          clear BK297
          clear HB
          clear h0_ h1_ h2_ h3_ h4_ h5_ h6_ h7_
          have HO307 := n0_
          have HO311 := n1_
          have HO315 := n2_
          have HO_293001 := n3_
          have HO_298001 := n4_
          have BK292 := n5_
          have BK297 := n6_
          have HB := n7_
          clear n0_ n1_ n2_ n3_ n4_ n5_ n6_ n7_
          have hHeld : w36.cell? ⟨gb292, 0, none⟩ = some (.bool true) ∧ w36.cell? ⟨gb292, 1, none⟩ = some (.slice A0_1 l0_1.length c0_1) := hS_
          refine norm_ (a' := ?_) ?_ ?_
          rotate_left
          ·simp only [putAll, Act.put, qsA, qsZ, qsS]
           rfl
          refine two_ (i := 8) (j := 9) (Ni := some 8) (Nj := some 9) #[true, true, true, true, true, true, true, true, true, false, false, false] #[true, true, true, true, true, true, true, true, false, true, false, false] rfl rfl rfl rfl (two_of HT_.out zd16_13) zd16_34 zd16_34 (fun K hK => ?_) (fun K hK => ?_)
          ·skip
           refine box_step ?hg (N := 8) ?hd (cs := #[.bool false, .slice none 0 0]) (t := 27) ?hr ?_; (case hd => rfl); (case hg => rfl); (case hr => first | (go_simp; done) | (go_simp; rfl))
           intro gb316 hg w37 hbox hb
           have n0_ := qaM (qvB (qvE zd16_8 gb316 (Nat.le_of_eq hg.symm)) hb)
           have n1_ := qaM (qvB (qvE zd16_9 gb316 (Nat.le_of_eq hg.symm)) hb)
           have n2_ := qaM (qvB (qvE zd16_12 gb316 (Nat.le_of_eq hg.symm)) hb)
           have n3_ := qaM (qvB (qvE zd16_16 gb316 (Nat.le_of_eq hg.symm)) hb)
           have n4_ := qaM (qvB (qvE zd16_17 gb316 (Nat.le_of_eq hg.symm)) hb)
           have n5_ := qaM (qbB (g := gb292) (o := .cells #[.bool true, .slice A0_1 l0_1.length c0_1] 27 (0, 0)) zd16_0 hb)
           have n6_ := qaM (qbB (g := gb297) (o := .cells #[.bool t293, .slice Ao10 t294.length co10] 27 (0, 0)) zd16_1 hb)
           have n7_ := qaM (qbT zd16_2 hb)
           have n8_ := qaM (hbox)
           have n9_ := qaM ((by rw [hg]; exact (qbS zd16_2) : w.heap.size ≤ gb316))
           have n10_ := qaM ((by rw [hg]; exact (qbS zd16_2) : w.heap.size ≤ gb316))
           have n11_ := qaM ((by rw [hg]; exact qnL (qbL (g := gb292) (o := .cells #[.bool true, .slice A0_1 l0_1.length c0_1] 27 (0, 0)) zd16_0) : gb292 ≠ gb316))
           have n12_ := qaM ((by rw [hg]; exact qnG (qbL (g := gb292) (o := .cells #[.bool true, .slice A0_1 l0_1.length c0_1] 27 (0, 0)) zd16_0) : gb316 ≠ gb292))
           have n13_ := qaM ((by rw [hg]; exact qnL (qbL (g := gb297) (o := .cells #[.bool t293, .slice Ao10 t294.length co10] 27 (0, 0)) zd16_1) : gb297 ≠ gb316))
           have n14_ := qaM ((by rw [hg]; exact qnG (qbL (g := gb297) (o := .cells #[.bool t293, .slice Ao10 t294.length co10] 27 (0, 0)) zd16_1) : gb316 ≠ gb297))
           clear HO_293001
           clear HO_298001
           clear HO307
           clear HO311
           clear HO315
           clear BK292
           clear BK297
           clear HB
           have HO_293001 := n0_
           have HO_298001 := n1_
           have HO307 := n2_
           have HO311 := n3_
           have HO315 := n4_
           have BK292 := n5_
           have BK297 := n6_
           have HB := n7_
           have BK316 := n8_
           have GW316 := n9_
           have GE316 := n10_
           have NB292_316 := n11_
           have NB316_292 := n12_
           have NB297_316 := n13_
           have NB316_297 := n14_
           clear n0_ n1_ n2_ n3_ n4_ n5_ n6_ n7_ n8_ n9_ n10_ n11_ n12_ n13_ n14_
           clear hb hbox hg
           refine hK.out _ _ ⟨(qbC BK292.out 0).trans rfl, (qbC BK292.out 1).trans rfl⟩ (fun hHeld => ?_)
           clear hK K
           refine norm_ (a' := ?_) ?_ ?_
           rotate_left
           ·show Act.put _ (some 8) _ = _
            simp only [Act.put, qsA, qsZ, qsS, i64_w, i32_w]
            rfl
           exact norm_ zd16_10 (hJ3_4_8 (v306, v310, v314, gb316) _ ⟨hHeld, zd16_20, zd16_32, zd16_33, zd16_14, zd16_15, zd16_0, zd16_1, zd16_6, GW316.out, GE316.out, NB292_316.out, NB316_292.out, NB297_316.out, NB316_297.out, zd16_3⟩)
          ·skip
           refine box_step ?hg (N := 9) ?hd (cs := #[.bool false, .slice none 0 0]) (t := 27) ?hr ?_; (case hd => rfl); (case hg => rfl); (case hr => first | (go_simp; done) | (go_simp; rfl))
           intro gb317 hg w37 hbox hb
           have n0_ := qaM (qvB (qvE zd16_8 gb317 (Nat.le_of_eq hg.symm)) hb)
           have n1_ := qaM (qvB (qvE zd16_9 gb317 (Nat.le_of_eq hg.symm)) hb)
           have n2_ := qaM (qvB (qvE zd16_12 gb317 (Nat.le_of_eq hg.symm)) hb)
           have n3_ := qaM (qvB (qvE zd16_16 gb317 (Nat.le_of_eq hg.symm)) hb)
           have n4_ := qaM (qvB (qvE zd16_17 gb317 (Nat.le_of_eq hg.symm)) hb)
           have n5_ := qaM (qbB (g := gb292) (o := .cells #[.bool true, .slice A0_1 l0_1.length c0_1] 27 (0, 0)) zd16_0 hb)
           have n6_ := qaM (qbB (g := gb297) (o := .cells #[.bool t293, .slice Ao10 t294.length co10] 27 (0, 0)) zd16_1 hb)
           have n7_ := qaM (qbT zd16_2 hb)
           have n8_ := qaM (hbox)
           have n9_ := qaM ((by rw [hg]; exact (qbS zd16_2) : w.heap.size ≤ gb317))
           have n10_ := qaM ((by rw [hg]; exact (qbS zd16_2) : w.heap.size ≤ gb317))
           have n11_ := qaM ((by rw [hg]; exact qnL (qbL (g := gb292) (o := .cells #[.bool true, .slice A0_1 l0_1.length c0_1] 27 (0, 0)) zd16_0) : gb292 ≠ gb317))
           have n12_ := qaM ((by rw [hg]; exact qnG (qbL (g := gb292) (o := .cells #[.bool true, .slice A0_1 l0_1.length c0_1] 27 (0, 0)) zd16_0) : gb317 ≠ gb292))
           have n13_ := qaM ((by rw [hg]; exact qnL (qbL (g := gb297) (o := .cells #[.bool t293, .slice Ao10 t294.length co10] 27 (0, 0)) zd16_1) : gb297 ≠ gb317))
           have n14_ := qaM ((by rw [hg]; exact qnG (qbL (g := gb297) (o := .cells #[.bool t293, .slice Ao10 t294.length co10] 27 (0, 0)) zd16_1) : gb317 ≠ gb297))
           clear HO_293001
           clear HO_298001
           clear HO307
           clear HO311
           clear HO315
           clear BK292
           clear BK297
           clear HB
           have HO_293001 := n0_
           have HO_298001 := n1_
           have HO307 := n2_
           have HO311 := n3_
           have HO315 := n4_
           have BK292 := n5_
           have BK297 := n6_
           have HB := n7_
           have BK317 := n8_
           have GW317 := n9_
           have GE317 := n10_
           have NB292_317 := n11_
           have NB317_292 := n12_
           have NB297_317 := n13_
           have NB317_297 := n14_
           clear n0_ n1_ n2_ n3_ n4_ n5_ n6_ n7_ n8_ n9_ n10_ n11_ n12_ n13_ n14_
           clear hb hbox hg
           refine hK.out _ _ ⟨(qbC BK292.out 0).trans rfl, (qbC BK292.out 1).trans rfl⟩ (fun hHeld => ?_)
           clear hK K
           refine norm_ (a' := ?_) ?_ ?_
           rotate_left
           ·show Act.put _ (some 9) _ = _
            simp only [Act.put, qsA, qsZ, qsS, i64_w, i32_w]
            rfl
           exact norm_ zd16_10 (hJ3_4_9 (v306, v310, v314, gb317) _ ⟨hHeld, zd16_20, zd16_32, zd16_33, zd16_14, zd16_15, zd16_0, zd16_1, zd16_7, GW317.out, GE317.out, NB292_317.out, NB317_292.out, NB297_317.out, NB317_297.out, zd16_4⟩)
        ·skip
         rintro ⟨v306, gb316, gb317⟩ w36 ⟨hS_, h0_, h1_, h2_, h3_, h4_, h5_, h6_, h7_, h8_, h9_, h10_, h11_, h12_, h13_, h14_, h15_, h16_, h17_, h18_, h19_, h20_, h21_⟩
         have n0_ : Aside0 (Kd.V (Kd.int .u32) 104 w36 w.heap.size (fun k_ => (P0_1_ k_ ∨ w.heap.size ≤ k_) ∧ k_ ≠ gb292 ∧ k_ ≠ gb297 ∧ k_ ≠ gb316 ∧ k_ ≠ gb317) v306 t305) := ⟨h0_⟩
         have n1_ : Aside0 (Kd.V (Kd.int .u32) 104 w36 w.heap.size (fun k_ => (P0_1_ k_ ∨ w.heap.size ≤ k_) ∧ k_ ≠ gb292 ∧ k_ ≠ gb297 ∧ k_ ≠ gb316 ∧ k_ ≠ gb317) (.slice A0_1 l0_1.length c0_1) l0_1) := ⟨h1_⟩
         have n2_ : Aside0 (Kd.V (Kd.int .u32) 104 w36 w.heap.size (fun k_ => (P0_1_ k_ ∨ w.heap.size ≤ k_) ∧ k_ ≠ gb292 ∧ k_ ≠ gb297 ∧ k_ ≠ gb316 ∧ k_ ≠ gb317) (.slice Ao10 t294.length co10) t294) := ⟨h2_⟩
         have n3_ : Aside0 (w36.heap[gb292]? = some (.cells #[.bool true, .slice A0_1 l0_1.length c0_1] 27 (0, 0))) := ⟨h3_⟩
         have n4_ : Aside0 (w36.heap[gb297]? = some (.cells #[.bool t293, .slice Ao10 t294.length co10] 27 (0, 0))) := ⟨h4_⟩
         have n5_ : Aside0 (w36.heap[gb316]? = some (.cells #[.bool false, .slice none 0 0] 27 (0, 0))) := ⟨h5_⟩
         have n6_ : Aside0 (w36.heap[gb317]? = some (.cells #[.bool false, .slice none 0 0] 27 (0, 0))) := ⟨h6_⟩
         have n7_ : Aside0 (w.heap.size ≤ gb316) := ⟨h7_⟩
         have n8_ : Aside0 (w.heap.size ≤ gb316) := ⟨h8_⟩
         have n9_ : Aside0 (gb292 ≠ gb316) := ⟨h9_⟩
         have n10_ : Aside0 (gb316 ≠ gb292) := ⟨h10_⟩
         have n11_ : Aside0 (gb297 ≠ gb316) := ⟨h11_⟩
         have n12_ : Aside0 (gb316 ≠ gb297) := ⟨h12_⟩
         have n13_ : Aside0 (gb317 ≠ gb316) := ⟨h13_⟩
         have n14_ : Aside0 (gb316 ≠ gb317) := ⟨h14_⟩
         have n15_ : Aside0 (w.heap.size ≤ gb317) := ⟨h15_⟩
         have n16_ : Aside0 (w.heap.size ≤ gb317) := ⟨h16_⟩
         have n17_ : Aside0 (gb292 ≠ gb317) := ⟨h17_⟩
         have n18_ : Aside0 (gb317 ≠ gb292) := ⟨h18_⟩
         have n19_ : Aside0 (gb297 ≠ gb317) := ⟨h19_⟩
         have n20_ : Aside0 (gb317 ≠ gb297) := ⟨h20_⟩
         have n21_ : Aside0 (Below w.heap.size w w36) := ⟨h21_⟩
         clear HO_293001
         clear HO_298001
         clear BK292
         clear BK297
         clear HB
         clear h0_ h1_ h2_ h3_ h4_ h5_ h6_ h7_ h8_ h9_ h10_ h11_ h12_ h13_ h14_ h15_ h16_ h17_ h18_ h19_ h20_ h21_
         have HO307 := n0_
         have HO_293001 := n1_
         have HO_298001 := n2_
         have BK292 := n3_
         have BK297 := n4_
         have BK316 := n5_
         have BK317 := n6_
         have GW316 := n7_
         have GE316 := n8_
         have NB292_316 := n9_
         have NB316_292 := n10_
         have NB297_316 := n11_
         have NB316_297 := n12_
         have NB317_316 := n13_
         have NB316_317 := n14_
         have GW317 := n15_
         have GE317 := n16_
         have NB292_317 := n17_
         have NB317_292 := n18_
         have NB297_317 := n19_
         have NB317_297 := n20_
         have HB := n21_
         clear n0_ n1_ n2_ n3_ n4_ n5_ n6_ n7_ n8_ n9_ n10_ n11_ n12_ n13_ n14_ n15_ n16_ n17_ n18_ n19_ n20_ n21_
         have hHeld : w36.cell? ⟨gb292, 0, none⟩ = some (.bool true) ∧ w36.cell? ⟨gb292, 1, none⟩ = some (.slice A0_1 l0_1.length c0_1) := hS_
         obtain ⟨Ao37, co37, eo37⟩ := Kd.V_slice HO307.out
         (first | subst eo37 | (injection eo37 with f1_ f2_ f3_; have f4_ := f1_.symm; have f5_ := f3_.symm; clear f1_ f2_ f3_; subst f4_; subst f5_))
         refine norm_ (a' := ?_) ?_ ?_
         rotate_left
         ·simp only [putAll, Act.put, qsA, qsZ, qsS]
          rfl
         refine one_ (i := 4) (N := some 35) #[true, true, true, true, true, false, false, false, true, true, false, false] rfl rfl (one_of HT_.out zd16_13) zd16_34 (fun K hK => ?_)
         refine goes_ Tryz.func26 zd16_13 rfl #[.agg #[.bool true, .slice A0_1 l0_1.length c0_1], .agg #[.bool t304, .slice Ao37 t305.length co37]] (by rfl) rfl rfl zd16_11 ?_
         with_reducible refine (spec_WideDiv.calls kj3 true _ _ l0_1 t304 _ _ t305 t308 t309 t312 t313 _ ?side1 ?side2 ?side3 ?side4 A29.out).mono ?_
         (case side1 => repeat (first | exact (qvR HO_293001.out).2.2 | (with_reducible refine Kd.C_alloc ?_ _) | (with_reducible refine Kd.C_drewN ?_ _) | (with_reducible refine Kd.C_drew ?_)))
         (case side2 => exact (qvR HO_293001.out).2.1)
         (case side3 => repeat (first | exact (qvR HO307.out).2.2 | (with_reducible refine Kd.C_alloc ?_ _) | (with_reducible refine Kd.C_drewN ?_ _) | (with_reducible refine Kd.C_drew ?_)))
         (case side4 => exact (qvR HO307.out).2.1)
         rintro e w38 ⟨v310, v314, rfl, ho0, ho1, hb⟩
         refine ⟨_, rfl, ?_⟩
         have n0_ := qaM (qvB zd16_8 hb)
         have n1_ := qaM (qvB zd16_9 hb)
         have n2_ := qaM (qvB zd16_12 hb)
         have n3_ := qaM (qvL (qvM (ok' := fun k_ => (P0_1_ k_ ∨ w.heap.size ≤ k_) ∧ k_ ≠ gb292 ∧ k_ ≠ gb297 ∧ k_ ≠ gb316 ∧ k_ ≠ gb317) ho0 (fun k_ hk_ => ⟨(.inr (Nat.le_trans (qbS zd16_5) hk_)), (qfB (g := gb292) (o := .cells #[.bool true, .slice A0_1 l0_1.length c0_1] 27 (0, 0)) zd16_0 k_ hk_), (qfB (g := gb297) (o := .cells #[.bool t293, .slice Ao10 t294.length co10] 27 (0, 0)) zd16_1 k_ hk_), (qfB (g := gb316) (o := .cells #[.bool false, .slice none 0 0] 27 (0, 0)) zd16_6 k_ hk_), (qfB (g := gb317) (o := .cells #[.bool false, .slice none 0 0] 27 (0, 0)) zd16_7 k_ hk_)⟩)) (qbS zd16_5))
         have n4_ := qaM (qvL (qvM (ok' := fun k_ => (P0_1_ k_ ∨ w.heap.size ≤ k_) ∧ k_ ≠ gb292 ∧ k_ ≠ gb297 ∧ k_ ≠ gb316 ∧ k_ ≠ gb317) ho1 (fun k_ hk_ => ⟨(.inr (Nat.le_trans (qbS zd16_5) hk_)), (qfB (g := gb292) (o := .cells #[.bool true, .slice A0_1 l0_1.length c0_1] 27 (0, 0)) zd16_0 k_ hk_), (qfB (g := gb297) (o := .cells #[.bool t293, .slice Ao10 t294.length co10] 27 (0, 0)) zd16_1 k_ hk_), (qfB (g := gb316) (o := .cells #[.bool false, .slice none 0 0] 27 (0, 0)) zd16_6 k_ hk_), (qfB (g := gb317) (o := .cells #[.bool false, .slice none 0 0] 27 (0, 0)) zd16_7 k_ hk_)⟩)) (qbS zd16_5))
         have n5_ := qaM (qbB (g := gb292) (o := .cells #[.bool true, .slice A0_1 l0_1.length c0_1] 27 (0, 0)) zd16_0 hb)
         have n6_ := qaM (qbB (g := gb297) (o := .cells #[.bool t293, .slice Ao10 t294.length co10] 27 (0, 0)) zd16_1 hb)
         have n7_ := qaM (qbB (g := gb316) (o := .cells #[.bool false, .slice none 0 0] 27 (0, 0)) zd16_6 hb)
         have n8_ := qaM (qbB (g := gb317) (o := .cells #[.bool false, .slice none 0 0] 27 (0, 0)) zd16_7 hb)
         have n9_ := qaM (qbT zd16_5 hb)
         clear HO_293001
         clear HO_298001
         clear HO307
         clear BK292
         clear BK297
         clear BK316
         clear BK317
         clear HB
         have HO_293001 := n0_
         have HO_298001 := n1_
         have HO307 := n2_
         have HO311 := n3_
         have HO315 := n4_
         have BK292 := n5_
         have BK297 := n6_
         have BK316 := n7_
         have BK317 := n8_
         have HB := n9_
         clear n0_ n1_ n2_ n3_ n4_ n5_ n6_ n7_ n8_ n9_
         (try clear hb)
         (try clear hb2)
         (try clear hk)
         (try clear hi)
         (try clear ho0)
         (try clear ho1)
         refine hK.out _ _ ⟨(qbC BK292.out 0).trans rfl, (qbC BK292.out 1).trans rfl⟩ (fun hHeld => ?_)
         clear hK K
         refine norm_ (a' := ?_) ?_ ?_
         rotate_left
         ·show Act.put _ (some 35) _ = _
          simp only [Act.put, qsA, qsZ, qsS, i64_w, i32_w]
          rfl
         refine pure_ (i := 5) (N := some 30) (v := ?_) (a' := ?_) #[true, true, true, true, true, true, false, false, true, true, false, false] rfl rfl (any_of HT_.out zd16_13) (fun _ _ _ h => h) (Or.inl ⟨by rfl, ?_⟩) ?_ ?_
         rotate_left
         ·intro w'
          go_simp
          with_reducible rfl
         rotate_left
         ·simp only [Act.put, qsA, qsZ, qsS, i64_w, i32_w]
          rfl
         refine pure_ (i := 6) (N := some 36) (v := ?_) (a' := ?_) #[true, true, true, true, true, true, true, false, true, true, false, false] rfl rfl (any_of HT_.out zd16_13) (fun _ _ _ h => h) (Or.inl ⟨by rfl, ?_⟩) ?_ ?_
         rotate_left
         ·intro w'
          go_simp
          with_reducible rfl
         rotate_left
         ·simp only [Act.put, qsA, qsZ, qsS, i64_w, i32_w]
          rfl
         refine pure_ (i := 7) (N := some 37) (v := ?_) (a' := ?_) #[true, true, true, true, true, true, true, true, true, true, false, false] rfl rfl (any_of HT_.out zd16_13) (fun _ _ _ h => h) (Or.inl ⟨by rfl, ?_⟩) ?_ ?_
         rotate_left
         ·intro w'
          go_simp
          with_reducible rfl
         rotate_left
         ·simp only [Act.put, qsA, qsZ, qsS, i64_w, i32_w]
          rfl
         exact norm_ zd16_10 (hJ3_4_8_9 (.slice Ao37 t305.length co37, v310, v314, gb316, gb317) _ ⟨hHeld, zd16_12, zd16_16, zd16_17, zd16_8, zd16_9, zd16_0, zd16_1, zd16_6, zd16_7, GW316.out, GE316.out, NB292_316.out, NB316_292.out, NB297_316.out, NB316_297.out, NB317_316.out, NB316_317.out, GW317.out, GE317.out, NB292_317.out, NB317_292.out, NB297_317.out, NB317_297.out, zd16_5⟩)
       ·skip
        rintro ⟨v306, v310, v314, gb317⟩ w37 ⟨hS_, h0_, h1_, h2_, h3_, h4_, h5_, h6_, h7_, h8_, h9_, h10_, h11_, h12_, h13_, h14_⟩
        have n0_ : Aside0 (Kd.V (Kd.int .u32) 104 w37 w.heap.size (fun k_ => (P0_1_ k_ ∨ w.heap.size ≤ k_) ∧ k_ ≠ gb292 ∧ k_ ≠ gb297 ∧ k_ ≠ gb317) v306 t305) := ⟨h0_⟩
        have n1_ : Aside0 (Kd.V (Kd.int .u32) 104 w37 w.heap.size (fun k_ => (P0_1_ k_ ∨ w.heap.size ≤ k_) ∧ k_ ≠ gb292 ∧ k_ ≠ gb297 ∧ k_ ≠ gb317) v310 t309) := ⟨h1_⟩
        have n2_ : Aside0 (Kd.V (Kd.int .u32) 104 w37 w.heap.size (fun k_ => (P0_1_ k_ ∨ w.heap.size ≤ k_) ∧ k_ ≠ gb292 ∧ k_ ≠ gb297 ∧ k_ ≠ gb317) v314 t313) := ⟨h2_⟩
        have n3_ : Aside0 (Kd.V (Kd.int .u32) 104 w37 w.heap.size (fun k_ => (P0_1_ k_ ∨ w.heap.size ≤ k_) ∧ k_ ≠ gb292 ∧ k_ ≠ gb297 ∧ k_ ≠ gb317) (.slice A0_1 l0_1.length c0_1) l0_1) := ⟨h3_⟩
        have n4_ : Aside0 (Kd.V (Kd.int .u32) 104 w37 w.heap.size (fun k_ => (P0_1_ k_ ∨ w.heap.size ≤ k_) ∧ k_ ≠ gb292 ∧ k_ ≠ gb297 ∧ k_ ≠ gb317) (.slice Ao10 t294.length co10) t294) := ⟨h4_⟩
        have n5_ : Aside0 (w37.heap[gb292]? = some (.cells #[.bool true, .slice A0_1 l0_1.length c0_1] 27 (0, 0))) := ⟨h5_⟩
        have n6_ : Aside0 (w37.heap[gb297]? = some (.cells #[.bool t293, .slice Ao10 t294.length co10] 27 (0, 0))) := ⟨h6_⟩
        have n7_ : Aside0 (w37.heap[gb317]? = some (.cells #[.bool false, .slice none 0 0] 27 (0, 0))) := ⟨h7_⟩
        have n8_ : Aside0 (w.heap.size ≤ gb317) := ⟨h8_⟩
        have n9_ : Aside0 (w.heap.size ≤ gb317) := ⟨h9_⟩
        have n10_ : Aside0 (gb292 ≠ gb317) := ⟨h10_⟩
        have n11_ : Aside0 (gb317 ≠ gb292) := ⟨h11_⟩
        have n12_ : Aside0 (gb297 ≠ gb317) := ⟨h12_⟩
        have n13_ : Aside0 (gb317 ≠ gb297) := ⟨h13_⟩
        have n14_ : Aside0 (Below w.heap.size w w37) := ⟨h14_⟩
        clear HO_293001
        clear HO_298001
        clear BK292
        clear BK297
        clear HB
        clear h0_ h1_ h2_ h3_ h4_ h5_ h6_ h7_ h8_ h9_ h10_ h11_ h12_ h13_ h14_
        have HO307 := n0_
        have HO311 := n1_
        have HO315 := n2_
        have HO_293001 := n3_
        have HO_298001 := n4_
        have BK292 := n5_
        have BK297 := n6_
        have BK317 := n7_
        have GW317 := n8_
        have GE317 := n9_
        have NB292_317 := n10_
        have NB317_292 := n11_
        have NB297_317 := n12_
        have NB317_297 := n13_
        have HB := n14_
        clear n0_ n1_ n2_ n3_ n4_ n5_ n6_ n7_ n8_ n9_ n10_ n11_ n12_ n13_ n14_
        have hHeld : w37.cell? ⟨gb292, 0, none⟩ = some (.bool true) ∧ w37.cell? ⟨gb292, 1, none⟩ = some (.slice A0_1 l0_1.length c0_1) := hS_
        refine norm_ (a' := ?_) ?_ ?_
        rotate_left
        ·simp only [putAll, Act.put, qsA, qsZ, qsS]
         rfl
        refine one_ (i := 8) (N := some 8) #[true, true, true, true, true, true, true, true, true, true, false, false] rfl rfl (one_of HT_.out zd16_13) zd16_34 (fun K hK => ?_)
        refine box_step ?hg (N := 8) ?hd (cs := #[.bool false, .slice none 0 0]) (t := 27) ?hr ?_; (case hd => rfl); (case hg => rfl); (case hr => first | (go_simp; done) | (go_simp; rfl))
        intro gb316 hg w38 hbox hb
        have n0_ := qaM (qvB (qvE zd16_8 gb316 (Nat.le_of_eq hg.symm)) hb)
        have n1_ := qaM (qvB (qvE zd16_9 gb316 (Nat.le_of_eq hg.symm)) hb)
        have n2_ := qaM (qvB (qvE zd16_12 gb316 (Nat.le_of_eq hg.symm)) hb)
        have n3_ := qaM (qvB (qvE zd16_16 gb316 (Nat.le_of_eq hg.symm)) hb)
        have n4_ := qaM (qvB (qvE zd16_17 gb316 (Nat.le_of_eq hg.symm)) hb)
        have n5_ := qaM (qbB (g := gb292) (o := .cells #[.bool true, .slice A0_1 l0_1.length c0_1] 27 (0, 0)) zd16_0 hb)
        have n6_ := qaM (qbB (g := gb297) (o := .cells #[.bool t293, .slice Ao10 t294.length co10] 27 (0, 0)) zd16_1 hb)
        have n7_ := qaM (qbB (g := gb317) (o := .cells #[.bool false, .slice none 0 0] 27 (0, 0)) zd16_7 hb)
        have n8_ := qaM (qbT zd16_4 hb)
        have n9_ := qaM (hbox)
        have n10_ := qaM ((by rw [hg]; exact (qbS zd16_4) : w.heap.size ≤ gb316))
        have n11_ := qaM ((by rw [hg]; exact (qbS zd16_4) : w.heap.size ≤ gb316))
        have n12_ := qaM ((by rw [hg]; exact qnL (qbL (g := gb292) (o := .cells #[.bool true, .slice A0_1 l0_1.length c0_1] 27 (0, 0)) zd16_0) : gb292 ≠ gb316))
        have n13_ := qaM ((by rw [hg]; exact qnG (qbL (g := gb292) (o := .cells #[.bool true, .slice A0_1 l0_1.length c0_1] 27 (0, 0)) zd16_0) : gb316 ≠ gb292))
        have n14_ := qaM ((by rw [hg]; exact qnL (qbL (g := gb297) (o := .cells #[.bool t293, .slice Ao10 t294.length co10] 27 (0, 0)) zd16_1) : gb297 ≠ gb316))
        have n15_ := qaM ((by rw [hg]; exact qnG (qbL (g := gb297) (o := .cells #[.bool t293, .slice Ao10 t294.length co10] 27 (0, 0)) zd16_1) : gb316 ≠ gb297))
        have n16_ := qaM ((by rw [hg]; exact qnL (qbL (g := gb317) (o := .cells #[.bool false, .slice none 0 0] 27 (0, 0)) zd16_7) : gb317 ≠ gb316))
        have n17_ := qaM ((by rw [hg]; exact qnG (qbL (g := gb317) (o := .cells #[.bool false, .slice none 0 0] 27 (0, 0)) zd16_7) : gb316 ≠ gb317))
        clear HO_293001
        clear HO_298001
        clear HO307
        clear HO311
        clear HO315
        clear BK292
        clear BK297
        clear BK317
        clear HB
        have HO_293001 := n0_
        have HO_298001 := n1_
        have HO307 := n2_
        have HO311 := n3_
        have HO315 := n4_
        have BK292 := n5_
        have BK297 := n6_
        have BK317 := n7_
        have HB := n8_
        have BK316 := n9_
        have GW316 := n10_
        have GE316 := n11_
        have NB292_316 := n12_
        have NB316_292 := n13_
        have NB297_316 := n14_
        have NB316_297 := n15_
        have NB317_316 := n16_
        have NB316_317 := n17_
        clear n0_ n1_ n2_ n3_ n4_ n5_ n6_ n7_ n8_ n9_ n10_ n11_ n12_ n13_ n14_ n15_ n16_ n17_
        clear hb hbox hg
        refine hK.out _ _ ⟨(qbC BK292.out 0).trans rfl, (qbC BK292.out 1).trans rfl⟩ (fun hHeld => ?_)
        clear hK K
        refine norm_ (a' := ?_) ?_ ?_
        rotate_left
        ·show Act.put _ (some 8) _ = _
         simp only [Act.put, qsA, qsZ, qsS, i64_w, i32_w]
         rfl
        exact norm_ zd16_10 (hJ3_4_8_9 (v306, v310, v314, gb316, gb317) _ ⟨hHeld, zd16_30, (by (with_reducible repeat (first | apply qvA | apply qvN | apply qvD)); exact qvM HO311.out (fun _ hk => ⟨hk.1.1, ⟨hk.1.2.1, ⟨hk.1.2.2.1, ⟨hk.2, hk.1.2.2.2⟩⟩⟩⟩)), (by (with_reducible repeat (first | apply qvA | apply qvN | apply qvD)); exact qvM HO315.out (fun _ hk => ⟨hk.1.1, ⟨hk.1.2.1, ⟨hk.1.2.2.1, ⟨hk.2, hk.1.2.2.2⟩⟩⟩⟩)), zd16_22, zd16_23, zd16_0, zd16_1, zd16_6, zd16_7, GW316.out, GE316.out, NB292_316.out, NB316_292.out, NB297_316.out, NB316_297.out, NB317_316.out, NB316_317.out, GW317.out, GE317.out, NB292_317.out, NB317_292.out, NB297_317.out, NB317_297.out, zd16_21⟩)
      ·skip
       rintro ⟨v306, v310, v314, gb316⟩ w37 ⟨hS_, h0_, h1_, h2_, h3_, h4_, h5_, h6_, h7_, h8_, h9_, h10_, h11_, h12_, h13_, h14_⟩
       have n0_ : Aside0 (Kd.V (Kd.int .u32) 104 w37 w.heap.size (fun k_ => (P0_1_ k_ ∨ w.heap.size ≤ k_) ∧ k_ ≠ gb292 ∧ k_ ≠ gb297 ∧ k_ ≠ gb316) v306 t305) := ⟨h0_⟩
       have n1_ : Aside0 (Kd.V (Kd.int .u32) 104 w37 w.heap.size (fun k_ => (P0_1_ k_ ∨ w.heap.size ≤ k_) ∧ k_ ≠ gb292 ∧ k_ ≠ gb297 ∧ k_ ≠ gb316) v310 t309) := ⟨h1_⟩
       have n2_ : Aside0 (Kd.V (Kd.int .u32) 104 w37 w.heap.size (fun k_ => (P0_1_ k_ ∨ w.heap.size ≤ k_) ∧ k_ ≠ gb292 ∧ k_ ≠ gb297 ∧ k_ ≠ gb316) v314 t313) := ⟨h2_⟩
       have n3_ : Aside0 (Kd.V (Kd.int .u32) 104 w37 w.heap.size (fun k_ => (P0_1_ k_ ∨ w.heap.size ≤ k_) ∧ k_ ≠ gb292 ∧ k_ ≠ gb297 ∧ k_ ≠ gb316) (.slice A0_1 l0_1.length c0_1) l0_1) := ⟨h3_⟩
       have n4_ : Aside0 (Kd.V (Kd.int .u32) 104 w37 w.heap.size (fun k_ => (P0_1_ k_ ∨ w.heap.size ≤ k_) ∧ k_ ≠ gb292 ∧ k_ ≠ gb297 ∧ k_ ≠ gb316) (.slice Ao10 t294.length co10) t294) := ⟨h4_⟩
       have n5_ : Aside0 (w37.heap[gb292]? = some (.cells #[.bool true, .slice A0_1 l0_1.length c0_1] 27 (0, 0))) := ⟨h5_⟩
       have n6_ : Aside0 (w37.heap[gb297]? = some (.cells #[.bool t293, .slice Ao10 t294.length co10] 27 (0, 0))) := ⟨h6_⟩
       have n7_ : Aside0 (w37.heap[gb316]? = some (.cells #[.bool false, .slice none 0 0] 27 (0, 0))) := ⟨h7_⟩
       have n8_ : Aside0 (w.heap.size ≤ gb316) := ⟨h8_⟩
       have n9_ : Aside0 (w.heap.size ≤ gb316) := ⟨h9_⟩
       have n10_ : Aside0 (gb292 ≠ gb316) := ⟨h10_⟩
       have n11_ : Aside0 (gb316 ≠ gb292) := ⟨h11_⟩
       have n12_ : Aside0 (gb297 ≠ gb316) := ⟨h12_⟩
       have n13_ : Aside0 (gb316 ≠ gb297) := ⟨h13_⟩
       have n14_ : Aside0 (Below w.heap.size w w37) := ⟨h14_⟩
       clear HO_293001
       clear HO_298001
       clear BK292
       clear BK297
       clear HB
       clear h0_ h1_ h2_ h3_ h4_ h5_ h6_ h7_ h8_ h9_ h10_ h11_ h12_ h13_ h14_
       have HO307 := n0_
       have HO311 := n1_
       have HO315 := n2_
       have HO_293001 := n3_
       have HO_298001 := n4_
       have BK292 := n5_
       have BK297 := n6_
       have BK316 := n7_
       have GW316 := n8_
       have GE316 := n9_
       have NB292_316 := n10_
       have NB316_292 := n11_
       have NB297_316 := n12_
       have NB316_297 := n13_
       have HB := n14_
       clear n0_ n1_ n2_ n3_ n4_ n5_ n6_ n7_ n8_ n9_ n10_ n11_ n12_ n13_ n14_
       have hHeld : w37.cell? ⟨gb292, 0, none⟩ = some (.bool true) ∧ w37.cell? ⟨gb292, 1, none⟩ = some (.slice A0_1 l0_1.length c0_1) := hS_
       refine norm_ (a' := ?_) ?_ ?_
       rotate_left
       ·simp only [putAll, Act.put, qsA, qsZ, qsS]
        rfl
       refine one_ (i := 9) (N := some 9) #[true, true, true, true, true, true, true, true, true, true, false, false] rfl rfl (one_of HT_.out zd16_13) zd16_34 (fun K hK => ?_)
       refine box_step ?hg (N := 9) ?hd (cs := #[.bool false, .slice none 0 0]) (t := 27) ?hr ?_; (case hd => rfl); (case hg => rfl); (case hr => first | (go_simp; done) | (go_simp; rfl))
       intro gb317 hg w38 hbox hb
       have n0_ := qaM (qvB (qvE zd16_8 gb317 (Nat.le_of_eq hg.symm)) hb)
       have n1_ := qaM (qvB (qvE zd16_9 gb317 (Nat.le_of_eq hg.symm)) hb)
       have n2_ := qaM (qvB (qvE zd16_12 gb317 (Nat.le_of_eq hg.symm)) hb)
       have n3_ := qaM (qvB (qvE zd16_16 gb317 (Nat.le_of_eq hg.symm)) hb)
       have n4_ := qaM (qvB (qvE zd16_17 gb317 (Nat.le_of_eq hg.symm)) hb)
       have n5_ := qaM (qbB (g := gb292) (o := .cells #[.bool true, .slice A0_1 l0_1.length c0_1] 27 (0, 0)) zd16_0 hb)
       have n6_ := qaM (qbB (g := gb297) (o := .cells #[.bool t293, .slice Ao10 t294.length co10] 27 (0, 0)) zd16_1 hb)
       have n7_ := qaM (qbB (g := gb316) (o := .cells #[.bool false, .slice none 0 0] 27 (0, 0)) zd16_6 hb)
       have n8_ := qaM (qbT zd16_3 hb)
       have n9_ := qaM (hbox)
       have n10_ := qaM ((by rw [hg]; exact (qbS zd16_3) : w.heap.size ≤ gb317))
       have n11_ := qaM ((by rw [hg]; exact (qbS zd16_3) : w.heap.size ≤ gb317))
       have n12_ := qaM ((by rw [hg]; exact qnL (qbL (g := gb292) (o := .cells #[.bool true, .slice A0_1 l0_1.length c0_1] 27 (0, 0)) zd16_0) : gb292 ≠ gb317))
       have n13_ := qaM ((by rw [hg]; exact qnG (qbL (g := gb292) (o := .cells #[.bool true, .slice A0_1 l0_1.length c0_1] 27 (0, 0)) zd16_0) : gb317 ≠ gb292))
       have n14_ := qaM ((by rw [hg]; exact qnL (qbL (g := gb297) (o := .cells #[.bool t293, .slice Ao10 t294.length co10] 27 (0, 0)) zd16_1) : gb297 ≠ gb317))
       have n15_ := qaM ((by rw [hg]; exact qnG (qbL (g := gb297) (o := .cells #[.bool t293, .slice Ao10 t294.length co10] 27 (0, 0)) zd16_1) : gb317 ≠ gb297))
       have n16_ := qaM ((by rw [hg]; exact qnL (qbL (g := gb316) (o := .cells #[.bool false, .slice none 0 0] 27 (0, 0)) zd16_6) : gb316 ≠ gb317))
       have n17_ := qaM ((by rw [hg]; exact qnG (qbL (g := gb316) (o := .cells #[.bool false, .slice none 0 0] 27 (0, 0)) zd16_6) : gb317 ≠ gb316))
       clear HO_293001
       clear HO_298001
       clear HO307
       clear HO311
       clear HO315
       clear BK292
       clear BK297
       clear BK316
       clear HB
       have HO_293001 := n0_
       have HO_298001 := n1_
       have HO307 := n2_
       have HO311 := n3_
       have HO315 := n4_
       have BK292 := n5_
       have BK297 := n6_
       have BK316 := n7_
       have HB := n8_
       have BK317 := n9_
       have GW317 := n10_
       have GE317 := n11_
       have NB292_317 := n12_
       have NB317_292 := n13_
       have NB297_317 := n14_
       have NB317_297 := n15_
       have NB316_317 := n16_
       have NB317_316 := n17_
       clear n0_ n1_ n2_ n3_ n4_ n5_ n6_ n7_ n8_ n9_ n10_ n11_ n12_ n13_ n14_ n15_ n16_ n17_
       clear hb hbox hg
       refine hK.out _ _ ⟨(qbC BK292.out 0).trans rfl, (qbC BK292.out 1).trans rfl⟩ (fun hHeld => ?_)
       clear hK K
       refine norm_ (a' := ?_) ?_ ?_
       rotate_left
       ·show Act.put _ (some 9) _ = _
        simp only [Act.put, qsA, qsZ, qsS, i64_w, i32_w]
        rfl
       exact norm_ zd16_10 (hJ3_4_8_9 (v306, v310, v314, gb316, gb317) _ ⟨hHeld, zd16_31, (by (with_reducible repeat (first | apply qvA | apply qvN | apply qvD)); exact qvM HO311.out (fun _ hk => ⟨hk.1.1, ⟨hk.1.2.1, ⟨hk.1.2.2.1, ⟨hk.1.2.2.2, hk.2⟩⟩⟩⟩)), (by (with_reducible repeat (first | apply qvA | apply qvN | apply qvD)); exact qvM HO315.out (fun _ hk => ⟨hk.1.1, ⟨hk.1.2.1, ⟨hk.1.2.2.1, ⟨hk.1.2.2.2, hk.2⟩⟩⟩⟩)), zd16_24, zd16_25, zd16_0, zd16_1, zd16_6, zd16_7, GW316.out, GE316.out, NB292_316.out, NB316_292.out, NB297_316.out, NB316_297.out, NB317_316.out, NB316_317.out, GW317.out, GE317.out, NB292_317.out, NB317_292.out, NB297_317.out, NB317_297.out, zd16_5⟩)
     rintro ⟨v306, v310, v314, gb316, gb317⟩ w38 ⟨hS_, h0_, h1_, h2_, h3_, h4_, h5_, h6_, h7_, h8_, h9_, h10_, h11_, h12_, h13_, h14_, h15_, h16_, h17_, h18_, h19_, h20_, h21_, h22_, h23_⟩
     have n0_ : Aside0 (Kd.V (Kd.int .u32) 104 w38 w.heap.size (fun k_ => (P0_1_ k_ ∨ w.heap.size ≤ k_) ∧ k_ ≠ gb292 ∧ k_ ≠ gb297 ∧ k_ ≠ gb316 ∧ k_ ≠ gb317) v306 t305) := ⟨h0_⟩
     have n1_ : Aside0 (Kd.V (Kd.int .u32) 104 w38 w.heap.size (fun k_ => (P0_1_ k_ ∨ w.heap.size ≤ k_) ∧ k_ ≠ gb292 ∧ k_ ≠ gb297 ∧ k_ ≠ gb316 ∧ k_ ≠ gb317) v310 t309) := ⟨h1_⟩
     have n2_ : Aside0 (Kd.V (Kd.int .u32) 104 w38 w.heap.size (fun k_ => (P0_1_ k_ ∨ w.heap.size ≤ k_) ∧ k_ ≠ gb292 ∧ k_ ≠ gb297 ∧ k_ ≠ gb316 ∧ k_ ≠ gb317) v314 t313) := ⟨h2_⟩
     have n3_ : Aside0 (Kd.V (Kd.int .u32) 104 w38 w.heap.size (fun k_ => (P0_1_ k_ ∨ w.heap.size ≤ k_) ∧ k_ ≠ gb292 ∧ k_ ≠ gb297 ∧ k_ ≠ gb316 ∧ k_ ≠ gb317) (.slice A0_1 l0_1.length c0_1) l0_1) := ⟨h3_⟩
     have n4_ : Aside0 (Kd.V (Kd.int .u32) 104 w38 w.heap.size (fun k_ => (P0_1_ k_ ∨ w.heap.size ≤ k_) ∧ k_ ≠ gb292 ∧ k_ ≠ gb297 ∧ k_ ≠ gb316 ∧ k_ ≠ gb317) (.slice Ao10 t294.length co10) t294) := ⟨h4_⟩
     have n5_ : Aside0 (w38.heap[gb292]? = some (.cells #[.bool true, .slice A0_1 l0_1.length c0_1] 27 (0, 0))) := ⟨h5_⟩
     have n6_ : Aside0 (w38.heap[gb297]? = some (.cells #[.bool t293, .slice Ao10 t294.length co10] 27 (0, 0))) := ⟨h6_⟩
     have n7_ : Aside0 (w38.heap[gb316]? = some (.cells #[.bool false, .slice none 0 0] 27 (0, 0))) := ⟨h7_⟩
     have n8_ : Aside0 (w38.heap[gb317]? = some (.cells #[.bool false, .slice none 0 0] 27 (0, 0))) := ⟨h8_⟩
     have n9_ : Aside0 (w.heap.size ≤ gb316) := ⟨h9_⟩
     have n10_ : Aside0 (w.heap.size ≤ gb316) := ⟨h10_⟩
     have n11_ : Aside0 (gb292 ≠ gb316) := ⟨h11_⟩
     have n12_ : Aside0 (gb316 ≠ gb292) := ⟨h12_⟩
     have n13_ : Aside0 (gb297 ≠ gb316) := ⟨h13_⟩
     have n14_ : Aside0 (gb316 ≠ gb297) := ⟨h14_⟩
     have n15_ : Aside0 (gb317 ≠ gb316) := ⟨h15_⟩
     have n16_ : Aside0 (gb316 ≠ gb317) := ⟨h16_⟩
     have n17_ : Aside0 (w.heap.size ≤ gb317) := ⟨h17_⟩
     have n18_ : Aside0 (w.heap.size ≤ gb317) := ⟨h18_⟩
     have n19_ : Aside0 (gb292 ≠ gb317) := ⟨h19_⟩
     have n20_ : Aside0 (gb317 ≠ gb292) := ⟨h20_⟩
     have n21_ : Aside0 (gb297 ≠ gb317) := ⟨h21_⟩
     have n22_ : Aside0 (gb317 ≠ gb297) := ⟨h22_⟩
     have n23_ : Aside0 (Below w.heap.size w w38) := ⟨h23_⟩
     clear HO_293001
     clear HO_298001
     clear BK292
     clear BK297
     clear HB
     clear h0_ h1_ h2_ h3_ h4_ h5_ h6_ h7_ h8_ h9_ h10_ h11_ h12_ h13_ h14_ h15_ h16_ h17_ h18_ h19_ h20_ h21_ h22_ h23_
     have HO307 := n0_
     have HO311 := n1_
     have HO315 := n2_
     have HO_293001 := n3_
     have HO_298001 := n4_
     have BK292 := n5_
     have BK297 := n6_
     have BK316 := n7_
     have BK317 := n8_
     have GW316 := n9_
     have GE316 := n10_
     have NB292_316 := n11_
     have NB316_292 := n12_
     have NB297_316 := n13_
     have NB316_297 := n14_
     have NB317_316 := n15_
     have NB316_317 := n16_
     have GW317 := n17_
     have GE317 := n18_
     have NB292_317 := n19_
     have NB317_292 := n20_
     have NB297_317 := n21_
     have NB317_297 := n22_
     have HB := n23_
     clear n0_ n1_ n2_ n3_ n4_ n5_ n6_ n7_ n8_ n9_ n10_ n11_ n12_ n13_ n14_ n15_ n16_ n17_ n18_ n19_ n20_ n21_ n22_ n23_
     have hHeld : w38.cell? ⟨gb292, 0, none⟩ = some (.bool true) ∧ w38.cell? ⟨gb292, 1, none⟩ = some (.slice A0_1 l0_1.length c0_1) := hS_
     obtain ⟨Ao40, co40, eo40⟩ := Kd.V_slice HO311.out
     (first | subst eo40 | (injection eo40 with f1_ f2_ f3_; have f4_ := f1_.symm; have f5_ := f3_.symm; clear f1_ f2_ f3_; subst f4_; subst f5_))
     obtain ⟨Ao43, co43, eo43⟩ := Kd.V_slice HO315.out
     (first | subst eo43 | (injection eo43 with f1_ f2_ f3_; have f4_ := f1_.symm; have f5_ := f3_.symm; clear f1_ f2_ f3_; subst f4_; subst f5_))
     refine norm_ (a' := ?_) ?_ ?_
     rotate_left
     ·simp only [putAll, Act.put, qsA, qsZ, qsS]
      rfl
     refine one_ (i := 10) (N := none) #[true, true, true, true, true, true, true, true, true, true, true, false] rfl rfl (one_of HT_.out zd16_13) zd16_34 (fun K hK => ?_)
     have hs39 : w38.cell? ⟨gb316, 0, none⟩ = some (.bool false) := (qbC BK316.out 0).trans rfl
     have hfs39 := blk_frozen BK316.out 0
     have hns39_0 := NB292_316.out
     have hns39_1 := NB297_316.out
     have hns39_3 := NB317_316.out
     have hms39_0 := NB316_292.out
     have hms39_1 := NB316_297.out
     have hms39_3 := NB316_317.out
     have hs41 : w38.cell? ⟨gb316, 1, none⟩ = some (.slice none 0 0) := (qbC BK316.out 1).trans rfl
     have hfs41 := blk_frozen BK316.out 1
     have hns41_0 := NB292_316.out
     have hns41_1 := NB297_316.out
     have hns41_3 := NB317_316.out
     have hms41_0 := NB316_292.out
     have hms41_1 := NB316_297.out
     have hms41_3 := NB316_317.out
     refine skip_ (w1 := ?_) (by rfl) rfl ?_ ?_
     rotate_left
     ·go_simp
      rfl
     refine hK.out _ _ ⟨((cell_far (p := ⟨gb316, _, none⟩) NB292_316.out _).trans (((cell_far (p := ⟨gb316, _, none⟩) NB292_316.out _).trans (hHeld.1)))), ((cell_far (p := ⟨gb316, _, none⟩) NB292_316.out _).trans (((cell_far (p := ⟨gb316, _, none⟩) NB292_316.out _).trans (hHeld.2))))⟩ (fun hHeld => ?_)
     clear hK K
     refine one_ (i := 11) (N := none) #[true, true, true, true, true, true, true, true, true, true, true, true] rfl rfl (one_of HT_.out zd16_13) zd16_34 (fun K hK => ?_)
     have hs42 : w38.cell? ⟨gb317, 0, none⟩ = some (.bool false) := (qbC BK317.out 0).trans rfl
     have hfs42 := blk_frozen BK317.out 0
     have hns42_0 := NB292_317.out
     have hns42_1 := NB297_317.out
     have hns42_2 := NB316_317.out
     have hms42_0 := NB317_292.out
     have hms42_1 := NB317_297.out
     have hms42_2 := NB317_316.out
     have hs44 : w38.cell? ⟨gb317, 1, none⟩ = some (.slice none 0 0) := (qbC BK317.out 1).trans rfl
     have hfs44 := blk_frozen BK317.out 1
     have hns44_0 := NB292_317.out
     have hns44_1 := NB297_317.out
     have hns44_2 := NB316_317.out
     have hms44_0 := NB317_292.out
     have hms44_1 := NB317_297.out
     have hms44_2 := NB317_316.out
     refine skip_ (w1 := ?_) (by rfl) rfl ?_ ?_
     rotate_left
     ·go_simp
      rfl
     refine hK.out _ _ ⟨((cell_far (p := ⟨gb317, _, none⟩) NB292_317.out _).trans (((cell_far (p := ⟨gb317, _, none⟩) NB292_317.out _).trans (hHeld.1)))), ((cell_far (p := ⟨gb317, _, none⟩) NB292_317.out _).trans (((cell_far (p := ⟨gb317, _, none⟩) NB292_317.out _).trans (hHeld.2))))⟩ (fun hHeld => ?_)
     clear hK K
     refine done_ (done_of HT_.out zd16_13) ?_
     try go_wp2
     have n0_ : Aside0 (Kd.V (Kd.int .u32) 104 ((((w38.setCell ⟨gb316, 0, none⟩ (.bool t308)).setCell ⟨gb316, 1, none⟩ (.slice Ao40 t309.length co40)).setCell ⟨gb317, 0, none⟩ (.bool t312)).setCell ⟨gb317, 1, none⟩ (.slice Ao43 t313.length co43)) w.heap.size (fun k_ => (P0_1_ k_ ∨ w.heap.size ≤ k_) ∧ k_ ≠ gb292 ∧ k_ ≠ gb297 ∧ k_ ≠ gb316 ∧ k_ ≠ gb317) (.slice A0_1 l0_1.length c0_1) l0_1) := ⟨by (with_reducible repeat (first | apply qvA | apply qvN | apply qvD)); exact qvM (qvF (p := ⟨gb317, 1, none⟩) (qvF (p := ⟨gb317, 0, none⟩) (qvF (p := ⟨gb316, 1, none⟩) (qvF (p := ⟨gb316, 0, none⟩) (qvM (qvM HO_293001.out (fun k_ hk => (⟨hk, hk.2.2.2.1⟩ : _ ∧ k_ ≠ gb316))) (fun k_ hk => (⟨hk, hk.1.2.2.2.2⟩ : _ ∧ k_ ≠ gb317))) (fun _ hk => hk.1.2) (.bool t308)) (fun _ hk => hk.1.2) (.slice Ao40 t309.length co40)) (fun _ hk => hk.2) (.bool t312)) (fun _ hk => hk.2) (.slice Ao43 t313.length co43)) (fun _ hk => ⟨hk.1.1.1, ⟨hk.1.1.2.1, ⟨hk.1.1.2.2.1, ⟨hk.1.1.2.2.2.1, hk.1.1.2.2.2.2⟩⟩⟩⟩)⟩
     have n1_ : Aside0 (Kd.V (Kd.int .u32) 104 ((((w38.setCell ⟨gb316, 0, none⟩ (.bool t308)).setCell ⟨gb316, 1, none⟩ (.slice Ao40 t309.length co40)).setCell ⟨gb317, 0, none⟩ (.bool t312)).setCell ⟨gb317, 1, none⟩ (.slice Ao43 t313.length co43)) w.heap.size (fun k_ => (P0_1_ k_ ∨ w.heap.size ≤ k_) ∧ k_ ≠ gb292 ∧ k_ ≠ gb297 ∧ k_ ≠ gb316 ∧ k_ ≠ gb317) (.slice Ao10 t294.length co10) t294) := ⟨by (with_reducible repeat (first | apply qvA | apply qvN | apply qvD)); exact qvM (qvF (p := ⟨gb317, 1, none⟩) (qvF (p := ⟨gb317, 0, none⟩) (qvF (p := ⟨gb316, 1, none⟩) (qvF (p := ⟨gb316, 0, none⟩) (qvM (qvM HO_298001.out (fun k_ hk => (⟨hk, hk.2.2.2.1⟩ : _ ∧ k_ ≠ gb316))) (fun k_ hk => (⟨hk, hk.1.2.2.2.2⟩ : _ ∧ k_ ≠ gb317))) (fun _ hk => hk.1.2) (.bool t308)) (fun _ hk => hk.1.2) (.slice Ao40 t309.length co40)) (fun _ hk => hk.2) (.bool t312)) (fun _ hk => hk.2) (.slice Ao43 t313.length co43)) (fun _ hk => ⟨hk.1.1.1, ⟨hk.1.1.2.1, ⟨hk.1.1.2.2.1, ⟨hk.1.1.2.2.2.1, hk.1.1.2.2.2.2⟩⟩⟩⟩)⟩
     have n2_ : Aside0 (Kd.V (Kd.int .u32) 104 ((((w38.setCell ⟨gb316, 0, none⟩ (.bool t308)).setCell ⟨gb316, 1, none⟩ (.slice Ao40 t309.length co40)).setCell ⟨gb317, 0, none⟩ (.bool t312)).setCell ⟨gb317, 1, none⟩ (.slice Ao43 t313.length co43)) w.heap.size (fun k_ => (P0_1_ k_ ∨ w.heap.size ≤ k_) ∧ k_ ≠ gb292 ∧ k_ ≠ gb297 ∧ k_ ≠ gb316 ∧ k_ ≠ gb317) v306 t305) := ⟨by (with_reducible repeat (first | apply qvA | apply qvN | apply qvD)); exact qvM (qvF (p := ⟨gb317, 1, none⟩) (qvF (p := ⟨gb317, 0, none⟩) (qvF (p := ⟨gb316, 1, none⟩) (qvF (p := ⟨gb316, 0, none⟩) (qvM (qvM HO307.out (fun k_ hk => (⟨hk, hk.2.2.2.1⟩ : _ ∧ k_ ≠ gb316))) (fun k_ hk => (⟨hk, hk.1.2.2.2.2⟩ : _ ∧ k_ ≠ gb317))) (fun _ hk => hk.1.2) (.bool t308)) (fun _ hk => hk.1.2) (.slice Ao40 t309.length co40)) (fun _ hk => hk.2) (.bool t312)) (fun _ hk => hk.2) (.slice Ao43 t313.length co43)) (fun _ hk => ⟨hk.1.1.1, ⟨hk.1.1.2.1, ⟨hk.1.1.2.2.1, ⟨hk.1.1.2.2.2.1, hk.1.1.2.2.2.2⟩⟩⟩⟩)⟩
     have n3_ : Aside0 (Kd.V (Kd.int .u32) 104 ((((w38.setCell ⟨gb316, 0, none⟩ (.bool t308)).setCell ⟨gb316, 1, none⟩ (.slice Ao40 t309.length co40)).setCell ⟨gb317, 0, none⟩ (.bool t312)).setCell ⟨gb317, 1, none⟩ (.slice Ao43 t313.length co43)) w.heap.size (fun k_ => (P0_1_ k_ ∨ w.heap.size ≤ k_) ∧ k_ ≠ gb292 ∧ k_ ≠ gb297 ∧ k_ ≠ gb316 ∧ k_ ≠ gb317) (.slice Ao40 t309.length co40) t309) := ⟨by (with_reducible repeat (first | apply qvA | apply qvN | apply qvD)); exact qvM (qvF (p := ⟨gb317, 1, none⟩) (qvF (p := ⟨gb317, 0, none⟩) (qvF (p := ⟨gb316, 1, none⟩) (qvF (p := ⟨gb316, 0, none⟩) (qvM (qvM HO311.out (fun k_ hk => (⟨hk, hk.2.2.2.1⟩ : _ ∧ k_ ≠ gb316))) (fun k_ hk => (⟨hk, hk.1.2.2.2.2⟩ : _ ∧ k_ ≠ gb317))) (fun _ hk => hk.1.2) (.bool t308)) (fun _ hk => hk.1.2) (.slice Ao40 t309.length co40)) (fun _ hk => hk.2) (.bool t312)) (fun _ hk => hk.2) (.slice Ao43 t313.length co43)) (fun _ hk => ⟨hk.1.1.1, ⟨hk.1.1.2.1, ⟨hk.1.1.2.2.1, ⟨hk.1.1.2.2.2.1, hk.1.1.2.2.2.2⟩⟩⟩⟩)⟩
     have n4_ : Aside0 (Kd.V (Kd.int .u32) 104 ((((w38.setCell ⟨gb316, 0, none⟩ (.bool t308)).setCell ⟨gb316, 1, none⟩ (.slice Ao40 t309.length co40)).setCell ⟨gb317, 0, none⟩ (.bool t312)).setCell ⟨gb317, 1, none⟩ (.slice Ao43 t313.length co43)) w.heap.size (fun k_ => (P0_1_ k_ ∨ w.heap.size ≤ k_) ∧ k_ ≠ gb292 ∧ k_ ≠ gb297 ∧ k_ ≠ gb316 ∧ k_ ≠ gb317) (.slice Ao43 t313.length co43) t313) := ⟨by (with_reducible repeat (first | apply qvA | apply qvN | apply qvD)); exact qvM (qvF (p := ⟨gb317, 1, none⟩) (qvF (p := ⟨gb317, 0, none⟩) (qvF (p := ⟨gb316, 1, none⟩) (qvF (p := ⟨gb316, 0, none⟩) (qvM (qvM HO315.out (fun k_ hk => (⟨hk, hk.2.2.2.1⟩ : _ ∧ k_ ≠ gb316))) (fun k_ hk => (⟨hk, hk.1.2.2.2.2⟩ : _ ∧ k_ ≠ gb317))) (fun _ hk => hk.1.2) (.bool t308)) (fun _ hk => hk.1.2) (.slice Ao40 t309.length co40)) (fun _ hk => hk.2) (.bool t312)) (fun _ hk => hk.2) (.slice Ao43 t313.length co43)) (fun _ hk => ⟨hk.1.1.1, ⟨hk.1.1.2.1, ⟨hk.1.1.2.2.1, ⟨hk.1.1.2.2.2.1, hk.1.1.2.2.2.2⟩⟩⟩⟩)⟩
     have n5_ : Aside0 (((((w38.setCell ⟨gb316, 0, none⟩ (.bool t308)).setCell ⟨gb316, 1, none⟩ (.slice Ao40 t309.length co40)).setCell ⟨gb317, 0, none⟩ (.bool t312)).setCell ⟨gb317, 1, none⟩ (.slice Ao43 t313.length co43)).heap[gb292]? = some (.cells #[.bool true, .slice A0_1 l0_1.length c0_1] 27 (0, 0))) := ⟨by (with_reducible repeat (first | refine qbN ?_ _ | refine qbD ?_ | refine qbA ?_ _)); refine qbF ?_ NB292_317.out _; (with_reducible repeat (first | refine qbN ?_ _ | refine qbD ?_ | refine qbA ?_ _)); refine qbF ?_ NB292_317.out _; (with_reducible repeat (first | refine qbN ?_ _ | refine qbD ?_ | refine qbA ?_ _)); refine qbF ?_ NB292_316.out _; (with_reducible repeat (first | refine qbN ?_ _ | refine qbD ?_ | refine qbA ?_ _)); refine qbF ?_ NB292_316.out _; (with_reducible repeat (first | refine qbN ?_ _ | refine qbD ?_ | refine qbA ?_ _)); exact BK292.out⟩
     have n6_ : Aside0 (((((w38.setCell ⟨gb316, 0, none⟩ (.bool t308)).setCell ⟨gb316, 1, none⟩ (.slice Ao40 t309.length co40)).setCell ⟨gb317, 0, none⟩ (.bool t312)).setCell ⟨gb317, 1, none⟩ (.slice Ao43 t313.length co43)).heap[gb297]? = some (.cells #[.bool t293, .slice Ao10 t294.length co10] 27 (0, 0))) := ⟨by (with_reducible repeat (first | refine qbN ?_ _ | refine qbD ?_ | refine qbA ?_ _)); refine qbF ?_ NB297_317.out _; (with_reducible repeat (first | refine qbN ?_ _ | refine qbD ?_ | refine qbA ?_ _)); refine qbF ?_ NB297_317.out _; (with_reducible repeat (first | refine qbN ?_ _ | refine qbD ?_ | refine qbA ?_ _)); refine qbF ?_ NB297_316.out _; (with_reducible repeat (first | refine qbN ?_ _ | refine qbD ?_ | refine qbA ?_ _)); refine qbF ?_ NB297_316.out _; (with_reducible repeat (first | refine qbN ?_ _ | refine qbD ?_ | refine qbA ?_ _)); exact BK297.out⟩
     have n7_ : Aside0 (((((w38.setCell ⟨gb316, 0, none⟩ (.bool t308)).setCell ⟨gb316, 1, none⟩ (.slice Ao40 t309.length co40)).setCell ⟨gb317, 0, none⟩ (.bool t312)).setCell ⟨gb317, 1, none⟩ (.slice Ao43 t313.length co43)).heap[gb316]? = some (.cells #[.bool t308, .slice Ao40 t309.length co40] 27 (0, 0))) := ⟨by (with_reducible repeat (first | refine qbN ?_ _ | refine qbD ?_ | refine qbA ?_ _)); refine qbF ?_ NB316_317.out _; (with_reducible repeat (first | refine qbN ?_ _ | refine qbD ?_ | refine qbA ?_ _)); refine qbF ?_ NB316_317.out _; (with_reducible repeat (first | refine qbN ?_ _ | refine qbD ?_ | refine qbA ?_ _)); refine qbP (cs := #[.bool t308, .slice none 0 0]) ?_ 1 _ rfl; (with_reducible repeat (first | refine qbN ?_ _ | refine qbD ?_ | refine qbA ?_ _)); refine qbP (cs := #[.bool false, .slice none 0 0]) ?_ 0 _ rfl; (with_reducible repeat (first | refine qbN ?_ _ | refine qbD ?_ | refine qbA ?_ _)); exact BK316.out⟩
     have n8_ : Aside0 (((((w38.setCell ⟨gb316, 0, none⟩ (.bool t308)).setCell ⟨gb316, 1, none⟩ (.slice Ao40 t309.length co40)).setCell ⟨gb317, 0, none⟩ (.bool t312)).setCell ⟨gb317, 1, none⟩ (.slice Ao43 t313.length co43)).heap[gb317]? = some (.cells #[.bool t312, .slice Ao43 t313.length co43] 27 (0, 0))) := ⟨by (with_reducible repeat (first | refine qbN ?_ _ | refine qbD ?_ | refine qbA ?_ _)); refine qbP (cs := #[.bool t312, .slice none 0 0]) ?_ 1 _ rfl; (with_reducible repeat (first | refine qbN ?_ _ | refine qbD ?_ | refine qbA ?_ _)); refine qbP (cs := #[.bool false, .slice none 0 0]) ?_ 0 _ rfl; (with_reducible repeat (first | refine qbN ?_ _ | refine qbD ?_ | refine qbA ?_ _)); refine qbF ?_ NB317_316.out _; (with_reducible repeat (first | refine qbN ?_ _ | refine qbD ?_ | refine qbA ?_ _)); refine qbF ?_ NB317_316.out _; (with_reducible repeat (first | refine qbN ?_ _ | refine qbD ?_ | refine qbA ?_ _)); exact BK317.out⟩
     have n9_ : Aside0 (Below w.heap.size w ((((w38.setCell ⟨gb316, 0, none⟩ (.bool t308)).setCell ⟨gb316, 1, none⟩ (.slice Ao40 t309.length co40)).setCell ⟨gb317, 0, none⟩ (.bool t312)).setCell ⟨gb317, 1, none⟩ (.slice Ao43 t313.length co43))) := ⟨by repeat (first | (with_reducible first | exact HB.out | apply qwA | apply qwN | apply qwD | refine qwS ?_ GE292.out | refine qwS ?_ GE297.out | refine qwS ?_ GE316.out | refine qwS ?_ GE317.out) | exact HB.out)⟩
     (try clear HO_293001)
     (try clear HO_298001)
     (try clear HO307)
     (try clear HO311)
     (try clear HO315)
     (try clear BK292)
     (try clear BK297)
     (try clear BK316)
     (try clear BK317)
     (try clear HB)
     generalize ((((w38.setCell ⟨gb316, 0, none⟩ (.bool t308)).setCell ⟨gb316, 1, none⟩ (.slice Ao40 t309.length co40)).setCell ⟨gb317, 0, none⟩ (.bool t312)).setCell ⟨gb317, 1, none⟩ (.slice Ao43 t313.length co43)) = w45 at n0_ n1_ n2_ n3_ n4_ n5_ n6_ n7_ n8_ n9_ ⊢
     have HO_293001 := n0_
     have HO_298001 := n1_
     have HO307 := n2_
     have HO311 := n3_
     have HO315 := n4_
     have BK292 := n5_
     have BK297 := n6_
     have BK316 := n7_
     have BK317 := n8_
     have HB := n9_
     clear n0_ n1_ n2_ n3_ n4_ n5_ n6_ n7_ n8_ n9_
     have n0_ := qaM (qvD HO_293001.out)
     have n1_ := qaM (qvD HO_298001.out)
     have n2_ := qaM (qvD HO307.out)
     have n3_ := qaM (qvD HO311.out)
     have n4_ := qaM (qvD HO315.out)
     have n5_ := qaM (qbD BK292.out)
     have n6_ := qaM (qbD BK297.out)
     have n7_ := qaM (qbD BK316.out)
     have n8_ := qaM (qbD BK317.out)
     have n9_ := qaM (qwD HB.out)
     clear HO_293001
     clear HO_298001
     clear HO307
     clear HO311
     clear HO315
     clear BK292
     clear BK297
     clear BK316
     clear BK317
     clear HB
     have HO_293001 := n0_
     have HO_298001 := n1_
     have HO307 := n2_
     have HO311 := n3_
     have HO315 := n4_
     have BK292 := n5_
     have BK297 := n6_
     have BK316 := n7_
     have BK317 := n8_
     have HB := n9_
     clear n0_ n1_ n2_ n3_ n4_ n5_ n6_ n7_ n8_ n9_
     refine start_ (n := 6) (S := fun w' => w'.cell? ⟨gb317, 0, none⟩ = some (.bool t312) ∧ w'.cell? ⟨gb317, 1, none⟩ = some (.slice Ao43 t313.length co43)) (ds := []) #[false, false, false, false, false, false] zd16_13 rfl rfl ⟨(qbC BK317.out 0).trans rfl, (qbC BK317.out 1).trans rfl⟩ (fun hHeld => ?_)
     generalize w45.drew = w46 at HO_293001 HO_298001 HO307 HO311 HO315 BK292 BK297 BK316 BK317 HB hHeld ⊢
     refine pure_ (i := 1) (N := some 39) (v := ?_) (a' := ?_) #[false, true, false, false, false, false] rfl rfl zd16_13 (fun _ _ _ h => h) (Or.inl ⟨by rfl, ?_⟩) ?_ ?_
     rotate_left
     ·intro w'
      go_simp
      with_reducible rfl
     rotate_left
     ·simp only [Act.put, qsA, qsZ, qsS, i64_w, i32_w]
      rfl
     refine pure_ (i := 2) (N := some 40) (v := ?_) (a' := ?_) #[false, true, true, false, false, false] rfl rfl zd16_13 (fun _ _ _ h => h) (Or.inl ⟨by rfl, ?_⟩) ?_ ?_
     rotate_left
     ·intro w'
      go_simp
      with_reducible rfl
     rotate_left
     ·simp only [Act.put, qsA, qsZ, qsS, i64_w, i32_w]
      rfl
     refine take_ (i := 0) (N := some 38) (v := ?_) (a' := ?_) #[true, true, true, false, false, false] rfl rfl zd16_13 (fun _ _ _ h => h) (Or.inl ⟨by rfl, ?_⟩) hHeld ?_ ?_
     rotate_left
     ·rintro w' ⟨s0, s1⟩
      go_simp
      with_reducible rfl
     rotate_left
     ·simp only [Act.put, qsA, qsZ, qsS, i64_w, i32_w]
      rfl
     refine one_ (i := 3) (N := some 41) #[true, true, true, true, false, false] rfl rfl zd16_13 zd16_34 (fun K hK => ?_)
     refine goes_ Tryz.func13 zd16_13 rfl #[.int .i64 (wrap64 (64 * a1))] (by rfl) rfl rfl zd16_11 ?_
     with_reducible refine (spec_Two.calls kj3 (wrap64 (64 * a1)) t318 t319 _ A30.out).mono ?_
     rintro e w47 ⟨v320, rfl, ho0, hb⟩
     refine ⟨_, rfl, ?_⟩
     have n0_ := qaM (qvB zd16_8 hb)
     have n1_ := qaM (qvB zd16_9 hb)
     have n2_ := qaM (qvB zd16_12 hb)
     have n3_ := qaM (qvB zd16_16 hb)
     have n4_ := qaM (qvB zd16_17 hb)
     have n5_ := qaM (qvL (qvM (ok' := fun k_ => (P0_1_ k_ ∨ w.heap.size ≤ k_) ∧ k_ ≠ gb292 ∧ k_ ≠ gb297 ∧ k_ ≠ gb316 ∧ k_ ≠ gb317) ho0 (fun k_ hk_ => ⟨(.inr (Nat.le_trans (qbS zd16_5) hk_)), (qfB (g := gb292) (o := .cells #[.bool true, .slice A0_1 l0_1.length c0_1] 27 (0, 0)) zd16_0 k_ hk_), (qfB (g := gb297) (o := .cells #[.bool t293, .slice Ao10 t294.length co10] 27 (0, 0)) zd16_1 k_ hk_), (qfB (g := gb316) (o := .cells #[.bool t308, .slice Ao40 t309.length co40] 27 (0, 0)) zd16_6 k_ hk_), (qfB (g := gb317) (o := .cells #[.bool t312, .slice Ao43 t313.length co43] 27 (0, 0)) zd16_7 k_ hk_)⟩)) (qbS zd16_5))
     have n6_ := qaM (qbB (g := gb292) (o := .cells #[.bool true, .slice A0_1 l0_1.length c0_1] 27 (0, 0)) zd16_0 hb)
     have n7_ := qaM (qbB (g := gb297) (o := .cells #[.bool t293, .slice Ao10 t294.length co10] 27 (0, 0)) zd16_1 hb)
     have n8_ := qaM (qbB (g := gb316) (o := .cells #[.bool t308, .slice Ao40 t309.length co40] 27 (0, 0)) zd16_6 hb)
     have n9_ := qaM (qbB (g := gb317) (o := .cells #[.bool t312, .slice Ao43 t313.length co43] 27 (0, 0)) zd16_7 hb)
     have n10_ := qaM (qbT zd16_5 hb)
     clear HO_293001
     clear HO_298001
     clear HO307
     clear HO311
     clear HO315
     clear BK292
     clear BK297
     clear BK316
     clear BK317
     clear HB
     have HO_293001 := n0_
     have HO_298001 := n1_
     have HO307 := n2_
     have HO311 := n3_
     have HO315 := n4_
     have HO321 := n5_
     have BK292 := n6_
     have BK297 := n7_
     have BK316 := n8_
     have BK317 := n9_
     have HB := n10_
     clear n0_ n1_ n2_ n3_ n4_ n5_ n6_ n7_ n8_ n9_ n10_
     (try clear hb)
     (try clear hb2)
     (try clear hk)
     (try clear hi)
     (try clear ho0)
     obtain ⟨Ao48, co48, eo48⟩ := Kd.V_slice HO321.out
     (first | subst eo48 | (injection eo48 with f1_ f2_ f3_; have f4_ := f1_.symm; have f5_ := f3_.symm; clear f1_ f2_ f3_; subst f4_; subst f5_))
     refine hK.out _ _ ⟨(qbC BK317.out 0).trans rfl, (qbC BK317.out 1).trans rfl⟩ (fun hHeld => ?_)
     clear hK K
     refine norm_ (a' := ?_) ?_ ?_
     rotate_left
     ·show Act.put _ (some 41) _ = _
      simp only [Act.put, qsA, qsZ, qsS, i64_w, i32_w]
      rfl
     refine one_ (i := 4) (N := some 42) #[true, true, true, true, true, false] rfl rfl zd16_13 zd16_34 (fun K hK => ?_)
     refine goes_ Tryz.func25 zd16_13 rfl #[.agg #[.bool t312, .slice Ao43 t313.length co43], .agg #[.bool t318, .slice Ao48 t319.length co48]] (by rfl) rfl rfl zd16_11 ?_
     with_reducible refine (spec_WideAdd.calls kj3 t312 _ _ t313 t318 _ _ t319 t322 t323 _ ?side1 ?side2 ?side3 ?side4 A31.out).mono ?_
     (case side1 => repeat (first | exact (qvR HO315.out).2.2 | (with_reducible refine Kd.C_alloc ?_ _) | (with_reducible refine Kd.C_drewN ?_ _) | (with_reducible refine Kd.C_drew ?_)))
     (case side2 => exact (qvR HO315.out).2.1)
     (case side3 => repeat (first | exact (qvR HO321.out).2.2 | (with_reducible refine Kd.C_alloc ?_ _) | (with_reducible refine Kd.C_drewN ?_ _) | (with_reducible refine Kd.C_drew ?_)))
     (case side4 => exact (qvR HO321.out).2.1)
     rintro e w49 ⟨v324, rfl, ho0, hb⟩
     refine ⟨_, rfl, ?_⟩
     have n0_ := qaM (qvB zd16_8 hb)
     have n1_ := qaM (qvB zd16_9 hb)
     have n2_ := qaM (qvB zd16_12 hb)
     have n3_ := qaM (qvB zd16_16 hb)
     have n4_ := qaM (qvB zd16_17 hb)
     have n5_ := qaM (qvB (by (with_reducible repeat (first | apply qvA | apply qvN | apply qvD)); exact HO321.out) hb)
     have n6_ := qaM (qvL (qvM (ok' := fun k_ => (P0_1_ k_ ∨ w.heap.size ≤ k_) ∧ k_ ≠ gb292 ∧ k_ ≠ gb297 ∧ k_ ≠ gb316 ∧ k_ ≠ gb317) ho0 (fun k_ hk_ => ⟨(.inr (Nat.le_trans (qbS zd16_5) hk_)), (qfB (g := gb292) (o := .cells #[.bool true, .slice A0_1 l0_1.length c0_1] 27 (0, 0)) zd16_0 k_ hk_), (qfB (g := gb297) (o := .cells #[.bool t293, .slice Ao10 t294.length co10] 27 (0, 0)) zd16_1 k_ hk_), (qfB (g := gb316) (o := .cells #[.bool t308, .slice Ao40 t309.length co40] 27 (0, 0)) zd16_6 k_ hk_), (qfB (g := gb317) (o := .cells #[.bool t312, .slice Ao43 t313.length co43] 27 (0, 0)) zd16_7 k_ hk_)⟩)) (qbS zd16_5))
     have n7_ := qaM (qbB (g := gb292) (o := .cells #[.bool true, .slice A0_1 l0_1.length c0_1] 27 (0, 0)) zd16_0 hb)
     have n8_ := qaM (qbB (g := gb297) (o := .cells #[.bool t293, .slice Ao10 t294.length co10] 27 (0, 0)) zd16_1 hb)
     have n9_ := qaM (qbB (g := gb316) (o := .cells #[.bool t308, .slice Ao40 t309.length co40] 27 (0, 0)) zd16_6 hb)
     have n10_ := qaM (qbB (g := gb317) (o := .cells #[.bool t312, .slice Ao43 t313.length co43] 27 (0, 0)) zd16_7 hb)
     have n11_ := qaM (qbT zd16_5 hb)
     clear HO_293001
     clear HO_298001
     clear HO307
     clear HO311
     clear HO315
     clear HO321
     clear BK292
     clear BK297
     clear BK316
     clear BK317
     clear HB
     have HO_293001 := n0_
     have HO_298001 := n1_
     have HO307 := n2_
     have HO311 := n3_
     have HO315 := n4_
     have HO321 := n5_
     have HO325 := n6_
     have BK292 := n7_
     have BK297 := n8_
     have BK316 := n9_
     have BK317 := n10_
     have HB := n11_
     clear n0_ n1_ n2_ n3_ n4_ n5_ n6_ n7_ n8_ n9_ n10_ n11_
     (try clear hb)
     (try clear hb2)
     (try clear hk)
     (try clear hi)
     (try clear ho0)
     obtain ⟨Ao51, co51, eo51⟩ := Kd.V_slice HO325.out
     (first | subst eo51 | (injection eo51 with f1_ f2_ f3_; have f4_ := f1_.symm; have f5_ := f3_.symm; clear f1_ f2_ f3_; subst f4_; subst f5_))
     refine hK.out _ _ ⟨(qbC BK317.out 0).trans rfl, (qbC BK317.out 1).trans rfl⟩ (fun hHeld => ?_)
     clear hK K
     refine norm_ (a' := ?_) ?_ ?_
     rotate_left
     ·show Act.put _ (some 42) _ = _
      simp only [Act.put, qsA, qsZ, qsS, i64_w, i32_w]
      rfl
     refine one_ (i := 5) (N := none) #[true, true, true, true, true, true] rfl rfl zd16_13 zd16_34 (fun K hK => ?_)
     have hs50 : w49.cell? ⟨gb292, 0, none⟩ = some (.bool true) := (qbC BK292.out 0).trans rfl
     have hfs50 := blk_frozen BK292.out 0
     have hns50_1 := NB297_292.out
     have hns50_2 := NB316_292.out
     have hns50_3 := NB317_292.out
     have hms50_1 := NB292_297.out
     have hms50_2 := NB292_316.out
     have hms50_3 := NB292_317.out
     have hs52 : w49.cell? ⟨gb292, 1, none⟩ = some (.slice A0_1 l0_1.length c0_1) := (qbC BK292.out 1).trans rfl
     have hfs52 := blk_frozen BK292.out 1
     have hns52_1 := NB297_292.out
     have hns52_2 := NB316_292.out
     have hns52_3 := NB317_292.out
     have hms52_1 := NB292_297.out
     have hms52_2 := NB292_316.out
     have hms52_3 := NB292_317.out
     refine skip_ (w1 := ?_) (by rfl) rfl ?_ ?_
     rotate_left
     ·go_simp
      rfl
     refine hK.out _ _ ⟨((cell_far (p := ⟨gb292, _, none⟩) NB317_292.out _).trans (((cell_far (p := ⟨gb292, _, none⟩) NB317_292.out _).trans (hHeld.1)))), ((cell_far (p := ⟨gb292, _, none⟩) NB317_292.out _).trans (((cell_far (p := ⟨gb292, _, none⟩) NB317_292.out _).trans (hHeld.2))))⟩ (fun hHeld => ?_)
     clear hK K
     refine done_ zd16_13 ?_
     try go_wp2
     go_meet
     case rel => exact ⟨_, (t322), (t323), (.slice Ao51 t323.length co51), H', ⟨by have := HJ3.out; first | omega | exact Nat.le_refl _⟩, ⟨by (with_reducible repeat (first | apply qvA | apply qvN | apply qvD)); exact qvM (qvF (p := ⟨gb292, 1, none⟩) (qvF (p := ⟨gb292, 0, none⟩) (qvM HO325.out (fun k_ hk => (⟨hk, hk.2.1⟩ : _ ∧ k_ ≠ gb292))) (fun _ hk => hk.2) (.bool t322)) (fun _ hk => hk.2) (.slice Ao51 t323.length co51)) (fun _ hk => ⟨hk.1.1, ⟨hk.1.2.1, hk.1.2.2.1⟩⟩)⟩, ⟨by (with_reducible repeat (first | apply qvA | apply qvN | apply qvD)); exact qvM (qvF (p := ⟨gb292, 1, none⟩) (qvF (p := ⟨gb292, 0, none⟩) (qvM HO_298001.out (fun k_ hk => (⟨hk, hk.2.1⟩ : _ ∧ k_ ≠ gb292))) (fun _ hk => hk.2) (.bool t322)) (fun _ hk => hk.2) (.slice Ao51 t323.length co51)) (fun _ hk => ⟨hk.1.1, ⟨hk.1.2.1, hk.1.2.2.1⟩⟩)⟩, ⟨by (with_reducible repeat (first | refine qbN ?_ _ | refine qbD ?_ | refine qbA ?_ _)); refine qbP (cs := #[.bool t322, .slice A0_1 l0_1.length c0_1]) ?_ 1 _ rfl; (with_reducible repeat (first | refine qbN ?_ _ | refine qbD ?_ | refine qbA ?_ _)); refine qbP (cs := #[.bool true, .slice A0_1 l0_1.length c0_1]) ?_ 0 _ rfl; (with_reducible repeat (first | refine qbN ?_ _ | refine qbD ?_ | refine qbA ?_ _)); exact BK292.out⟩, ⟨by (with_reducible repeat (first | refine qbN ?_ _ | refine qbD ?_ | refine qbA ?_ _)); refine qbF ?_ NB297_292.out _; (with_reducible repeat (first | refine qbN ?_ _ | refine qbD ?_ | refine qbA ?_ _)); refine qbF ?_ NB297_292.out _; (with_reducible repeat (first | refine qbN ?_ _ | refine qbD ?_ | refine qbA ?_ _)); exact BK297.out⟩, ⟨by repeat (first | (with_reducible first | exact HB.out | apply qwA | apply qwN | apply qwD | refine qwS ?_ GE292.out | refine qwS ?_ GE297.out | refine qwS ?_ GE316.out | refine qwS ?_ GE317.out) | exact HB.out)⟩⟩
    ·replace c27 := Bool.eq_false_iff.mpr c27
     subst c27
     have H1 : (spec_ToWords.j1 kj3 a1 x7_3 false l0_1) = some (r1, r2) := by rw [if_neg (show ¬ (false = true) by decide)] at H; exact H
     clear H
     have H := H1
     clear H1
     have H' := qaM H
     clear H
     go_wp2
     go_meet
     case rel => exact ⟨_, (false), (l0_1), (.slice A0_1 l0_1.length c0_1), H', ⟨by have := HJ3.out; first | omega | exact Nat.le_refl _⟩, ⟨by (with_reducible repeat (first | apply qvA | apply qvN | apply qvD)); exact HO_293001.out⟩, ⟨by (with_reducible repeat (first | apply qvA | apply qvN | apply qvD)); exact HO_298001.out⟩, ⟨by (with_reducible repeat (first | refine qbN ?_ _ | refine qbD ?_ | refine qbA ?_ _)); exact BK292.out⟩, ⟨by (with_reducible repeat (first | refine qbN ?_ _ | refine qbD ?_ | refine qbA ?_ _)); exact BK297.out⟩, ⟨by repeat (first | (with_reducible first | exact HB.out | apply qwA | apply qwN | apply qwD | refine qwS ?_ GE292.out | refine qwS ?_ GE297.out) | exact HB.out)⟩⟩
   case rest =>
    clear HC24
    try clear c1
    try clear c2
    try clear p2
    try clear p6
    try clear c13
    try clear c25
    try clear c27
    obtain ⟨kq, x293000_23, x293001_23, u293001, HA, HJ23, HO_293001, HO_298001, BK292, BK297, HB⟩ := hcut
    cases kq with
    | zero => exact absurd HA.out (by simp [spec_ToWords.j1])
    | succ kj23 =>
     have H := HA.out
     clear HA
     simp only [spec_ToWords.j1] at H
     by_cases c53 : 0 ≤ a1
     ·rw [if_pos c53] at H
      have c53b0 := eq_true c53
      have c53b1 : decide (0 ≤ a1) = true := decide_eq_true c53
      clear c53
      by_cases c54 : (a1 : Int).toNat ≤ 35184372088832
      ·rw [if_pos c54] at H
       have c54b0 := eq_true c54
       have c54b1 : decide ((a1 : Int).toNat ≤ 35184372088832) = true := decide_eq_true c54
       clear c54
       obtain ⟨y326, hy326⟩ : ∃ y_ : List Int, y_ = (List.replicate (a1 : Int).toNat 0) := ⟨_, rfl⟩
       replace H : (spec_ToWords.l0 kj23 x7_3 y326 (y326.length : Int) 0 x293000_23 x293001_23) = some (r1, r2) := by first | (rw [hy326]; with_reducible exact H) | (have H2_ := (Option.bind_some _ _).symm.trans H; rw [hy326]; with_reducible exact H2_) | (have H2_ := (Option.bind_some _ _).symm.trans H; with_reducible exact H2_) | with_reducible exact H | (rw [hy326]; exact H) | exact H
       have Ny326 := qaM hy326
       clear hy326
       have H' := qaM H
       clear H
       go_wp2_with (first | ((with_reducible refine gate_dst (N := 44) rfl ?_); refine Kd.R_make (Kd.int .u64) _ 30 rfl (N := 44) rfl 51 _ _ rfl a1 rfl rfl Tryz.underlying51 (.int .u64 0) 8 info30 rfl zd16_34 (by omega) 0 (ok := fun _ => True) (okp := fun _ => True) rfl (fun _ hk => hk) trivial (qoD zd16_27) (Nat.le_trans (Nat.mul_le_mul_right _ (qoD zd16_27 : a1.toNat ≤ 35184372088832)) (by omega)) (Below.refl _ _) (Nat.le_refl _) ?_; intro v327 w55 ho56 hb hg_ hnew_; clear hg_ hnew_; (first | rw [← Ny326.out] at ho56 | (simp only [Int.reduceToNat] at ho56; rw [← Ny326.out] at ho56)); have n0_ := qaM (Kd.V_elder' zd16_8 (Kd.R_base ho56) hb); have n1_ := qaM (Kd.V_elder' zd16_9 (Kd.R_base ho56) hb); have n2_ := qaM (Kd.R_lower (Kd.R_newM (M := fun k_ => (w.heap.size ≤ k_)) ho56 (qbS zd16_2) (fun k_ h_ => h_)) (qbS zd16_2)); have n3_ := qaM (qbB (g := gb292) (o := .cells #[.bool x293000_23, u293001] 27 (0, 0)) zd16_0 hb); have n4_ := qaM (qbB (g := gb297) (o := .cells #[.bool t293, .slice Ao10 t294.length co10] 27 (0, 0)) zd16_1 hb); have n5_ := qaM (qbT zd16_2 hb); clear HO_293001; clear HO_298001; clear BK292; clear BK297; clear HB; have HO_293001 := n0_; have HO_298001 := n1_; have HO328 := n2_; have BK292 := n3_; have BK297 := n4_; have HB := n5_; clear n0_ n1_ n2_ n3_ n4_ n5_; clear hb ho56; obtain ⟨Ao57, co57, eo57⟩ := Kd.R_slice HO328.out; subst eo57))
       go_loopg [47] kj23 (fun kq v47 w' => ∃ (x10_3 : List Int) (x47_3 : Int), v47 = .int .i64 x47_3 ∧ Aside0 (spec_ToWords.l0 kq x7_3 x10_3 (y326.length : Int) x47_3 x293000_23 x293001_23 = some (r1, r2)) ∧ Aside0 (kq ≤ kj23) ∧ Aside0 (Kd.R (Kd.int .u64) 30 w' w.heap.size (fun k_ => (w.heap.size ≤ k_)) (.slice Ao57 y326.length co57) x10_3) ∧ Aside0 (Kd.V (Kd.int .u32) 104 w' w.heap.size (fun k_ => (P0_1_ k_ ∨ w.heap.size ≤ k_) ∧ some k_ ≠ ((.slice Ao57 y326.length co57) : Value).ownBlock ∧ k_ ≠ gb292 ∧ k_ ≠ gb297) u293001 x293001_23) ∧ Aside0 (Kd.V (Kd.int .u32) 104 w' w.heap.size (fun k_ => (P0_1_ k_ ∨ w.heap.size ≤ k_) ∧ some k_ ≠ ((.slice Ao57 y326.length co57) : Value).ownBlock ∧ k_ ≠ gb292 ∧ k_ ≠ gb297) (.slice Ao10 t294.length co10) t294) ∧ Aside0 (w'.heap[gb292]? = some (.cells #[.bool x293000_23, u293001] 27 (0, 0))) ∧ Aside0 (w'.heap[gb297]? = some (.cells #[.bool t293, (.slice Ao10 t294.length co10)] 27 (0, 0))) ∧ Aside0 (Below w.heap.size w w'))
       case atStart => exact ⟨(y326), (0), zd16_28, H', ⟨Nat.le_refl _⟩, ⟨by (with_reducible repeat (first | apply qrA | apply qrN | apply qrD)); exact qrM HO328.out (fun _ hk => hk.1)⟩, ⟨by (with_reducible repeat (first | apply qvA | apply qvN | apply qvD)); exact qvM HO_293001.out (fun _ hk => ⟨hk.1.1, ⟨hk.2, ⟨hk.1.2.1, hk.1.2.2⟩⟩⟩)⟩, ⟨by (with_reducible repeat (first | apply qvA | apply qvN | apply qvD)); exact qvM HO_298001.out (fun _ hk => ⟨hk.1.1, ⟨hk.2, ⟨hk.1.2.1, hk.1.2.2⟩⟩⟩)⟩, ⟨by (with_reducible repeat (first | refine qbN ?_ _ | refine qbD ?_ | refine qbA ?_ _)); exact BK292.out⟩, ⟨by (with_reducible repeat (first | refine qbN ?_ _ | refine qbD ?_ | refine qbA ?_ _)); exact BK297.out⟩, ⟨by repeat (first | (with_reducible first | exact HB.out | apply qwA | apply qwN | apply qwD | refine qwS ?_ GE292.out | refine qwS ?_ GE297.out) | exact HB.out)⟩⟩
       case round =>
        clear H'
        try clear c1
        try clear c2
        try clear p2
        try clear c5
        try clear p6
        try clear c13
        try clear c25
        try clear c27
        try clear c53
        try clear c53b0
        try clear c53b1
        try clear c54
        try clear c54b0
        try clear c54b1
        try clear p2
        try clear p6
        obtain ⟨x10_3, x47_3, rfl, HA, HK3, HO_10, HO_293001, HO_298001, BK292, BK297, HB⟩ := hrel
        have hl10_3 := (qrR HO_10.out).1
        rw [hl10_3] at HO_10
        (try simp only [hl10_3])
        (try simp only [hl10_3] at BK292)
        (try simp only [hl10_3] at BK297)
        (try simp only [hl10_3] at HO_293001)
        (try simp only [hl10_3] at HO_298001)
        cases gk with
        | zero => exact absurd HA.out (by simp [spec_ToWords.l0])
        | succ k3 =>
         have H := HA.out
         clear HA
         simp only [spec_ToWords.l0] at H
         by_cases c58 : x47_3 < (y326.length : Int)
         ·rw [if_pos c58] at H
          have c58b0 : decide (x47_3 < (y326.length : Int)) = true := decide_eq_true c58
          have c58b0h := c58b0
          (try simp only [hl10_3] at c58b0h)
          clear c58
          have H' := qaM H
          clear H
          go_wp2
          go_loopg [12] k3 (fun kq v12 w' => ∃ (x10_4 : List Int) (x12_4 : Int), v12 = .int .i64 x12_4 ∧ Aside0 (spec_ToWords.l1 kq x7_3 x10_4 x47_3 x12_4 (y326.length : Int) x47_3 x293000_23 x293001_23 = some (r1, r2)) ∧ Aside0 (kq ≤ k3) ∧ Aside0 (Kd.R (Kd.int .u64) 30 w' w.heap.size (fun k_ => (w.heap.size ≤ k_)) (.slice Ao57 x10_3.length co57) x10_4) ∧ Aside0 (Kd.V (Kd.int .u32) 104 w' w.heap.size (fun k_ => (P0_1_ k_ ∨ w.heap.size ≤ k_) ∧ some k_ ≠ ((.slice Ao57 x10_3.length co57) : Value).ownBlock ∧ k_ ≠ gb292 ∧ k_ ≠ gb297) u293001 x293001_23) ∧ Aside0 (Kd.V (Kd.int .u32) 104 w' w.heap.size (fun k_ => (P0_1_ k_ ∨ w.heap.size ≤ k_) ∧ some k_ ≠ ((.slice Ao57 x10_3.length co57) : Value).ownBlock ∧ k_ ≠ gb292 ∧ k_ ≠ gb297) (.slice Ao10 t294.length co10) t294) ∧ Aside0 (w'.heap[gb292]? = some (.cells #[.bool x293000_23, u293001] 27 (0, 0))) ∧ Aside0 (w'.heap[gb297]? = some (.cells #[.bool t293, (.slice Ao10 t294.length co10)] 27 (0, 0))) ∧ Aside0 (Below w.heap.size w w'))
          case atStart => exact ⟨(x10_3), (0), zd16_28, H', ⟨Nat.le_refl _⟩, ⟨by (try simp only [hl10_3]); (with_reducible repeat (first | apply qrA | apply qrN | apply qrD)); exact HO_10.out⟩, ⟨by (try simp only [hl10_3]); (with_reducible repeat (first | apply qvA | apply qvN | apply qvD)); exact HO_293001.out⟩, ⟨by (try simp only [hl10_3]); (with_reducible repeat (first | apply qvA | apply qvN | apply qvD)); exact HO_298001.out⟩, ⟨by (try simp only [hl10_3]); (with_reducible repeat (first | refine qbN ?_ _ | refine qbD ?_ | refine qbA ?_ _)); exact BK292.out⟩, ⟨by (try simp only [hl10_3]); (with_reducible repeat (first | refine qbN ?_ _ | refine qbD ?_ | refine qbA ?_ _)); exact BK297.out⟩, ⟨by repeat (first | (with_reducible first | exact HB.out | apply qwA | apply qwN | apply qwD | refine qwS ?_ GE292.out | refine qwS ?_ GE297.out) | exact HB.out)⟩⟩
          case round =>
           clear H'
           try clear c1
           try clear c2
           try clear p2
           try clear c5
           try clear p6
           try clear c13
           try clear c25
           try clear c27
           try clear c53
           try clear c53b0
           try clear c53b1
           try clear c54
           try clear c54b0
           try clear c54b1
           try clear c58
           try clear c58b0
           try clear p2
           try clear p6
           obtain ⟨x10_4, x12_4, rfl, HA, HK4, HO_10, HO_293001, HO_298001, BK292, BK297, HB⟩ := hrel
           have hl10_4 := (qrR HO_10.out).1
           rw [hl10_4] at HO_10
           (try simp only [hl10_4])
           (try simp only [hl10_4] at BK292)
           (try simp only [hl10_4] at BK297)
           (try simp only [hl10_4] at HO_293001)
           (try simp only [hl10_4] at HO_298001)
           cases gk with
           | zero => exact absurd HA.out (by simp [spec_ToWords.l1])
           | succ k4 =>
            have H := HA.out
            clear HA
            simp only [spec_ToWords.l1] at H
            by_cases c59 : x12_4 < 2
            ·rw [if_pos c59] at H
             have c59b0 : decide (x12_4 < 2) = true := decide_eq_true c59
             clear c59
             by_cases c60 : (wrap64 ((wrap64 (2 * x47_3)) + x12_4)) < (x293001_23.length : Int)
             ·rw [if_pos c60] at H
              have c60b0 : decide ((wrap64 ((wrap64 (2 * x47_3)) + x12_4)) < (x293001_23.length : Int)) = true := decide_eq_true c60
              have c60b0h := c60b0
              (try simp only [hl10_3, hl10_4] at c60b0h)
              clear c60
              by_cases c61 : 0 ≤ x47_3
              ·rw [if_pos c61] at H
               have c61b0 : decide (0 ≤ x47_3) = true := decide_eq_true c61
               clear c61
               by_cases c62 : x47_3 < (x10_4.length : Int)
               ·rw [if_pos c62] at H
                have c62b0 : decide (x47_3 < (x10_4.length : Int)) = true := decide_eq_true c62
                have c62b0h := c62b0
                (try simp only [hl10_3, hl10_4] at c62b0h)
                clear c62
                obtain ⟨ji63, hji63⟩ : ∃ j_ : Int, (wrap64 ((wrap64 (2 * x47_3)) + x12_4)) = j_ := ⟨_, rfl⟩
                replace H : (if 0 ≤ (ji63) then (if 0 ≤ (wrap64 (32 * x12_4)) then (spec_ToWords.l1 k4 x7_3 (x10_4.set (x47_3 : Int).toNat (Go.bits .or .u64 (rd x10_4 x47_3) (shl .u64 (IntKind.u64.wrap (rd x293001_23 (ji63))) (wrap64 (32 * x12_4))))) x47_3 (wrap64 (x12_4 + 1)) (y326.length : Int) x47_3 x293000_23 x293001_23) else (none)) else (none)) = some (r1, r2) := by first | (rw [hji63] at H; exact H) | (simp only [hji63] at H ⊢; exact H)
                (try rw [hji63] at c60b0)
                have hji63w : (IntKind.i64.wrap ((wrap64 (2 * x47_3)) + x12_4)) = ji63 := (i64_w _).trans hji63
                by_cases c64 : 0 ≤ (ji63)
                ·rw [if_pos c64] at H
                 have c64b0 : decide (0 ≤ (ji63)) = true := decide_eq_true c64
                 clear c64
                 obtain ⟨ji65, hji65⟩ : ∃ j_ : Int, (wrap64 (32 * x12_4)) = j_ := ⟨_, rfl⟩
                 replace H : (if 0 ≤ (ji65) then (spec_ToWords.l1 k4 x7_3 (x10_4.set (x47_3 : Int).toNat (Go.bits .or .u64 (rd x10_4 x47_3) (shl .u64 (IntKind.u64.wrap (rd x293001_23 (ji63))) (ji65)))) x47_3 (wrap64 (x12_4 + 1)) (y326.length : Int) x47_3 x293000_23 x293001_23) else (none)) = some (r1, r2) := by first | (rw [hji65] at H; exact H) | (simp only [hji65] at H ⊢; exact H)
                 have hji65w : (IntKind.i64.wrap (32 * x12_4)) = ji65 := (i64_w _).trans hji65
                 by_cases c66 : 0 ≤ (ji65)
                 ·rw [if_pos c66] at H
                  have c66b0 := eq_true c66
                  have c66b1 : decide (0 ≤ (ji65)) = true := decide_eq_true c66
                  clear c66
                  obtain ⟨ji67, hji67⟩ : ∃ j_ : Int, (shl .u64 (IntKind.u64.wrap (rd x293001_23 (ji63))) (ji65)) = j_ := ⟨_, rfl⟩
                  replace H : (spec_ToWords.l1 k4 x7_3 (x10_4.set (x47_3 : Int).toNat (Go.bits .or .u64 (rd x10_4 x47_3) (ji67))) x47_3 (wrap64 (x12_4 + 1)) (y326.length : Int) x47_3 x293000_23 x293001_23) = some (r1, r2) := by first | (rw [hji67] at H; exact H) | (simp only [hji67] at H ⊢; exact H)
                  have hji67_ : (IntKind.u64.wrap ((IntKind.u64.wrap (rd x293001_23 (ji63))) * 2 ^ min (ji65).toNat 64)) = ji67 := hji67
                  have hji67z : (ji65) ≤ 64 → (IntKind.u64.wrap ((IntKind.u64.wrap (rd x293001_23 (ji63))) * 2 ^ (ji65).toNat)) = ji67 := shl_small hji67
                  obtain ⟨y331, hy331⟩ : ∃ y_ : List Int, y_ = (x10_4.set (x47_3 : Int).toNat (Go.bits .or .u64 (rd x10_4 x47_3) (ji67))) := ⟨_, rfl⟩
                  replace H : (spec_ToWords.l1 k4 x7_3 y331 x47_3 (wrap64 (x12_4 + 1)) (y326.length : Int) x47_3 x293000_23 x293001_23) = some (r1, r2) := by first | (rw [hy331]; with_reducible exact H) | (have H2_ := (Option.bind_some _ _).symm.trans H; rw [hy331]; with_reducible exact H2_) | (have H2_ := (Option.bind_some _ _).symm.trans H; with_reducible exact H2_) | with_reducible exact H | (rw [hy331]; exact H) | exact H
                  have Ny331 := qaM hy331
                  clear hy331
                  have H' := qaM H
                  clear H
                  have hnb69 := NB292_297.out
                  have hnc69 := NB297_292.out
                  have hcz70_0 : wr.cell? ⟨gb292, 0, none⟩ = some (.bool x293000_23) := (qbC BK292.out 0).trans rfl
                  have hcz70_1 : wr.cell? ⟨gb292, 1, none⟩ = some (u293001) := (qbC BK292.out 1).trans rfl
                  have hfz70_0 := blk_frozen BK292.out 0
                  have hfz70_1 := blk_frozen BK292.out 1
                  obtain ⟨Ao71, co71, eo71⟩ := Kd.V_slice HO_293001.out
                  subst eo71
                  try go_wp2
                  have n0_ := qaM (qrD HO_10.out)
                  have n1_ := qaM (qvD HO_293001.out)
                  have n2_ := qaM (qvD HO_298001.out)
                  have n3_ := qaM (qbD BK292.out)
                  have n4_ := qaM (qbD BK297.out)
                  have n5_ := qaM (qwD HB.out)
                  clear HO_10
                  clear HO_293001
                  clear HO_298001
                  clear BK292
                  clear BK297
                  clear HB
                  have HO_10 := n0_
                  have HO_293001 := n1_
                  have HO_298001 := n2_
                  have BK292 := n3_
                  have BK297 := n4_
                  have HB := n5_
                  clear n0_ n1_ n2_ n3_ n4_ n5_
                  have p329 : 0 ≤ (x47_3 : Int) := qoD zd16_27
                  have q329 : x47_3 < (x10_4.length : Int) := qoD zd16_27
                  obtain ⟨ad329, e329, hx329_0⟩ := Kd.at_int (qrR HO_10.out).2.2 x47_3 p329 q329
                  cases e329
                  replace p329 := eq_true p329
                  replace q329 := eq_true q329
                  have p330 : 0 ≤ ((ji63) : Int) := qoD zd16_27
                  have q330 : (ji63) < (x293001_23.length : Int) := qoD zd16_27
                  obtain ⟨ad330, e330, hx330_0⟩ := Kd.at_int (qvR HO_293001.out).2.2 (ji63) p330 q330
                  cases e330
                  replace p330 := eq_true p330
                  replace q330 := eq_true q330
                  have p68 : 0 ≤ (x47_3 : Int) := qoD zd16_27
                  have q68 : (x47_3 : Int) < ((x10_4.length : Int) : Int) := qoD zd16_27
                  obtain ⟨go68, co68, eo68, gb68, gl68, cl68, HG68⟩ := Kd.R_form HO_10.out (by omega)
                  (first | cases eo68 | (injection eo68 with ea_ en_ ec_; (first | subst ea_ | (injection ea_ with ea_; subst ea_)); subst ec_; clear en_))
                  have GB68 := qaM gb68
                  have GG68 := qaM HG68
                  clear gb68 gl68 HG68
                  (first | simp only [add_plain] at hx329_0 | skip)
                  obtain ⟨hx68_0, hf68_0⟩ := Kd.R_celln 0 HO_10.out (x47_3 : Int) p68 q68
                  replace p68 := eq_true p68
                  replace q68 := eq_true q68
                  have HP73 := Kd.R_putn HO_10.out (x47_3 : Int) (Go.bits .or .u64 (rd x10_4 x47_3) (ji67))
                  rw [← Ny331.out] at HP73
                  have HQ73 := qaM HP73
                  clear HP73
                  refine start_ (n := 19) (S := fun w' => w'.cell? ⟨gb292, 0, none⟩ = some (.bool x293000_23) ∧ w'.cell? ⟨gb292, 1, none⟩ = some (.slice (some ad330) x293001_23.length co71) ∧ w'.cell? ⟨go68, (x47_3).toNat, none⟩ = some (.int .u64 (rd x10_4 x47_3)) ∧ w'.cell? (ad330.add ((ji63)).toNat) = some (.int .u32 (rd x293001_23 (ji63)))) (ds := [18]) #[false, false, false, false, false, false, false, false, false, false, false, false, false, false, false, false, false, false, false] zd16_13 rfl rfl ⟨(qbC BK292.out 0).trans rfl, (qbC BK292.out 1).trans rfl, hx329_0, hx330_0⟩ (fun hHeld => ?_); refine with_tabW spec_ToWords.tab14 spec_ToWords.bits14 (fun HT_ HW_ => ?_)
                  generalize wr.drew = w72 at HO_10 HO_293001 HO_298001 BK292 BK297 HB GG68 HQ73 hf68_0 hx329_0 hx330_0 hx68_0 hHeld ⊢
                  refine pure_ (i := 0) (N := some 62) (v := ?_) (a' := ?_) #[true, false, false, false, false, false, false, false, false, false, false, false, false, false, false, false, false, false, false] rfl rfl (any_of HT_.out zd16_13) (fun _ _ _ h => h) (Or.inl ⟨by rfl, ?_⟩) ?_ ?_
                  rotate_left
                  ·intro w'
                   go_simp
                   with_reducible rfl
                  rotate_left
                  ·simp only [Act.put, qsA, qsZ, qsS, i64_w, i32_w]
                   rfl
                  refine pure_ (i := 1) (N := some 63) (v := ?_) (a' := ?_) #[true, true, false, false, false, false, false, false, false, false, false, false, false, false, false, false, false, false, false] rfl rfl (any_of HT_.out zd16_13) (fun _ _ _ h => h) (Or.inl ⟨by rfl, ?_⟩) ?_ ?_
                  rotate_left
                  ·intro w'
                   go_simp
                   with_reducible rfl
                  rotate_left
                  ·simp only [Act.put, qsA, qsZ, qsS, i64_w, i32_w]
                   rfl
                  refine pure_ (i := 2) (N := some 64) (v := ?_) (a' := ?_) #[true, true, true, false, false, false, false, false, false, false, false, false, false, false, false, false, false, false, false] rfl rfl (any_of HT_.out zd16_13) (fun _ _ _ h => h) (Or.inl ⟨by rfl, ?_⟩) ?_ ?_
                  rotate_left
                  ·intro w'
                   go_simp
                   with_reducible rfl
                  rotate_left
                  ·simp only [Act.put, qsA, qsZ, qsS, i64_w, i32_w]
                   rfl
                  refine pure_ (i := 4) (N := some 66) (v := ?_) (a' := ?_) #[true, true, true, false, true, false, false, false, false, false, false, false, false, false, false, false, false, false, false] rfl rfl (any_of HT_.out zd16_13) (fun _ _ _ h => h) (Or.inl ⟨by rfl, ?_⟩) ?_ ?_
                  rotate_left
                  ·intro w'
                   go_simp
                   with_reducible rfl
                  rotate_left
                  ·simp only [Act.put, qsA, qsZ, qsS, i64_w, i32_w]
                   rfl
                  refine pure_ (i := 6) (N := some 68) (v := ?_) (a' := ?_) #[true, true, true, false, true, false, true, false, false, false, false, false, false, false, false, false, false, false, false] rfl rfl (any_of HT_.out zd16_13) (fun _ _ _ h => h) (Or.inl ⟨by rfl, ?_⟩) ?_ ?_
                  rotate_left
                  ·intro w'
                   go_simp
                   with_reducible rfl
                  rotate_left
                  ·simp only [Act.put, qsA, qsZ, qsS, i64_w, i32_w]
                   rfl
                  refine pure_ (i := 7) (N := some 69) (v := ?_) (a' := ?_) #[true, true, true, false, true, false, true, true, false, false, false, false, false, false, false, false, false, false, false] rfl rfl (any_of HT_.out zd16_13) (fun _ _ _ h => h) (Or.inl ⟨by rfl, ?_⟩) ?_ ?_
                  rotate_left
                  ·intro w'
                   go_simp
                   with_reducible rfl
                  rotate_left
                  ·simp only [Act.put, qsA, qsZ, qsS, i64_w, i32_w]
                   rfl
                  refine pure_ (i := 8) (N := some 70) (v := ?_) (a' := ?_) #[true, true, true, false, true, false, true, true, true, false, false, false, false, false, false, false, false, false, false] rfl rfl (any_of HT_.out zd16_13) (fun _ _ _ h => h) (Or.inl ⟨by rfl, ?_⟩) ?_ ?_
                  rotate_left
                  ·intro w'
                   go_simp
                   with_reducible rfl
                  rotate_left
                  ·simp only [Act.put, qsA, qsZ, qsS, i64_w, i32_w]
                   rfl
                  refine pure_ (i := 9) (N := some 71) (v := ?_) (a' := ?_) #[true, true, true, false, true, false, true, true, true, true, false, false, false, false, false, false, false, false, false] rfl rfl (any_of HT_.out zd16_13) (fun _ _ _ h => h) (Or.inl ⟨by rfl, ?_⟩) ?_ ?_
                  rotate_left
                  ·intro w'
                   go_simp
                   with_reducible rfl
                  rotate_left
                  ·simp only [Act.put, qsA, qsZ, qsS, i64_w, i32_w]
                   rfl
                  refine pure_ (i := 13) (N := some 75) (v := ?_) (a' := ?_) #[true, true, true, false, true, false, true, true, true, true, false, false, false, true, false, false, false, false, false] rfl rfl (any_of HT_.out zd16_13) (fun _ _ _ h => h) (Or.inl ⟨by rfl, ?_⟩) ?_ ?_
                  rotate_left
                  ·intro w'
                   go_simp
                   with_reducible rfl
                  rotate_left
                  ·simp only [Act.put, qsA, qsZ, qsS, i64_w, i32_w]
                   rfl
                  refine pure_ (i := 14) (N := some 76) (v := ?_) (a' := ?_) #[true, true, true, false, true, false, true, true, true, true, false, false, false, true, true, false, false, false, false] rfl rfl (any_of HT_.out zd16_13) (fun _ _ _ h => h) (Or.inl ⟨by rfl, ?_⟩) ?_ ?_
                  rotate_left
                  ·intro w'
                   go_simp
                   with_reducible rfl
                  rotate_left
                  ·simp only [Act.put, qsA, qsZ, qsS, i64_w, i32_w]
                   rfl
                  refine take_ (i := 3) (N := some 65) (v := ?_) (a' := ?_) #[true, true, true, true, true, false, true, true, true, true, false, false, false, true, true, false, false, false, false] rfl rfl (take_ofW HT_.out HW_.out zd16_13) (fun _ _ _ h => h) (Or.inl ⟨by rfl, ?_⟩) hHeld ?_ ?_
                  rotate_left
                  ·rintro w' ⟨s0, s1, s2, s3⟩
                   go_simp
                   with_reducible rfl
                  rotate_left
                  ·simp only [Act.put, qsA, qsZ, qsS, i64_w, i32_w]
                   rfl
                  refine take_ (i := 5) (N := some 67) (v := ?_) (a' := ?_) #[true, true, true, true, true, true, true, true, true, true, false, false, false, true, true, false, false, false, false] rfl rfl (take_ofW HT_.out HW_.out zd16_13) (fun _ _ _ h => h) (Or.inl ⟨by rfl, ?_⟩) hHeld ?_ ?_
                  rotate_left
                  ·rintro w' ⟨s0, s1, s2, s3⟩
                   go_simp
                   with_reducible rfl
                  rotate_left
                  ·simp only [Act.put, qsA, qsZ, qsS, i64_w, i32_w]
                   rfl
                  refine pure_ (i := 10) (N := some 72) (v := ?_) (a' := ?_) #[true, true, true, true, true, true, true, true, true, true, true, false, false, true, true, false, false, false, false] rfl rfl (any_of HT_.out zd16_13) (fun _ _ _ h => h) (Or.inl ⟨by rfl, ?_⟩) ?_ ?_
                  rotate_left
                  ·intro w'
                   go_simp
                   with_reducible rfl
                  rotate_left
                  ·simp only [Act.put, qsA, qsZ, qsS, i64_w, i32_w]
                   rfl
                  refine take_ (i := 11) (N := some 73) (v := ?_) (a' := ?_) #[true, true, true, true, true, true, true, true, true, true, true, true, false, true, true, false, false, false, false] rfl rfl (take_ofW HT_.out HW_.out zd16_13) (fun _ _ _ h => h) (Or.inl ⟨by rfl, ?_⟩) hHeld ?_ ?_
                  rotate_left
                  ·rintro w' ⟨s0, s1, s2, s3⟩
                   go_simp
                   with_reducible rfl
                  rotate_left
                  ·simp only [Act.put, qsA, qsZ, qsS, i64_w, i32_w]
                   rfl
                  refine pure_ (i := 12) (N := some 74) (v := ?_) (a' := ?_) #[true, true, true, true, true, true, true, true, true, true, true, true, true, true, true, false, false, false, false] rfl rfl (any_of HT_.out zd16_13) (fun _ _ _ h => h) (Or.inl ⟨by rfl, ?_⟩) ?_ ?_
                  rotate_left
                  ·intro w'
                   go_simp
                   with_reducible rfl
                  rotate_left
                  ·simp only [Act.put, qsA, qsZ, qsS, i64_w, i32_w]
                   rfl
                  refine pure_ (i := 15) (N := some 77) (v := ?_) (a' := ?_) #[true, true, true, true, true, true, true, true, true, true, true, true, true, true, true, true, false, false, false] rfl rfl (any_of HT_.out zd16_13) (fun _ _ _ h => h) (Or.inl ⟨by rfl, ?_⟩) ?_ ?_
                  rotate_left
                  ·intro w'
                   go_simp
                   with_reducible rfl
                  rotate_left
                  ·simp only [Act.put, qsA, qsZ, qsS, i64_w, i32_w]
                   rfl
                  refine pure_ (i := 16) (N := some 78) (v := ?_) (a' := ?_) #[true, true, true, true, true, true, true, true, true, true, true, true, true, true, true, true, true, false, false] rfl rfl (any_of HT_.out zd16_13) (fun _ _ _ h => h) (Or.inl ⟨by rfl, ?_⟩) ?_ ?_
                  rotate_left
                  ·intro w'
                   go_simp
                   with_reducible rfl
                  rotate_left
                  ·simp only [Act.put, qsA, qsZ, qsS, i64_w, i32_w]
                   rfl
                  refine pure_ (i := 17) (N := some 79) (v := ?_) (a' := ?_) #[true, true, true, true, true, true, true, true, true, true, true, true, true, true, true, true, true, true, false] rfl rfl (any_of HT_.out zd16_13) (fun _ _ _ h => h) (Or.inl ⟨by rfl, ?_⟩) ?_ ?_
                  rotate_left
                  ·intro w'
                   go_simp
                   with_reducible rfl
                  rotate_left
                  ·simp only [Act.put, qsA, qsZ, qsS, i64_w, i32_w]
                   rfl
                  refine last_ (i := 18) (N := none) #[true, true, true, true, true, true, true, true, true, true, true, true, true, true, true, true, true, true, true] rfl rfl (one_of HT_.out zd16_13) zd16_34 (fun K hK => ?_)
                  refine skip_ (w1 := ?_) (by rfl) rfl ?_ ?_
                  rotate_left
                  ·go_simp
                   rfl
                  refine hK.out _ _ ?_
                  clear hK K
                  refine done_ (done_of HT_.out zd16_13) ?_
                  try go_wp2
                  (try simp only [← hl10_4])
                  go_roundg k4
                  case measure => have := HJ3.out; have := HJ23.out; have := HK3.out; have := HK4.out; omega
                  case rel => exact ⟨(y331), (wrap64 (x12_4 + 1)), zd16_28, H', ⟨by have := HJ3.out; have := HJ23.out; have := HK3.out; have := HK4.out; omega⟩, ⟨by (try simp only [hl10_3]); (try simp only [hl10_4]); (with_reducible repeat (first | apply qrA | apply qrN | apply qrD)); exact HQ73.out⟩, ⟨by (try simp only [hl10_3]); (try simp only [hl10_4]); (with_reducible repeat (first | apply qvA | apply qvN | apply qvD)); exact qvM (qvF (p := ⟨go68, (x47_3 : Int).toNat, none⟩) (qvM HO_293001.out (fun k_ hk => (⟨hk, fun e_ => hk.2.1 (by rw [e_]; rfl)⟩ : _ ∧ k_ ≠ go68))) (fun _ hk => hk.2) (.int .u64 (Go.bits .or .u64 (rd x10_4 x47_3) (ji67)))) (fun _ hk => ⟨hk.1.1, ⟨hk.1.2.1, ⟨hk.1.2.2.1, hk.1.2.2.2⟩⟩⟩)⟩, ⟨by (try simp only [hl10_3]); (try simp only [hl10_4]); (with_reducible repeat (first | apply qvA | apply qvN | apply qvD)); exact qvM (qvF (p := ⟨go68, (x47_3 : Int).toNat, none⟩) (qvM HO_298001.out (fun k_ hk => (⟨hk, fun e_ => hk.2.1 (by rw [e_]; rfl)⟩ : _ ∧ k_ ≠ go68))) (fun _ hk => hk.2) (.int .u64 (Go.bits .or .u64 (rd x10_4 x47_3) (ji67)))) (fun _ hk => ⟨hk.1.1, ⟨hk.1.2.1, ⟨hk.1.2.2.1, hk.1.2.2.2⟩⟩⟩)⟩, ⟨by (try simp only [hl10_3]); (try simp only [hl10_4]); (with_reducible repeat (first | refine qbN ?_ _ | refine qbD ?_ | refine qbA ?_ _)); refine qbF ?_ (by have h_ := Kd.R_ne HO_10.out BK292.out zd16_34; intro e_; exact h_ (by rw [e_]; rfl)) _; (with_reducible repeat (first | refine qbN ?_ _ | refine qbD ?_ | refine qbA ?_ _)); exact BK292.out⟩, ⟨by (try simp only [hl10_3]); (try simp only [hl10_4]); (with_reducible repeat (first | refine qbN ?_ _ | refine qbD ?_ | refine qbA ?_ _)); refine qbF ?_ (by have h_ := Kd.R_ne HO_10.out BK297.out zd16_34; intro e_; exact h_ (by rw [e_]; rfl)) _; (with_reducible repeat (first | refine qbN ?_ _ | refine qbD ?_ | refine qbA ?_ _)); exact BK297.out⟩, ⟨by repeat (first | (with_reducible first | exact HB.out | apply qwA | apply qwN | apply qwD | refine qwS ?_ GB68.out | refine qwS ?_ GE292.out | refine qwS ?_ GE297.out) | exact HB.out)⟩⟩
                 ·rw [if_neg c66] at H
                  exact absurd H (by simp)
                ·rw [if_neg c64] at H
                 exact absurd H (by simp)
               ·rw [if_neg c62] at H
                exact absurd H (by simp)
              ·rw [if_neg c61] at H
               exact absurd H (by simp)
             ·rw [if_neg c60] at H
              have c60b0 : decide ((wrap64 ((wrap64 (2 * x47_3)) + x12_4)) < (x293001_23.length : Int)) = false := decide_eq_false c60
              have c60b0h := c60b0
              (try simp only [hl10_3, hl10_4] at c60b0h)
              clear c60
              have H' := qaM H
              clear H
              have hnb74 := NB292_297.out
              have hnc74 := NB297_292.out
              have hcz75_0 : wr.cell? ⟨gb292, 0, none⟩ = some (.bool x293000_23) := (qbC BK292.out 0).trans rfl
              have hcz75_1 : wr.cell? ⟨gb292, 1, none⟩ = some (u293001) := (qbC BK292.out 1).trans rfl
              have hfz75_0 := blk_frozen BK292.out 0
              have hfz75_1 := blk_frozen BK292.out 1
              obtain ⟨Ao76, co76, eo76⟩ := Kd.V_slice HO_293001.out
              subst eo76
              go_wp2
              (try simp only [← hl10_4])
              go_roundg k4
              case measure => have := HJ3.out; have := HJ23.out; have := HK3.out; have := HK4.out; omega
              case rel => exact ⟨(x10_4), (wrap64 (x12_4 + 1)), zd16_28, H', ⟨by have := HJ3.out; have := HJ23.out; have := HK3.out; have := HK4.out; omega⟩, ⟨by (try simp only [hl10_3]); (try simp only [hl10_4]); (with_reducible repeat (first | apply qrA | apply qrN | apply qrD)); exact HO_10.out⟩, ⟨by (try simp only [hl10_3]); (try simp only [hl10_4]); (with_reducible repeat (first | apply qvA | apply qvN | apply qvD)); exact HO_293001.out⟩, ⟨by (try simp only [hl10_3]); (try simp only [hl10_4]); (with_reducible repeat (first | apply qvA | apply qvN | apply qvD)); exact HO_298001.out⟩, ⟨by (try simp only [hl10_3]); (try simp only [hl10_4]); (with_reducible repeat (first | refine qbN ?_ _ | refine qbD ?_ | refine qbA ?_ _)); exact BK292.out⟩, ⟨by (try simp only [hl10_3]); (try simp only [hl10_4]); (with_reducible repeat (first | refine qbN ?_ _ | refine qbD ?_ | refine qbA ?_ _)); exact BK297.out⟩, ⟨by repeat (first | (with_reducible first | exact HB.out | apply qwA | apply qwN | apply qwD | refine qwS ?_ GE292.out | refine qwS ?_ GE297.out) | exact HB.out)⟩⟩
            ·rw [if_neg c59] at H
             have c59b0 : decide (x12_4 < 2) = false := decide_eq_false c59
             clear c59
             have H' := qaM H
             clear H
             go_wp2
             (try simp only [← hl10_3, ← hl10_4])
             go_roundg k4
             case measure => have := HJ3.out; have := HJ23.out; have := HK3.out; have := HK4.out; omega
             case rel => exact ⟨(x10_4), (wrap64 (x47_3 + 1)), zd16_28, H', ⟨by have := HJ3.out; have := HJ23.out; have := HK3.out; have := HK4.out; omega⟩, ⟨by (try simp only [hl10_3]); (try simp only [hl10_4]); (with_reducible repeat (first | apply qrA | apply qrN | apply qrD)); exact HO_10.out⟩, ⟨by (try simp only [hl10_3]); (try simp only [hl10_4]); (with_reducible repeat (first | apply qvA | apply qvN | apply qvD)); exact HO_293001.out⟩, ⟨by (try simp only [hl10_3]); (try simp only [hl10_4]); (with_reducible repeat (first | apply qvA | apply qvN | apply qvD)); exact HO_298001.out⟩, ⟨by (try simp only [hl10_3]); (try simp only [hl10_4]); (with_reducible repeat (first | refine qbN ?_ _ | refine qbD ?_ | refine qbA ?_ _)); exact BK292.out⟩, ⟨by (try simp only [hl10_3]); (try simp only [hl10_4]); (with_reducible repeat (first | refine qbN ?_ _ | refine qbD ?_ | refine qbA ?_ _)); exact BK297.out⟩, ⟨by repeat (first | (with_reducible first | exact HB.out | apply qwA | apply qwN | apply qwD | refine qwS ?_ GE292.out | refine qwS ?_ GE297.out) | exact HB.out)⟩⟩
         ·rw [if_neg c58] at H
          have c58b0 : decide (x47_3 < (y326.length : Int)) = false := decide_eq_false c58
          have c58b0h := c58b0
          (try simp only [hl10_3] at c58b0h)
          clear c58
          simp only [Option.some.injEq, Prod.mk.injEq] at H
          obtain ⟨rfl, rfl⟩ := H
          go_wp2
          go_ret2
          exact ⟨_, by first | rfl | (simp [errW_none, errW_some] <;> rfl) | (simp [*, errW_none, errW_some] <;> rfl), by (with_reducible repeat (first | apply qrA | apply qrN | apply qrD)); exact HO_10.out, by repeat (first | (with_reducible first | exact HB.out | apply qwA | apply qwN | apply qwD | refine qwS ?_ GE292.out | refine qwS ?_ GE297.out) | exact HB.out)⟩
      ·rw [if_neg c54] at H
       exact absurd H (by simp)
     ·rw [if_neg c53] at H
      exact absurd H (by simp)

end Go.Proofs.YtoaibapjnedhlaaGreat.QAll
