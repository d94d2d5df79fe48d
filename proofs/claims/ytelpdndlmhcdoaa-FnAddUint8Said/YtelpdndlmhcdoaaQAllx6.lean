/- Printed by a program of this session (print2.py) over the kit's print: the functions that a law reaches, over contracts proved by hand. Lean checks it. -/
import Derived.Test.YtelpdndlmhcdoaaQAllx0
import Derived.Test.YtelpdndlmhcdoaaQAllx1
import Derived.Test.YtelpdndlmhcdoaaQAllx5
namespace Go.Proofs.Ytelpdndlmhcdoaa.QAll
open Go.RowKit Go.Proofs.YtelpdndlmhcdoaaW.PrintWords Go.Proofs.YtelpdndlmhcdoaaW.PrintLast Go.Proofs.YtelpdndlmhcdoaaW.PrintMore
attribute [local go_sem] max2_int min2_int max_two min_two max_three min_three max_four min_four   -- for this text's walks alone
set_option linter.unusedVariables false
set_option linter.unusedSimpArgs false

theorem zz6_0 {p : Prop} (h : p := by repeat (first | (with_reducible first | exact HB.out | apply qwA | apply qwN | apply qwD) | exact HB.out)) : p := h
theorem zz6_1 {p : Prop} (h : p := by (try simp only [List.map_toArray, List.map_cons, List.map_nil]); first | done | rfl | (simp only [List.length_drop, List.length_take]; rfl)) : p := h
theorem zz6_2 {p : Prop} (h : p := by repeat (first | (with_reducible first | exact HB.out | apply qwA | apply qwN | apply qwD | refine qwS ?_ GE293.out) | exact HB.out)) : p := h
theorem zz6_3 {p : Prop} (h : p := by (with_reducible repeat (first | apply qvA | apply qvN | apply qvD)); exact HO313.out) : p := h
theorem zz6_4 {p : Prop} (h : p := by (with_reducible repeat (first | apply qvA | apply qvN | apply qvD)); exact HO317.out) : p := h
theorem zz6_5 {p : Prop} (h : p := by repeat (first | (with_reducible first | exact HB.out | apply qwA | apply qwN | apply qwD | refine qwS ?_ GE283.out | refine qwS ?_ GE284.out | refine qwS ?_ GE285.out) | exact HB.out)) : p := h
theorem zz6_6 {p : Prop} (h : p := by (with_reducible repeat (first | refine qbN ?_ _ | refine qbD ?_ | refine qbA ?_ _)); exact BK283.out) : p := h
theorem zz6_7 {p : Prop} (h : p := by first | (with_reducible assumption) | assumption) : p := h
theorem zz6_8 {p : Prop} (h : p := by (with_reducible repeat (first | refine qbN ?_ _ | refine qbD ?_ | refine qbA ?_ _)); exact BK284.out) : p := h
theorem zz6_9 {p : Prop} (h : p := by kernel_rfl) : p := h
theorem zz6_10 {p : Prop} (h : p := by (with_reducible repeat (first | refine qbN ?_ _ | refine qbD ?_ | refine qbA ?_ _)); exact BK293.out) : p := h
theorem zz6_11 {p : Prop} (h : p := by (with_reducible repeat (first | apply qvA | apply qvN | apply qvD)); exact HO321.out) : p := h
theorem zz6_12 {p : Prop} (h : p := by repeat (first | (with_reducible first | exact HB.out | apply qwA | apply qwN | apply qwD | refine qwS ?_ GE283.out | refine qwS ?_ GE284.out) | exact HB.out)) : p := h
theorem zz6_13 {p : Prop} (h : p := by (with_reducible repeat (first | refine qbN ?_ _ | refine qbD ?_ | refine qbA ?_ _)); exact BK285.out) : p := h
theorem zz6_14 {p : Prop} (h : p := by repeat (first | (with_reducible first | exact HB.out | apply qwA | apply qwN | apply qwD | refine qwS ?_ GE283.out) | exact HB.out)) : p := h
theorem zz6_15 {p : Prop} (h : p := by first | rfl | (simp; done) | (simp [*]; done)) : p := h
theorem zz6_16 {p : Prop} (h : p := by (with_reducible repeat (first | apply qrA | apply qrN | apply qrD)); exact HO_5.out) : p := h
/-! ### spec_magMul: function 34 -/
mutual
def spec_magMul.l0 : Nat → List Int → List Int → List Int → Int → Int → Option (List Int)
 | 0, _, _, _, _, _ => none
 | k + 1, x0, x1, x5, x16, x17 => if x17 < x16 then (spec_magMul.l1 k x0 x1 x5 x17 0 x16 x17 (x1.length : Int) 0) else ((spec_trim.f k x5).bind fun t275 => (some t275))
def spec_magMul.l1 : Nat → List Int → List Int → List Int → Int → Int → Int → Int → Int → Int → Option (List Int)
 | 0, _, _, _, _, _, _, _, _, _ => none
 | k + 1, x0, x1, x5, x6, x7, x16, x17, x21, x22 => if x22 < x21 then (if 0 ≤ x6 then (if x6 < (x0.length : Int) then (if 0 ≤ x22 then (if x22 < (x1.length : Int) then (if 0 ≤ (wrap64 (x6 + x22)) then (if (wrap64 (x6 + x22)) < (x5.length : Int) then (spec_magMul.l1 k x0 x1 (x5.set ((wrap64 (x6 + x22)) : Int).toNat ((IntKind.u64.wrap (x7 + (IntKind.u64.wrap ((IntKind.u64.wrap ((IntKind.u64.wrap (rd x0 x6)) * (IntKind.u64.wrap (rd x1 x22)))) + (IntKind.u64.wrap (rd x5 (wrap64 (x6 + x22)))))))) % 4294967296)) x6 ((IntKind.u64.wrap (x7 + (IntKind.u64.wrap ((IntKind.u64.wrap ((IntKind.u64.wrap (rd x0 x6)) * (IntKind.u64.wrap (rd x1 x22)))) + (IntKind.u64.wrap (rd x5 (wrap64 (x6 + x22)))))))) / 4294967296) x16 x17 x21 (wrap64 (x22 + 1))) else (none)) else (none)) else (none)) else (none)) else (none)) else (none)) else (if 0 ≤ (wrap64 (x6 + (x1.length : Int))) then (if (wrap64 (x6 + (x1.length : Int))) < (x5.length : Int) then (spec_magMul.l0 k x0 x1 (x5.set ((wrap64 (x6 + (x1.length : Int))) : Int).toNat ((x7) % 4294967296)) x16 (wrap64 (x17 + 1))) else (none)) else (none))
end
def spec_magMul.f (k : Nat) (l0 : List Int) (l1 : List Int) : Option (List Int) := if 0 ≤ (wrap64 ((l0.length : Int) + (l1.length : Int))) then (if (wrap64 ((l0.length : Int) + (l1.length : Int)) : Int).toNat ≤ 70368744177664 then (spec_magMul.l0 k l0 l1 (List.replicate (wrap64 ((l0.length : Int) + (l1.length : Int)) : Int).toNat 0) (l0.length : Int) 0) else (none)) else (none)
theorem spec_magMul.mono_l : ∀ k, (∀ y0 y1 y2 y3 y4, LeO (spec_magMul.l0 k y0 y1 y2 y3 y4) (spec_magMul.l0 (k + 1) y0 y1 y2 y3 y4)) ∧ (∀ y0 y1 y2 y3 y4 y5 y6 y7 y8, LeO (spec_magMul.l1 k y0 y1 y2 y3 y4 y5 y6 y7 y8) (spec_magMul.l1 (k + 1) y0 y1 y2 y3 y4 y5 y6 y7 y8))
 | 0 => ⟨fun _ _ _ _ _ r h => by simp [spec_magMul.l0] at h, fun _ _ _ _ _ _ _ _ _ r h => by simp [spec_magMul.l1] at h⟩
 | k + 1 => by
  obtain ⟨ih0, ih1⟩ := spec_magMul.mono_l k
  refine ⟨?_, ?_⟩
  ·intro y0 y1 y2 y3 y4
   unfold spec_magMul.l0
   repeat' first
   | (with_reducible exact ih0 _ _ _ _ _)
   | (with_reducible exact ih1 _ _ _ _ _ _ _ _ _)
   | (with_reducible exact spec_trim.mono _ _)
   | (with_reducible exact LeO.refl _)
   | (with_reducible exact LeO.none _)
   | (with_reducible refine LeO.ite ?_ ?_)
   | (with_reducible refine LeO.bind ?_ (fun _ => ?_))
   | exact ih0 _ _ _ _ _
   | exact ih1 _ _ _ _ _ _ _ _ _
   | exact spec_trim.mono _ _
   | exact LeO.none _
   | refine LeO.ite ?_ ?_
   | refine LeO.bind ?_ (fun _ => ?_)
  ·intro y0 y1 y2 y3 y4 y5 y6 y7 y8
   unfold spec_magMul.l1
   repeat' first
   | (with_reducible exact ih0 _ _ _ _ _)
   | (with_reducible exact ih1 _ _ _ _ _ _ _ _ _)
   | (with_reducible exact spec_trim.mono _ _)
   | (with_reducible exact LeO.refl _)
   | (with_reducible exact LeO.none _)
   | (with_reducible refine LeO.ite ?_ ?_)
   | (with_reducible refine LeO.bind ?_ (fun _ => ?_))
   | exact ih0 _ _ _ _ _
   | exact ih1 _ _ _ _ _ _ _ _ _
   | exact spec_trim.mono _ _
   | exact LeO.none _
   | refine LeO.ite ?_ ?_
   | refine LeO.bind ?_ (fun _ => ?_)
theorem spec_magMul.mono : ∀ a0 a1 k, LeO (spec_magMul.f k a0 a1) (spec_magMul.f (k + 1) a0 a1) := by
 intro a0 a1 k
 obtain ⟨ih0, ih1⟩ := spec_magMul.mono_l k
 unfold spec_magMul.f
 repeat' first
   | (with_reducible exact ih0 _ _ _ _ _)
   | (with_reducible exact ih1 _ _ _ _ _ _ _ _ _)
   | (with_reducible exact spec_trim.mono _ _)
   | (with_reducible exact LeO.refl _)
   | (with_reducible exact LeO.none _)
   | (with_reducible refine LeO.ite ?_ ?_)
   | (with_reducible refine LeO.bind ?_ (fun _ => ?_))
   | exact ih0 _ _ _ _ _
   | exact ih1 _ _ _ _ _ _ _ _ _
   | exact spec_trim.mono _ _
   | exact LeO.none _
   | refine LeO.ite ?_ ?_
   | refine LeO.bind ?_ (fun _ => ?_)
set_option maxHeartbeats 8000000 in
set_option maxRecDepth 100000 in
theorem spec_magMul.calls (k : Nat) (A0 : Option Addr) (c0 : Nat) (l0 : List Int) (A1 : Option Addr) (c1 : Nat) (l1 : List Int) (r : List Int) (w : World) (hr0 : Kd.C (Kd.int .u32) w A0 l0.length l0) (hc0 : l0.length ≤ c0) (hr1 : Kd.C (Kd.int .u32) w A1 l1.length l1) (hc1 : l1.length ≤ c1) (h : spec_magMul.f k l0 l1 = some r) :
  Calls Try.prog 34 #[.slice A0 l0.length c0, .slice A1 l1.length c1] w fun e w' => ∃ v0_ : Value, e = .returned (v0_) ∧ Kd.V (Kd.int .u32) 22 w' w.heap.size (fun k_ => (w.heap.size ≤ k_)) v0_ r ∧ Below w.heap.size w w' := by
 have HR0 := qaM hr0
 have HC0 := qaM hc0
 clear hr0 hc0
 have HR1 := qaM hr1
 have HC1 := qaM hc1
 clear hr1 hc1
 have HB := qaM (Below.refl w.heap.size w)
 have H : (if 0 ≤ (wrap64 ((l0.length : Int) + (l1.length : Int))) then (if (wrap64 ((l0.length : Int) + (l1.length : Int)) : Int).toNat ≤ 70368744177664 then (spec_magMul.l0 k l0 l1 (List.replicate (wrap64 ((l0.length : Int) + (l1.length : Int)) : Int).toNat 0) (l0.length : Int) 0) else (none)) else (none)) = some r := h
 clear h
 obtain ⟨ji3, hji3⟩ : ∃ j_ : Int, (wrap64 ((l0.length : Int) + (l1.length : Int))) = j_ := ⟨_, rfl⟩
 replace H : (if 0 ≤ (ji3) then (if (ji3 : Int).toNat ≤ 70368744177664 then (spec_magMul.l0 k l0 l1 (List.replicate (ji3 : Int).toNat 0) (l0.length : Int) 0) else (none)) else (none)) = some r := by first | (rw [hji3] at H; exact H) | (simp only [hji3] at H ⊢; exact H)
 have hji3w : (IntKind.i64.wrap ((l0.length : Int) + (l1.length : Int))) = ji3 := (i64_w _).trans hji3
 by_cases c4 : 0 ≤ (ji3)
 ·rw [if_pos c4] at H
  have c4b0 := eq_true c4
  have c4b1 : decide (0 ≤ (ji3)) = true := decide_eq_true c4
  clear c4
  by_cases c5 : (ji3 : Int).toNat ≤ 70368744177664
  ·rw [if_pos c5] at H
   have c5b0 := eq_true c5
   have c5b1 : decide ((ji3 : Int).toNat ≤ 70368744177664) = true := decide_eq_true c5
   clear c5
   obtain ⟨y272, hy272⟩ : ∃ y_ : List Int, y_ = (List.replicate (ji3 : Int).toNat 0) := ⟨_, rfl⟩
   replace H : (spec_magMul.l0 k l0 l1 y272 (l0.length : Int) 0) = some r := by first | (rw [hy272]; with_reducible exact H) | (have H2_ := (Option.bind_some _ _).symm.trans H; rw [hy272]; with_reducible exact H2_) | (have H2_ := (Option.bind_some _ _).symm.trans H; with_reducible exact H2_) | with_reducible exact H | (rw [hy272]; exact H) | exact H
   have Ny272 := qaM hy272
   clear hy272
   have H' := qaM H
   clear H
   go_enter Try.func34, Try.ntmps34
   go_wp2_with (first | ((with_reducible refine gate_dst (N := 14) rfl ?_); refine Kd.R_make (Kd.int .u32) _ 22 rfl (N := 14) rfl 23 _ _ rfl ji3 rfl rfl Try.underlying23 (.int .u32 0) 4 info22 rfl (by decide) (by omega) 0 (ok := fun _ => True) (okp := fun _ => True) rfl (fun _ hk => hk) trivial (qoD zz6_7) (Nat.le_trans (Nat.mul_le_mul_right _ (qoD zz6_7 : ji3.toNat ≤ 70368744177664)) (by omega)) (Below.refl _ _) (Nat.le_refl _) ?_; intro v273 w6 ho7 hb hg_ hnew_; clear hg_ hnew_; (first | rw [← Ny272.out] at ho7 | (simp only [Int.reduceToNat] at ho7; rw [← Ny272.out] at ho7)); have n0_ := qaM (Kd.R_lower (Kd.R_newM (M := fun k_ => (w.heap.size ≤ k_)) ho7 (qbS zz6_0) (fun k_ h_ => h_)) (qbS zz6_0)); have n1_ := qaM (qbT zz6_0 hb); clear HB; have HO274 := n0_; have HB := n1_; clear n0_ n1_; clear hb ho7))
   repeat (go_quiet (first | ((with_reducible refine gate_dst (N := 14) rfl ?_); refine Kd.R_make (Kd.int .u32) _ 22 rfl (N := 14) rfl 23 _ _ rfl ji3 rfl rfl Try.underlying23 (.int .u32 0) 4 info22 rfl (by decide) (by omega) 0 (ok := fun _ => True) (okp := fun _ => True) rfl (fun _ hk => hk) trivial (qoD zz6_7) (Nat.le_trans (Nat.mul_le_mul_right _ (qoD zz6_7 : ji3.toNat ≤ 70368744177664)) (by omega)) (Below.refl _ _) (Nat.le_refl _) ?_; intro v273 w6 ho7 hb hg_ hnew_; clear hg_ hnew_; (first | rw [← Ny272.out] at ho7 | (simp only [Int.reduceToNat] at ho7; rw [← Ny272.out] at ho7)); have n0_ := qaM (Kd.R_lower (Kd.R_newM (M := fun k_ => (w.heap.size ≤ k_)) ho7 (qbS zz6_0) (fun k_ h_ => h_)) (qbS zz6_0)); have n1_ := qaM (qbT zz6_0 hb); clear HB; have HO274 := n0_; have HB := n1_; clear n0_ n1_; clear hb ho7)); try go_wp2_with (first | ((with_reducible refine gate_dst (N := 14) rfl ?_); refine Kd.R_make (Kd.int .u32) _ 22 rfl (N := 14) rfl 23 _ _ rfl ji3 rfl rfl Try.underlying23 (.int .u32 0) 4 info22 rfl (by decide) (by omega) 0 (ok := fun _ => True) (okp := fun _ => True) rfl (fun _ hk => hk) trivial (qoD zz6_7) (Nat.le_trans (Nat.mul_le_mul_right _ (qoD zz6_7 : ji3.toNat ≤ 70368744177664)) (by omega)) (Below.refl _ _) (Nat.le_refl _) ?_; intro v273 w6 ho7 hb hg_ hnew_; clear hg_ hnew_; (first | rw [← Ny272.out] at ho7 | (simp only [Int.reduceToNat] at ho7; rw [← Ny272.out] at ho7)); have n0_ := qaM (Kd.R_lower (Kd.R_newM (M := fun k_ => (w.heap.size ≤ k_)) ho7 (qbS zz6_0) (fun k_ h_ => h_)) (qbS zz6_0)); have n1_ := qaM (qbT zz6_0 hb); clear HB; have HO274 := n0_; have HB := n1_; clear n0_ n1_; clear hb ho7)))
   go_loopg [17] k (fun kq v17 w' => ∃ (x5_1 : List Int) (x17_1 : Int), v17 = .int .i64 x17_1 ∧ Aside0 (spec_magMul.l0 kq l0 l1 x5_1 (l0.length : Int) x17_1 = some r) ∧ Aside0 (kq ≤ k) ∧ Aside0 (Kd.R (Kd.int .u32) 22 w' w.heap.size (fun k_ => (w.heap.size ≤ k_)) v273 x5_1) ∧ Aside0 (Below w.heap.size w w'))
   case atStart => exact ⟨(y272), (0), zz6_15, H', ⟨Nat.le_refl _⟩, ⟨by (with_reducible repeat (first | apply qrA | apply qrN | apply qrD)); exact qrM HO274.out (fun _ hk => hk.1)⟩, ⟨by repeat (first | (with_reducible first | exact HB.out | apply qwA | apply qwN | apply qwD) | exact HB.out)⟩⟩
   case round =>
    clear H'
    try clear c1
    try clear p2
    try clear c3
    try clear c4
    try clear c4b0
    try clear c4b1
    try clear c5
    try clear c5b0
    try clear c5b1
    try clear p6
    obtain ⟨x5_1, x17_1, rfl, HA, HK1, HO_5, HB⟩ := hrel
    cases gk with
    | zero => exact absurd HA.out (by simp [spec_magMul.l0])
    | succ k1 =>
     have H := HA.out
     clear HA
     simp only [spec_magMul.l0] at H
     by_cases c8 : x17_1 < (l0.length : Int)
     ·rw [if_pos c8] at H
      have c8b0 : decide (x17_1 < (l0.length : Int)) = true := decide_eq_true c8
      clear c8
      have H' := qaM H
      clear H
      go_wp2
      repeat (go_quiet (fail); try go_wp2)
      go_loopg [7, 22] k1 (fun kq v7 v22 w' => ∃ (x5_2 : List Int) (x7_2 : Int) (x22_2 : Int), v7 = .int .u64 x7_2 ∧ v22 = .int .i64 x22_2 ∧ Aside0 (spec_magMul.l1 kq l0 l1 x5_2 x17_1 x7_2 (l0.length : Int) x17_1 (l1.length : Int) x22_2 = some r) ∧ Aside0 (kq ≤ k1) ∧ Aside0 (Kd.R (Kd.int .u32) 22 w' w.heap.size (fun k_ => (w.heap.size ≤ k_)) v273 x5_2) ∧ Aside0 (Below w.heap.size w w'))
      case atStart => exact ⟨(x5_1), (0), (0), zz6_15, zz6_15, H', ⟨Nat.le_refl _⟩, ⟨by (with_reducible repeat (first | apply qrA | apply qrN | apply qrD)); exact HO_5.out⟩, ⟨by repeat (first | (with_reducible first | exact HB.out | apply qwA | apply qwN | apply qwD) | exact HB.out)⟩⟩
      case round =>
       clear H'
       try clear c1
       try clear p2
       try clear c3
       try clear c4
       try clear c4b0
       try clear c4b1
       try clear c5
       try clear c5b0
       try clear c5b1
       try clear p6
       try clear c8
       try clear c8b0
       try clear p2
       try clear p6
       obtain ⟨x5_2, x7_2, x22_2, rfl, rfl, HA, HK2, HO_5, HB⟩ := hrel
       cases gk with
       | zero => exact absurd HA.out (by simp [spec_magMul.l1])
       | succ k2 =>
        have H := HA.out
        clear HA
        simp only [spec_magMul.l1] at H
        by_cases c9 : x22_2 < (l1.length : Int)
        ·rw [if_pos c9] at H
         have c9b0 : decide (x22_2 < (l1.length : Int)) = true := decide_eq_true c9
         clear c9
         by_cases c10 : 0 ≤ x17_1
         ·rw [if_pos c10] at H
          have c10b0 : decide (0 ≤ x17_1) = true := decide_eq_true c10
          clear c10
          by_cases c11 : x17_1 < (l0.length : Int)
          ·rw [if_pos c11] at H
           have c11b0 : decide (x17_1 < (l0.length : Int)) = true := decide_eq_true c11
           clear c11
           by_cases c12 : 0 ≤ x22_2
           ·rw [if_pos c12] at H
            have c12b0 : decide (0 ≤ x22_2) = true := decide_eq_true c12
            clear c12
            by_cases c13 : x22_2 < (l1.length : Int)
            ·rw [if_pos c13] at H
             have c13b0 : decide (x22_2 < (l1.length : Int)) = true := decide_eq_true c13
             clear c13
             obtain ⟨ji14, hji14⟩ : ∃ j_ : Int, (wrap64 (x17_1 + x22_2)) = j_ := ⟨_, rfl⟩
             replace H : (if 0 ≤ (ji14) then (if (ji14) < (x5_2.length : Int) then (spec_magMul.l1 k2 l0 l1 (x5_2.set ((ji14) : Int).toNat ((IntKind.u64.wrap (x7_2 + (IntKind.u64.wrap ((IntKind.u64.wrap ((IntKind.u64.wrap (rd l0 x17_1)) * (IntKind.u64.wrap (rd l1 x22_2)))) + (IntKind.u64.wrap (rd x5_2 (ji14))))))) % 4294967296)) x17_1 ((IntKind.u64.wrap (x7_2 + (IntKind.u64.wrap ((IntKind.u64.wrap ((IntKind.u64.wrap (rd l0 x17_1)) * (IntKind.u64.wrap (rd l1 x22_2)))) + (IntKind.u64.wrap (rd x5_2 (ji14))))))) / 4294967296) (l0.length : Int) x17_1 (l1.length : Int) (wrap64 (x22_2 + 1))) else (none)) else (none)) = some r := by first | (rw [hji14] at H; exact H) | (simp only [hji14] at H ⊢; exact H)
             have hji14w : (IntKind.i64.wrap (x17_1 + x22_2)) = ji14 := (i64_w _).trans hji14
             by_cases c15 : 0 ≤ (ji14)
             ·rw [if_pos c15] at H
              have c15b0 : decide (0 ≤ (ji14)) = true := decide_eq_true c15
              clear c15
              by_cases c16 : (ji14) < (x5_2.length : Int)
              ·rw [if_pos c16] at H
               have c16b0 : decide ((ji14) < (x5_2.length : Int)) = true := decide_eq_true c16
               clear c16
               obtain ⟨y281, hy281⟩ : ∃ y_ : List Int, y_ = (x5_2.set ((ji14) : Int).toNat ((IntKind.u64.wrap (x7_2 + (IntKind.u64.wrap ((IntKind.u64.wrap ((IntKind.u64.wrap (rd l0 x17_1)) * (IntKind.u64.wrap (rd l1 x22_2)))) + (IntKind.u64.wrap (rd x5_2 (ji14))))))) % 4294967296)) := ⟨_, rfl⟩
               replace H : (spec_magMul.l1 k2 l0 l1 y281 x17_1 ((IntKind.u64.wrap (x7_2 + (IntKind.u64.wrap ((IntKind.u64.wrap ((IntKind.u64.wrap (rd l0 x17_1)) * (IntKind.u64.wrap (rd l1 x22_2)))) + (IntKind.u64.wrap (rd x5_2 (ji14))))))) / 4294967296) (l0.length : Int) x17_1 (l1.length : Int) (wrap64 (x22_2 + 1))) = some r := by first | (rw [hy281]; with_reducible exact H) | (have H2_ := (Option.bind_some _ _).symm.trans H; rw [hy281]; with_reducible exact H2_) | (have H2_ := (Option.bind_some _ _).symm.trans H; with_reducible exact H2_) | with_reducible exact H | (rw [hy281]; exact H) | exact H
               have Ny281 := qaM hy281
               clear hy281
               have H' := qaM H
               clear H
               have p278 : 0 ≤ (x17_1 : Int) := qoD zz6_7
               have q278 : x17_1 < (l0.length : Int) := qoD zz6_7
               obtain ⟨ad278, e278, hx278_0⟩ := Kd.at_int HR0.out x17_1 p278 q278
               cases e278
               replace hx278_0 := (HB.out.cell (World.block_lt_of_cell? w _ hx278_0)).trans hx278_0
               replace p278 := eq_true p278
               replace q278 := eq_true q278
               have p279 : 0 ≤ (x22_2 : Int) := qoD zz6_7
               have q279 : x22_2 < (l1.length : Int) := qoD zz6_7
               obtain ⟨ad279, e279, hx279_0⟩ := Kd.at_int HR1.out x22_2 p279 q279
               cases e279
               replace hx279_0 := (HB.out.cell (World.block_lt_of_cell? w _ hx279_0)).trans hx279_0
               replace p279 := eq_true p279
               replace q279 := eq_true q279
               obtain ⟨Ao18, co18, eo18⟩ := Kd.R_slice HO_5.out
               subst eo18
               have p280 : 0 ≤ ((ji14) : Int) := qoD zz6_7
               have q280 : (ji14) < (x5_2.length : Int) := qoD zz6_7
               obtain ⟨ad280, e280, hx280_0⟩ := Kd.at_int (qrR HO_5.out).2.2 (ji14) p280 q280
               cases e280
               replace p280 := eq_true p280
               replace q280 := eq_true q280
               have p17 : 0 ≤ ((ji14) : Int) := qoD zz6_7
               have q17 : ((ji14) : Int) < ((x5_2.length : Int) : Int) := qoD zz6_7
               obtain ⟨go17, co17, eo17, gb17, gl17, cl17, HG17⟩ := Kd.R_form HO_5.out (by omega)
               (first | cases eo17 | (injection eo17 with ea_ en_ ec_; (first | subst ea_ | (injection ea_ with ea_; subst ea_)); subst ec_; clear en_))
               have GB17 := qaM gb17
               have GG17 := qaM HG17
               clear gb17 gl17 HG17
               (first | simp only [add_plain] at hx280_0 | skip)
               obtain ⟨hx17_0, hf17_0⟩ := Kd.R_celln 0 HO_5.out ((ji14) : Int) p17 q17
               replace p17 := eq_true p17
               replace q17 := eq_true q17
               have HP19 := Kd.R_putg HO_5.out ((ji14) : Int) ((IntKind.u64.wrap (x7_2 + (IntKind.u64.wrap ((IntKind.u64.wrap ((IntKind.u64.wrap (rd l0 x17_1)) * (IntKind.u64.wrap (rd l1 x22_2)))) + (IntKind.u64.wrap (rd x5_2 (ji14))))))) % 4294967296)
               go_wp2_with (first | ((with_reducible refine gate_store (t := 22) (p := 52) rfl ?_); (try (rw [drewN_self wr]; generalize hq_ : World.drewN wr _ = wr; (try (replace hx17_0 := (congrArg (fun W_ : World => W_.cell? _) hq_).symm.trans hx17_0)); (try (replace hf17_0 := (congrArg (fun W_ : World => W_.frozen? _) hq_).symm.trans hf17_0)); have n0_ := qaM (Kd.R_at hq_ HO_5.out); have n1_ := qaM (below_at hq_ HB.out); clear hq_ HO_5 HB; have HO_5 := n0_; have HB := n1_; clear n0_ n1_; (try (have HP19 := Kd.R_putg HO_5.out ((ji14) : Int) ((IntKind.u64.wrap (x7_2 + (IntKind.u64.wrap ((IntKind.u64.wrap ((IntKind.u64.wrap (rd l0 x17_1)) * (IntKind.u64.wrap (rd l1 x22_2)))) + (IntKind.u64.wrap (rd x5_2 (ji14))))))) % 4294967296))))); refine store_event (t := 22) (p := 52) (v := ?vo_w20) (w1 := (wr.setCell ⟨go17, ((ji14) : Int).toNat, none⟩ (.int .u32 ((IntKind.u64.wrap (x7_2 + (IntKind.u64.wrap ((IntKind.u64.wrap ((IntKind.u64.wrap (rd l0 x17_1)) * (IntKind.u64.wrap (rd l1 x22_2)))) + (IntKind.u64.wrap (rd x5_2 (ji14))))))) % 4294967296)))) ?hg ?ho ?hn ?hr ?_; (case ho => rfl); (case hg => rfl); (case hn => rfl); (case hr => first | (go_simp; done) | (go_simp; rfl)); intro w20 hw; have hg : wr.grownBy w20 (some go17) := (by rw [hw]; exact HP19.2); have hp_ : Kd.R (Kd.int .u32) 22 w20 w.heap.size (fun k_ => (w.heap.size ≤ k_)) (.slice (some ⟨go17, 0, none⟩) x5_2.length co18) y281 := (by rw [hw, Ny281.out]; exact HP19.1); clear HP19; have n0_ := qaM (hp_); have n1_ := qaM ((by rw [hw]; exact qwS (HB.out) GB17.out : Below w.heap.size w w20)); clear HO_5; clear HB; have HO_5 := n0_; have HB := n1_; clear n0_ n1_; clear hg hw hp_))
               repeat (go_quiet (first | ((with_reducible refine gate_store (t := 22) (p := 52) rfl ?_); (try (rw [drewN_self wr]; generalize hq_ : World.drewN wr _ = wr; (try (replace hx17_0 := (congrArg (fun W_ : World => W_.cell? _) hq_).symm.trans hx17_0)); (try (replace hf17_0 := (congrArg (fun W_ : World => W_.frozen? _) hq_).symm.trans hf17_0)); have n0_ := qaM (Kd.R_at hq_ HO_5.out); have n1_ := qaM (below_at hq_ HB.out); clear hq_ HO_5 HB; have HO_5 := n0_; have HB := n1_; clear n0_ n1_; (try (have HP19 := Kd.R_putg HO_5.out ((ji14) : Int) ((IntKind.u64.wrap (x7_2 + (IntKind.u64.wrap ((IntKind.u64.wrap ((IntKind.u64.wrap (rd l0 x17_1)) * (IntKind.u64.wrap (rd l1 x22_2)))) + (IntKind.u64.wrap (rd x5_2 (ji14))))))) % 4294967296))))); refine store_event (t := 22) (p := 52) (v := ?vo_w20) (w1 := (wr.setCell ⟨go17, ((ji14) : Int).toNat, none⟩ (.int .u32 ((IntKind.u64.wrap (x7_2 + (IntKind.u64.wrap ((IntKind.u64.wrap ((IntKind.u64.wrap (rd l0 x17_1)) * (IntKind.u64.wrap (rd l1 x22_2)))) + (IntKind.u64.wrap (rd x5_2 (ji14))))))) % 4294967296)))) ?hg ?ho ?hn ?hr ?_; (case ho => rfl); (case hg => rfl); (case hn => rfl); (case hr => first | (go_simp; done) | (go_simp; rfl)); intro w20 hw; have hg : wr.grownBy w20 (some go17) := (by rw [hw]; exact HP19.2); have hp_ : Kd.R (Kd.int .u32) 22 w20 w.heap.size (fun k_ => (w.heap.size ≤ k_)) (.slice (some ⟨go17, 0, none⟩) x5_2.length co18) y281 := (by rw [hw, Ny281.out]; exact HP19.1); clear HP19; have n0_ := qaM (hp_); have n1_ := qaM ((by rw [hw]; exact qwS (HB.out) GB17.out : Below w.heap.size w w20)); clear HO_5; clear HB; have HO_5 := n0_; have HB := n1_; clear n0_ n1_; clear hg hw hp_)); try go_wp2_with (first | ((with_reducible refine gate_store (t := 22) (p := 52) rfl ?_); (try (rw [drewN_self wr]; generalize hq_ : World.drewN wr _ = wr; (try (replace hx17_0 := (congrArg (fun W_ : World => W_.cell? _) hq_).symm.trans hx17_0)); (try (replace hf17_0 := (congrArg (fun W_ : World => W_.frozen? _) hq_).symm.trans hf17_0)); have n0_ := qaM (Kd.R_at hq_ HO_5.out); have n1_ := qaM (below_at hq_ HB.out); clear hq_ HO_5 HB; have HO_5 := n0_; have HB := n1_; clear n0_ n1_; (try (have HP19 := Kd.R_putg HO_5.out ((ji14) : Int) ((IntKind.u64.wrap (x7_2 + (IntKind.u64.wrap ((IntKind.u64.wrap ((IntKind.u64.wrap (rd l0 x17_1)) * (IntKind.u64.wrap (rd l1 x22_2)))) + (IntKind.u64.wrap (rd x5_2 (ji14))))))) % 4294967296))))); refine store_event (t := 22) (p := 52) (v := ?vo_w20) (w1 := (wr.setCell ⟨go17, ((ji14) : Int).toNat, none⟩ (.int .u32 ((IntKind.u64.wrap (x7_2 + (IntKind.u64.wrap ((IntKind.u64.wrap ((IntKind.u64.wrap (rd l0 x17_1)) * (IntKind.u64.wrap (rd l1 x22_2)))) + (IntKind.u64.wrap (rd x5_2 (ji14))))))) % 4294967296)))) ?hg ?ho ?hn ?hr ?_; (case ho => rfl); (case hg => rfl); (case hn => rfl); (case hr => first | (go_simp; done) | (go_simp; rfl)); intro w20 hw; have hg : wr.grownBy w20 (some go17) := (by rw [hw]; exact HP19.2); have hp_ : Kd.R (Kd.int .u32) 22 w20 w.heap.size (fun k_ => (w.heap.size ≤ k_)) (.slice (some ⟨go17, 0, none⟩) x5_2.length co18) y281 := (by rw [hw, Ny281.out]; exact HP19.1); clear HP19; have n0_ := qaM (hp_); have n1_ := qaM ((by rw [hw]; exact qwS (HB.out) GB17.out : Below w.heap.size w w20)); clear HO_5; clear HB; have HO_5 := n0_; have HB := n1_; clear n0_ n1_; clear hg hw hp_)))
               go_roundg k2
               case measure => have := HK1.out; have := HK2.out; omega
               case rel => exact ⟨(y281), ((IntKind.u64.wrap (x7_2 + (IntKind.u64.wrap ((IntKind.u64.wrap ((IntKind.u64.wrap (rd l0 x17_1)) * (IntKind.u64.wrap (rd l1 x22_2)))) + (IntKind.u64.wrap (rd x5_2 (ji14))))))) / 4294967296), (wrap64 (x22_2 + 1)), (by first | rfl | (simp; done) | (simp only [← hji14] <;> (first | rfl | simp)) | (simp [*]; done)), zz6_15, H', ⟨by have := HK1.out; have := HK2.out; omega⟩, ⟨by (with_reducible repeat (first | apply qrA | apply qrN | apply qrD)); exact HO_5.out⟩, ⟨by repeat (first | (with_reducible first | exact HB.out | apply qwA | apply qwN | apply qwD) | exact HB.out)⟩⟩
              ·rw [if_neg c16] at H
               exact absurd H (by simp)
             ·rw [if_neg c15] at H
              exact absurd H (by simp)
            ·rw [if_neg c13] at H
             exact absurd H (by simp)
           ·rw [if_neg c12] at H
            exact absurd H (by simp)
          ·rw [if_neg c11] at H
           exact absurd H (by simp)
         ·rw [if_neg c10] at H
          exact absurd H (by simp)
        ·rw [if_neg c9] at H
         have c9b0 : decide (x22_2 < (l1.length : Int)) = false := decide_eq_false c9
         clear c9
         obtain ⟨ji21, hji21⟩ : ∃ j_ : Int, (wrap64 (x17_1 + (l1.length : Int))) = j_ := ⟨_, rfl⟩
         replace H : (if 0 ≤ (ji21) then (if (ji21) < (x5_2.length : Int) then (spec_magMul.l0 k2 l0 l1 (x5_2.set ((ji21) : Int).toNat ((x7_2) % 4294967296)) (l0.length : Int) (wrap64 (x17_1 + 1))) else (none)) else (none)) = some r := by first | (rw [hji21] at H; exact H) | (simp only [hji21] at H ⊢; exact H)
         have hji21w : (IntKind.i64.wrap (x17_1 + (l1.length : Int))) = ji21 := (i64_w _).trans hji21
         by_cases c22 : 0 ≤ (ji21)
         ·rw [if_pos c22] at H
          have c22b0 : decide (0 ≤ (ji21)) = true := decide_eq_true c22
          clear c22
          by_cases c23 : (ji21) < (x5_2.length : Int)
          ·rw [if_pos c23] at H
           have c23b0 : decide ((ji21) < (x5_2.length : Int)) = true := decide_eq_true c23
           clear c23
           obtain ⟨y282, hy282⟩ : ∃ y_ : List Int, y_ = (x5_2.set ((ji21) : Int).toNat ((x7_2) % 4294967296)) := ⟨_, rfl⟩
           replace H : (spec_magMul.l0 k2 l0 l1 y282 (l0.length : Int) (wrap64 (x17_1 + 1))) = some r := by first | (rw [hy282]; with_reducible exact H) | (have H2_ := (Option.bind_some _ _).symm.trans H; rw [hy282]; with_reducible exact H2_) | (have H2_ := (Option.bind_some _ _).symm.trans H; with_reducible exact H2_) | with_reducible exact H | (rw [hy282]; exact H) | exact H
           have Ny282 := qaM hy282
           clear hy282
           have H' := qaM H
           clear H
           have p24 : 0 ≤ ((ji21) : Int) := qoD zz6_7
           have q24 : ((ji21) : Int) < ((x5_2.length : Int) : Int) := qoD zz6_7
           obtain ⟨go24, co24, eo24, gb24, gl24, cl24, HG24⟩ := Kd.R_form HO_5.out (by omega)
           (first | cases eo24 | (injection eo24 with ea_ en_ ec_; (first | subst ea_ | (injection ea_ with ea_; subst ea_)); subst ec_; clear en_))
           have GB24 := qaM gb24
           have GG24 := qaM HG24
           clear gb24 gl24 HG24
           obtain ⟨hx24_0, hf24_0⟩ := Kd.R_celln 0 HO_5.out ((ji21) : Int) p24 q24
           replace p24 := eq_true p24
           replace q24 := eq_true q24
           have HP25 := Kd.R_putg HO_5.out ((ji21) : Int) ((x7_2) % 4294967296)
           go_wp2_with (first | ((with_reducible refine gate_store (t := 22) (p := 63) rfl ?_); (try (rw [drewN_self wr]; generalize hq_ : World.drewN wr _ = wr; (try (replace hx24_0 := (congrArg (fun W_ : World => W_.cell? _) hq_).symm.trans hx24_0)); (try (replace hf24_0 := (congrArg (fun W_ : World => W_.frozen? _) hq_).symm.trans hf24_0)); have n0_ := qaM (Kd.R_at hq_ HO_5.out); have n1_ := qaM (below_at hq_ HB.out); clear hq_ HO_5 HB; have HO_5 := n0_; have HB := n1_; clear n0_ n1_; (try (have HP25 := Kd.R_putg HO_5.out ((ji21) : Int) ((x7_2) % 4294967296))))); refine store_event (t := 22) (p := 63) (v := ?vo_w26) (w1 := (wr.setCell ⟨go24, ((ji21) : Int).toNat, none⟩ (.int .u32 ((x7_2) % 4294967296)))) ?hg ?ho ?hn ?hr ?_; (case ho => rfl); (case hg => rfl); (case hn => rfl); (case hr => first | (go_simp; done) | (go_simp; rfl)); intro w26 hw; have hg : wr.grownBy w26 (some go24) := (by rw [hw]; exact HP25.2); have hp_ : Kd.R (Kd.int .u32) 22 w26 w.heap.size (fun k_ => (w.heap.size ≤ k_)) (.slice (some ⟨go24, 0, none⟩) x5_2.length co24) y282 := (by rw [hw, Ny282.out]; exact HP25.1); clear HP25; have n0_ := qaM (hp_); have n1_ := qaM ((by rw [hw]; exact qwS (HB.out) GB24.out : Below w.heap.size w w26)); clear HO_5; clear HB; have HO_5 := n0_; have HB := n1_; clear n0_ n1_; clear hg hw hp_))
           repeat (go_quiet (first | ((with_reducible refine gate_store (t := 22) (p := 63) rfl ?_); (try (rw [drewN_self wr]; generalize hq_ : World.drewN wr _ = wr; (try (replace hx24_0 := (congrArg (fun W_ : World => W_.cell? _) hq_).symm.trans hx24_0)); (try (replace hf24_0 := (congrArg (fun W_ : World => W_.frozen? _) hq_).symm.trans hf24_0)); have n0_ := qaM (Kd.R_at hq_ HO_5.out); have n1_ := qaM (below_at hq_ HB.out); clear hq_ HO_5 HB; have HO_5 := n0_; have HB := n1_; clear n0_ n1_; (try (have HP25 := Kd.R_putg HO_5.out ((ji21) : Int) ((x7_2) % 4294967296))))); refine store_event (t := 22) (p := 63) (v := ?vo_w26) (w1 := (wr.setCell ⟨go24, ((ji21) : Int).toNat, none⟩ (.int .u32 ((x7_2) % 4294967296)))) ?hg ?ho ?hn ?hr ?_; (case ho => rfl); (case hg => rfl); (case hn => rfl); (case hr => first | (go_simp; done) | (go_simp; rfl)); intro w26 hw; have hg : wr.grownBy w26 (some go24) := (by rw [hw]; exact HP25.2); have hp_ : Kd.R (Kd.int .u32) 22 w26 w.heap.size (fun k_ => (w.heap.size ≤ k_)) (.slice (some ⟨go24, 0, none⟩) x5_2.length co24) y282 := (by rw [hw, Ny282.out]; exact HP25.1); clear HP25; have n0_ := qaM (hp_); have n1_ := qaM ((by rw [hw]; exact qwS (HB.out) GB24.out : Below w.heap.size w w26)); clear HO_5; clear HB; have HO_5 := n0_; have HB := n1_; clear n0_ n1_; clear hg hw hp_)); try go_wp2_with (first | ((with_reducible refine gate_store (t := 22) (p := 63) rfl ?_); (try (rw [drewN_self wr]; generalize hq_ : World.drewN wr _ = wr; (try (replace hx24_0 := (congrArg (fun W_ : World => W_.cell? _) hq_).symm.trans hx24_0)); (try (replace hf24_0 := (congrArg (fun W_ : World => W_.frozen? _) hq_).symm.trans hf24_0)); have n0_ := qaM (Kd.R_at hq_ HO_5.out); have n1_ := qaM (below_at hq_ HB.out); clear hq_ HO_5 HB; have HO_5 := n0_; have HB := n1_; clear n0_ n1_; (try (have HP25 := Kd.R_putg HO_5.out ((ji21) : Int) ((x7_2) % 4294967296))))); refine store_event (t := 22) (p := 63) (v := ?vo_w26) (w1 := (wr.setCell ⟨go24, ((ji21) : Int).toNat, none⟩ (.int .u32 ((x7_2) % 4294967296)))) ?hg ?ho ?hn ?hr ?_; (case ho => rfl); (case hg => rfl); (case hn => rfl); (case hr => first | (go_simp; done) | (go_simp; rfl)); intro w26 hw; have hg : wr.grownBy w26 (some go24) := (by rw [hw]; exact HP25.2); have hp_ : Kd.R (Kd.int .u32) 22 w26 w.heap.size (fun k_ => (w.heap.size ≤ k_)) (.slice (some ⟨go24, 0, none⟩) x5_2.length co24) y282 := (by rw [hw, Ny282.out]; exact HP25.1); clear HP25; have n0_ := qaM (hp_); have n1_ := qaM ((by rw [hw]; exact qwS (HB.out) GB24.out : Below w.heap.size w w26)); clear HO_5; clear HB; have HO_5 := n0_; have HB := n1_; clear n0_ n1_; clear hg hw hp_)))
           go_roundg k2
           case measure => have := HK1.out; have := HK2.out; omega
           case rel => exact ⟨(y282), (wrap64 (x17_1 + 1)), zz6_15, H', ⟨by have := HK1.out; have := HK2.out; omega⟩, ⟨by (with_reducible repeat (first | apply qrA | apply qrN | apply qrD)); exact HO_5.out⟩, ⟨by repeat (first | (with_reducible first | exact HB.out | apply qwA | apply qwN | apply qwD) | exact HB.out)⟩⟩
          ·rw [if_neg c23] at H
           exact absurd H (by simp)
         ·rw [if_neg c22] at H
          exact absurd H (by simp)
     ·rw [if_neg c8] at H
      have c8b0 : decide (x17_1 < (l0.length : Int)) = false := decide_eq_false c8
      clear c8
      replace H := Option.bind_eq_some_iff.mp H
      obtain ⟨t275, A270, H⟩ := H
      replace H : (some t275) = some r := H
      have A27 := qaM A270
      clear A270
      obtain rfl := Option.some.inj H
      obtain ⟨Ao28, co28, eo28⟩ := Kd.R_slice HO_5.out
      subst eo28
      go_wp2_with (first | (go_at_call 42; (with_reducible refine (spec_trim.calls k1 (fun k_ => some k_ = (.slice Ao28 x5_1.length co28 : Value).ownBlock) _ _ x5_1 t275 _ ?side1 A27.out).mono ?_); (case side1 => exact qrV (Kd.R_tight rfl (HO_5.out))); rintro e w29 ⟨v276, rfl, ho0, hb⟩; have n0_ := qaM (qrB zz6_16 hb); have n1_ := qaM (qvL (qvM (ok' := fun k_ => (w.heap.size ≤ k_)) ho0 (fun k_ hk_ => Or.elim hk_ (fun hs_ => ((HO_5.out).1 k_ hs_.symm)) (fun hn_ => (Nat.le_trans (qbS zz6_0) hn_)))) (qbS zz6_0)); have n2_ := qaM (qbT zz6_0 hb); clear HO_5; clear HB; have HO_5 := n0_; have HO277 := n1_; have HB := n2_; clear n0_ n1_ n2_; (try clear hb); (try clear hb2); (try clear hk); (try clear hi); (try clear ho0)))
      repeat (go_quiet (first | (go_at_call 42; (with_reducible refine (spec_trim.calls k1 (fun k_ => some k_ = (.slice Ao28 x5_1.length co28 : Value).ownBlock) _ _ x5_1 t275 _ ?side1 A27.out).mono ?_); (case side1 => exact qrV (Kd.R_tight rfl (HO_5.out))); rintro e w29 ⟨v276, rfl, ho0, hb⟩; have n0_ := qaM (qrB zz6_16 hb); have n1_ := qaM (qvL (qvM (ok' := fun k_ => (w.heap.size ≤ k_)) ho0 (fun k_ hk_ => Or.elim hk_ (fun hs_ => ((HO_5.out).1 k_ hs_.symm)) (fun hn_ => (Nat.le_trans (qbS zz6_0) hn_)))) (qbS zz6_0)); have n2_ := qaM (qbT zz6_0 hb); clear HO_5; clear HB; have HO_5 := n0_; have HO277 := n1_; have HB := n2_; clear n0_ n1_ n2_; (try clear hb); (try clear hb2); (try clear hk); (try clear hi); (try clear ho0))); try go_wp2_with (first | (go_at_call 42; (with_reducible refine (spec_trim.calls k1 (fun k_ => some k_ = (.slice Ao28 x5_1.length co28 : Value).ownBlock) _ _ x5_1 t275 _ ?side1 A27.out).mono ?_); (case side1 => exact qrV (Kd.R_tight rfl (HO_5.out))); rintro e w29 ⟨v276, rfl, ho0, hb⟩; have n0_ := qaM (qrB zz6_16 hb); have n1_ := qaM (qvL (qvM (ok' := fun k_ => (w.heap.size ≤ k_)) ho0 (fun k_ hk_ => Or.elim hk_ (fun hs_ => ((HO_5.out).1 k_ hs_.symm)) (fun hn_ => (Nat.le_trans (qbS zz6_0) hn_)))) (qbS zz6_0)); have n2_ := qaM (qbT zz6_0 hb); clear HO_5; clear HB; have HO_5 := n0_; have HO277 := n1_; have HB := n2_; clear n0_ n1_ n2_; (try clear hb); (try clear hb2); (try clear hk); (try clear hi); (try clear ho0))))
      go_ret
      exact ⟨_, by first | rfl | (simp [errW_none, errW_some] <;> rfl) | (simp only [← hji3]; first | rfl | (simp [errW_none, errW_some] <;> rfl)) | (simp [*, errW_none, errW_some] <;> rfl), by (with_reducible repeat (first | apply qvA | apply qvN | apply qvD)); exact HO277.out, by repeat (first | (with_reducible first | exact HB.out | apply qwA | apply qwN | apply qwD) | exact HB.out)⟩
  ·rw [if_neg c5] at H
   exact absurd H (by simp)
 ·rw [if_neg c4] at H
  exact absurd H (by simp)

/-! ### spec_WideMul: function 16 -/
def spec_WideMul.f (k : Nat) (a0_0 : Bool) (l0_1 : List Int) (a1_0 : Bool) (l1_1 : List Int) : Option (Bool × List Int) := (spec_magMul.f k l0_1 l1_1).bind fun t286 => ((spec_wide.f k (a0_0 != a1_0) t286).bind fun bt289 => (some (bt289.1, bt289.2)))
theorem spec_WideMul.mono : ∀ a0 a1 a2 a3 k, LeO (spec_WideMul.f k a0 a1 a2 a3) (spec_WideMul.f (k + 1) a0 a1 a2 a3) := by
 intro a0 a1 a2 a3 k
 unfold spec_WideMul.f
 repeat' first
   | (with_reducible exact spec_magMul.mono _ _ _)
   | (with_reducible exact spec_wide.mono _ _ _)
   | (with_reducible exact LeO.refl _)
   | (with_reducible exact LeO.none _)
   | (with_reducible refine LeO.ite ?_ ?_)
   | (with_reducible refine LeO.bind ?_ (fun _ => ?_))
   | exact spec_magMul.mono _ _ _
   | exact spec_wide.mono _ _ _
   | exact LeO.none _
   | refine LeO.ite ?_ ?_
   | refine LeO.bind ?_ (fun _ => ?_)
def spec_WideMul.T1 : Bool × List (List Nat × List Nat) := (true, [([], []), ([0], [0]), ([], []), ([2], [2]), ([1, 3], [1, 3]), ([], []), ([5], [5]), ([], []), ([7], [7]), ([6, 8], [6, 8]), ([4, 9, 9], [4, 9]), ([10, 10, 0, 1, 2, 3, 4, 5, 6, 7, 8, 9, 10], [10])])
def spec_WideMul.B1 : List Nat := [0, 1, 0, 4, 15, 0, 32, 0, 128, 480, 1023, 2047]
theorem spec_WideMul.tab1 : rtab .any (opsOf Try.f16 1) = spec_WideMul.T1 := by kernel_rfl
theorem spec_WideMul.bits1 : waitsOk spec_WideMul.T1.2 spec_WideMul.B1 = true := by kernel_rfl
set_option maxHeartbeats 8000000 in
set_option maxRecDepth 100000 in
theorem spec_WideMul.calls (k : Nat) (a0_0 : Bool) (A0_1 : Option Addr) (c0_1 : Nat) (l0_1 : List Int) (a1_0 : Bool) (A1_1 : Option Addr) (c1_1 : Nat) (l1_1 : List Int) (r1 : Bool) (r2 : List Int) (w : World) (hr0_1 : Kd.C (Kd.int .u32) w A0_1 l0_1.length l0_1) (hc0_1 : l0_1.length ≤ c0_1) (hr1_1 : Kd.C (Kd.int .u32) w A1_1 l1_1.length l1_1) (hc1_1 : l1_1.length ≤ c1_1) (h : spec_WideMul.f k a0_0 l0_1 a1_0 l1_1 = some (r1, r2)) :
  Calls Try.prog 16 #[.agg #[.bool a0_0, .slice A0_1 l0_1.length c0_1], .agg #[.bool a1_0, .slice A1_1 l1_1.length c1_1]] w fun e w' => ∃ v1_ : Value, e = .returned (.agg #[.bool r1, v1_]) ∧ Kd.V (Kd.int .u32) 22 w' w.heap.size (fun k_ => (w.heap.size ≤ k_)) v1_ r2 ∧ Below w.heap.size w w' := by
 have hu25 := Try.underlying25
 have HR0_1 := qaM hr0_1
 have HC0_1 := qaM hc0_1
 clear hr0_1 hc0_1
 have HR1_1 := qaM hr1_1
 have HC1_1 := qaM hc1_1
 clear hr1_1 hc1_1
 have HB := qaM (Below.refl w.heap.size w)
 have H : ((spec_magMul.f k l0_1 l1_1).bind fun t286 => ((spec_wide.f k (a0_0 != a1_0) t286).bind fun bt289 => (some (bt289.1, bt289.2)))) = some (r1, r2) := h
 clear h
 replace H := Option.bind_eq_some_iff.mp H
 obtain ⟨t286, A30, H⟩ := H
 replace H : ((spec_wide.f k (a0_0 != a1_0) t286).bind fun bt289 => (some (bt289.1, bt289.2))) = some (r1, r2) := H
 have A3 := qaM A30
 clear A30
 replace H := Option.bind_eq_some_iff.mp H
 obtain ⟨⟨t289, t290⟩, A40, H⟩ := H
 replace H : (some (t289, t290)) = some (r1, r2) := H
 have A4 := qaM A40
 clear A40
 simp only [Option.some.injEq, Prod.mk.injEq] at H
 obtain ⟨rfl, rfl⟩ := H
 go_enter Try.func16, Try.ntmps16
 try go_wp2_with (first | ((with_reducible refine gate_dst (N := 2) rfl ?_); refine box_event ?hg (N := 2) ?hd (cs := #[.bool a0_0, .slice A0_1 l0_1.length c0_1]) (t := 25) ?hr ?_; (case hd => rfl); (case hg => rfl); (case hr => first | (go_simp; done) | (go_simp; rfl)); intro gb283 hg w5 hbox hb; have n0_ := qaM (qbT zz6_0 hb); have n1_ := qaM (hbox); have n2_ := qaM ((by rw [hg]; exact (qbS zz6_0) : w.heap.size ≤ gb283)); have n3_ := qaM ((by rw [hg]; exact (qbS zz6_0) : w.heap.size ≤ gb283)); clear HB; have HB := n0_; have BK283 := n1_; have GW283 := n2_; have GE283 := n3_; clear n0_ n1_ n2_ n3_; clear hb hbox hg) | ((with_reducible refine gate_dst (N := 3) rfl ?_); refine box_event ?hg (N := 3) ?hd (cs := #[.bool a1_0, .slice A1_1 l1_1.length c1_1]) (t := 25) ?hr ?_; (case hd => rfl); (case hg => rfl); (case hr => first | (go_simp; done) | (go_simp; rfl)); intro gb284 hg w6 hbox hb; have n0_ := qaM (qbB (g := gb283) (o := .cells #[.bool a0_0, .slice A0_1 l0_1.length c0_1] 25 (0, 0)) zz6_6 hb); have n1_ := qaM (qbT zz6_14 hb); have n2_ := qaM (hbox); have n3_ := qaM ((by rw [hg]; exact (qbS zz6_14) : w.heap.size ≤ gb284)); have n4_ := qaM ((by rw [hg]; exact (qbS zz6_14) : w.heap.size ≤ gb284)); have n5_ := qaM ((by rw [hg]; exact qnL (qbL (g := gb283) (o := .cells #[.bool a0_0, .slice A0_1 l0_1.length c0_1] 25 (0, 0)) zz6_6) : gb283 ≠ gb284)); have n6_ := qaM ((by rw [hg]; exact qnG (qbL (g := gb283) (o := .cells #[.bool a0_0, .slice A0_1 l0_1.length c0_1] 25 (0, 0)) zz6_6) : gb284 ≠ gb283)); clear BK283; clear HB; have BK283 := n0_; have HB := n1_; have BK284 := n2_; have GW284 := n3_; have GE284 := n4_; have NB283_284 := n5_; have NB284_283 := n6_; clear n0_ n1_ n2_ n3_ n4_ n5_ n6_; clear hb hbox hg) | ((with_reducible refine gate_dst (N := 4) rfl ?_); refine box_event ?hg (N := 4) ?hd (cs := #[.bool false, .slice none 0 0]) (t := 25) ?hr ?_; (case hd => rfl); (case hg => rfl); (case hr => first | (go_simp; done) | (go_simp; rfl)); intro gb285 hg w7 hbox hb; have n0_ := qaM (qbB (g := gb283) (o := .cells #[.bool a0_0, .slice A0_1 l0_1.length c0_1] 25 (0, 0)) zz6_6 hb); have n1_ := qaM (qbB (g := gb284) (o := .cells #[.bool a1_0, .slice A1_1 l1_1.length c1_1] 25 (0, 0)) zz6_8 hb); have n2_ := qaM (qbT zz6_12 hb); have n3_ := qaM (hbox); have n4_ := qaM ((by rw [hg]; exact (qbS zz6_12) : w.heap.size ≤ gb285)); have n5_ := qaM ((by rw [hg]; exact (qbS zz6_12) : w.heap.size ≤ gb285)); have n6_ := qaM ((by rw [hg]; exact qnL (qbL (g := gb283) (o := .cells #[.bool a0_0, .slice A0_1 l0_1.length c0_1] 25 (0, 0)) zz6_6) : gb283 ≠ gb285)); have n7_ := qaM ((by rw [hg]; exact qnG (qbL (g := gb283) (o := .cells #[.bool a0_0, .slice A0_1 l0_1.length c0_1] 25 (0, 0)) zz6_6) : gb285 ≠ gb283)); have n8_ := qaM ((by rw [hg]; exact qnL (qbL (g := gb284) (o := .cells #[.bool a1_0, .slice A1_1 l1_1.length c1_1] 25 (0, 0)) zz6_8) : gb284 ≠ gb285)); have n9_ := qaM ((by rw [hg]; exact qnG (qbL (g := gb284) (o := .cells #[.bool a1_0, .slice A1_1 l1_1.length c1_1] 25 (0, 0)) zz6_8) : gb285 ≠ gb284)); clear BK283; clear BK284; clear HB; have BK283 := n0_; have BK284 := n1_; have HB := n2_; have BK285 := n3_; have GW285 := n4_; have GE285 := n5_; have NB283_285 := n6_; have NB285_283 := n7_; have NB284_285 := n8_; have NB285_284 := n9_; clear n0_ n1_ n2_ n3_ n4_ n5_ n6_ n7_ n8_ n9_; clear hb hbox hg))
 have n0_ := qaM (qbD BK283.out)
 have n1_ := qaM (qbD BK284.out)
 have n2_ := qaM (qbD BK285.out)
 have n3_ := qaM (qwD HB.out)
 clear BK283
 clear BK284
 clear BK285
 clear HB
 have BK283 := n0_
 have BK284 := n1_
 have BK285 := n2_
 have HB := n3_
 clear n0_ n1_ n2_ n3_
 refine start_ (n := 12) (S := fun w' => w'.cell? ⟨gb283, 0, none⟩ = some (.bool a0_0) ∧ w'.cell? ⟨gb283, 1, none⟩ = some (.slice A0_1 l0_1.length c0_1) ∧ w'.cell? ⟨gb284, 0, none⟩ = some (.bool a1_0) ∧ w'.cell? ⟨gb284, 1, none⟩ = some (.slice A1_1 l1_1.length c1_1)) (ds := []) #[false, false, false, false, false, false, false, false, false, false, false, false] zz6_9 rfl rfl ⟨(qbC BK283.out 0).trans rfl, (qbC BK283.out 1).trans rfl, (qbC BK284.out 0).trans rfl, (qbC BK284.out 1).trans rfl⟩ (fun hHeld => ?_); refine with_tabW spec_WideMul.tab1 spec_WideMul.bits1 (fun HT_ HW_ => ?_)
 generalize w7.drew = w8 at BK283 BK284 BK285 HB hHeld ⊢
 refine pure_ (i := 0) (N := some 5) (v := ?_) (a' := ?_) #[true, false, false, false, false, false, false, false, false, false, false, false] rfl rfl (any_of HT_.out zz6_9) (fun _ _ _ h => h) (Or.inl ⟨by rfl, ?_⟩) ?_ ?_
 rotate_left
 ·intro w'
  go_simp
  with_reducible rfl
 rotate_left
 ·simp only [Act.put, qsA, qsZ, qsS, i64_w, i32_w]
  rfl
 refine pure_ (i := 2) (N := some 7) (v := ?_) (a' := ?_) #[true, false, true, false, false, false, false, false, false, false, false, false] rfl rfl (any_of HT_.out zz6_9) (fun _ _ _ h => h) (Or.inl ⟨by rfl, ?_⟩) ?_ ?_
 rotate_left
 ·intro w'
  go_simp
  with_reducible rfl
 rotate_left
 ·simp only [Act.put, qsA, qsZ, qsS, i64_w, i32_w]
  rfl
 refine pure_ (i := 5) (N := some 10) (v := ?_) (a' := ?_) #[true, false, true, false, false, true, false, false, false, false, false, false] rfl rfl (any_of HT_.out zz6_9) (fun _ _ _ h => h) (Or.inl ⟨by rfl, ?_⟩) ?_ ?_
 rotate_left
 ·intro w'
  go_simp
  with_reducible rfl
 rotate_left
 ·simp only [Act.put, qsA, qsZ, qsS, i64_w, i32_w]
  rfl
 refine pure_ (i := 7) (N := some 12) (v := ?_) (a' := ?_) #[true, false, true, false, false, true, false, true, false, false, false, false] rfl rfl (any_of HT_.out zz6_9) (fun _ _ _ h => h) (Or.inl ⟨by rfl, ?_⟩) ?_ ?_
 rotate_left
 ·intro w'
  go_simp
  with_reducible rfl
 rotate_left
 ·simp only [Act.put, qsA, qsZ, qsS, i64_w, i32_w]
  rfl
 refine take_ (i := 1) (N := some 6) (v := ?_) (a' := ?_) #[true, true, true, false, false, true, false, true, false, false, false, false] rfl rfl (take_ofW HT_.out HW_.out zz6_9) (fun _ _ _ h => h) (Or.inl ⟨by rfl, ?_⟩) hHeld ?_ ?_
 rotate_left
 ·rintro w' ⟨s0, s1, s2, s3⟩
  go_simp
  with_reducible rfl
 rotate_left
 ·simp only [Act.put, qsA, qsZ, qsS, i64_w, i32_w]
  rfl
 refine take_ (i := 3) (N := some 8) (v := ?_) (a' := ?_) #[true, true, true, true, false, true, false, true, false, false, false, false] rfl rfl (take_ofW HT_.out HW_.out zz6_9) (fun _ _ _ h => h) (Or.inl ⟨by rfl, ?_⟩) hHeld ?_ ?_
 rotate_left
 ·rintro w' ⟨s0, s1, s2, s3⟩
  go_simp
  with_reducible rfl
 rotate_left
 ·simp only [Act.put, qsA, qsZ, qsS, i64_w, i32_w]
  rfl
 refine pure_ (i := 4) (N := some 9) (v := ?_) (a' := ?_) #[true, true, true, true, true, true, false, true, false, false, false, false] rfl rfl (any_of HT_.out zz6_9) (fun _ _ _ h => h) (Or.inl ⟨by rfl, ?_⟩) ?_ ?_
 rotate_left
 ·intro w'
  go_simp
  with_reducible rfl
 rotate_left
 ·simp only [Act.put, qsA, qsZ, qsS, i64_w, i32_w]
  rfl
 refine take_ (i := 6) (N := some 11) (v := ?_) (a' := ?_) #[true, true, true, true, true, true, true, true, false, false, false, false] rfl rfl (take_ofW HT_.out HW_.out zz6_9) (fun _ _ _ h => h) (Or.inl ⟨by rfl, ?_⟩) hHeld ?_ ?_
 rotate_left
 ·rintro w' ⟨s0, s1, s2, s3⟩
  go_simp
  with_reducible rfl
 rotate_left
 ·simp only [Act.put, qsA, qsZ, qsS, i64_w, i32_w]
  rfl
 refine take_ (i := 8) (N := some 13) (v := ?_) (a' := ?_) #[true, true, true, true, true, true, true, true, true, false, false, false] rfl rfl (take_ofW HT_.out HW_.out zz6_9) (fun _ _ _ h => h) (Or.inl ⟨by rfl, ?_⟩) hHeld ?_ ?_
 rotate_left
 ·rintro w' ⟨s0, s1, s2, s3⟩
  go_simp
  with_reducible rfl
 rotate_left
 ·simp only [Act.put, qsA, qsZ, qsS, i64_w, i32_w]
  rfl
 refine one_ (i := 9) (N := some 14) #[true, true, true, true, true, true, true, true, true, true, false, false] rfl rfl (one_of HT_.out zz6_9) (by decide) (fun K hK => ?_)
 refine goes_ Try.func34 zz6_9 rfl #[.slice A0_1 l0_1.length c0_1, .slice A1_1 l1_1.length c1_1] (by rfl) rfl rfl zz6_1 ?_
 with_reducible refine (spec_magMul.calls k _ _ l0_1 _ _ l1_1 t286 _ ?side1 ?side2 ?side3 ?side4 A3.out).mono ?_
 (case side1 => repeat (first | exact (Kd.C_below HR0_1.out HB.out) | (with_reducible refine Kd.C_alloc ?_ _) | (with_reducible refine Kd.C_drewN ?_ _) | (with_reducible refine Kd.C_drew ?_)))
 (case side2 => exact HC0_1.out)
 (case side3 => repeat (first | exact (Kd.C_below HR1_1.out HB.out) | (with_reducible refine Kd.C_alloc ?_ _) | (with_reducible refine Kd.C_drewN ?_ _) | (with_reducible refine Kd.C_drew ?_)))
 (case side4 => exact HC1_1.out)
 rintro e w9 ⟨v287, rfl, ho0, hb⟩
 refine ⟨_, rfl, ?_⟩
 have n0_ := qaM (qvL (qvM (ok' := fun k_ => (w.heap.size ≤ k_) ∧ k_ ≠ gb283 ∧ k_ ≠ gb284 ∧ k_ ≠ gb285) ho0 (fun k_ hk_ => ⟨(Nat.le_trans (qbS zz6_5) hk_), (qfB (g := gb283) (o := .cells #[.bool a0_0, .slice A0_1 l0_1.length c0_1] 25 (0, 0)) zz6_6 k_ hk_), (qfB (g := gb284) (o := .cells #[.bool a1_0, .slice A1_1 l1_1.length c1_1] 25 (0, 0)) zz6_8 k_ hk_), (qfB (g := gb285) (o := .cells #[.bool false, .slice none 0 0] 25 (0, 0)) zz6_13 k_ hk_)⟩)) (qbS zz6_5))
 have n1_ := qaM (qbB (g := gb283) (o := .cells #[.bool a0_0, .slice A0_1 l0_1.length c0_1] 25 (0, 0)) zz6_6 hb)
 have n2_ := qaM (qbB (g := gb284) (o := .cells #[.bool a1_0, .slice A1_1 l1_1.length c1_1] 25 (0, 0)) zz6_8 hb)
 have n3_ := qaM (qbB (g := gb285) (o := .cells #[.bool false, .slice none 0 0] 25 (0, 0)) zz6_13 hb)
 have n4_ := qaM (qbT zz6_5 hb)
 clear BK283
 clear BK284
 clear BK285
 clear HB
 have HO288 := n0_
 have BK283 := n1_
 have BK284 := n2_
 have BK285 := n3_
 have HB := n4_
 clear n0_ n1_ n2_ n3_ n4_
 (try clear hb)
 (try clear hb2)
 (try clear hk)
 (try clear hi)
 (try clear ho0)
 obtain ⟨Ao10, co10, eo10⟩ := Kd.V_slice HO288.out
 (first | subst eo10 | (injection eo10 with f1_ f2_ f3_; have f4_ := f1_.symm; have f5_ := f3_.symm; clear f1_ f2_ f3_; subst f4_; subst f5_))
 refine hK.out _ _ ⟨(qbC BK283.out 0).trans rfl, (qbC BK283.out 1).trans rfl, (qbC BK284.out 0).trans rfl, (qbC BK284.out 1).trans rfl⟩ (fun hHeld => ?_)
 clear hK K
 refine norm_ (a' := ?_) ?_ ?_
 rotate_left
 ·show Act.put _ (some 14) _ = _
  simp only [Act.put, qsA, qsZ, qsS, i64_w, i32_w]
  rfl
 refine one_ (i := 10) (N := some 15) #[true, true, true, true, true, true, true, true, true, true, true, false] rfl rfl (one_of HT_.out zz6_9) (by decide) (fun K hK => ?_)
 refine goes_ Try.func27 zz6_9 rfl #[.bool (a0_0 != a1_0), .slice Ao10 t286.length co10] (by rfl) rfl rfl zz6_1 ?_
 with_reducible refine (spec_wide.calls k (a0_0 != a1_0) (fun k_ => ((w.heap.size ≤ k_) ∧ (k_ ≠ gb283 ∧ (k_ ≠ gb284 ∧ k_ ≠ gb285)))) _ _ t286 t289 t290 _ ?side1 A4.out).mono ?_
 (case side1 => exact HO288.out)
 rintro e w11 ⟨v291, rfl, ho0, hb⟩
 refine ⟨_, rfl, ?_⟩
 have n0_ := qaM (qvB (by (with_reducible repeat (first | apply qvA | apply qvN | apply qvD)); exact HO288.out) hb)
 have n1_ := qaM (qvL (qvM (ok' := fun k_ => (w.heap.size ≤ k_) ∧ k_ ≠ gb283 ∧ k_ ≠ gb284 ∧ k_ ≠ gb285) ho0 (fun k_ hk_ => ⟨Or.elim hk_ (fun hs_ => hs_.1) (fun hn_ => (Nat.le_trans (qbS zz6_5) hn_)), Or.elim hk_ (fun hs_ => hs_.2.1) (fun hn_ => (qfB (g := gb283) (o := .cells #[.bool a0_0, .slice A0_1 l0_1.length c0_1] 25 (0, 0)) zz6_6 k_ hn_)), Or.elim hk_ (fun hs_ => hs_.2.2.1) (fun hn_ => (qfB (g := gb284) (o := .cells #[.bool a1_0, .slice A1_1 l1_1.length c1_1] 25 (0, 0)) zz6_8 k_ hn_)), Or.elim hk_ (fun hs_ => hs_.2.2.2) (fun hn_ => (qfB (g := gb285) (o := .cells #[.bool false, .slice none 0 0] 25 (0, 0)) zz6_13 k_ hn_))⟩)) (qbS zz6_5))
 have n2_ := qaM (qbB (g := gb283) (o := .cells #[.bool a0_0, .slice A0_1 l0_1.length c0_1] 25 (0, 0)) zz6_6 hb)
 have n3_ := qaM (qbB (g := gb284) (o := .cells #[.bool a1_0, .slice A1_1 l1_1.length c1_1] 25 (0, 0)) zz6_8 hb)
 have n4_ := qaM (qbB (g := gb285) (o := .cells #[.bool false, .slice none 0 0] 25 (0, 0)) zz6_13 hb)
 have n5_ := qaM (qbT zz6_5 hb)
 clear HO288
 clear BK283
 clear BK284
 clear BK285
 clear HB
 have HO288 := n0_
 have HO292 := n1_
 have BK283 := n2_
 have BK284 := n3_
 have BK285 := n4_
 have HB := n5_
 clear n0_ n1_ n2_ n3_ n4_ n5_
 (try clear hb)
 (try clear hb2)
 (try clear hk)
 (try clear hi)
 (try clear ho0)
 obtain ⟨Ao13, co13, eo13⟩ := Kd.V_slice HO292.out
 (first | subst eo13 | (injection eo13 with f1_ f2_ f3_; have f4_ := f1_.symm; have f5_ := f3_.symm; clear f1_ f2_ f3_; subst f4_; subst f5_))
 refine hK.out _ _ ⟨(qbC BK283.out 0).trans rfl, (qbC BK283.out 1).trans rfl, (qbC BK284.out 0).trans rfl, (qbC BK284.out 1).trans rfl⟩ (fun hHeld => ?_)
 clear hK K
 refine norm_ (a' := ?_) ?_ ?_
 rotate_left
 ·show Act.put _ (some 15) _ = _
  simp only [Act.put, qsA, qsZ, qsS, i64_w, i32_w]
  rfl
 refine one_ (i := 11) (N := none) #[true, true, true, true, true, true, true, true, true, true, true, true] rfl rfl (one_of HT_.out zz6_9) (by decide) (fun K hK => ?_)
 have hs12 : w11.cell? ⟨gb285, 0, none⟩ = some (.bool false) := (qbC BK285.out 0).trans rfl
 have hfs12 := blk_frozen BK285.out 0
 have hns12_0 := NB283_285.out
 have hns12_1 := NB284_285.out
 have hms12_0 := NB285_283.out
 have hms12_1 := NB285_284.out
 have hs14 : w11.cell? ⟨gb285, 1, none⟩ = some (.slice none 0 0) := (qbC BK285.out 1).trans rfl
 have hfs14 := blk_frozen BK285.out 1
 have hns14_0 := NB283_285.out
 have hns14_1 := NB284_285.out
 have hms14_0 := NB285_283.out
 have hms14_1 := NB285_284.out
 refine skip_ (w1 := ?_) (by rfl) rfl ?_ ?_
 rotate_left
 ·go_simp
  rfl
 refine hK.out _ _ ⟨((cell_far (p := ⟨gb285, _, none⟩) NB283_285.out _).trans (((cell_far (p := ⟨gb285, _, none⟩) NB283_285.out _).trans (hHeld.1)))), ((cell_far (p := ⟨gb285, _, none⟩) NB283_285.out _).trans (((cell_far (p := ⟨gb285, _, none⟩) NB283_285.out _).trans (hHeld.2.1)))), ((cell_far (p := ⟨gb285, _, none⟩) NB284_285.out _).trans (((cell_far (p := ⟨gb285, _, none⟩) NB284_285.out _).trans (hHeld.2.2.1)))), ((cell_far (p := ⟨gb285, _, none⟩) NB284_285.out _).trans (((cell_far (p := ⟨gb285, _, none⟩) NB284_285.out _).trans (hHeld.2.2.2))))⟩ (fun hHeld => ?_)
 clear hK K
 refine done_ (done_of HT_.out zz6_9) ?_
 try go_wp2
 refine bodyPost_ret (results_cell_row rfl _ _ gb285 25 #[.bool t289, .slice Ao13 t290.length co13] (0, 0) _ rfl (by (with_reducible repeat (first | refine qbN ?_ _ | refine qbD ?_ | refine qbA ?_ _)); refine qbP (cs := #[.bool t289, .slice none 0 0]) ?_ 1 _ rfl; (with_reducible repeat (first | refine qbN ?_ _ | refine qbD ?_ | refine qbA ?_ _)); refine qbP (cs := #[.bool false, .slice none 0 0]) ?_ 0 _ rfl; (with_reducible repeat (first | refine qbN ?_ _ | refine qbD ?_ | refine qbA ?_ _)); exact BK285.out) Try.underlying25 rfl zz6_9) rfl ?_
 exact ⟨_, by first | rfl | (simp [errW_none, errW_some] <;> rfl) | (simp [*, errW_none, errW_some] <;> rfl), by (with_reducible repeat (first | apply qvA | apply qvN | apply qvD)); exact qvM (qvF (p := ⟨gb285, 1, none⟩) (qvF (p := ⟨gb285, 0, none⟩) (qvM HO292.out (fun k_ hk => (⟨hk, hk.2.2.2⟩ : _ ∧ k_ ≠ gb285))) (fun _ hk => hk.2) (.bool t289)) (fun _ hk => hk.2) (.slice Ao13 t290.length co13)) (fun _ hk => hk.1.1), by repeat (first | (with_reducible first | exact HB.out | apply qwA | apply qwN | apply qwD | refine qwS ?_ GE283.out | refine qwS ?_ GE284.out | refine qwS ?_ GE285.out) | exact HB.out)⟩

/-! ### spec_WideInt: function 17 -/
def spec_WideInt.f (k : Nat) (a0 : Int) : Option (Bool × List Int) := if a0 < 0 then ((spec_wide.f k true (([(IntKind.u64.wrap (-(IntKind.u64.wrap (a0)))) % 4294967296, ((IntKind.u64.wrap (-(IntKind.u64.wrap (a0)))) / 4294967296) % 4294967296] : List Int))).bind fun bt297 => (some (bt297.1, bt297.2))) else ((spec_wide.f k false (([(IntKind.u64.wrap (a0)) % 4294967296, ((IntKind.u64.wrap (a0)) / 4294967296) % 4294967296] : List Int))).bind fun bt304 => (some (bt304.1, bt304.2)))
theorem spec_WideInt.mono : ∀ a0 k, LeO (spec_WideInt.f k a0) (spec_WideInt.f (k + 1) a0) := by
 intro a0 k
 unfold spec_WideInt.f
 repeat' first
   | (with_reducible exact spec_wide.mono _ _ _)
   | (with_reducible exact LeO.refl _)
   | (with_reducible exact LeO.none _)
   | (with_reducible refine LeO.ite ?_ ?_)
   | (with_reducible refine LeO.bind ?_ (fun _ => ?_))
   | exact spec_wide.mono _ _ _
   | exact LeO.none _
   | refine LeO.ite ?_ ?_
   | refine LeO.bind ?_ (fun _ => ?_)
set_option maxHeartbeats 8000000 in
set_option maxRecDepth 100000 in
theorem spec_WideInt.calls (k : Nat) (a0 : Int) (r1 : Bool) (r2 : List Int) (w : World) (h : spec_WideInt.f k a0 = some (r1, r2)) :
  Calls Try.prog 17 #[.int .i64 a0] w fun e w' => ∃ v1_ : Value, e = .returned (.agg #[.bool r1, v1_]) ∧ Kd.V (Kd.int .u32) 22 w' w.heap.size (fun k_ => (w.heap.size ≤ k_)) v1_ r2 ∧ Below w.heap.size w w' := by
 have hu25 := Try.underlying25
 have HB := qaM (Below.refl w.heap.size w)
 have H : (if a0 < 0 then ((spec_wide.f k true (([(IntKind.u64.wrap (-(IntKind.u64.wrap (a0)))) % 4294967296, ((IntKind.u64.wrap (-(IntKind.u64.wrap (a0)))) / 4294967296) % 4294967296] : List Int))).bind fun bt297 => (some (bt297.1, bt297.2))) else ((spec_wide.f k false (([(IntKind.u64.wrap (a0)) % 4294967296, ((IntKind.u64.wrap (a0)) / 4294967296) % 4294967296] : List Int))).bind fun bt304 => (some (bt304.1, bt304.2)))) = some (r1, r2) := h
 clear h
 by_cases c2 : a0 < 0
 ·rw [if_pos c2] at H
  have c2b0 : decide (a0 < 0) = true := decide_eq_true c2
  clear c2
  obtain ⟨y294, hy294⟩ : ∃ y_ : List Int, y_ = (([(IntKind.u64.wrap (-(IntKind.u64.wrap (a0)))) % 4294967296, ((IntKind.u64.wrap (-(IntKind.u64.wrap (a0)))) / 4294967296) % 4294967296] : List Int)) := ⟨_, rfl⟩
  replace H : ((spec_wide.f k true y294).bind fun bt297 => (some (bt297.1, bt297.2))) = some (r1, r2) := by first | (rw [hy294]; with_reducible exact H) | (have H2_ := (Option.bind_some _ _).symm.trans H; rw [hy294]; with_reducible exact H2_) | (have H2_ := (Option.bind_some _ _).symm.trans H; with_reducible exact H2_) | with_reducible exact H | (rw [hy294]; exact H) | exact H
  have Ny294 := qaM hy294
  clear hy294
  replace H := Option.bind_eq_some_iff.mp H
  obtain ⟨⟨t297, t298⟩, A30, H⟩ := H
  replace H : (some (t297, t298)) = some (r1, r2) := H
  have A3 := qaM A30
  clear A30
  simp only [Option.some.injEq, Prod.mk.injEq] at H
  obtain ⟨rfl, rfl⟩ := H
  go_enter Try.func17, Try.ntmps17
  go_wp2_with (first | ((with_reducible refine gate_dst (N := 2) rfl ?_); refine box_event ?hg (N := 2) ?hd (cs := #[.bool false, .slice none 0 0]) (t := 25) ?hr ?_; (case hd => rfl); (case hg => rfl); (case hr => first | (go_simp; done) | (go_simp; rfl)); intro gb293 hg w4 hbox hb; have n0_ := qaM (qbT zz6_0 hb); have n1_ := qaM (hbox); have n2_ := qaM ((by rw [hg]; exact (qbS zz6_0) : w.heap.size ≤ gb293)); have n3_ := qaM ((by rw [hg]; exact (qbS zz6_0) : w.heap.size ≤ gb293)); clear HB; have HB := n0_; have BK293 := n1_; have GW293 := n2_; have GE293 := n3_; clear n0_ n1_ n2_ n3_; clear hb hbox hg) | ((with_reducible refine gate_dst (N := 17) rfl ?_); refine Kd.R_lit (Kd.int .u32) _ 22 ?hg (N := 17) ?hd (xs := ([(IntKind.u64.wrap (-(IntKind.u64.wrap (a0)))) % 4294967296, ((IntKind.u64.wrap (-(IntKind.u64.wrap (a0)))) / 4294967296) % 4294967296] : List Int)) (inner := [.int .u32 ((IntKind.u64.wrap (-(IntKind.u64.wrap (a0)))) % 4294967296), .int .u32 (((IntKind.u64.wrap (-(IntKind.u64.wrap (a0)))) / 4294967296) % 4294967296)]) (ok := fun _ => True) (okp := fun _ => True) ?hr ?hp (fun _ hk => hk) trivial (Below.refl _ _) (Nat.le_refl _) (by simp) ?_; (case hd => rfl); (case hg => rfl); (case hr => first | (go_simp; done) | (go_simp; rfl)); (case hp => exact (Reps.one (show Kd.M (Kd.int .u32) _ _ _ ((IntKind.u64.wrap (-(IntKind.u64.wrap (a0)))) % 4294967296) [.int .u32 ((IntKind.u64.wrap (-(IntKind.u64.wrap (a0)))) % 4294967296)] from rfl) (Reps.one (show Kd.M (Kd.int .u32) _ _ _ (((IntKind.u64.wrap (-(IntKind.u64.wrap (a0)))) / 4294967296) % 4294967296) [.int .u32 (((IntKind.u64.wrap (-(IntKind.u64.wrap (a0)))) / 4294967296) % 4294967296)] from rfl) (Reps.none _ _)))); intro v295 w5 ho6 hb hg_ hnew_; clear hg_ hnew_; (first | rw [← Ny294.out] at ho6 | (simp only [Int.reduceToNat] at ho6; rw [← Ny294.out] at ho6)); have n0_ := qaM (Kd.R_lower (Kd.R_newM (M := fun k_ => (w.heap.size ≤ k_)) ho6 (qbS zz6_2) (fun k_ h_ => h_)) (qbS zz6_2)); have n1_ := qaM (qbB (g := gb293) (o := .cells #[.bool false, .slice none 0 0] 25 (0, 0)) zz6_10 hb); have n2_ := qaM (qbT zz6_2 hb); clear BK293; clear HB; have HO296 := n0_; have BK293 := n1_; have HB := n2_; clear n0_ n1_ n2_; clear hb ho6; obtain ⟨Ao7, co7, eo7⟩ := Kd.R_slice HO296.out; subst eo7) | ((with_reducible refine gate_callee (f := 27) rfl ?_); refine goesL_ (some 18) rfl rfl Try.func27 zz6_9 rfl #[.bool true, .slice Ao7 y294.length co7] rfl zz6_1 ?_; (with_reducible refine (spec_wide.calls k true (fun k_ => some k_ = (.slice Ao7 y294.length co7 : Value).ownBlock) _ _ y294 t297 t298 _ ?side1 A3.out).mono ?_); (case side1 => exact qrV (Kd.R_tight rfl (qrT (HO296.out) BK293.out (by decide)))); rintro e w8 ⟨v299, rfl, ho0, hb⟩; refine ⟨_, rfl, ?_⟩; have n0_ := qaM (qrB (by (with_reducible repeat (first | apply qrA | apply qrN | apply qrD)); exact HO296.out) hb); have n1_ := qaM (qvL (qvM (ok' := fun k_ => (w.heap.size ≤ k_) ∧ k_ ≠ gb293) ho0 (fun k_ hk_ => ⟨Or.elim hk_ (fun hs_ => ((qrT (HO296.out) BK293.out (by decide)).1 k_ hs_.symm).1.1) (fun hn_ => (Nat.le_trans (qbS zz6_2) hn_)), Or.elim hk_ (fun hs_ => ((qrT (HO296.out) BK293.out (by decide)).1 k_ hs_.symm).2) (fun hn_ => (qfB (g := gb293) (o := .cells #[.bool false, .slice none 0 0] 25 (0, 0)) zz6_10 k_ hn_))⟩)) (qbS zz6_2)); have n2_ := qaM (qbB (g := gb293) (o := .cells #[.bool false, .slice none 0 0] 25 (0, 0)) zz6_10 hb); have n3_ := qaM (qbT zz6_2 hb); clear HO296; clear BK293; clear HB; have HO296 := n0_; have HO300 := n1_; have BK293 := n2_; have HB := n3_; clear n0_ n1_ n2_ n3_; (try clear hb); (try clear hb2); (try clear hk); (try clear hi); (try clear ho0); have hcz9_0 : w8.cell? ⟨gb293, 0, none⟩ = some (.bool false) := (qbC BK293.out 0).trans rfl; have hcz9_1 : w8.cell? ⟨gb293, 1, none⟩ = some (.slice none 0 0) := (qbC BK293.out 1).trans rfl; have hfz9_0 := blk_frozen BK293.out 0; have hfz9_1 := blk_frozen BK293.out 1; obtain ⟨Ao10, co10, eo10⟩ := Kd.V_slice HO300.out; subst eo10))
  refine bodyPost_ret (results_cell_row rfl _ _ gb293 25 #[.bool t297, .slice Ao10 t298.length co10] (0, 0) _ rfl (by (with_reducible repeat (first | refine qbN ?_ _ | refine qbD ?_ | refine qbA ?_ _)); refine qbP (cs := #[.bool t297, .slice none 0 0]) ?_ 1 _ rfl; (with_reducible repeat (first | refine qbN ?_ _ | refine qbD ?_ | refine qbA ?_ _)); refine qbP (cs := #[.bool false, .slice none 0 0]) ?_ 0 _ rfl; (with_reducible repeat (first | refine qbN ?_ _ | refine qbD ?_ | refine qbA ?_ _)); exact BK293.out) Try.underlying25 rfl zz6_9) rfl ?_
  exact ⟨_, by first | rfl | (simp [errW_none, errW_some] <;> rfl) | (simp [*, errW_none, errW_some] <;> rfl), by (with_reducible repeat (first | apply qvA | apply qvN | apply qvD)); exact qvM (qvF (p := ⟨gb293, 1, none⟩) (qvF (p := ⟨gb293, 0, none⟩) (qvM HO300.out (fun k_ hk => (⟨hk, hk.2⟩ : _ ∧ k_ ≠ gb293))) (fun _ hk => hk.2) (.bool t297)) (fun _ hk => hk.2) (.slice Ao10 t298.length co10)) (fun _ hk => hk.1.1), by repeat (first | (with_reducible first | exact HB.out | apply qwA | apply qwN | apply qwD | refine qwS ?_ GE293.out) | exact HB.out)⟩
 ·rw [if_neg c2] at H
  have c2b0 : decide (a0 < 0) = false := decide_eq_false c2
  clear c2
  obtain ⟨y301, hy301⟩ : ∃ y_ : List Int, y_ = (([(IntKind.u64.wrap (a0)) % 4294967296, ((IntKind.u64.wrap (a0)) / 4294967296) % 4294967296] : List Int)) := ⟨_, rfl⟩
  replace H : ((spec_wide.f k false y301).bind fun bt304 => (some (bt304.1, bt304.2))) = some (r1, r2) := by first | (rw [hy301]; with_reducible exact H) | (have H2_ := (Option.bind_some _ _).symm.trans H; rw [hy301]; with_reducible exact H2_) | (have H2_ := (Option.bind_some _ _).symm.trans H; with_reducible exact H2_) | with_reducible exact H | (rw [hy301]; exact H) | exact H
  have Ny301 := qaM hy301
  clear hy301
  replace H := Option.bind_eq_some_iff.mp H
  obtain ⟨⟨t304, t305⟩, A110, H⟩ := H
  replace H : (some (t304, t305)) = some (r1, r2) := H
  have A11 := qaM A110
  clear A110
  simp only [Option.some.injEq, Prod.mk.injEq] at H
  obtain ⟨rfl, rfl⟩ := H
  go_enter Try.func17, Try.ntmps17
  go_wp2_with (first | ((with_reducible refine gate_dst (N := 2) rfl ?_); refine box_event ?hg (N := 2) ?hd (cs := #[.bool false, .slice none 0 0]) (t := 25) ?hr ?_; (case hd => rfl); (case hg => rfl); (case hr => first | (go_simp; done) | (go_simp; rfl)); intro gb293 hg w12 hbox hb; have n0_ := qaM (qbT zz6_0 hb); have n1_ := qaM (hbox); have n2_ := qaM ((by rw [hg]; exact (qbS zz6_0) : w.heap.size ≤ gb293)); have n3_ := qaM ((by rw [hg]; exact (qbS zz6_0) : w.heap.size ≤ gb293)); clear HB; have HB := n0_; have BK293 := n1_; have GW293 := n2_; have GE293 := n3_; clear n0_ n1_ n2_ n3_; clear hb hbox hg) | ((with_reducible refine gate_dst (N := 17) rfl ?_); refine Kd.R_lit (Kd.int .u32) _ 22 ?hg (N := 17) ?hd (xs := ([(IntKind.u64.wrap (a0)) % 4294967296, ((IntKind.u64.wrap (a0)) / 4294967296) % 4294967296] : List Int)) (inner := [.int .u32 ((IntKind.u64.wrap (a0)) % 4294967296), .int .u32 (((IntKind.u64.wrap (a0)) / 4294967296) % 4294967296)]) (ok := fun _ => True) (okp := fun _ => True) ?hr ?hp (fun _ hk => hk) trivial (Below.refl _ _) (Nat.le_refl _) (by simp) ?_; (case hd => rfl); (case hg => rfl); (case hr => first | (go_simp; done) | (go_simp; rfl)); (case hp => exact (Reps.one (show Kd.M (Kd.int .u32) _ _ _ ((IntKind.u64.wrap (a0)) % 4294967296) [.int .u32 ((IntKind.u64.wrap (a0)) % 4294967296)] from rfl) (Reps.one (show Kd.M (Kd.int .u32) _ _ _ (((IntKind.u64.wrap (a0)) / 4294967296) % 4294967296) [.int .u32 (((IntKind.u64.wrap (a0)) / 4294967296) % 4294967296)] from rfl) (Reps.none _ _)))); intro v302 w13 ho14 hb hg_ hnew_; clear hg_ hnew_; (first | rw [← Ny301.out] at ho14 | (simp only [Int.reduceToNat] at ho14; rw [← Ny301.out] at ho14)); have n0_ := qaM (Kd.R_lower (Kd.R_newM (M := fun k_ => (w.heap.size ≤ k_)) ho14 (qbS zz6_2) (fun k_ h_ => h_)) (qbS zz6_2)); have n1_ := qaM (qbB (g := gb293) (o := .cells #[.bool false, .slice none 0 0] 25 (0, 0)) zz6_10 hb); have n2_ := qaM (qbT zz6_2 hb); clear BK293; clear HB; have HO303 := n0_; have BK293 := n1_; have HB := n2_; clear n0_ n1_ n2_; clear hb ho14; obtain ⟨Ao15, co15, eo15⟩ := Kd.R_slice HO303.out; subst eo15) | ((with_reducible refine gate_callee (f := 27) rfl ?_); refine goesL_ (some 18) rfl rfl Try.func27 zz6_9 rfl #[.bool false, .slice Ao15 y301.length co15] rfl zz6_1 ?_; (with_reducible refine (spec_wide.calls k false (fun k_ => some k_ = (.slice Ao15 y301.length co15 : Value).ownBlock) _ _ y301 t304 t305 _ ?side1 A11.out).mono ?_); (case side1 => exact qrV (Kd.R_tight rfl (qrT (HO303.out) BK293.out (by decide)))); rintro e w16 ⟨v306, rfl, ho0, hb⟩; refine ⟨_, rfl, ?_⟩; have n0_ := qaM (qrB (by (with_reducible repeat (first | apply qrA | apply qrN | apply qrD)); exact HO303.out) hb); have n1_ := qaM (qvL (qvM (ok' := fun k_ => (w.heap.size ≤ k_) ∧ k_ ≠ gb293) ho0 (fun k_ hk_ => ⟨Or.elim hk_ (fun hs_ => ((qrT (HO303.out) BK293.out (by decide)).1 k_ hs_.symm).1.1) (fun hn_ => (Nat.le_trans (qbS zz6_2) hn_)), Or.elim hk_ (fun hs_ => ((qrT (HO303.out) BK293.out (by decide)).1 k_ hs_.symm).2) (fun hn_ => (qfB (g := gb293) (o := .cells #[.bool false, .slice none 0 0] 25 (0, 0)) zz6_10 k_ hn_))⟩)) (qbS zz6_2)); have n2_ := qaM (qbB (g := gb293) (o := .cells #[.bool false, .slice none 0 0] 25 (0, 0)) zz6_10 hb); have n3_ := qaM (qbT zz6_2 hb); clear HO303; clear BK293; clear HB; have HO303 := n0_; have HO307 := n1_; have BK293 := n2_; have HB := n3_; clear n0_ n1_ n2_ n3_; (try clear hb); (try clear hb2); (try clear hk); (try clear hi); (try clear ho0); have hcz17_0 : w16.cell? ⟨gb293, 0, none⟩ = some (.bool false) := (qbC BK293.out 0).trans rfl; have hcz17_1 : w16.cell? ⟨gb293, 1, none⟩ = some (.slice none 0 0) := (qbC BK293.out 1).trans rfl; have hfz17_0 := blk_frozen BK293.out 0; have hfz17_1 := blk_frozen BK293.out 1; obtain ⟨Ao18, co18, eo18⟩ := Kd.V_slice HO307.out; subst eo18))
  refine bodyPost_ret (results_cell_row rfl _ _ gb293 25 #[.bool t304, .slice Ao18 t305.length co18] (0, 0) _ rfl (by (with_reducible repeat (first | refine qbN ?_ _ | refine qbD ?_ | refine qbA ?_ _)); refine qbP (cs := #[.bool t304, .slice none 0 0]) ?_ 1 _ rfl; (with_reducible repeat (first | refine qbN ?_ _ | refine qbD ?_ | refine qbA ?_ _)); refine qbP (cs := #[.bool false, .slice none 0 0]) ?_ 0 _ rfl; (with_reducible repeat (first | refine qbN ?_ _ | refine qbD ?_ | refine qbA ?_ _)); exact BK293.out) Try.underlying25 rfl zz6_9) rfl ?_
  exact ⟨_, by first | rfl | (simp [errW_none, errW_some] <;> rfl) | (simp [*, errW_none, errW_some] <;> rfl), by (with_reducible repeat (first | apply qvA | apply qvN | apply qvD)); exact qvM (qvF (p := ⟨gb293, 1, none⟩) (qvF (p := ⟨gb293, 0, none⟩) (qvM HO307.out (fun k_ hk => (⟨hk, hk.2⟩ : _ ∧ k_ ≠ gb293))) (fun _ hk => hk.2) (.bool t304)) (fun _ hk => hk.2) (.slice Ao18 t305.length co18)) (fun _ hk => hk.1.1), by repeat (first | (with_reducible first | exact HB.out | apply qwA | apply qwN | apply qwD | refine qwS ?_ GE293.out) | exact HB.out)⟩


/-! ### impl_MulChecked: function 18 -/
def impl_MulChecked.f (a0 : Int) (a1 : Int) : Option (Int × Bool) := (utils_Mul64.f a0 a1).bind fun bt308 => (some (bt308.1, bt308.2))
set_option maxHeartbeats 8000000 in
set_option maxRecDepth 100000 in
theorem impl_MulChecked.calls (a0 : Int) (a1 : Int) (r1 : Int) (r2 : Bool) (w : World) (h : impl_MulChecked.f a0 a1 = some (r1, r2)) :
  Calls Try.prog 18 #[.int .i64 a0, .int .i64 a1] w fun e w' => e = .returned (.tuple #[.int .i64 r1, .bool r2]) ∧ Drawn0 w w' := by
 have H : ((utils_Mul64.f a0 a1).bind fun bt308 => (some (bt308.1, bt308.2))) = some (r1, r2) := h
 clear h
 replace H := Option.bind_eq_some_iff.mp H
 obtain ⟨⟨t308, t309⟩, A30, H⟩ := H
 replace H : (some (t308, t309)) = some (r1, r2) := H
 have A3 := qaM A30
 clear A30
 simp only [Option.some.injEq, Prod.mk.injEq] at H
 obtain ⟨rfl, rfl⟩ := H
 go_enter Try.func18, Try.ntmps18
 go_wp2_with (first | ((with_reducible refine gate_callee (f := 35) rfl ?_); refine goesL_ (some 8) rfl rfl Try.func35 zz6_9 rfl #[.int .i64 a0, .int .i64 a1] rfl zz6_1 ?_; (with_reducible refine (utils_Mul64.calls a0 a1 t308 t309 _ A3.out).mono ?_); rintro e w' ⟨rfl, ⟨nd, rfl⟩⟩; refine ⟨_, rfl, ?_⟩))
 go_ret2
 exact ⟨by first | rfl | (simp; done) | (simp [*]; done), by repeat (first | exact Drawn0.refl _ | apply Drawn0.step)⟩

/-! ### laws_FnMulChecked: function 5 -/
def laws_FnMulChecked.f (k : Nat) (a0 : Int) (a1 : Int) : Option (Bool) := (spec_WideInt.f k a0).bind fun bt310 => ((spec_WideInt.f k a1).bind fun bt314 => ((spec_WideMul.f k bt310.1 bt310.2 bt314.1 bt314.2).bind fun bt318 => ((spec_ToWords.f k bt318.1 bt318.2 1).bind fun bt322 => ((impl_MulChecked.f a0 a1).bind fun bt326 => ((impl_MulChecked.f 2 3).bind fun bt328 => (if (bt326.2 == bt322.2) = true then (if bt322.2 = true then (if 0 < (bt322.1.length : Int) then (if bt326.1 = (wrap64 (rd bt322.1 0)) then (if bt328.2 = true then (some (bt328.1 == 6)) else (some false)) else (some false)) else (none)) else (if bt328.2 = true then (some (bt328.1 == 6)) else (some false))) else (some false)))))))
theorem laws_FnMulChecked.mono : ∀ a0 a1 k, LeO (laws_FnMulChecked.f k a0 a1) (laws_FnMulChecked.f (k + 1) a0 a1) := by
 intro a0 a1 k
 unfold laws_FnMulChecked.f
 repeat' first
   | (with_reducible exact spec_ToWords.mono _ _ _ _)
   | (with_reducible exact spec_WideInt.mono _ _)
   | (with_reducible exact spec_WideMul.mono _ _ _ _ _)
   | (with_reducible exact LeO.refl _)
   | (with_reducible exact LeO.none _)
   | (with_reducible refine LeO.ite ?_ ?_)
   | (with_reducible refine LeO.bind ?_ (fun _ => ?_))
   | exact spec_ToWords.mono _ _ _ _
   | exact spec_WideInt.mono _ _
   | exact spec_WideMul.mono _ _ _ _ _
   | exact LeO.none _
   | refine LeO.ite ?_ ?_
   | refine LeO.bind ?_ (fun _ => ?_)
set_option maxHeartbeats 8000000 in
set_option maxRecDepth 100000 in
theorem laws_FnMulChecked.calls (k : Nat) (a0 : Int) (a1 : Int) (r : Bool) (w : World) (h : laws_FnMulChecked.f k a0 a1 = some r) :
  Calls Try.prog 5 #[.int .i64 a0, .int .i64 a1] w fun e w' => e = .returned (.bool r) ∧ Below w.heap.size w w' := by
 have HB := qaM (Below.refl w.heap.size w)
 have H : ((spec_WideInt.f k a0).bind fun bt310 => ((spec_WideInt.f k a1).bind fun bt314 => ((spec_WideMul.f k bt310.1 bt310.2 bt314.1 bt314.2).bind fun bt318 => ((spec_ToWords.f k bt318.1 bt318.2 1).bind fun bt322 => ((impl_MulChecked.f a0 a1).bind fun bt326 => ((impl_MulChecked.f 2 3).bind fun bt328 => (if (bt326.2 == bt322.2) = true then (if bt322.2 = true then (if 0 < (bt322.1.length : Int) then (if bt326.1 = (wrap64 (rd bt322.1 0)) then (if bt328.2 = true then (some (bt328.1 == 6)) else (some false)) else (some false)) else (none)) else (if bt328.2 = true then (some (bt328.1 == 6)) else (some false))) else (some false)))))))) = some r := h
 clear h
 replace H := Option.bind_eq_some_iff.mp H
 obtain ⟨⟨t310, t311⟩, A30, H⟩ := H
 replace H : ((spec_WideInt.f k a1).bind fun bt314 => ((spec_WideMul.f k t310 t311 bt314.1 bt314.2).bind fun bt318 => ((spec_ToWords.f k bt318.1 bt318.2 1).bind fun bt322 => ((impl_MulChecked.f a0 a1).bind fun bt326 => ((impl_MulChecked.f 2 3).bind fun bt328 => (if (bt326.2 == bt322.2) = true then (if bt322.2 = true then (if 0 < (bt322.1.length : Int) then (if bt326.1 = (wrap64 (rd bt322.1 0)) then (if bt328.2 = true then (some (bt328.1 == 6)) else (some false)) else (some false)) else (none)) else (if bt328.2 = true then (some (bt328.1 == 6)) else (some false))) else (some false))))))) = some r := H
 have A3 := qaM A30
 clear A30
 replace H := Option.bind_eq_some_iff.mp H
 obtain ⟨⟨t314, t315⟩, A40, H⟩ := H
 replace H : ((spec_WideMul.f k t310 t311 t314 t315).bind fun bt318 => ((spec_ToWords.f k bt318.1 bt318.2 1).bind fun bt322 => ((impl_MulChecked.f a0 a1).bind fun bt326 => ((impl_MulChecked.f 2 3).bind fun bt328 => (if (bt326.2 == bt322.2) = true then (if bt322.2 = true then (if 0 < (bt322.1.length : Int) then (if bt326.1 = (wrap64 (rd bt322.1 0)) then (if bt328.2 = true then (some (bt328.1 == 6)) else (some false)) else (some false)) else (none)) else (if bt328.2 = true then (some (bt328.1 == 6)) else (some false))) else (some false)))))) = some r := H
 have A4 := qaM A40
 clear A40
 replace H := Option.bind_eq_some_iff.mp H
 obtain ⟨⟨t318, t319⟩, A50, H⟩ := H
 replace H : ((spec_ToWords.f k t318 t319 1).bind fun bt322 => ((impl_MulChecked.f a0 a1).bind fun bt326 => ((impl_MulChecked.f 2 3).bind fun bt328 => (if (bt326.2 == bt322.2) = true then (if bt322.2 = true then (if 0 < (bt322.1.length : Int) then (if bt326.1 = (wrap64 (rd bt322.1 0)) then (if bt328.2 = true then (some (bt328.1 == 6)) else (some false)) else (some false)) else (none)) else (if bt328.2 = true then (some (bt328.1 == 6)) else (some false))) else (some false))))) = some r := H
 have A5 := qaM A50
 clear A50
 replace H := Option.bind_eq_some_iff.mp H
 obtain ⟨⟨t322, t325⟩, A60, H⟩ := H
 replace H : ((impl_MulChecked.f a0 a1).bind fun bt326 => ((impl_MulChecked.f 2 3).bind fun bt328 => (if (bt326.2 == t325) = true then (if t325 = true then (if 0 < (t322.length : Int) then (if bt326.1 = (wrap64 (rd t322 0)) then (if bt328.2 = true then (some (bt328.1 == 6)) else (some false)) else (some false)) else (none)) else (if bt328.2 = true then (some (bt328.1 == 6)) else (some false))) else (some false)))) = some r := H
 have A6 := qaM A60
 clear A60
 replace H := Option.bind_eq_some_iff.mp H
 obtain ⟨⟨t326, t327⟩, A70, H⟩ := H
 replace H : ((impl_MulChecked.f 2 3).bind fun bt328 => (if (t327 == t325) = true then (if t325 = true then (if 0 < (t322.length : Int) then (if t326 = (wrap64 (rd t322 0)) then (if bt328.2 = true then (some (bt328.1 == 6)) else (some false)) else (some false)) else (none)) else (if bt328.2 = true then (some (bt328.1 == 6)) else (some false))) else (some false))) = some r := H
 have A7 := qaM A70
 clear A70
 replace H := Option.bind_eq_some_iff.mp H
 obtain ⟨⟨t328, t329⟩, A80, H⟩ := H
 replace H : (if (t327 == t325) = true then (if t325 = true then (if 0 < (t322.length : Int) then (if t326 = (wrap64 (rd t322 0)) then (if t329 = true then (some (t328 == 6)) else (some false)) else (some false)) else (none)) else (if t329 = true then (some (t328 == 6)) else (some false))) else (some false)) = some r := H
 have A8 := qaM A80
 clear A80
 by_cases c9 : (t327 == t325) = true
 ·rw [if_pos c9] at H
  have c9b0 : (t327 == t325) = true := c9
  (try (have c9b1 : decide (t327 = t325) = true := by simpa using c9))
  (try (have c9b2 : (t327 == t325) = true := by simpa using c9))
  clear c9
  by_cases c10 : t325 = true
  ·subst c10
   have H1 : (if 0 < (t322.length : Int) then (if t326 = (wrap64 (rd t322 0)) then (if t329 = true then (some (t328 == 6)) else (some false)) else (some false)) else (none)) = some r := by rw [if_pos rfl] at H; exact H
   clear H
   have H := H1
   clear H1
   by_cases c11 : 0 < (t322.length : Int)
   ·rw [if_pos c11] at H
    have c11b0 : decide (0 < (t322.length : Int)) = true := decide_eq_true c11
    have c11b1 : decide (0 < t322.length) = true := decide_eq_true (by omega)
    clear c11
    by_cases c12 : t326 = (wrap64 (rd t322 0))
    ·rw [if_pos c12] at H
     have c12b0 : (t326 == (wrap64 (rd t322 0))) = true := beq_iff_eq.mpr c12
     have c12b1 : (t326 != (wrap64 (rd t322 0))) = false := bne_eq_false_iff_eq.mpr c12
     clear c12
     by_cases c13 : t329 = true
     ·subst c13
      have H1 : (some (t328 == 6)) = some r := by rw [if_pos rfl] at H; exact H
      clear H
      have H := H1
      clear H1
      obtain rfl := Option.some.inj H
      go_enter Try.func5, Try.ntmps5
      go_wp2_with (first | ((with_reducible refine gate_callee (f := 17) rfl ?_); refine goesL_ (some 13) rfl rfl Try.func17 zz6_9 rfl #[.int .i64 a0] rfl zz6_1 ?_; (with_reducible refine (spec_WideInt.calls k a0 t310 t311 _ A3.out).mono ?_); rintro e w14 ⟨v312, rfl, ho0, hb⟩; refine ⟨_, rfl, ?_⟩; have n0_ := qaM (qvL (qvM (ok' := fun k_ => True) ho0 (fun k_ hk_ => trivial)) (qbS zz6_0)); have n1_ := qaM (qbT zz6_0 hb); clear HB; have HO313 := n0_; have HB := n1_; clear n0_ n1_; (try clear hb); (try clear hb2); (try clear hk); (try clear hi); (try clear ho0)) | ((with_reducible refine gate_callee (f := 17) rfl ?_); refine goesL_ (some 15) rfl rfl Try.func17 zz6_9 rfl #[.int .i64 a1] rfl zz6_1 ?_; (with_reducible refine (spec_WideInt.calls k a1 t314 t315 _ A4.out).mono ?_); rintro e w15 ⟨v316, rfl, ho0, hb⟩; refine ⟨_, rfl, ?_⟩; have n0_ := qaM (qvB zz6_3 hb); have n1_ := qaM (qvL (qvM (ok' := fun k_ => True) ho0 (fun k_ hk_ => trivial)) (qbS zz6_0)); have n2_ := qaM (qbT zz6_0 hb); clear HO313; clear HB; have HO313 := n0_; have HO317 := n1_; have HB := n2_; clear n0_ n1_ n2_; (try clear hb); (try clear hb2); (try clear hk); (try clear hi); (try clear ho0); obtain ⟨Ao16, co16, eo16⟩ := Kd.V_slice HO313.out; subst eo16; obtain ⟨Ao17, co17, eo17⟩ := Kd.V_slice HO317.out; subst eo17) | ((with_reducible refine gate_callee (f := 16) rfl ?_); refine goesL_ (some 16) rfl rfl Try.func16 zz6_9 rfl #[.agg #[.bool t310, .slice Ao16 t311.length co16], .agg #[.bool t314, .slice Ao17 t315.length co17]] rfl zz6_1 ?_; (with_reducible refine (spec_WideMul.calls k t310 _ _ t311 t314 _ _ t315 t318 t319 _ ?side1 ?side2 ?side3 ?side4 A5.out).mono ?_); (case side1 => repeat (first | exact (qvR HO313.out).2.2 | (with_reducible refine Kd.C_alloc ?_ _) | (with_reducible refine Kd.C_drewN ?_ _) | (with_reducible refine Kd.C_drew ?_))); (case side2 => exact (qvR HO313.out).2.1); (case side3 => repeat (first | exact (qvR HO317.out).2.2 | (with_reducible refine Kd.C_alloc ?_ _) | (with_reducible refine Kd.C_drewN ?_ _) | (with_reducible refine Kd.C_drew ?_))); (case side4 => exact (qvR HO317.out).2.1); rintro e w18 ⟨v320, rfl, ho0, hb⟩; refine ⟨_, rfl, ?_⟩; have n0_ := qaM (qvB zz6_3 hb); have n1_ := qaM (qvB zz6_4 hb); have n2_ := qaM (qvL (qvM (ok' := fun k_ => True) ho0 (fun k_ hk_ => trivial)) (qbS zz6_0)); have n3_ := qaM (qbT zz6_0 hb); clear HO313; clear HO317; clear HB; have HO313 := n0_; have HO317 := n1_; have HO321 := n2_; have HB := n3_; clear n0_ n1_ n2_ n3_; (try clear hb); (try clear hb2); (try clear hk); (try clear hi); (try clear ho0); obtain ⟨Ao19, co19, eo19⟩ := Kd.V_slice HO321.out; subst eo19) | ((with_reducible refine gate_callee (f := 15) rfl ?_); refine goesL_ (some 17) rfl rfl Try.func15 zz6_9 rfl #[.agg #[.bool t318, .slice Ao19 t319.length co19], .int .i64 1] rfl zz6_1 ?_; (with_reducible refine (spec_ToWords.calls k t318 (fun k_ => True) _ _ t319 1 t322 true _ ?side1 A6.out).mono ?_); (case side1 => exact HO321.out); rintro e w20 ⟨v323, rfl, ho0, hb⟩; refine ⟨_, rfl, ?_⟩; have n0_ := qaM (Kd.V_elder' zz6_3 (Kd.R_base ho0) hb); have n1_ := qaM (Kd.V_elder' zz6_4 (Kd.R_base ho0) hb); have n2_ := qaM (Kd.V_elder' zz6_11 (Kd.R_base ho0) hb); have n3_ := qaM (Kd.R_lower (qrM (ok' := fun k_ => True) ho0 (fun _ hk_ => trivial)) (qbS zz6_0)); have n4_ := qaM (qbT zz6_0 hb); clear HO313; clear HO317; clear HO321; clear HB; have HO313 := n0_; have HO317 := n1_; have HO321 := n2_; have HO324 := n3_; have HB := n4_; clear n0_ n1_ n2_ n3_ n4_; (try clear hb); (try clear hb2); (try clear hk); (try clear hi); (try clear ho0)) | ((with_reducible refine gate_callee (f := 18) rfl ?_); refine goesL_ (some 23) rfl rfl Try.func18 zz6_9 rfl #[.int .i64 a0, .int .i64 a1] rfl zz6_1 ?_; (with_reducible refine (impl_MulChecked.calls a0 a1 t326 t327 _ A7.out).mono ?_); rintro e w' ⟨rfl, ⟨nd, rfl⟩⟩; refine ⟨_, rfl, ?_⟩) | ((with_reducible refine gate_callee (f := 18) rfl ?_); refine goesL_ (some 27) rfl rfl Try.func18 zz6_9 rfl #[.int .i64 2, .int .i64 3] rfl zz6_1 ?_; (with_reducible refine (impl_MulChecked.calls 2 3 t328 true _ A8.out).mono ?_); rintro e w' ⟨rfl, ⟨nd, rfl⟩⟩; refine ⟨_, rfl, ?_⟩; obtain ⟨Ao21, co21, eo21⟩ := Kd.R_slice HO324.out; subst eo21; have p330 : 0 ≤ (0 : Int) := (by omega); have q330 : 0 < (t322.length : Int) := qoD zz6_7; obtain ⟨ad330, e330, hx330_0⟩ := Kd.at_int (qrR HO324.out).2.2 0 p330 q330; cases e330; have qi330 : (0 < t322.length) = True := eq_true (by omega); (try rw [show ((0 : Int)).toNat = 0 from rfl] at hx330_0); (try rw [Addr.add_zero'] at hx330_0); replace p330 := eq_true p330; replace q330 := eq_true q330))
      go_ret
      exact ⟨by first | rfl | (simp [errW_none, errW_some] <;> rfl) | (simp [*, errW_none, errW_some] <;> rfl), by repeat (first | (with_reducible first | exact HB.out | apply qwA | apply qwN | apply qwD) | exact HB.out)⟩
     ·replace c13 := Bool.eq_false_iff.mpr c13
      subst c13
      have H1 : (some false) = some r := by rw [if_neg (show ¬ (false = true) by decide)] at H; exact H
      clear H
      have H := H1
      clear H1
      obtain rfl := Option.some.inj H
      go_enter Try.func5, Try.ntmps5
      go_wp2_with (first | ((with_reducible refine gate_callee (f := 17) rfl ?_); refine goesL_ (some 13) rfl rfl Try.func17 zz6_9 rfl #[.int .i64 a0] rfl zz6_1 ?_; (with_reducible refine (spec_WideInt.calls k a0 t310 t311 _ A3.out).mono ?_); rintro e w22 ⟨v312, rfl, ho0, hb⟩; refine ⟨_, rfl, ?_⟩; have n0_ := qaM (qvL (qvM (ok' := fun k_ => True) ho0 (fun k_ hk_ => trivial)) (qbS zz6_0)); have n1_ := qaM (qbT zz6_0 hb); clear HB; have HO313 := n0_; have HB := n1_; clear n0_ n1_; (try clear hb); (try clear hb2); (try clear hk); (try clear hi); (try clear ho0)) | ((with_reducible refine gate_callee (f := 17) rfl ?_); refine goesL_ (some 15) rfl rfl Try.func17 zz6_9 rfl #[.int .i64 a1] rfl zz6_1 ?_; (with_reducible refine (spec_WideInt.calls k a1 t314 t315 _ A4.out).mono ?_); rintro e w23 ⟨v316, rfl, ho0, hb⟩; refine ⟨_, rfl, ?_⟩; have n0_ := qaM (qvB zz6_3 hb); have n1_ := qaM (qvL (qvM (ok' := fun k_ => True) ho0 (fun k_ hk_ => trivial)) (qbS zz6_0)); have n2_ := qaM (qbT zz6_0 hb); clear HO313; clear HB; have HO313 := n0_; have HO317 := n1_; have HB := n2_; clear n0_ n1_ n2_; (try clear hb); (try clear hb2); (try clear hk); (try clear hi); (try clear ho0); obtain ⟨Ao24, co24, eo24⟩ := Kd.V_slice HO313.out; subst eo24; obtain ⟨Ao25, co25, eo25⟩ := Kd.V_slice HO317.out; subst eo25) | ((with_reducible refine gate_callee (f := 16) rfl ?_); refine goesL_ (some 16) rfl rfl Try.func16 zz6_9 rfl #[.agg #[.bool t310, .slice Ao24 t311.length co24], .agg #[.bool t314, .slice Ao25 t315.length co25]] rfl zz6_1 ?_; (with_reducible refine (spec_WideMul.calls k t310 _ _ t311 t314 _ _ t315 t318 t319 _ ?side1 ?side2 ?side3 ?side4 A5.out).mono ?_); (case side1 => repeat (first | exact (qvR HO313.out).2.2 | (with_reducible refine Kd.C_alloc ?_ _) | (with_reducible refine Kd.C_drewN ?_ _) | (with_reducible refine Kd.C_drew ?_))); (case side2 => exact (qvR HO313.out).2.1); (case side3 => repeat (first | exact (qvR HO317.out).2.2 | (with_reducible refine Kd.C_alloc ?_ _) | (with_reducible refine Kd.C_drewN ?_ _) | (with_reducible refine Kd.C_drew ?_))); (case side4 => exact (qvR HO317.out).2.1); rintro e w26 ⟨v320, rfl, ho0, hb⟩; refine ⟨_, rfl, ?_⟩; have n0_ := qaM (qvB zz6_3 hb); have n1_ := qaM (qvB zz6_4 hb); have n2_ := qaM (qvL (qvM (ok' := fun k_ => True) ho0 (fun k_ hk_ => trivial)) (qbS zz6_0)); have n3_ := qaM (qbT zz6_0 hb); clear HO313; clear HO317; clear HB; have HO313 := n0_; have HO317 := n1_; have HO321 := n2_; have HB := n3_; clear n0_ n1_ n2_ n3_; (try clear hb); (try clear hb2); (try clear hk); (try clear hi); (try clear ho0); obtain ⟨Ao27, co27, eo27⟩ := Kd.V_slice HO321.out; subst eo27) | ((with_reducible refine gate_callee (f := 15) rfl ?_); refine goesL_ (some 17) rfl rfl Try.func15 zz6_9 rfl #[.agg #[.bool t318, .slice Ao27 t319.length co27], .int .i64 1] rfl zz6_1 ?_; (with_reducible refine (spec_ToWords.calls k t318 (fun k_ => True) _ _ t319 1 t322 true _ ?side1 A6.out).mono ?_); (case side1 => exact HO321.out); rintro e w28 ⟨v323, rfl, ho0, hb⟩; refine ⟨_, rfl, ?_⟩; have n0_ := qaM (Kd.V_elder' zz6_3 (Kd.R_base ho0) hb); have n1_ := qaM (Kd.V_elder' zz6_4 (Kd.R_base ho0) hb); have n2_ := qaM (Kd.V_elder' zz6_11 (Kd.R_base ho0) hb); have n3_ := qaM (Kd.R_lower (qrM (ok' := fun k_ => True) ho0 (fun _ hk_ => trivial)) (qbS zz6_0)); have n4_ := qaM (qbT zz6_0 hb); clear HO313; clear HO317; clear HO321; clear HB; have HO313 := n0_; have HO317 := n1_; have HO321 := n2_; have HO324 := n3_; have HB := n4_; clear n0_ n1_ n2_ n3_ n4_; (try clear hb); (try clear hb2); (try clear hk); (try clear hi); (try clear ho0)) | ((with_reducible refine gate_callee (f := 18) rfl ?_); refine goesL_ (some 23) rfl rfl Try.func18 zz6_9 rfl #[.int .i64 a0, .int .i64 a1] rfl zz6_1 ?_; (with_reducible refine (impl_MulChecked.calls a0 a1 t326 t327 _ A7.out).mono ?_); rintro e w' ⟨rfl, ⟨nd, rfl⟩⟩; refine ⟨_, rfl, ?_⟩) | ((with_reducible refine gate_callee (f := 18) rfl ?_); refine goesL_ (some 27) rfl rfl Try.func18 zz6_9 rfl #[.int .i64 2, .int .i64 3] rfl zz6_1 ?_; (with_reducible refine (impl_MulChecked.calls 2 3 t328 false _ A8.out).mono ?_); rintro e w' ⟨rfl, ⟨nd, rfl⟩⟩; refine ⟨_, rfl, ?_⟩; obtain ⟨Ao29, co29, eo29⟩ := Kd.R_slice HO324.out; subst eo29; have p330 : 0 ≤ (0 : Int) := (by omega); have q330 : 0 < (t322.length : Int) := qoD zz6_7; obtain ⟨ad330, e330, hx330_0⟩ := Kd.at_int (qrR HO324.out).2.2 0 p330 q330; cases e330; have qi330 : (0 < t322.length) = True := eq_true (by omega); (try rw [show ((0 : Int)).toNat = 0 from rfl] at hx330_0); (try rw [Addr.add_zero'] at hx330_0); replace p330 := eq_true p330; replace q330 := eq_true q330))
      go_ret
      exact ⟨by first | rfl | (simp [errW_none, errW_some] <;> rfl) | (simp [*, errW_none, errW_some] <;> rfl), by repeat (first | (with_reducible first | exact HB.out | apply qwA | apply qwN | apply qwD) | exact HB.out)⟩
    ·rw [if_neg c12] at H
     have c12b0 : (t326 == (wrap64 (rd t322 0))) = false := beq_eq_false_iff_ne.mpr c12
     have c12b1 : (t326 != (wrap64 (rd t322 0))) = true := bne_iff_ne.mpr c12
     obtain rfl := Option.some.inj H
     go_enter Try.func5, Try.ntmps5
     go_wp2_with (first | ((with_reducible refine gate_callee (f := 17) rfl ?_); refine goesL_ (some 13) rfl rfl Try.func17 zz6_9 rfl #[.int .i64 a0] rfl zz6_1 ?_; (with_reducible refine (spec_WideInt.calls k a0 t310 t311 _ A3.out).mono ?_); rintro e w30 ⟨v312, rfl, ho0, hb⟩; refine ⟨_, rfl, ?_⟩; have n0_ := qaM (qvL (qvM (ok' := fun k_ => True) ho0 (fun k_ hk_ => trivial)) (qbS zz6_0)); have n1_ := qaM (qbT zz6_0 hb); clear HB; have HO313 := n0_; have HB := n1_; clear n0_ n1_; (try clear hb); (try clear hb2); (try clear hk); (try clear hi); (try clear ho0)) | ((with_reducible refine gate_callee (f := 17) rfl ?_); refine goesL_ (some 15) rfl rfl Try.func17 zz6_9 rfl #[.int .i64 a1] rfl zz6_1 ?_; (with_reducible refine (spec_WideInt.calls k a1 t314 t315 _ A4.out).mono ?_); rintro e w31 ⟨v316, rfl, ho0, hb⟩; refine ⟨_, rfl, ?_⟩; have n0_ := qaM (qvB zz6_3 hb); have n1_ := qaM (qvL (qvM (ok' := fun k_ => True) ho0 (fun k_ hk_ => trivial)) (qbS zz6_0)); have n2_ := qaM (qbT zz6_0 hb); clear HO313; clear HB; have HO313 := n0_; have HO317 := n1_; have HB := n2_; clear n0_ n1_ n2_; (try clear hb); (try clear hb2); (try clear hk); (try clear hi); (try clear ho0); obtain ⟨Ao32, co32, eo32⟩ := Kd.V_slice HO313.out; subst eo32; obtain ⟨Ao33, co33, eo33⟩ := Kd.V_slice HO317.out; subst eo33) | ((with_reducible refine gate_callee (f := 16) rfl ?_); refine goesL_ (some 16) rfl rfl Try.func16 zz6_9 rfl #[.agg #[.bool t310, .slice Ao32 t311.length co32], .agg #[.bool t314, .slice Ao33 t315.length co33]] rfl zz6_1 ?_; (with_reducible refine (spec_WideMul.calls k t310 _ _ t311 t314 _ _ t315 t318 t319 _ ?side1 ?side2 ?side3 ?side4 A5.out).mono ?_); (case side1 => repeat (first | exact (qvR HO313.out).2.2 | (with_reducible refine Kd.C_alloc ?_ _) | (with_reducible refine Kd.C_drewN ?_ _) | (with_reducible refine Kd.C_drew ?_))); (case side2 => exact (qvR HO313.out).2.1); (case side3 => repeat (first | exact (qvR HO317.out).2.2 | (with_reducible refine Kd.C_alloc ?_ _) | (with_reducible refine Kd.C_drewN ?_ _) | (with_reducible refine Kd.C_drew ?_))); (case side4 => exact (qvR HO317.out).2.1); rintro e w34 ⟨v320, rfl, ho0, hb⟩; refine ⟨_, rfl, ?_⟩; have n0_ := qaM (qvB zz6_3 hb); have n1_ := qaM (qvB zz6_4 hb); have n2_ := qaM (qvL (qvM (ok' := fun k_ => True) ho0 (fun k_ hk_ => trivial)) (qbS zz6_0)); have n3_ := qaM (qbT zz6_0 hb); clear HO313; clear HO317; clear HB; have HO313 := n0_; have HO317 := n1_; have HO321 := n2_; have HB := n3_; clear n0_ n1_ n2_ n3_; (try clear hb); (try clear hb2); (try clear hk); (try clear hi); (try clear ho0); obtain ⟨Ao35, co35, eo35⟩ := Kd.V_slice HO321.out; subst eo35) | ((with_reducible refine gate_callee (f := 15) rfl ?_); refine goesL_ (some 17) rfl rfl Try.func15 zz6_9 rfl #[.agg #[.bool t318, .slice Ao35 t319.length co35], .int .i64 1] rfl zz6_1 ?_; (with_reducible refine (spec_ToWords.calls k t318 (fun k_ => True) _ _ t319 1 t322 true _ ?side1 A6.out).mono ?_); (case side1 => exact HO321.out); rintro e w36 ⟨v323, rfl, ho0, hb⟩; refine ⟨_, rfl, ?_⟩; have n0_ := qaM (Kd.V_elder' zz6_3 (Kd.R_base ho0) hb); have n1_ := qaM (Kd.V_elder' zz6_4 (Kd.R_base ho0) hb); have n2_ := qaM (Kd.V_elder' zz6_11 (Kd.R_base ho0) hb); have n3_ := qaM (Kd.R_lower (qrM (ok' := fun k_ => True) ho0 (fun _ hk_ => trivial)) (qbS zz6_0)); have n4_ := qaM (qbT zz6_0 hb); clear HO313; clear HO317; clear HO321; clear HB; have HO313 := n0_; have HO317 := n1_; have HO321 := n2_; have HO324 := n3_; have HB := n4_; clear n0_ n1_ n2_ n3_ n4_; (try clear hb); (try clear hb2); (try clear hk); (try clear hi); (try clear ho0)) | ((with_reducible refine gate_callee (f := 18) rfl ?_); refine goesL_ (some 23) rfl rfl Try.func18 zz6_9 rfl #[.int .i64 a0, .int .i64 a1] rfl zz6_1 ?_; (with_reducible refine (impl_MulChecked.calls a0 a1 t326 t327 _ A7.out).mono ?_); rintro e w' ⟨rfl, ⟨nd, rfl⟩⟩; refine ⟨_, rfl, ?_⟩) | ((with_reducible refine gate_callee (f := 18) rfl ?_); refine goesL_ (some 27) rfl rfl Try.func18 zz6_9 rfl #[.int .i64 2, .int .i64 3] rfl zz6_1 ?_; (with_reducible refine (impl_MulChecked.calls 2 3 t328 t329 _ A8.out).mono ?_); rintro e w' ⟨rfl, ⟨nd, rfl⟩⟩; refine ⟨_, rfl, ?_⟩; obtain ⟨Ao37, co37, eo37⟩ := Kd.R_slice HO324.out; subst eo37; have p330 : 0 ≤ (0 : Int) := (by omega); have q330 : 0 < (t322.length : Int) := qoD zz6_7; obtain ⟨ad330, e330, hx330_0⟩ := Kd.at_int (qrR HO324.out).2.2 0 p330 q330; cases e330; have qi330 : (0 < t322.length) = True := eq_true (by omega); (try rw [show ((0 : Int)).toNat = 0 from rfl] at hx330_0); (try rw [Addr.add_zero'] at hx330_0); replace p330 := eq_true p330; replace q330 := eq_true q330))
     go_ret
     exact ⟨by first | rfl | (simp [errW_none, errW_some] <;> rfl) | (simp [*, errW_none, errW_some] <;> rfl), by repeat (first | (with_reducible first | exact HB.out | apply qwA | apply qwN | apply qwD) | exact HB.out)⟩
   ·rw [if_neg c11] at H
    exact absurd H (by simp)
  ·replace c10 := Bool.eq_false_iff.mpr c10
   subst c10
   have H1 : (if t329 = true then (some (t328 == 6)) else (some false)) = some r := by rw [if_neg (show ¬ (false = true) by decide)] at H; exact H
   clear H
   have H := H1
   clear H1
   by_cases c38 : t329 = true
   ·subst c38
    have H1 : (some (t328 == 6)) = some r := by rw [if_pos rfl] at H; exact H
    clear H
    have H := H1
    clear H1
    obtain rfl := Option.some.inj H
    go_enter Try.func5, Try.ntmps5
    go_wp2_with (first | ((with_reducible refine gate_callee (f := 17) rfl ?_); refine goesL_ (some 13) rfl rfl Try.func17 zz6_9 rfl #[.int .i64 a0] rfl zz6_1 ?_; (with_reducible refine (spec_WideInt.calls k a0 t310 t311 _ A3.out).mono ?_); rintro e w39 ⟨v312, rfl, ho0, hb⟩; refine ⟨_, rfl, ?_⟩; have n0_ := qaM (qvL (qvM (ok' := fun k_ => True) ho0 (fun k_ hk_ => trivial)) (qbS zz6_0)); have n1_ := qaM (qbT zz6_0 hb); clear HB; have HO313 := n0_; have HB := n1_; clear n0_ n1_; (try clear hb); (try clear hb2); (try clear hk); (try clear hi); (try clear ho0)) | ((with_reducible refine gate_callee (f := 17) rfl ?_); refine goesL_ (some 15) rfl rfl Try.func17 zz6_9 rfl #[.int .i64 a1] rfl zz6_1 ?_; (with_reducible refine (spec_WideInt.calls k a1 t314 t315 _ A4.out).mono ?_); rintro e w40 ⟨v316, rfl, ho0, hb⟩; refine ⟨_, rfl, ?_⟩; have n0_ := qaM (qvB zz6_3 hb); have n1_ := qaM (qvL (qvM (ok' := fun k_ => True) ho0 (fun k_ hk_ => trivial)) (qbS zz6_0)); have n2_ := qaM (qbT zz6_0 hb); clear HO313; clear HB; have HO313 := n0_; have HO317 := n1_; have HB := n2_; clear n0_ n1_ n2_; (try clear hb); (try clear hb2); (try clear hk); (try clear hi); (try clear ho0); obtain ⟨Ao41, co41, eo41⟩ := Kd.V_slice HO313.out; subst eo41; obtain ⟨Ao42, co42, eo42⟩ := Kd.V_slice HO317.out; subst eo42) | ((with_reducible refine gate_callee (f := 16) rfl ?_); refine goesL_ (some 16) rfl rfl Try.func16 zz6_9 rfl #[.agg #[.bool t310, .slice Ao41 t311.length co41], .agg #[.bool t314, .slice Ao42 t315.length co42]] rfl zz6_1 ?_; (with_reducible refine (spec_WideMul.calls k t310 _ _ t311 t314 _ _ t315 t318 t319 _ ?side1 ?side2 ?side3 ?side4 A5.out).mono ?_); (case side1 => repeat (first | exact (qvR HO313.out).2.2 | (with_reducible refine Kd.C_alloc ?_ _) | (with_reducible refine Kd.C_drewN ?_ _) | (with_reducible refine Kd.C_drew ?_))); (case side2 => exact (qvR HO313.out).2.1); (case side3 => repeat (first | exact (qvR HO317.out).2.2 | (with_reducible refine Kd.C_alloc ?_ _) | (with_reducible refine Kd.C_drewN ?_ _) | (with_reducible refine Kd.C_drew ?_))); (case side4 => exact (qvR HO317.out).2.1); rintro e w43 ⟨v320, rfl, ho0, hb⟩; refine ⟨_, rfl, ?_⟩; have n0_ := qaM (qvB zz6_3 hb); have n1_ := qaM (qvB zz6_4 hb); have n2_ := qaM (qvL (qvM (ok' := fun k_ => True) ho0 (fun k_ hk_ => trivial)) (qbS zz6_0)); have n3_ := qaM (qbT zz6_0 hb); clear HO313; clear HO317; clear HB; have HO313 := n0_; have HO317 := n1_; have HO321 := n2_; have HB := n3_; clear n0_ n1_ n2_ n3_; (try clear hb); (try clear hb2); (try clear hk); (try clear hi); (try clear ho0); obtain ⟨Ao44, co44, eo44⟩ := Kd.V_slice HO321.out; subst eo44) | ((with_reducible refine gate_callee (f := 15) rfl ?_); refine goesL_ (some 17) rfl rfl Try.func15 zz6_9 rfl #[.agg #[.bool t318, .slice Ao44 t319.length co44], .int .i64 1] rfl zz6_1 ?_; (with_reducible refine (spec_ToWords.calls k t318 (fun k_ => True) _ _ t319 1 t322 false _ ?side1 A6.out).mono ?_); (case side1 => exact HO321.out); rintro e w45 ⟨v323, rfl, ho0, hb⟩; refine ⟨_, rfl, ?_⟩; have n0_ := qaM (Kd.V_elder' zz6_3 (Kd.R_base ho0) hb); have n1_ := qaM (Kd.V_elder' zz6_4 (Kd.R_base ho0) hb); have n2_ := qaM (Kd.V_elder' zz6_11 (Kd.R_base ho0) hb); have n3_ := qaM (Kd.R_lower (qrM (ok' := fun k_ => True) ho0 (fun _ hk_ => trivial)) (qbS zz6_0)); have n4_ := qaM (qbT zz6_0 hb); clear HO313; clear HO317; clear HO321; clear HB; have HO313 := n0_; have HO317 := n1_; have HO321 := n2_; have HO324 := n3_; have HB := n4_; clear n0_ n1_ n2_ n3_ n4_; (try clear hb); (try clear hb2); (try clear hk); (try clear hi); (try clear ho0)) | ((with_reducible refine gate_callee (f := 18) rfl ?_); refine goesL_ (some 23) rfl rfl Try.func18 zz6_9 rfl #[.int .i64 a0, .int .i64 a1] rfl zz6_1 ?_; (with_reducible refine (impl_MulChecked.calls a0 a1 t326 t327 _ A7.out).mono ?_); rintro e w' ⟨rfl, ⟨nd, rfl⟩⟩; refine ⟨_, rfl, ?_⟩) | ((with_reducible refine gate_callee (f := 18) rfl ?_); refine goesL_ (some 27) rfl rfl Try.func18 zz6_9 rfl #[.int .i64 2, .int .i64 3] rfl zz6_1 ?_; (with_reducible refine (impl_MulChecked.calls 2 3 t328 true _ A8.out).mono ?_); rintro e w' ⟨rfl, ⟨nd, rfl⟩⟩; refine ⟨_, rfl, ?_⟩))
    go_ret
    exact ⟨by first | rfl | (simp [errW_none, errW_some] <;> rfl) | (simp [*, errW_none, errW_some] <;> rfl), by repeat (first | (with_reducible first | exact HB.out | apply qwA | apply qwN | apply qwD) | exact HB.out)⟩
   ·replace c38 := Bool.eq_false_iff.mpr c38
    subst c38
    have H1 : (some false) = some r := by rw [if_neg (show ¬ (false = true) by decide)] at H; exact H
    clear H
    have H := H1
    clear H1
    obtain rfl := Option.some.inj H
    go_enter Try.func5, Try.ntmps5
    go_wp2_with (first | ((with_reducible refine gate_callee (f := 17) rfl ?_); refine goesL_ (some 13) rfl rfl Try.func17 zz6_9 rfl #[.int .i64 a0] rfl zz6_1 ?_; (with_reducible refine (spec_WideInt.calls k a0 t310 t311 _ A3.out).mono ?_); rintro e w46 ⟨v312, rfl, ho0, hb⟩; refine ⟨_, rfl, ?_⟩; have n0_ := qaM (qvL (qvM (ok' := fun k_ => True) ho0 (fun k_ hk_ => trivial)) (qbS zz6_0)); have n1_ := qaM (qbT zz6_0 hb); clear HB; have HO313 := n0_; have HB := n1_; clear n0_ n1_; (try clear hb); (try clear hb2); (try clear hk); (try clear hi); (try clear ho0)) | ((with_reducible refine gate_callee (f := 17) rfl ?_); refine goesL_ (some 15) rfl rfl Try.func17 zz6_9 rfl #[.int .i64 a1] rfl zz6_1 ?_; (with_reducible refine (spec_WideInt.calls k a1 t314 t315 _ A4.out).mono ?_); rintro e w47 ⟨v316, rfl, ho0, hb⟩; refine ⟨_, rfl, ?_⟩; have n0_ := qaM (qvB zz6_3 hb); have n1_ := qaM (qvL (qvM (ok' := fun k_ => True) ho0 (fun k_ hk_ => trivial)) (qbS zz6_0)); have n2_ := qaM (qbT zz6_0 hb); clear HO313; clear HB; have HO313 := n0_; have HO317 := n1_; have HB := n2_; clear n0_ n1_ n2_; (try clear hb); (try clear hb2); (try clear hk); (try clear hi); (try clear ho0); obtain ⟨Ao48, co48, eo48⟩ := Kd.V_slice HO313.out; subst eo48; obtain ⟨Ao49, co49, eo49⟩ := Kd.V_slice HO317.out; subst eo49) | ((with_reducible refine gate_callee (f := 16) rfl ?_); refine goesL_ (some 16) rfl rfl Try.func16 zz6_9 rfl #[.agg #[.bool t310, .slice Ao48 t311.length co48], .agg #[.bool t314, .slice Ao49 t315.length co49]] rfl zz6_1 ?_; (with_reducible refine (spec_WideMul.calls k t310 _ _ t311 t314 _ _ t315 t318 t319 _ ?side1 ?side2 ?side3 ?side4 A5.out).mono ?_); (case side1 => repeat (first | exact (qvR HO313.out).2.2 | (with_reducible refine Kd.C_alloc ?_ _) | (with_reducible refine Kd.C_drewN ?_ _) | (with_reducible refine Kd.C_drew ?_))); (case side2 => exact (qvR HO313.out).2.1); (case side3 => repeat (first | exact (qvR HO317.out).2.2 | (with_reducible refine Kd.C_alloc ?_ _) | (with_reducible refine Kd.C_drewN ?_ _) | (with_reducible refine Kd.C_drew ?_))); (case side4 => exact (qvR HO317.out).2.1); rintro e w50 ⟨v320, rfl, ho0, hb⟩; refine ⟨_, rfl, ?_⟩; have n0_ := qaM (qvB zz6_3 hb); have n1_ := qaM (qvB zz6_4 hb); have n2_ := qaM (qvL (qvM (ok' := fun k_ => True) ho0 (fun k_ hk_ => trivial)) (qbS zz6_0)); have n3_ := qaM (qbT zz6_0 hb); clear HO313; clear HO317; clear HB; have HO313 := n0_; have HO317 := n1_; have HO321 := n2_; have HB := n3_; clear n0_ n1_ n2_ n3_; (try clear hb); (try clear hb2); (try clear hk); (try clear hi); (try clear ho0); obtain ⟨Ao51, co51, eo51⟩ := Kd.V_slice HO321.out; subst eo51) | ((with_reducible refine gate_callee (f := 15) rfl ?_); refine goesL_ (some 17) rfl rfl Try.func15 zz6_9 rfl #[.agg #[.bool t318, .slice Ao51 t319.length co51], .int .i64 1] rfl zz6_1 ?_; (with_reducible refine (spec_ToWords.calls k t318 (fun k_ => True) _ _ t319 1 t322 false _ ?side1 A6.out).mono ?_); (case side1 => exact HO321.out); rintro e w52 ⟨v323, rfl, ho0, hb⟩; refine ⟨_, rfl, ?_⟩; have n0_ := qaM (Kd.V_elder' zz6_3 (Kd.R_base ho0) hb); have n1_ := qaM (Kd.V_elder' zz6_4 (Kd.R_base ho0) hb); have n2_ := qaM (Kd.V_elder' zz6_11 (Kd.R_base ho0) hb); have n3_ := qaM (Kd.R_lower (qrM (ok' := fun k_ => True) ho0 (fun _ hk_ => trivial)) (qbS zz6_0)); have n4_ := qaM (qbT zz6_0 hb); clear HO313; clear HO317; clear HO321; clear HB; have HO313 := n0_; have HO317 := n1_; have HO321 := n2_; have HO324 := n3_; have HB := n4_; clear n0_ n1_ n2_ n3_ n4_; (try clear hb); (try clear hb2); (try clear hk); (try clear hi); (try clear ho0)) | ((with_reducible refine gate_callee (f := 18) rfl ?_); refine goesL_ (some 23) rfl rfl Try.func18 zz6_9 rfl #[.int .i64 a0, .int .i64 a1] rfl zz6_1 ?_; (with_reducible refine (impl_MulChecked.calls a0 a1 t326 t327 _ A7.out).mono ?_); rintro e w' ⟨rfl, ⟨nd, rfl⟩⟩; refine ⟨_, rfl, ?_⟩) | ((with_reducible refine gate_callee (f := 18) rfl ?_); refine goesL_ (some 27) rfl rfl Try.func18 zz6_9 rfl #[.int .i64 2, .int .i64 3] rfl zz6_1 ?_; (with_reducible refine (impl_MulChecked.calls 2 3 t328 false _ A8.out).mono ?_); rintro e w' ⟨rfl, ⟨nd, rfl⟩⟩; refine ⟨_, rfl, ?_⟩))
    go_ret
    exact ⟨by first | rfl | (simp [errW_none, errW_some] <;> rfl) | (simp [*, errW_none, errW_some] <;> rfl), by repeat (first | (with_reducible first | exact HB.out | apply qwA | apply qwN | apply qwD) | exact HB.out)⟩
 ·rw [if_neg c9] at H
  have c9b0 : (t327 == t325) = false := by simpa using c9
  (try (have c9b1 : decide (t327 = t325) = false := by simpa using c9))
  (try (have c9b2 : (t327 == t325) = false := by simpa using c9))
  (try (have c9b3 : ¬ (t327 = t325) := by simpa using c9))
  clear c9
  obtain rfl := Option.some.inj H
  go_enter Try.func5, Try.ntmps5
  go_wp2_with (first | ((with_reducible refine gate_callee (f := 17) rfl ?_); refine goesL_ (some 13) rfl rfl Try.func17 zz6_9 rfl #[.int .i64 a0] rfl zz6_1 ?_; (with_reducible refine (spec_WideInt.calls k a0 t310 t311 _ A3.out).mono ?_); rintro e w53 ⟨v312, rfl, ho0, hb⟩; refine ⟨_, rfl, ?_⟩; have n0_ := qaM (qvL (qvM (ok' := fun k_ => True) ho0 (fun k_ hk_ => trivial)) (qbS zz6_0)); have n1_ := qaM (qbT zz6_0 hb); clear HB; have HO313 := n0_; have HB := n1_; clear n0_ n1_; (try clear hb); (try clear hb2); (try clear hk); (try clear hi); (try clear ho0)) | ((with_reducible refine gate_callee (f := 17) rfl ?_); refine goesL_ (some 15) rfl rfl Try.func17 zz6_9 rfl #[.int .i64 a1] rfl zz6_1 ?_; (with_reducible refine (spec_WideInt.calls k a1 t314 t315 _ A4.out).mono ?_); rintro e w54 ⟨v316, rfl, ho0, hb⟩; refine ⟨_, rfl, ?_⟩; have n0_ := qaM (qvB zz6_3 hb); have n1_ := qaM (qvL (qvM (ok' := fun k_ => True) ho0 (fun k_ hk_ => trivial)) (qbS zz6_0)); have n2_ := qaM (qbT zz6_0 hb); clear HO313; clear HB; have HO313 := n0_; have HO317 := n1_; have HB := n2_; clear n0_ n1_ n2_; (try clear hb); (try clear hb2); (try clear hk); (try clear hi); (try clear ho0); obtain ⟨Ao55, co55, eo55⟩ := Kd.V_slice HO313.out; subst eo55; obtain ⟨Ao56, co56, eo56⟩ := Kd.V_slice HO317.out; subst eo56) | ((with_reducible refine gate_callee (f := 16) rfl ?_); refine goesL_ (some 16) rfl rfl Try.func16 zz6_9 rfl #[.agg #[.bool t310, .slice Ao55 t311.length co55], .agg #[.bool t314, .slice Ao56 t315.length co56]] rfl zz6_1 ?_; (with_reducible refine (spec_WideMul.calls k t310 _ _ t311 t314 _ _ t315 t318 t319 _ ?side1 ?side2 ?side3 ?side4 A5.out).mono ?_); (case side1 => repeat (first | exact (qvR HO313.out).2.2 | (with_reducible refine Kd.C_alloc ?_ _) | (with_reducible refine Kd.C_drewN ?_ _) | (with_reducible refine Kd.C_drew ?_))); (case side2 => exact (qvR HO313.out).2.1); (case side3 => repeat (first | exact (qvR HO317.out).2.2 | (with_reducible refine Kd.C_alloc ?_ _) | (with_reducible refine Kd.C_drewN ?_ _) | (with_reducible refine Kd.C_drew ?_))); (case side4 => exact (qvR HO317.out).2.1); rintro e w57 ⟨v320, rfl, ho0, hb⟩; refine ⟨_, rfl, ?_⟩; have n0_ := qaM (qvB zz6_3 hb); have n1_ := qaM (qvB zz6_4 hb); have n2_ := qaM (qvL (qvM (ok' := fun k_ => True) ho0 (fun k_ hk_ => trivial)) (qbS zz6_0)); have n3_ := qaM (qbT zz6_0 hb); clear HO313; clear HO317; clear HB; have HO313 := n0_; have HO317 := n1_; have HO321 := n2_; have HB := n3_; clear n0_ n1_ n2_ n3_; (try clear hb); (try clear hb2); (try clear hk); (try clear hi); (try clear ho0); obtain ⟨Ao58, co58, eo58⟩ := Kd.V_slice HO321.out; subst eo58) | ((with_reducible refine gate_callee (f := 15) rfl ?_); refine goesL_ (some 17) rfl rfl Try.func15 zz6_9 rfl #[.agg #[.bool t318, .slice Ao58 t319.length co58], .int .i64 1] rfl zz6_1 ?_; (with_reducible refine (spec_ToWords.calls k t318 (fun k_ => True) _ _ t319 1 t322 t325 _ ?side1 A6.out).mono ?_); (case side1 => exact HO321.out); rintro e w59 ⟨v323, rfl, ho0, hb⟩; refine ⟨_, rfl, ?_⟩; have n0_ := qaM (Kd.V_elder' zz6_3 (Kd.R_base ho0) hb); have n1_ := qaM (Kd.V_elder' zz6_4 (Kd.R_base ho0) hb); have n2_ := qaM (Kd.V_elder' zz6_11 (Kd.R_base ho0) hb); have n3_ := qaM (Kd.R_lower (qrM (ok' := fun k_ => True) ho0 (fun _ hk_ => trivial)) (qbS zz6_0)); have n4_ := qaM (qbT zz6_0 hb); clear HO313; clear HO317; clear HO321; clear HB; have HO313 := n0_; have HO317 := n1_; have HO321 := n2_; have HO324 := n3_; have HB := n4_; clear n0_ n1_ n2_ n3_ n4_; (try clear hb); (try clear hb2); (try clear hk); (try clear hi); (try clear ho0)) | ((with_reducible refine gate_callee (f := 18) rfl ?_); refine goesL_ (some 23) rfl rfl Try.func18 zz6_9 rfl #[.int .i64 a0, .int .i64 a1] rfl zz6_1 ?_; (with_reducible refine (impl_MulChecked.calls a0 a1 t326 t327 _ A7.out).mono ?_); rintro e w' ⟨rfl, ⟨nd, rfl⟩⟩; refine ⟨_, rfl, ?_⟩) | ((with_reducible refine gate_callee (f := 18) rfl ?_); refine goesL_ (some 27) rfl rfl Try.func18 zz6_9 rfl #[.int .i64 2, .int .i64 3] rfl zz6_1 ?_; (with_reducible refine (impl_MulChecked.calls 2 3 t328 t329 _ A8.out).mono ?_); rintro e w' ⟨rfl, ⟨nd, rfl⟩⟩; refine ⟨_, rfl, ?_⟩))
  go_ret
  exact ⟨by first | rfl | (simp [errW_none, errW_some] <;> rfl) | (simp [*, errW_none, errW_some] <;> rfl), by repeat (first | (with_reducible first | exact HB.out | apply qwA | apply qwN | apply qwD) | exact HB.out)⟩

/-- THE ONE PURE STATEMENT of laws_FnMulChecked: yours. -/
def laws_FnMulChecked.Pure : Prop := ∀ (a0 : Int) (a1 : Int), (Lit.int .i64 a0).wf = true → (Lit.int .i64 a1).wf = true → ∃ k, laws_FnMulChecked.f k a0 a1 = some true
theorem laws_FnMulChecked.walk (P : laws_FnMulChecked.Pure) (a0 : Int) (a1 : Int) (w : World) (w0 : (Lit.int .i64 a0).wf = true) (w1 : (Lit.int .i64 a1).wf = true) :
  Calls Try.prog 5 #[.int .i64 a0, .int .i64 a1] w fun e w' => e = .returned (.bool true) ∧ Below w.heap.size w w' := by
 obtain ⟨k, h⟩ := P a0 a1 w0 w1
 refine (laws_FnMulChecked.calls k a0 a1 true w h).mono ?_
 rintro e w' ⟨rfl, hd⟩
 exact ⟨rfl, hd⟩

end Go.Proofs.Ytelpdndlmhcdoaa.QAll
