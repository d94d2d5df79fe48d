/- Printed by a program of this session (print2.py) over the kit's print: the functions that a law reaches, over contracts proved by hand. Lean checks it. -/
import Derived.Test.YtelpdndlmhcdoaaQRx0
import Derived.Test.YtelpdndlmhcdoaaQRx1
import Derived.Test.YtelpdndlmhcdoaaQRx3
import Derived.Test.YtelpdndlmhcdoaaQRx6
import Derived.Test.YtelpdndlmhcdoaaQRx7
import Derived.Test.YtelpdndlmhcdoaaQRx8
namespace Go.Proofs.Ytelpdndlmhcdoaa.QR
open Go.RowKit Go.Proofs.YtelpdndlmhcdoaaW.PrintWords Go.Proofs.YtelpdndlmhcdoaaW.PrintLast Go.Proofs.YtelpdndlmhcdoaaW.PrintMore
attribute [local go_sem] max2_int min2_int max_two min_two max_three min_three max_four min_four   -- for this text's walks alone
set_option linter.unusedVariables false
set_option linter.unusedSimpArgs false

theorem zr9_0 {p : Prop} (h : p := by repeat (first | (with_reducible first | exact HB.out | apply qwA | apply qwN | apply qwD | refine qwS ?_ GE414.out | refine qwS ?_ GE423.out | refine qwS ?_ GE424.out) | exact HB.out)) : p := h
theorem zr9_1 {p : Prop} (h : p := by (with_reducible repeat (first | refine qbN ?_ _ | refine qbD ?_ | refine qbA ?_ _)); exact BK414.out) : p := h
theorem zr9_2 {p : Prop} (h : p := by (with_reducible repeat (first | refine qbN ?_ _ | refine qbD ?_ | refine qbA ?_ _)); refine qbP (cs := #[.bool t410, .slice none 0 0]) ?_ 1 _ rfl; (with_reducible repeat (first | refine qbN ?_ _ | refine qbD ?_ | refine qbA ?_ _)); refine qbP (cs := #[.bool false, .slice none 0 0]) ?_ 0 _ rfl; (with_reducible repeat (first | refine qbN ?_ _ | refine qbD ?_ | refine qbA ?_ _)); exact BK414.out) : p := h
theorem zr9_3 {p : Prop} (h : p := by (with_reducible repeat (first | refine qbN ?_ _ | refine qbD ?_ | refine qbA ?_ _)); exact BK423.out) : p := h
theorem zr9_4 {p : Prop} (h : p := by (try simp only [List.map_toArray, List.map_cons, List.map_nil]); first | done | rfl | (simp only [List.length_drop, List.length_take]; rfl)) : p := h
theorem zr9_5 {p : Prop} (h : p := by repeat (first | (with_reducible first | exact HB.out | apply qwA | apply qwN | apply qwD | refine qwS ?_ GE414.out) | exact HB.out)) : p := h
theorem zr9_6 {p : Prop} (h : p := by (with_reducible repeat (first | refine qbN ?_ _ | refine qbD ?_ | refine qbA ?_ _)); exact BK424.out) : p := h
theorem zr9_7 {p : Prop} (h : p := by (with_reducible repeat (first | apply qvA | apply qvN | apply qvD)); exact HO413.out) : p := h
theorem zr9_8 {p : Prop} (h : p := by (with_reducible repeat (first | apply qvA | apply qvN | apply qvD)); exact HO418.out) : p := h
theorem zr9_9 {p : Prop} (h : p := by (with_reducible repeat (first | apply qvA | apply qvN | apply qvD)); exact HO422.out) : p := h
theorem zr9_10 {p : Prop} (h : p := by repeat (first | (with_reducible first | exact HB.out | apply qwA | apply qwN | apply qwD) | exact HB.out)) : p := h
theorem zr9_11 {p : Prop} (h : p := by repeat (first | (with_reducible first | exact HB.out | apply qwA | apply qwN | apply qwD | refine qwS ?_ GE414.out | refine qwS ?_ GE423.out) | exact HB.out)) : p := h
theorem zr9_12 {p : Prop} (h : p := by (with_reducible repeat (first | apply qvA | apply qvN | apply qvD)); exact HO428.out) : p := h
theorem zr9_13 {p : Prop} (h : p := by kernel_rfl) : p := h
theorem zr9_14 {p : Prop} (h : p := by (with_reducible repeat (first | apply qvA | apply qvN | apply qvD)); exact HO432.out) : p := h
theorem zr9_15 {p : Prop} (h : p := by (with_reducible repeat (first | apply qvA | apply qvN | apply qvD)); exact HO436.out) : p := h
theorem zr9_16 {p : Prop} (h : p := by first | rfl | (simp; done) | (simp [*]; done)) : p := h
theorem zr9_17 {p : Prop} (h : p := by decide) : p := h
/-! ### laws_FnRoundInt64To: function 8 -/
mutual
def laws_FnRoundInt64To.j0 : Nat → Int → Int → Int → Bool → Bool → Option (Bool)
 | 0, _, _, _, _, _ => none
 | k + 1, x0, x1, x2, x3, x11 => if x1 ≤ 0 then (laws_FnRoundInt64To.j1 k x0 x1 x2 x3 x11 true) else (if x2 = 0 then (if x3 = true then (if x2 = 1 then (if x1 = 0 then (none) else (laws_FnRoundInt64To.j1 k x0 x1 x2 x3 x11 ((Int.tmod x0 x1) == 0))) else (laws_FnRoundInt64To.j1 k x0 x1 x2 x3 x11 true)) else (laws_FnRoundInt64To.j1 k x0 x1 x2 x3 x11 false)) else (if x2 = 1 then (if x3 = true then (if x1 = 0 then (none) else (laws_FnRoundInt64To.j1 k x0 x1 x2 x3 x11 ((Int.tmod x0 x1) == 0))) else (laws_FnRoundInt64To.j1 k x0 x1 x2 x3 x11 false)) else (if x2 = 4 then (if x3 = true then (laws_FnRoundInt64To.j1 k x0 x1 x2 x3 x11 true) else (laws_FnRoundInt64To.j1 k x0 x1 x2 x3 x11 false)) else (if x2 = 5 then (if x3 = true then (laws_FnRoundInt64To.j1 k x0 x1 x2 x3 x11 true) else (laws_FnRoundInt64To.j1 k x0 x1 x2 x3 x11 false)) else (if x2 = 8 then (if x3 = true then (laws_FnRoundInt64To.j1 k x0 x1 x2 x3 x11 true) else (laws_FnRoundInt64To.j1 k x0 x1 x2 x3 x11 false)) else (laws_FnRoundInt64To.j1 k x0 x1 x2 x3 x11 true))))))
def laws_FnRoundInt64To.j1 : Nat → Int → Int → Int → Bool → Bool → Bool → Option (Bool)
 | 0, _, _, _, _, _, _ => none
 | k + 1, x0, x1, x2, x3, x11, x62 => if x62 = true then (some x11) else ((spec_WideInt.f k x1).bind fun bt410 => ((laws_bounds.f k 62 true).bind fun bt415 => ((spec_WideInt.f k x0).bind fun bt425 => ((spec_RoundWide.f k bt425.1 bt425.2 bt410.1 bt410.2 x2).bind fun bt429 => ((spec_WideMul.f k bt429.1 bt429.2 bt410.1 bt410.2).bind fun bt433 => ((laws_fitted.f k bt433.1 bt433.2 bt415.1 bt415.2.1 bt415.2.2.1 bt415.2.2.2).bind fun bt437 => (if bt437.2 = true then (if x0 ≤ (-2305843009213693952) then (some x11) else (if x0 ≥ 2305843009213693952 then (some x11) else (if x1 ≥ 2305843009213693952 then (some x11) else ((impl_RoundInt64To.f k x0 x1 x2 x3).bind fun bt439 => (if bt439.2 = true then (if bt439.1 = (wrap64 (bt437.1)) then (some x11) else (some false)) else (some false)))))) else (some x11))))))))
end
def laws_FnRoundInt64To.f (k : Nat) (a0 : Int) (a1 : Int) (a2 : Int) (a3 : Bool) : Option (Bool) := (impl_RoundInt64To.f k 7 5 0 false).bind fun bt408 => (if bt408.2 = true then (laws_FnRoundInt64To.j0 k a0 a1 a2 a3 (bt408.1 == 5)) else (laws_FnRoundInt64To.j0 k a0 a1 a2 a3 false))
theorem laws_FnRoundInt64To.mono_l : ∀ k, (∀ y0 y1 y2 y3 y4, LeO (laws_FnRoundInt64To.j0 k y0 y1 y2 y3 y4) (laws_FnRoundInt64To.j0 (k + 1) y0 y1 y2 y3 y4)) ∧ (∀ y0 y1 y2 y3 y4 y5, LeO (laws_FnRoundInt64To.j1 k y0 y1 y2 y3 y4 y5) (laws_FnRoundInt64To.j1 (k + 1) y0 y1 y2 y3 y4 y5))
 | 0 => ⟨fun _ _ _ _ _ r h => by simp [laws_FnRoundInt64To.j0] at h, fun _ _ _ _ _ _ r h => by simp [laws_FnRoundInt64To.j1] at h⟩
 | k + 1 => by
  obtain ⟨ih0, ih1⟩ := laws_FnRoundInt64To.mono_l k
  refine ⟨?_, ?_⟩
  ·intro y0 y1 y2 y3 y4
   unfold laws_FnRoundInt64To.j0
   repeat' first
   | (with_reducible exact ih0 _ _ _ _ _)
   | (with_reducible exact ih1 _ _ _ _ _ _)
   | (with_reducible exact impl_RoundInt64To.mono _ _ _ _ _)
   | (with_reducible exact laws_bounds.mono _ _ _)
   | (with_reducible exact laws_fitted.mono _ _ _ _ _ _ _)
   | (with_reducible exact spec_RoundWide.mono _ _ _ _ _ _)
   | (with_reducible exact spec_WideInt.mono _ _)
   | (with_reducible exact spec_WideMul.mono _ _ _ _ _)
   | (with_reducible exact LeO.refl _)
   | (with_reducible exact LeO.none _)
   | (with_reducible refine LeO.ite ?_ ?_)
   | (with_reducible refine LeO.bind ?_ (fun _ => ?_))
   | exact ih0 _ _ _ _ _
   | exact ih1 _ _ _ _ _ _
   | exact impl_RoundInt64To.mono _ _ _ _ _
   | exact laws_bounds.mono _ _ _
   | exact laws_fitted.mono _ _ _ _ _ _ _
   | exact spec_RoundWide.mono _ _ _ _ _ _
   | exact spec_WideInt.mono _ _
   | exact spec_WideMul.mono _ _ _ _ _
   | exact LeO.none _
   | refine LeO.ite ?_ ?_
   | refine LeO.bind ?_ (fun _ => ?_)
  ·intro y0 y1 y2 y3 y4 y5
   unfold laws_FnRoundInt64To.j1
   repeat' first
   | (with_reducible exact ih0 _ _ _ _ _)
   | (with_reducible exact ih1 _ _ _ _ _ _)
   | (with_reducible exact impl_RoundInt64To.mono _ _ _ _ _)
   | (with_reducible exact laws_bounds.mono _ _ _)
   | (with_reducible exact laws_fitted.mono _ _ _ _ _ _ _)
   | (with_reducible exact spec_RoundWide.mono _ _ _ _ _ _)
   | (with_reducible exact spec_WideInt.mono _ _)
   | (with_reducible exact spec_WideMul.mono _ _ _ _ _)
   | (with_reducible exact LeO.refl _)
   | (with_reducible exact LeO.none _)
   | (with_reducible refine LeO.ite ?_ ?_)
   | (with_reducible refine LeO.bind ?_ (fun _ => ?_))
   | exact ih0 _ _ _ _ _
   | exact ih1 _ _ _ _ _ _
   | exact impl_RoundInt64To.mono _ _ _ _ _
   | exact laws_bounds.mono _ _ _
   | exact laws_fitted.mono _ _ _ _ _ _ _
   | exact spec_RoundWide.mono _ _ _ _ _ _
   | exact spec_WideInt.mono _ _
   | exact spec_WideMul.mono _ _ _ _ _
   | exact LeO.none _
   | refine LeO.ite ?_ ?_
   | refine LeO.bind ?_ (fun _ => ?_)
theorem laws_FnRoundInt64To.mono : ∀ a0 a1 a2 a3 k, LeO (laws_FnRoundInt64To.f k a0 a1 a2 a3) (laws_FnRoundInt64To.f (k + 1) a0 a1 a2 a3) := by
 intro a0 a1 a2 a3 k
 obtain ⟨ih0, ih1⟩ := laws_FnRoundInt64To.mono_l k
 unfold laws_FnRoundInt64To.f
 repeat' first
   | (with_reducible exact ih0 _ _ _ _ _)
   | (with_reducible exact ih1 _ _ _ _ _ _)
   | (with_reducible exact impl_RoundInt64To.mono _ _ _ _ _)
   | (with_reducible exact laws_bounds.mono _ _ _)
   | (with_reducible exact laws_fitted.mono _ _ _ _ _ _ _)
   | (with_reducible exact spec_RoundWide.mono _ _ _ _ _ _)
   | (with_reducible exact spec_WideInt.mono _ _)
   | (with_reducible exact spec_WideMul.mono _ _ _ _ _)
   | (with_reducible exact LeO.refl _)
   | (with_reducible exact LeO.none _)
   | (with_reducible refine LeO.ite ?_ ?_)
   | (with_reducible refine LeO.bind ?_ (fun _ => ?_))
   | exact ih0 _ _ _ _ _
   | exact ih1 _ _ _ _ _ _
   | exact impl_RoundInt64To.mono _ _ _ _ _
   | exact laws_bounds.mono _ _ _
   | exact laws_fitted.mono _ _ _ _ _ _ _
   | exact spec_RoundWide.mono _ _ _ _ _ _
   | exact spec_WideInt.mono _ _
   | exact spec_WideMul.mono _ _ _ _ _
   | exact LeO.none _
   | refine LeO.ite ?_ ?_
   | refine LeO.bind ?_ (fun _ => ?_)
def laws_FnRoundInt64To.T7 : Bool × List (List Nat × List Nat) := (true, [([], []), ([0], [0]), ([], []), ([], []), ([1, 2, 3, 1], [1, 2, 3]), ([], []), ([4, 5, 4], [4, 5]), ([], []), ([], []), ([6, 7, 8, 6], [6, 7, 8]), ([9], [9]), ([10], [10]), ([10], [10]), ([11, 9, 0, 1, 2, 3, 4, 5, 6, 7, 8, 9, 10, 11], [11]), ([12, 13, 0, 1, 2, 3, 4, 5, 6, 7, 8, 9, 10, 11, 12, 13], [12])])
def laws_FnRoundInt64To.B7 : List Nat := [0, 1, 0, 0, 15, 0, 63, 0, 0, 511, 1023, 2047, 2047, 4095, 16383]
theorem laws_FnRoundInt64To.tab7 : rtab .any (opsOf Try.f8 7) = laws_FnRoundInt64To.T7 := by kernel_rfl
theorem laws_FnRoundInt64To.bits7 : waitsOk laws_FnRoundInt64To.T7.2 laws_FnRoundInt64To.B7 = true := by kernel_rfl
set_option maxHeartbeats 8000000 in
set_option maxRecDepth 100000 in
theorem laws_FnRoundInt64To.calls (k : Nat) (a0 : Int) (a1 : Int) (a2 : Int) (a3 : Bool) (r : Bool) (w : World) (h : laws_FnRoundInt64To.f k a0 a1 a2 a3 = some r) :
  Calls Try.prog 8 #[.int .i64 a0, .int .i64 a1, .int .i64 a2, .bool a3] w fun e w' => e = .returned (.bool r) ∧ Below w.heap.size w w' := by
 have hu25 := Try.underlying25
 have HB := qaM (Below.refl w.heap.size w)
 have H : ((impl_RoundInt64To.f k 7 5 0 false).bind fun bt408 => (if bt408.2 = true then (laws_FnRoundInt64To.j0 k a0 a1 a2 a3 (bt408.1 == 5)) else (laws_FnRoundInt64To.j0 k a0 a1 a2 a3 false))) = some r := h
 clear h
 replace H := Option.bind_eq_some_iff.mp H
 obtain ⟨⟨t408, t409⟩, A50, H⟩ := H
 replace H : (if t409 = true then (laws_FnRoundInt64To.j0 k a0 a1 a2 a3 (t408 == 5)) else (laws_FnRoundInt64To.j0 k a0 a1 a2 a3 false)) = some r := H
 have A5 := qaM A50
 clear A50
 have HC6 := qaM H
 clear H
 go_enter Try.func8, Try.ntmps8
 go_upto_region 2 with (first | ((with_reducible refine gate_callee (f := 21) rfl ?_); refine goesL_ (some 20) rfl rfl Try.func21 zr9_13 rfl #[.int .i64 7, .int .i64 5, .int .i64 0, .bool false] rfl zr9_4 ?_; (with_reducible refine (impl_RoundInt64To.calls k 7 5 0 false t408 t409 _ A5.out).mono ?_); rintro e w7 ⟨rfl, hb⟩; refine ⟨_, rfl, ?_⟩; have n0_ := qaM (qbT zr9_10 hb); clear HB; have HB := n0_; clear n0_; (try clear hb); (try clear hb2); (try clear hk); (try clear hi)))
 (try simp only [Act.put, qsA, qsZ, qsS])
 go_cut [11] (fun v11 wc => ∃ (kq : Nat) (x11_5 : Bool), v11 = .bool x11_5 ∧ Aside0 (laws_FnRoundInt64To.j0 kq a0 a1 a2 a3 x11_5 = some r) ∧ Aside0 (kq ≤ k) ∧ Aside0 (Below w.heap.size w wc))
 case first =>
  have H := HC6.out
  clear HC6
  by_cases c8 : t409 = true
  ·subst c8
   have H1 : (laws_FnRoundInt64To.j0 k a0 a1 a2 a3 (t408 == 5)) = some r := by rw [if_pos rfl] at H; exact H
   clear H
   have H := H1
   clear H1
   have H' := qaM H
   clear H
   go_wp2
   go_meet
   case rel => exact ⟨_, ((t408 == 5)), zr9_16, H', ⟨by first | omega | exact Nat.le_refl _⟩, ⟨by repeat (first | (with_reducible first | exact HB.out | apply qwA | apply qwN | apply qwD) | exact HB.out)⟩⟩
  ·replace c8 := Bool.eq_false_iff.mpr c8
   subst c8
   have H1 : (laws_FnRoundInt64To.j0 k a0 a1 a2 a3 false) = some r := by rw [if_neg (show ¬ (false = true) by decide)] at H; exact H
   clear H
   have H := H1
   clear H1
   have H' := qaM H
   clear H
   go_wp2
   go_meet
   case rel => exact ⟨_, (false), zr9_16, H', ⟨by first | omega | exact Nat.le_refl _⟩, ⟨by repeat (first | (with_reducible first | exact HB.out | apply qwA | apply qwN | apply qwD) | exact HB.out)⟩⟩
 case rest =>
  clear HC6
  try clear c2
  try clear p2
  try clear c8
  obtain ⟨kq, x11_5, rfl, HA, HJ5, HB⟩ := hcut
  cases kq with
  | zero => exact absurd HA.out (by simp [laws_FnRoundInt64To.j0])
  | succ kj5 =>
   have H := HA.out
   clear HA
   simp only [laws_FnRoundInt64To.j0] at H
   have HC9 := qaM H
   clear H
   go_upto_region 3 with (fail)
   go_cut [62] (fun v62 wc => ∃ (kq : Nat) (x62_8 : Bool), v62 = .bool x62_8 ∧ Aside0 (laws_FnRoundInt64To.j1 kq a0 a1 a2 a3 x11_5 x62_8 = some r) ∧ Aside0 (kq ≤ kj5) ∧ Aside0 (Below w.heap.size w wc))
   case first =>
    have H := HC9.out
    clear HC9
    by_cases c10 : a1 ≤ 0
    ·rw [if_pos c10] at H
     have c10b0 : decide (a1 ≤ 0) = true := decide_eq_true c10
     clear c10
     (first | rw [c10b0] | (simp only [i64_w, i32_w]; rw [c10b0]) | skip)
     have H' := qaM H
     clear H
     go_wp2
     go_meet
     case rel => exact ⟨_, (true), zr9_16, H', ⟨by have := HJ5.out; first | omega | exact Nat.le_refl _⟩, ⟨by repeat (first | (with_reducible first | exact HB.out | apply qwA | apply qwN | apply qwD) | exact HB.out)⟩⟩
    ·rw [if_neg c10] at H
     have c10b0 : decide (a1 ≤ 0) = false := decide_eq_false c10
     clear c10
     (first | rw [c10b0] | (simp only [i64_w, i32_w]; rw [c10b0]) | skip)
     by_cases c11 : a2 = 0
     ·rw [if_pos c11] at H
      have c11b0 : (a2 == 0) = true := beq_iff_eq.mpr c11
      have c11b1 : (a2 != 0) = false := bne_eq_false_iff_eq.mpr c11
      clear c11
      by_cases c12 : a3 = true
      ·subst c12
       have H1 : (if a2 = 1 then (if a1 = 0 then (none) else (laws_FnRoundInt64To.j1 kj5 a0 a1 a2 true x11_5 ((Int.tmod a0 a1) == 0))) else (laws_FnRoundInt64To.j1 kj5 a0 a1 a2 true x11_5 true)) = some r := by rw [if_pos rfl] at H; exact H
       clear H
       have H := H1
       clear H1
       by_cases c13 : a2 = 1
       ·rw [if_pos c13] at H
        have c13b0 : (a2 == 1) = true := beq_iff_eq.mpr c13
        have c13b1 : (a2 != 1) = false := bne_eq_false_iff_eq.mpr c13
        clear c13
        by_cases c14 : a1 = 0
        ·rw [if_pos c14] at H
         exact absurd H (by simp)
        ·rw [if_neg c14] at H
         have c14b0 : (a1 == 0) = false := beq_eq_false_iff_ne.mpr c14
         have c14b1 : (a1 != 0) = true := bne_iff_ne.mpr c14
         have H' := qaM H
         clear H
         go_wp2
         go_meet
         case rel => exact ⟨_, (((Int.tmod a0 a1) == 0)), zr9_16, H', ⟨by have := HJ5.out; first | omega | exact Nat.le_refl _⟩, ⟨by repeat (first | (with_reducible first | exact HB.out | apply qwA | apply qwN | apply qwD) | exact HB.out)⟩⟩
       ·rw [if_neg c13] at H
        have c13b0 : (a2 == 1) = false := beq_eq_false_iff_ne.mpr c13
        have c13b1 : (a2 != 1) = true := bne_iff_ne.mpr c13
        have H' := qaM H
        clear H
        go_wp2
        go_meet
        case rel => exact ⟨_, (true), zr9_16, H', ⟨by have := HJ5.out; first | omega | exact Nat.le_refl _⟩, ⟨by repeat (first | (with_reducible first | exact HB.out | apply qwA | apply qwN | apply qwD) | exact HB.out)⟩⟩
      ·replace c12 := Bool.eq_false_iff.mpr c12
       subst c12
       have H1 : (laws_FnRoundInt64To.j1 kj5 a0 a1 a2 false x11_5 false) = some r := by rw [if_neg (show ¬ (false = true) by decide)] at H; exact H
       clear H
       have H := H1
       clear H1
       have H' := qaM H
       clear H
       go_wp2
       go_meet
       case rel => exact ⟨_, (false), zr9_16, H', ⟨by have := HJ5.out; first | omega | exact Nat.le_refl _⟩, ⟨by repeat (first | (with_reducible first | exact HB.out | apply qwA | apply qwN | apply qwD) | exact HB.out)⟩⟩
     ·rw [if_neg c11] at H
      have c11b0 : (a2 == 0) = false := beq_eq_false_iff_ne.mpr c11
      have c11b1 : (a2 != 0) = true := bne_iff_ne.mpr c11
      by_cases c15 : a2 = 1
      ·rw [if_pos c15] at H
       have c15b0 : (a2 == 1) = true := beq_iff_eq.mpr c15
       have c15b1 : (a2 != 1) = false := bne_eq_false_iff_eq.mpr c15
       clear c15
       by_cases c16 : a3 = true
       ·subst c16
        have H1 : (if a1 = 0 then (none) else (laws_FnRoundInt64To.j1 kj5 a0 a1 a2 true x11_5 ((Int.tmod a0 a1) == 0))) = some r := by rw [if_pos rfl] at H; exact H
        clear H
        have H := H1
        clear H1
        by_cases c17 : a1 = 0
        ·rw [if_pos c17] at H
         exact absurd H (by simp)
        ·rw [if_neg c17] at H
         have c17b0 : (a1 == 0) = false := beq_eq_false_iff_ne.mpr c17
         have c17b1 : (a1 != 0) = true := bne_iff_ne.mpr c17
         have H' := qaM H
         clear H
         go_wp2
         go_meet
         case rel => exact ⟨_, (((Int.tmod a0 a1) == 0)), zr9_16, H', ⟨by have := HJ5.out; first | omega | exact Nat.le_refl _⟩, ⟨by repeat (first | (with_reducible first | exact HB.out | apply qwA | apply qwN | apply qwD) | exact HB.out)⟩⟩
       ·replace c16 := Bool.eq_false_iff.mpr c16
        subst c16
        have H1 : (laws_FnRoundInt64To.j1 kj5 a0 a1 a2 false x11_5 false) = some r := by rw [if_neg (show ¬ (false = true) by decide)] at H; exact H
        clear H
        have H := H1
        clear H1
        have H' := qaM H
        clear H
        go_wp2
        go_meet
        case rel => exact ⟨_, (false), zr9_16, H', ⟨by have := HJ5.out; first | omega | exact Nat.le_refl _⟩, ⟨by repeat (first | (with_reducible first | exact HB.out | apply qwA | apply qwN | apply qwD) | exact HB.out)⟩⟩
      ·rw [if_neg c15] at H
       have c15b0 : (a2 == 1) = false := beq_eq_false_iff_ne.mpr c15
       have c15b1 : (a2 != 1) = true := bne_iff_ne.mpr c15
       by_cases c18 : a2 = 4
       ·rw [if_pos c18] at H
        have c18b0 : (a2 == 4) = true := beq_iff_eq.mpr c18
        have c18b1 : (a2 != 4) = false := bne_eq_false_iff_eq.mpr c18
        clear c18
        by_cases c19 : a3 = true
        ·subst c19
         have H1 : (laws_FnRoundInt64To.j1 kj5 a0 a1 a2 true x11_5 true) = some r := by rw [if_pos rfl] at H; exact H
         clear H
         have H := H1
         clear H1
         have H' := qaM H
         clear H
         go_wp2
         go_meet
         case rel => exact ⟨_, (true), zr9_16, H', ⟨by have := HJ5.out; first | omega | exact Nat.le_refl _⟩, ⟨by repeat (first | (with_reducible first | exact HB.out | apply qwA | apply qwN | apply qwD) | exact HB.out)⟩⟩
        ·replace c19 := Bool.eq_false_iff.mpr c19
         subst c19
         have H1 : (laws_FnRoundInt64To.j1 kj5 a0 a1 a2 false x11_5 false) = some r := by rw [if_neg (show ¬ (false = true) by decide)] at H; exact H
         clear H
         have H := H1
         clear H1
         have H' := qaM H
         clear H
         go_wp2
         go_meet
         case rel => exact ⟨_, (false), zr9_16, H', ⟨by have := HJ5.out; first | omega | exact Nat.le_refl _⟩, ⟨by repeat (first | (with_reducible first | exact HB.out | apply qwA | apply qwN | apply qwD) | exact HB.out)⟩⟩
       ·rw [if_neg c18] at H
        have c18b0 : (a2 == 4) = false := beq_eq_false_iff_ne.mpr c18
        have c18b1 : (a2 != 4) = true := bne_iff_ne.mpr c18
        by_cases c20 : a2 = 5
        ·rw [if_pos c20] at H
         have c20b0 : (a2 == 5) = true := beq_iff_eq.mpr c20
         have c20b1 : (a2 != 5) = false := bne_eq_false_iff_eq.mpr c20
         clear c20
         by_cases c21 : a3 = true
         ·subst c21
          have H1 : (laws_FnRoundInt64To.j1 kj5 a0 a1 a2 true x11_5 true) = some r := by rw [if_pos rfl] at H; exact H
          clear H
          have H := H1
          clear H1
          have H' := qaM H
          clear H
          go_wp2
          go_meet
          case rel => exact ⟨_, (true), zr9_16, H', ⟨by have := HJ5.out; first | omega | exact Nat.le_refl _⟩, ⟨by repeat (first | (with_reducible first | exact HB.out | apply qwA | apply qwN | apply qwD) | exact HB.out)⟩⟩
         ·replace c21 := Bool.eq_false_iff.mpr c21
          subst c21
          have H1 : (laws_FnRoundInt64To.j1 kj5 a0 a1 a2 false x11_5 false) = some r := by rw [if_neg (show ¬ (false = true) by decide)] at H; exact H
          clear H
          have H := H1
          clear H1
          have H' := qaM H
          clear H
          go_wp2
          go_meet
          case rel => exact ⟨_, (false), zr9_16, H', ⟨by have := HJ5.out; first | omega | exact Nat.le_refl _⟩, ⟨by repeat (first | (with_reducible first | exact HB.out | apply qwA | apply qwN | apply qwD) | exact HB.out)⟩⟩
        ·rw [if_neg c20] at H
         have c20b0 : (a2 == 5) = false := beq_eq_false_iff_ne.mpr c20
         have c20b1 : (a2 != 5) = true := bne_iff_ne.mpr c20
         by_cases c22 : a2 = 8
         ·rw [if_pos c22] at H
          have c22b0 : (a2 == 8) = true := beq_iff_eq.mpr c22
          have c22b1 : (a2 != 8) = false := bne_eq_false_iff_eq.mpr c22
          clear c22
          by_cases c23 : a3 = true
          ·subst c23
           have H1 : (laws_FnRoundInt64To.j1 kj5 a0 a1 a2 true x11_5 true) = some r := by rw [if_pos rfl] at H; exact H
           clear H
           have H := H1
           clear H1
           have H' := qaM H
           clear H
           go_wp2
           go_meet
           case rel => exact ⟨_, (true), zr9_16, H', ⟨by have := HJ5.out; first | omega | exact Nat.le_refl _⟩, ⟨by repeat (first | (with_reducible first | exact HB.out | apply qwA | apply qwN | apply qwD) | exact HB.out)⟩⟩
          ·replace c23 := Bool.eq_false_iff.mpr c23
           subst c23
           have H1 : (laws_FnRoundInt64To.j1 kj5 a0 a1 a2 false x11_5 false) = some r := by rw [if_neg (show ¬ (false = true) by decide)] at H; exact H
           clear H
           have H := H1
           clear H1
           have H' := qaM H
           clear H
           go_wp2
           go_meet
           case rel => exact ⟨_, (false), zr9_16, H', ⟨by have := HJ5.out; first | omega | exact Nat.le_refl _⟩, ⟨by repeat (first | (with_reducible first | exact HB.out | apply qwA | apply qwN | apply qwD) | exact HB.out)⟩⟩
         ·rw [if_neg c22] at H
          have c22b0 : (a2 == 8) = false := beq_eq_false_iff_ne.mpr c22
          have c22b1 : (a2 != 8) = true := bne_iff_ne.mpr c22
          have H' := qaM H
          clear H
          go_wp2
          go_meet
          case rel => exact ⟨_, (true), zr9_16, H', ⟨by have := HJ5.out; first | omega | exact Nat.le_refl _⟩, ⟨by repeat (first | (with_reducible first | exact HB.out | apply qwA | apply qwN | apply qwD) | exact HB.out)⟩⟩
   case rest =>
    clear HC9
    try clear c1
    try clear c2
    try clear p2
    try clear c8
    try clear c10
    try clear c10b0
    try clear c11
    try clear c11b0
    try clear c11b1
    try clear c12
    try clear c13
    try clear c13b0
    try clear c13b1
    try clear c14
    try clear c14b0
    try clear c14b1
    try clear c15
    try clear c15b0
    try clear c15b1
    try clear c16
    try clear c17
    try clear c17b0
    try clear c17b1
    try clear c18
    try clear c18b0
    try clear c18b1
    try clear c19
    try clear c20
    try clear c20b0
    try clear c20b1
    try clear c21
    try clear c22
    try clear c22b0
    try clear c22b1
    try clear c23
    try clear p2
    obtain ⟨kq, x62_8, rfl, HA, HJ8, HB⟩ := hcut
    cases kq with
    | zero => exact absurd HA.out (by simp [laws_FnRoundInt64To.j1])
    | succ kj8 =>
     have H := HA.out
     clear HA
     simp only [laws_FnRoundInt64To.j1] at H
     by_cases c24 : x62_8 = true
     ·subst c24
      have H1 : (some x11_5) = some r := by rw [if_pos rfl] at H; exact H
      clear H
      have H := H1
      clear H1
      obtain rfl := Option.some.inj H
      go_wp2
      go_ret
      exact ⟨by first | rfl | (simp [errW_none, errW_some] <;> rfl) | (simp [*, errW_none, errW_some] <;> rfl), by repeat (first | (with_reducible first | exact HB.out | apply qwA | apply qwN | apply qwD) | exact HB.out)⟩
     ·replace c24 := Bool.eq_false_iff.mpr c24
      subst c24
      have H1 : ((spec_WideInt.f kj8 a1).bind fun bt410 => ((laws_bounds.f kj8 62 true).bind fun bt415 => ((spec_WideInt.f kj8 a0).bind fun bt425 => ((spec_RoundWide.f kj8 bt425.1 bt425.2 bt410.1 bt410.2 a2).bind fun bt429 => ((spec_WideMul.f kj8 bt429.1 bt429.2 bt410.1 bt410.2).bind fun bt433 => ((laws_fitted.f kj8 bt433.1 bt433.2 bt415.1 bt415.2.1 bt415.2.2.1 bt415.2.2.2).bind fun bt437 => (if bt437.2 = true then (if a0 ≤ (-2305843009213693952) then (some x11_5) else (if a0 ≥ 2305843009213693952 then (some x11_5) else (if a1 ≥ 2305843009213693952 then (some x11_5) else ((impl_RoundInt64To.f kj8 a0 a1 a2 a3).bind fun bt439 => (if bt439.2 = true then (if bt439.1 = (wrap64 (bt437.1)) then (some x11_5) else (some false)) else (some false)))))) else (some x11_5)))))))) = some r := by rw [if_neg (show ¬ (false = true) by decide)] at H; exact H
      clear H
      have H := H1
      clear H1
      replace H := Option.bind_eq_some_iff.mp H
      obtain ⟨⟨t410, t411⟩, A250, H⟩ := H
      replace H : ((laws_bounds.f kj8 62 true).bind fun bt415 => ((spec_WideInt.f kj8 a0).bind fun bt425 => ((spec_RoundWide.f kj8 bt425.1 bt425.2 t410 t411 a2).bind fun bt429 => ((spec_WideMul.f kj8 bt429.1 bt429.2 t410 t411).bind fun bt433 => ((laws_fitted.f kj8 bt433.1 bt433.2 bt415.1 bt415.2.1 bt415.2.2.1 bt415.2.2.2).bind fun bt437 => (if bt437.2 = true then (if a0 ≤ (-2305843009213693952) then (some x11_5) else (if a0 ≥ 2305843009213693952 then (some x11_5) else (if a1 ≥ 2305843009213693952 then (some x11_5) else ((impl_RoundInt64To.f kj8 a0 a1 a2 a3).bind fun bt439 => (if bt439.2 = true then (if bt439.1 = (wrap64 (bt437.1)) then (some x11_5) else (some false)) else (some false)))))) else (some x11_5))))))) = some r := H
      have A25 := qaM A250
      clear A250
      replace H := Option.bind_eq_some_iff.mp H
      obtain ⟨⟨t415, t416, t419, t420⟩, A260, H⟩ := H
      replace H : ((spec_WideInt.f kj8 a0).bind fun bt425 => ((spec_RoundWide.f kj8 bt425.1 bt425.2 t410 t411 a2).bind fun bt429 => ((spec_WideMul.f kj8 bt429.1 bt429.2 t410 t411).bind fun bt433 => ((laws_fitted.f kj8 bt433.1 bt433.2 t415 t416 t419 t420).bind fun bt437 => (if bt437.2 = true then (if a0 ≤ (-2305843009213693952) then (some x11_5) else (if a0 ≥ 2305843009213693952 then (some x11_5) else (if a1 ≥ 2305843009213693952 then (some x11_5) else ((impl_RoundInt64To.f kj8 a0 a1 a2 a3).bind fun bt439 => (if bt439.2 = true then (if bt439.1 = (wrap64 (bt437.1)) then (some x11_5) else (some false)) else (some false)))))) else (some x11_5)))))) = some r := H
      have A26 := qaM A260
      clear A260
      replace H := Option.bind_eq_some_iff.mp H
      obtain ⟨⟨t425, t426⟩, A270, H⟩ := H
      replace H : ((spec_RoundWide.f kj8 t425 t426 t410 t411 a2).bind fun bt429 => ((spec_WideMul.f kj8 bt429.1 bt429.2 t410 t411).bind fun bt433 => ((laws_fitted.f kj8 bt433.1 bt433.2 t415 t416 t419 t420).bind fun bt437 => (if bt437.2 = true then (if a0 ≤ (-2305843009213693952) then (some x11_5) else (if a0 ≥ 2305843009213693952 then (some x11_5) else (if a1 ≥ 2305843009213693952 then (some x11_5) else ((impl_RoundInt64To.f kj8 a0 a1 a2 a3).bind fun bt439 => (if bt439.2 = true then (if bt439.1 = (wrap64 (bt437.1)) then (some x11_5) else (some false)) else (some false)))))) else (some x11_5))))) = some r := H
      have A27 := qaM A270
      clear A270
      replace H := Option.bind_eq_some_iff.mp H
      obtain ⟨⟨t429, t430⟩, A280, H⟩ := H
      replace H : ((spec_WideMul.f kj8 t429 t430 t410 t411).bind fun bt433 => ((laws_fitted.f kj8 bt433.1 bt433.2 t415 t416 t419 t420).bind fun bt437 => (if bt437.2 = true then (if a0 ≤ (-2305843009213693952) then (some x11_5) else (if a0 ≥ 2305843009213693952 then (some x11_5) else (if a1 ≥ 2305843009213693952 then (some x11_5) else ((impl_RoundInt64To.f kj8 a0 a1 a2 a3).bind fun bt439 => (if bt439.2 = true then (if bt439.1 = (wrap64 (bt437.1)) then (some x11_5) else (some false)) else (some false)))))) else (some x11_5)))) = some r := H
      have A28 := qaM A280
      clear A280
      replace H := Option.bind_eq_some_iff.mp H
      obtain ⟨⟨t433, t434⟩, A290, H⟩ := H
      replace H : ((laws_fitted.f kj8 t433 t434 t415 t416 t419 t420).bind fun bt437 => (if bt437.2 = true then (if a0 ≤ (-2305843009213693952) then (some x11_5) else (if a0 ≥ 2305843009213693952 then (some x11_5) else (if a1 ≥ 2305843009213693952 then (some x11_5) else ((impl_RoundInt64To.f kj8 a0 a1 a2 a3).bind fun bt439 => (if bt439.2 = true then (if bt439.1 = (wrap64 (bt437.1)) then (some x11_5) else (some false)) else (some false)))))) else (some x11_5))) = some r := H
      have A29 := qaM A290
      clear A290
      replace H := Option.bind_eq_some_iff.mp H
      obtain ⟨⟨t437, t438⟩, A300, H⟩ := H
      replace H : (if t438 = true then (if a0 ≤ (-2305843009213693952) then (some x11_5) else (if a0 ≥ 2305843009213693952 then (some x11_5) else (if a1 ≥ 2305843009213693952 then (some x11_5) else ((impl_RoundInt64To.f kj8 a0 a1 a2 a3).bind fun bt439 => (if bt439.2 = true then (if bt439.1 = (wrap64 (t437)) then (some x11_5) else (some false)) else (some false)))))) else (some x11_5)) = some r := H
      have A30 := qaM A300
      clear A300
      by_cases c31 : t438 = true
      ·subst c31
       have H1 : (if a0 ≤ (-2305843009213693952) then (some x11_5) else (if a0 ≥ 2305843009213693952 then (some x11_5) else (if a1 ≥ 2305843009213693952 then (some x11_5) else ((impl_RoundInt64To.f kj8 a0 a1 a2 a3).bind fun bt439 => (if bt439.2 = true then (if bt439.1 = (wrap64 (t437)) then (some x11_5) else (some false)) else (some false)))))) = some r := by rw [if_pos rfl] at H; exact H
       clear H
       have H := H1
       clear H1
       by_cases c32 : a0 ≤ (-2305843009213693952)
       ·rw [if_pos c32] at H
        have c32b0 : decide (a0 ≤ (-2305843009213693952)) = true := decide_eq_true c32
        clear c32
        obtain rfl := Option.some.inj H
        try go_wp2_with (first | ((with_reducible refine gate_callee (f := 17) rfl ?_); refine goesL_ (some 65) rfl rfl Try.func17 zr9_13 rfl #[.int .i64 a1] rfl zr9_4 ?_; (with_reducible refine (spec_WideInt.calls kj8 a1 t410 t411 _ A25.out).mono ?_); rintro e w33 ⟨v412, rfl, ho0, hb⟩; refine ⟨_, rfl, ?_⟩; have n0_ := qaM (qvL (qvM (ok' := fun k_ => True) ho0 (fun k_ hk_ => trivial)) (qbS zr9_10)); have n1_ := qaM (qbT zr9_10 hb); clear HB; have HO413 := n0_; have HB := n1_; clear n0_ n1_; (try clear hb); (try clear hb2); (try clear hk); (try clear hi); (try clear ho0)) | ((with_reducible refine gate_dst (N := 12) rfl ?_); refine box_event ?hg (N := 12) ?hd (cs := #[.bool false, .slice none 0 0]) (t := 25) ?hr ?_; (case hd => rfl); (case hg => rfl); (case hr => first | (go_simp; done) | (go_simp; rfl)); intro gb414 hg w34 hbox hb; have n0_ := qaM (qvB (qvE zr9_7 gb414 (Nat.le_of_eq hg.symm)) hb); have n1_ := qaM (qbT zr9_10 hb); have n2_ := qaM (hbox); have n3_ := qaM ((by rw [hg]; exact (qbS zr9_10) : w.heap.size ≤ gb414)); have n4_ := qaM ((by rw [hg]; exact (qbS zr9_10) : w.heap.size ≤ gb414)); clear HO413; clear HB; have HO413 := n0_; have HB := n1_; have BK414 := n2_; have GW414 := n3_; have GE414 := n4_; clear n0_ n1_ n2_ n3_ n4_; clear hb hbox hg; have hcz35_0 : w34.cell? ⟨gb414, 0, none⟩ = some (.bool false) := (qbC BK414.out 0).trans rfl; have hcz35_1 : w34.cell? ⟨gb414, 1, none⟩ = some (.slice none 0 0) := (qbC BK414.out 1).trans rfl; have hfz35_0 := blk_frozen BK414.out 0; have hfz35_1 := blk_frozen BK414.out 1; obtain ⟨Ao36, co36, eo36⟩ := Kd.V_slice HO413.out; subst eo36) | ((with_reducible refine gate_callee (f := 9) rfl ?_); refine goesL_ (some 67) rfl rfl Try.func9 zr9_13 rfl #[.int .i64 62, .bool true] rfl zr9_4 ?_; (with_reducible refine (laws_bounds.calls kj8 62 true t415 t416 t419 t420 _ A26.out).mono ?_); rintro e w37 ⟨v417, v421, rfl, ho0, ho1, hb⟩; refine ⟨_, rfl, ?_⟩; have n0_ := qaM (qvB (by (with_reducible repeat (first | apply qvA | apply qvN | apply qvD)); exact (qvM (qvF (p := ⟨gb414, 1, none⟩) (qvF (p := ⟨gb414, 0, none⟩) (qvM HO413.out (fun k_ hk => (⟨hk, hk.2⟩ : _ ∧ k_ ≠ gb414))) (fun _ hk => hk.2) (.bool t410)) (fun _ hk => hk.2) (.slice Ao36 t411.length co36)) (fun _ h_ => h_.1))) hb); have n1_ := qaM (qvL (qvM (ok' := fun k_ => k_ ≠ gb414) ho0 (fun k_ hk_ => (qfB (g := gb414) (o := .cells #[.bool t410, .slice Ao36 t411.length co36] 25 (0, 0)) zr9_2 k_ hk_))) (qbS zr9_5)); have n2_ := qaM (qvL (qvM (ok' := fun k_ => k_ ≠ gb414) ho1 (fun k_ hk_ => (qfB (g := gb414) (o := .cells #[.bool t410, .slice Ao36 t411.length co36] 25 (0, 0)) zr9_2 k_ hk_))) (qbS zr9_5)); have n3_ := qaM (qbB (g := gb414) (o := .cells #[.bool t410, .slice Ao36 t411.length co36] 25 (0, 0)) zr9_2 hb); have n4_ := qaM (qbT zr9_5 hb); clear HO413; clear BK414; clear HB; have HO413 := n0_; have HO418 := n1_; have HO422 := n2_; have BK414 := n3_; have HB := n4_; clear n0_ n1_ n2_ n3_ n4_; (try clear hb); (try clear hb2); (try clear hk); (try clear hi); (try clear ho0); (try clear ho1)) | ((with_reducible refine gate_dst (N := 13) rfl ?_); refine box_event ?hg (N := 13) ?hd (cs := #[.bool false, .slice none 0 0]) (t := 25) ?hr ?_; (case hd => rfl); (case hg => rfl); (case hr => first | (go_simp; done) | (go_simp; rfl)); intro gb423 hg w38 hbox hb; have n0_ := qaM (qvB (qvE zr9_7 gb423 (Nat.le_of_eq hg.symm)) hb); have n1_ := qaM (qvB (qvE zr9_8 gb423 (Nat.le_of_eq hg.symm)) hb); have n2_ := qaM (qvB (qvE zr9_9 gb423 (Nat.le_of_eq hg.symm)) hb); have n3_ := qaM (qbB (g := gb414) (o := .cells #[.bool t410, .slice Ao36 t411.length co36] 25 (0, 0)) zr9_1 hb); have n4_ := qaM (qbT zr9_5 hb); have n5_ := qaM (hbox); have n6_ := qaM ((by rw [hg]; exact (qbS zr9_5) : w.heap.size ≤ gb423)); have n7_ := qaM ((by rw [hg]; exact (qbS zr9_5) : w.heap.size ≤ gb423)); have n8_ := qaM ((by rw [hg]; exact qnL (qbL (g := gb414) (o := .cells #[.bool t410, .slice Ao36 t411.length co36] 25 (0, 0)) zr9_1) : gb414 ≠ gb423)); have n9_ := qaM ((by rw [hg]; exact qnG (qbL (g := gb414) (o := .cells #[.bool t410, .slice Ao36 t411.length co36] 25 (0, 0)) zr9_1) : gb423 ≠ gb414)); clear HO413; clear HO418; clear HO422; clear BK414; clear HB; have HO413 := n0_; have HO418 := n1_; have HO422 := n2_; have BK414 := n3_; have HB := n4_; have BK423 := n5_; have GW423 := n6_; have GE423 := n7_; have NB414_423 := n8_; have NB423_414 := n9_; clear n0_ n1_ n2_ n3_ n4_ n5_ n6_ n7_ n8_ n9_; clear hb hbox hg) | ((with_reducible refine gate_dst (N := 14) rfl ?_); refine box_event ?hg (N := 14) ?hd (cs := #[.bool false, .slice none 0 0]) (t := 25) ?hr ?_; (case hd => rfl); (case hg => rfl); (case hr => first | (go_simp; done) | (go_simp; rfl)); intro gb424 hg w39 hbox hb; have n0_ := qaM (qvB (qvE zr9_7 gb424 (Nat.le_of_eq hg.symm)) hb); have n1_ := qaM (qvB (qvE zr9_8 gb424 (Nat.le_of_eq hg.symm)) hb); have n2_ := qaM (qvB (qvE zr9_9 gb424 (Nat.le_of_eq hg.symm)) hb); have n3_ := qaM (qbB (g := gb414) (o := .cells #[.bool t410, .slice Ao36 t411.length co36] 25 (0, 0)) zr9_1 hb); have n4_ := qaM (qbB (g := gb423) (o := .cells #[.bool false, .slice none 0 0] 25 (0, 0)) zr9_3 hb); have n5_ := qaM (qbT zr9_11 hb); have n6_ := qaM (hbox); have n7_ := qaM ((by rw [hg]; exact (qbS zr9_11) : w.heap.size ≤ gb424)); have n8_ := qaM ((by rw [hg]; exact (qbS zr9_11) : w.heap.size ≤ gb424)); have n9_ := qaM ((by rw [hg]; exact qnL (qbL (g := gb414) (o := .cells #[.bool t410, .slice Ao36 t411.length co36] 25 (0, 0)) zr9_1) : gb414 ≠ gb424)); have n10_ := qaM ((by rw [hg]; exact qnG (qbL (g := gb414) (o := .cells #[.bool t410, .slice Ao36 t411.length co36] 25 (0, 0)) zr9_1) : gb424 ≠ gb414)); have n11_ := qaM ((by rw [hg]; exact qnL (qbL (g := gb423) (o := .cells #[.bool false, .slice none 0 0] 25 (0, 0)) zr9_3) : gb423 ≠ gb424)); have n12_ := qaM ((by rw [hg]; exact qnG (qbL (g := gb423) (o := .cells #[.bool false, .slice none 0 0] 25 (0, 0)) zr9_3) : gb424 ≠ gb423)); clear HO413; clear HO418; clear HO422; clear BK414; clear BK423; clear HB; have HO413 := n0_; have HO418 := n1_; have HO422 := n2_; have BK414 := n3_; have BK423 := n4_; have HB := n5_; have BK424 := n6_; have GW424 := n7_; have GE424 := n8_; have NB414_424 := n9_; have NB424_414 := n10_; have NB423_424 := n11_; have NB424_423 := n12_; clear n0_ n1_ n2_ n3_ n4_ n5_ n6_ n7_ n8_ n9_ n10_ n11_ n12_; clear hb hbox hg; have hnb40 := NB423_414.out; have hnc40 := NB414_423.out; have hnb41 := NB423_424.out; have hnc41 := NB424_423.out; have hcz42_0 : w39.cell? ⟨gb423, 0, none⟩ = some (.bool false) := (qbC BK423.out 0).trans rfl; have hcz42_1 : w39.cell? ⟨gb423, 1, none⟩ = some (.slice none 0 0) := (qbC BK423.out 1).trans rfl; have hfz42_0 := blk_frozen BK423.out 0; have hfz42_1 := blk_frozen BK423.out 1; obtain ⟨Ao43, co43, eo43⟩ := Kd.V_slice HO418.out; subst eo43; have hnb44 := NB424_414.out; have hnc44 := NB414_424.out; have hcz45_0 : w39.cell? ⟨gb424, 0, none⟩ = some (.bool false) := (qbC BK424.out 0).trans rfl; have hcz45_1 : w39.cell? ⟨gb424, 1, none⟩ = some (.slice none 0 0) := (qbC BK424.out 1).trans rfl; have hfz45_0 := blk_frozen BK424.out 0; have hfz45_1 := blk_frozen BK424.out 1; obtain ⟨Ao46, co46, eo46⟩ := Kd.V_slice HO422.out; subst eo46))
        have n0_ : Aside0 (Kd.V (Kd.int .u32) 22 ((((w39.setCell ⟨gb423, 0, none⟩ (.bool t415)).setCell ⟨gb423, 1, none⟩ (.slice Ao43 t416.length co43)).setCell ⟨gb424, 0, none⟩ (.bool t419)).setCell ⟨gb424, 1, none⟩ (.slice Ao46 t420.length co46)) w.heap.size (fun k_ => k_ ≠ gb414 ∧ k_ ≠ gb423 ∧ k_ ≠ gb424) (.slice Ao36 t411.length co36) t411) := ⟨by (with_reducible repeat (first | apply qvA | apply qvN | apply qvD)); exact qvM (qvF (p := ⟨gb424, 1, none⟩) (qvF (p := ⟨gb424, 0, none⟩) (qvF (p := ⟨gb423, 1, none⟩) (qvF (p := ⟨gb423, 0, none⟩) (qvM (qvM HO413.out (fun k_ hk => (⟨hk, hk.1.2⟩ : _ ∧ k_ ≠ gb423))) (fun k_ hk => (⟨hk, hk.1.2⟩ : _ ∧ k_ ≠ gb424))) (fun _ hk => hk.1.2) (.bool t415)) (fun _ hk => hk.1.2) (.slice Ao43 t416.length co43)) (fun _ hk => hk.2) (.bool t419)) (fun _ hk => hk.2) (.slice Ao46 t420.length co46)) (fun _ hk => ⟨hk.1.1.1.1.2, ⟨hk.1.1.1.2, hk.1.1.2⟩⟩)⟩
        have n1_ : Aside0 (Kd.V (Kd.int .u32) 22 ((((w39.setCell ⟨gb423, 0, none⟩ (.bool t415)).setCell ⟨gb423, 1, none⟩ (.slice Ao43 t416.length co43)).setCell ⟨gb424, 0, none⟩ (.bool t419)).setCell ⟨gb424, 1, none⟩ (.slice Ao46 t420.length co46)) w.heap.size (fun k_ => k_ ≠ gb414 ∧ k_ ≠ gb423 ∧ k_ ≠ gb424) (.slice Ao43 t416.length co43) t416) := ⟨by (with_reducible repeat (first | apply qvA | apply qvN | apply qvD)); exact qvM (qvF (p := ⟨gb424, 1, none⟩) (qvF (p := ⟨gb424, 0, none⟩) (qvF (p := ⟨gb423, 1, none⟩) (qvF (p := ⟨gb423, 0, none⟩) (qvM (qvM HO418.out (fun k_ hk => (⟨hk, hk.1.2⟩ : _ ∧ k_ ≠ gb423))) (fun k_ hk => (⟨hk, hk.1.2⟩ : _ ∧ k_ ≠ gb424))) (fun _ hk => hk.1.2) (.bool t415)) (fun _ hk => hk.1.2) (.slice Ao43 t416.length co43)) (fun _ hk => hk.2) (.bool t419)) (fun _ hk => hk.2) (.slice Ao46 t420.length co46)) (fun _ hk => ⟨hk.1.1.1.1, ⟨hk.1.1.1.2, hk.1.1.2⟩⟩)⟩
        have n2_ : Aside0 (Kd.V (Kd.int .u32) 22 ((((w39.setCell ⟨gb423, 0, none⟩ (.bool t415)).setCell ⟨gb423, 1, none⟩ (.slice Ao43 t416.length co43)).setCell ⟨gb424, 0, none⟩ (.bool t419)).setCell ⟨gb424, 1, none⟩ (.slice Ao46 t420.length co46)) w.heap.size (fun k_ => k_ ≠ gb414 ∧ k_ ≠ gb423 ∧ k_ ≠ gb424) (.slice Ao46 t420.length co46) t420) := ⟨by (with_reducible repeat (first | apply qvA | apply qvN | apply qvD)); exact qvM (qvF (p := ⟨gb424, 1, none⟩) (qvF (p := ⟨gb424, 0, none⟩) (qvF (p := ⟨gb423, 1, none⟩) (qvF (p := ⟨gb423, 0, none⟩) (qvM (qvM HO422.out (fun k_ hk => (⟨hk, hk.1.2⟩ : _ ∧ k_ ≠ gb423))) (fun k_ hk => (⟨hk, hk.1.2⟩ : _ ∧ k_ ≠ gb424))) (fun _ hk => hk.1.2) (.bool t415)) (fun _ hk => hk.1.2) (.slice Ao43 t416.length co43)) (fun _ hk => hk.2) (.bool t419)) (fun _ hk => hk.2) (.slice Ao46 t420.length co46)) (fun _ hk => ⟨hk.1.1.1.1, ⟨hk.1.1.1.2, hk.1.1.2⟩⟩)⟩
        have n3_ : Aside0 (((((w39.setCell ⟨gb423, 0, none⟩ (.bool t415)).setCell ⟨gb423, 1, none⟩ (.slice Ao43 t416.length co43)).setCell ⟨gb424, 0, none⟩ (.bool t419)).setCell ⟨gb424, 1, none⟩ (.slice Ao46 t420.length co46)).heap[gb414]? = some (.cells #[.bool t410, .slice Ao36 t411.length co36] 25 (0, 0))) := ⟨by (with_reducible repeat (first | refine qbN ?_ _ | refine qbD ?_ | refine qbA ?_ _)); refine qbF ?_ NB414_424.out _; (with_reducible repeat (first | refine qbN ?_ _ | refine qbD ?_ | refine qbA ?_ _)); refine qbF ?_ NB414_424.out _; (with_reducible repeat (first | refine qbN ?_ _ | refine qbD ?_ | refine qbA ?_ _)); refine qbF ?_ NB414_423.out _; (with_reducible repeat (first | refine qbN ?_ _ | refine qbD ?_ | refine qbA ?_ _)); refine qbF ?_ NB414_423.out _; (with_reducible repeat (first | refine qbN ?_ _ | refine qbD ?_ | refine qbA ?_ _)); exact BK414.out⟩
        have n4_ : Aside0 (((((w39.setCell ⟨gb423, 0, none⟩ (.bool t415)).setCell ⟨gb423, 1, none⟩ (.slice Ao43 t416.length co43)).setCell ⟨gb424, 0, none⟩ (.bool t419)).setCell ⟨gb424, 1, none⟩ (.slice Ao46 t420.length co46)).heap[gb423]? = some (.cells #[.bool t415, .slice Ao43 t416.length co43] 25 (0, 0))) := ⟨by (with_reducible repeat (first | refine qbN ?_ _ | refine qbD ?_ | refine qbA ?_ _)); refine qbF ?_ NB423_424.out _; (with_reducible repeat (first | refine qbN ?_ _ | refine qbD ?_ | refine qbA ?_ _)); refine qbF ?_ NB423_424.out _; (with_reducible repeat (first | refine qbN ?_ _ | refine qbD ?_ | refine qbA ?_ _)); refine qbP (cs := #[.bool t415, .slice none 0 0]) ?_ 1 _ rfl; (with_reducible repeat (first | refine qbN ?_ _ | refine qbD ?_ | refine qbA ?_ _)); refine qbP (cs := #[.bool false, .slice none 0 0]) ?_ 0 _ rfl; (with_reducible repeat (first | refine qbN ?_ _ | refine qbD ?_ | refine qbA ?_ _)); exact BK423.out⟩
        have n5_ : Aside0 (((((w39.setCell ⟨gb423, 0, none⟩ (.bool t415)).setCell ⟨gb423, 1, none⟩ (.slice Ao43 t416.length co43)).setCell ⟨gb424, 0, none⟩ (.bool t419)).setCell ⟨gb424, 1, none⟩ (.slice Ao46 t420.length co46)).heap[gb424]? = some (.cells #[.bool t419, .slice Ao46 t420.length co46] 25 (0, 0))) := ⟨by (with_reducible repeat (first | refine qbN ?_ _ | refine qbD ?_ | refine qbA ?_ _)); refine qbP (cs := #[.bool t419, .slice none 0 0]) ?_ 1 _ rfl; (with_reducible repeat (first | refine qbN ?_ _ | refine qbD ?_ | refine qbA ?_ _)); refine qbP (cs := #[.bool false, .slice none 0 0]) ?_ 0 _ rfl; (with_reducible repeat (first | refine qbN ?_ _ | refine qbD ?_ | refine qbA ?_ _)); refine qbF ?_ NB424_423.out _; (with_reducible repeat (first | refine qbN ?_ _ | refine qbD ?_ | refine qbA ?_ _)); refine qbF ?_ NB424_423.out _; (with_reducible repeat (first | refine qbN ?_ _ | refine qbD ?_ | refine qbA ?_ _)); exact BK424.out⟩
        have n6_ : Aside0 (Below w.heap.size w ((((w39.setCell ⟨gb423, 0, none⟩ (.bool t415)).setCell ⟨gb423, 1, none⟩ (.slice Ao43 t416.length co43)).setCell ⟨gb424, 0, none⟩ (.bool t419)).setCell ⟨gb424, 1, none⟩ (.slice Ao46 t420.length co46))) := ⟨by repeat (first | (with_reducible first | exact HB.out | apply qwA | apply qwN | apply qwD | refine qwS ?_ GE414.out | refine qwS ?_ GE423.out | refine qwS ?_ GE424.out) | exact HB.out)⟩
        (try clear HO413)
        (try clear HO418)
        (try clear HO422)
        (try clear BK414)
        (try clear BK423)
        (try clear BK424)
        (try clear HB)
        generalize ((((w39.setCell ⟨gb423, 0, none⟩ (.bool t415)).setCell ⟨gb423, 1, none⟩ (.slice Ao43 t416.length co43)).setCell ⟨gb424, 0, none⟩ (.bool t419)).setCell ⟨gb424, 1, none⟩ (.slice Ao46 t420.length co46)) = w47 at n0_ n1_ n2_ n3_ n4_ n5_ n6_ ⊢
        have HO413 := n0_
        have HO418 := n1_
        have HO422 := n2_
        have BK414 := n3_
        have BK423 := n4_
        have BK424 := n5_
        have HB := n6_
        clear n0_ n1_ n2_ n3_ n4_ n5_ n6_
        have n0_ := qaM (qvD HO413.out)
        have n1_ := qaM (qvD HO418.out)
        have n2_ := qaM (qvD HO422.out)
        have n3_ := qaM (qbD BK414.out)
        have n4_ := qaM (qbD BK423.out)
        have n5_ := qaM (qbD BK424.out)
        have n6_ := qaM (qwD HB.out)
        clear HO413
        clear HO418
        clear HO422
        clear BK414
        clear BK423
        clear BK424
        clear HB
        have HO413 := n0_
        have HO418 := n1_
        have HO422 := n2_
        have BK414 := n3_
        have BK423 := n4_
        have BK424 := n5_
        have HB := n6_
        clear n0_ n1_ n2_ n3_ n4_ n5_ n6_
        refine start_ (n := 15) (S := fun w' => w'.cell? ⟨gb414, 0, none⟩ = some (.bool t410) ∧ w'.cell? ⟨gb414, 1, none⟩ = some (.slice Ao36 t411.length co36) ∧ w'.cell? ⟨gb423, 0, none⟩ = some (.bool t415) ∧ w'.cell? ⟨gb423, 1, none⟩ = some (.slice Ao43 t416.length co43) ∧ w'.cell? ⟨gb424, 0, none⟩ = some (.bool t419) ∧ w'.cell? ⟨gb424, 1, none⟩ = some (.slice Ao46 t420.length co46)) (ds := []) #[false, false, false, false, false, false, false, false, false, false, false, false, false, false, false] zr9_13 rfl rfl ⟨(qbC BK414.out 0).trans rfl, (qbC BK414.out 1).trans rfl, (qbC BK423.out 0).trans rfl, (qbC BK423.out 1).trans rfl, (qbC BK424.out 0).trans rfl, (qbC BK424.out 1).trans rfl⟩ (fun hHeld => ?_); refine with_tabW laws_FnRoundInt64To.tab7 laws_FnRoundInt64To.bits7 (fun HT_ HW_ => ?_)
        generalize w47.drew = w48 at HO413 HO418 HO422 BK414 BK423 BK424 HB hHeld ⊢
        refine pure_ (i := 0) (N := some 71) (v := ?_) (a' := ?_) #[true, false, false, false, false, false, false, false, false, false, false, false, false, false, false] rfl rfl (any_of HT_.out zr9_13) (fun _ _ _ h => h) (Or.inl ⟨by rfl, ?_⟩) ?_ ?_
        rotate_left
        ·intro w'
         go_simp
         with_reducible rfl
        rotate_left
        ·simp only [Act.put, qsA, qsZ, qsS, i64_w, i32_w]
         rfl
        refine pure_ (i := 3) (N := some 74) (v := ?_) (a' := ?_) #[true, false, false, true, false, false, false, false, false, false, false, false, false, false, false] rfl rfl (any_of HT_.out zr9_13) (fun _ _ _ h => h) (Or.inl ⟨by rfl, ?_⟩) ?_ ?_
        rotate_left
        ·intro w'
         go_simp
         with_reducible rfl
        rotate_left
        ·simp only [Act.put, qsA, qsZ, qsS, i64_w, i32_w]
         rfl
        refine take_ (i := 2) (N := some 73) (v := ?_) (a' := ?_) #[true, false, true, true, false, false, false, false, false, false, false, false, false, false, false] rfl rfl (take_ofW HT_.out HW_.out zr9_13) (fun _ _ _ h => h) (Or.inl ⟨by rfl, ?_⟩) hHeld ?_ ?_
        rotate_left
        ·rintro w' ⟨s0, s1, s2, s3, s4, s5⟩
         go_simp
         with_reducible rfl
        rotate_left
        ·simp only [Act.put, qsA, qsZ, qsS, i64_w, i32_w]
         rfl
        refine take_ (i := 5) (N := some 76) (v := ?_) (a' := ?_) #[true, false, true, true, false, true, false, false, false, false, false, false, false, false, false] rfl rfl (take_ofW HT_.out HW_.out zr9_13) (fun _ _ _ h => h) (Or.inl ⟨by rfl, ?_⟩) hHeld ?_ ?_
        rotate_left
        ·rintro w' ⟨s0, s1, s2, s3, s4, s5⟩
         go_simp
         with_reducible rfl
        rotate_left
        ·simp only [Act.put, qsA, qsZ, qsS, i64_w, i32_w]
         rfl
        refine take_ (i := 7) (N := some 78) (v := ?_) (a' := ?_) #[true, false, true, true, false, true, false, true, false, false, false, false, false, false, false] rfl rfl (take_ofW HT_.out HW_.out zr9_13) (fun _ _ _ h => h) (Or.inl ⟨by rfl, ?_⟩) hHeld ?_ ?_
        rotate_left
        ·rintro w' ⟨s0, s1, s2, s3, s4, s5⟩
         go_simp
         with_reducible rfl
        rotate_left
        ·simp only [Act.put, qsA, qsZ, qsS, i64_w, i32_w]
         rfl
        refine take_ (i := 8) (N := some 79) (v := ?_) (a' := ?_) #[true, false, true, true, false, true, false, true, true, false, false, false, false, false, false] rfl rfl (take_ofW HT_.out HW_.out zr9_13) (fun _ _ _ h => h) (Or.inl ⟨by rfl, ?_⟩) hHeld ?_ ?_
        rotate_left
        ·rintro w' ⟨s0, s1, s2, s3, s4, s5⟩
         go_simp
         with_reducible rfl
        rotate_left
        ·simp only [Act.put, qsA, qsZ, qsS, i64_w, i32_w]
         rfl
        refine one_ (i := 1) (N := some 72) #[true, true, true, true, false, true, false, true, true, false, false, false, false, false, false] rfl rfl (one_of HT_.out zr9_13) zr9_17 (fun K hK => ?_)
        refine goes_ Try.func17 zr9_13 rfl #[.int .i64 a0] (by rfl) rfl rfl zr9_4 ?_
        with_reducible refine (spec_WideInt.calls kj8 a0 t425 t426 _ A27.out).mono ?_
        rintro e w49 ⟨v427, rfl, ho0, hb⟩
        refine ⟨_, rfl, ?_⟩
        have n0_ := qaM (qvB zr9_7 hb)
        have n1_ := qaM (qvB zr9_8 hb)
        have n2_ := qaM (qvB zr9_9 hb)
        have n3_ := qaM (qvL (qvM (ok' := fun k_ => k_ ≠ gb414 ∧ k_ ≠ gb423 ∧ k_ ≠ gb424) ho0 (fun k_ hk_ => ⟨(qfB (g := gb414) (o := .cells #[.bool t410, .slice Ao36 t411.length co36] 25 (0, 0)) zr9_1 k_ hk_), (qfB (g := gb423) (o := .cells #[.bool t415, .slice Ao43 t416.length co43] 25 (0, 0)) zr9_3 k_ hk_), (qfB (g := gb424) (o := .cells #[.bool t419, .slice Ao46 t420.length co46] 25 (0, 0)) zr9_6 k_ hk_)⟩)) (qbS zr9_0))
        have n4_ := qaM (qbB (g := gb414) (o := .cells #[.bool t410, .slice Ao36 t411.length co36] 25 (0, 0)) zr9_1 hb)
        have n5_ := qaM (qbB (g := gb423) (o := .cells #[.bool t415, .slice Ao43 t416.length co43] 25 (0, 0)) zr9_3 hb)
        have n6_ := qaM (qbB (g := gb424) (o := .cells #[.bool t419, .slice Ao46 t420.length co46] 25 (0, 0)) zr9_6 hb)
        have n7_ := qaM (qbT zr9_0 hb)
        clear HO413
        clear HO418
        clear HO422
        clear BK414
        clear BK423
        clear BK424
        clear HB
        have HO413 := n0_
        have HO418 := n1_
        have HO422 := n2_
        have HO428 := n3_
        have BK414 := n4_
        have BK423 := n5_
        have BK424 := n6_
        have HB := n7_
        clear n0_ n1_ n2_ n3_ n4_ n5_ n6_ n7_
        (try clear hb)
        (try clear hb2)
        (try clear hk)
        (try clear hi)
        (try clear ho0)
        obtain ⟨Ao50, co50, eo50⟩ := Kd.V_slice HO428.out
        (first | subst eo50 | (injection eo50 with f1_ f2_ f3_; have f4_ := f1_.symm; have f5_ := f3_.symm; clear f1_ f2_ f3_; subst f4_; subst f5_))
        refine hK.out _ _ ⟨(qbC BK414.out 0).trans rfl, (qbC BK414.out 1).trans rfl, (qbC BK423.out 0).trans rfl, (qbC BK423.out 1).trans rfl, (qbC BK424.out 0).trans rfl, (qbC BK424.out 1).trans rfl⟩ (fun hHeld => ?_)
        clear hK K
        refine norm_ (a' := ?_) ?_ ?_
        rotate_left
        ·show Act.put _ (some 72) _ = _
         simp only [Act.put, qsA, qsZ, qsS, i64_w, i32_w]
         rfl
        refine one_ (i := 4) (N := some 75) #[true, true, true, true, true, true, false, true, true, false, false, false, false, false, false] rfl rfl (one_of HT_.out zr9_13) zr9_17 (fun K hK => ?_)
        refine goes_ Try.func22 zr9_13 rfl #[.agg #[.bool t425, .slice Ao50 t426.length co50], .agg #[.bool t410, .slice Ao36 t411.length co36], .int .i64 a2] (by rfl) rfl rfl zr9_4 ?_
        with_reducible refine (spec_RoundWide.calls kj8 t425 _ _ t426 t410 _ _ t411 a2 t429 t430 _ ?side1 ?side2 ?side3 ?side4 A28.out).mono ?_
        (case side1 => repeat (first | exact (qvR HO428.out).2.2 | (with_reducible refine Kd.C_alloc ?_ _) | (with_reducible refine Kd.C_drewN ?_ _) | (with_reducible refine Kd.C_drew ?_)))
        (case side2 => exact (qvR HO428.out).2.1)
        (case side3 => repeat (first | exact (qvR HO413.out).2.2 | (with_reducible refine Kd.C_alloc ?_ _) | (with_reducible refine Kd.C_drewN ?_ _) | (with_reducible refine Kd.C_drew ?_)))
        (case side4 => exact (qvR HO413.out).2.1)
        rintro e w51 ⟨v431, rfl, ho0, hb⟩
        refine ⟨_, rfl, ?_⟩
        have n0_ := qaM (qvB zr9_7 hb)
        have n1_ := qaM (qvB zr9_8 hb)
        have n2_ := qaM (qvB zr9_9 hb)
        have n3_ := qaM (qvB zr9_12 hb)
        have n4_ := qaM (qvL (qvM (ok' := fun k_ => k_ ≠ gb414 ∧ k_ ≠ gb423 ∧ k_ ≠ gb424) ho0 (fun k_ hk_ => ⟨(qfB (g := gb414) (o := .cells #[.bool t410, .slice Ao36 t411.length co36] 25 (0, 0)) zr9_1 k_ hk_), (qfB (g := gb423) (o := .cells #[.bool t415, .slice Ao43 t416.length co43] 25 (0, 0)) zr9_3 k_ hk_), (qfB (g := gb424) (o := .cells #[.bool t419, .slice Ao46 t420.length co46] 25 (0, 0)) zr9_6 k_ hk_)⟩)) (qbS zr9_0))
        have n5_ := qaM (qbB (g := gb414) (o := .cells #[.bool t410, .slice Ao36 t411.length co36] 25 (0, 0)) zr9_1 hb)
        have n6_ := qaM (qbB (g := gb423) (o := .cells #[.bool t415, .slice Ao43 t416.length co43] 25 (0, 0)) zr9_3 hb)
        have n7_ := qaM (qbB (g := gb424) (o := .cells #[.bool t419, .slice Ao46 t420.length co46] 25 (0, 0)) zr9_6 hb)
        have n8_ := qaM (qbT zr9_0 hb)
        clear HO413
        clear HO418
        clear HO422
        clear HO428
        clear BK414
        clear BK423
        clear BK424
        clear HB
        have HO413 := n0_
        have HO418 := n1_
        have HO422 := n2_
        have HO428 := n3_
        have HO432 := n4_
        have BK414 := n5_
        have BK423 := n6_
        have BK424 := n7_
        have HB := n8_
        clear n0_ n1_ n2_ n3_ n4_ n5_ n6_ n7_ n8_
        (try clear hb)
        (try clear hb2)
        (try clear hk)
        (try clear hi)
        (try clear ho0)
        obtain ⟨Ao52, co52, eo52⟩ := Kd.V_slice HO432.out
        (first | subst eo52 | (injection eo52 with f1_ f2_ f3_; have f4_ := f1_.symm; have f5_ := f3_.symm; clear f1_ f2_ f3_; subst f4_; subst f5_))
        refine hK.out _ _ ⟨(qbC BK414.out 0).trans rfl, (qbC BK414.out 1).trans rfl, (qbC BK423.out 0).trans rfl, (qbC BK423.out 1).trans rfl, (qbC BK424.out 0).trans rfl, (qbC BK424.out 1).trans rfl⟩ (fun hHeld => ?_)
        clear hK K
        refine norm_ (a' := ?_) ?_ ?_
        rotate_left
        ·show Act.put _ (some 75) _ = _
         simp only [Act.put, qsA, qsZ, qsS, i64_w, i32_w]
         rfl
        refine one_ (i := 6) (N := some 77) #[true, true, true, true, true, true, true, true, true, false, false, false, false, false, false] rfl rfl (one_of HT_.out zr9_13) zr9_17 (fun K hK => ?_)
        refine goes_ Try.func16 zr9_13 rfl #[.agg #[.bool t429, .slice Ao52 t430.length co52], .agg #[.bool t410, .slice Ao36 t411.length co36]] (by rfl) rfl rfl zr9_4 ?_
        with_reducible refine (spec_WideMul.calls kj8 t429 _ _ t430 t410 _ _ t411 t433 t434 _ ?side1 ?side2 ?side3 ?side4 A29.out).mono ?_
        (case side1 => repeat (first | exact (qvR HO432.out).2.2 | (with_reducible refine Kd.C_alloc ?_ _) | (with_reducible refine Kd.C_drewN ?_ _) | (with_reducible refine Kd.C_drew ?_)))
        (case side2 => exact (qvR HO432.out).2.1)
        (case side3 => repeat (first | exact (qvR HO413.out).2.2 | (with_reducible refine Kd.C_alloc ?_ _) | (with_reducible refine Kd.C_drewN ?_ _) | (with_reducible refine Kd.C_drew ?_)))
        (case side4 => exact (qvR HO413.out).2.1)
        rintro e w53 ⟨v435, rfl, ho0, hb⟩
        refine ⟨_, rfl, ?_⟩
        have n0_ := qaM (qvB zr9_7 hb)
        have n1_ := qaM (qvB zr9_8 hb)
        have n2_ := qaM (qvB zr9_9 hb)
        have n3_ := qaM (qvB zr9_12 hb)
        have n4_ := qaM (qvB zr9_14 hb)
        have n5_ := qaM (qvL (qvM (ok' := fun k_ => k_ ≠ gb414 ∧ k_ ≠ gb423 ∧ k_ ≠ gb424) ho0 (fun k_ hk_ => ⟨(qfB (g := gb414) (o := .cells #[.bool t410, .slice Ao36 t411.length co36] 25 (0, 0)) zr9_1 k_ hk_), (qfB (g := gb423) (o := .cells #[.bool t415, .slice Ao43 t416.length co43] 25 (0, 0)) zr9_3 k_ hk_), (qfB (g := gb424) (o := .cells #[.bool t419, .slice Ao46 t420.length co46] 25 (0, 0)) zr9_6 k_ hk_)⟩)) (qbS zr9_0))
        have n6_ := qaM (qbB (g := gb414) (o := .cells #[.bool t410, .slice Ao36 t411.length co36] 25 (0, 0)) zr9_1 hb)
        have n7_ := qaM (qbB (g := gb423) (o := .cells #[.bool t415, .slice Ao43 t416.length co43] 25 (0, 0)) zr9_3 hb)
        have n8_ := qaM (qbB (g := gb424) (o := .cells #[.bool t419, .slice Ao46 t420.length co46] 25 (0, 0)) zr9_6 hb)
        have n9_ := qaM (qbT zr9_0 hb)
        clear HO413
        clear HO418
        clear HO422
        clear HO428
        clear HO432
        clear BK414
        clear BK423
        clear BK424
        clear HB
        have HO413 := n0_
        have HO418 := n1_
        have HO422 := n2_
        have HO428 := n3_
        have HO432 := n4_
        have HO436 := n5_
        have BK414 := n6_
        have BK423 := n7_
        have BK424 := n8_
        have HB := n9_
        clear n0_ n1_ n2_ n3_ n4_ n5_ n6_ n7_ n8_ n9_
        (try clear hb)
        (try clear hb2)
        (try clear hk)
        (try clear hi)
        (try clear ho0)
        obtain ⟨Ao54, co54, eo54⟩ := Kd.V_slice HO436.out
        (first | subst eo54 | (injection eo54 with f1_ f2_ f3_; have f4_ := f1_.symm; have f5_ := f3_.symm; clear f1_ f2_ f3_; subst f4_; subst f5_))
        refine hK.out _ _ ⟨(qbC BK414.out 0).trans rfl, (qbC BK414.out 1).trans rfl, (qbC BK423.out 0).trans rfl, (qbC BK423.out 1).trans rfl, (qbC BK424.out 0).trans rfl, (qbC BK424.out 1).trans rfl⟩ (fun hHeld => ?_)
        clear hK K
        refine norm_ (a' := ?_) ?_ ?_
        rotate_left
        ·show Act.put _ (some 77) _ = _
         simp only [Act.put, qsA, qsZ, qsS, i64_w, i32_w]
         rfl
        refine one_ (i := 9) (N := some 80) #[true, true, true, true, true, true, true, true, true, true, false, false, false, false, false] rfl rfl (one_of HT_.out zr9_13) zr9_17 (fun K hK => ?_)
        refine goes_ Try.func10 zr9_13 rfl #[.agg #[.bool t433, .slice Ao54 t434.length co54], .agg #[.bool t415, .slice Ao43 t416.length co43], .agg #[.bool t419, .slice Ao46 t420.length co46]] (by rfl) rfl rfl zr9_4 ?_
        with_reducible refine (laws_fitted.calls kj8 t433 _ _ t434 t415 _ _ t416 t419 _ _ t420 t437 true _ ?side1 ?side2 ?side3 ?side4 ?side5 ?side6 A30.out).mono ?_
        (case side1 => repeat (first | exact (qvR HO436.out).2.2 | (with_reducible refine Kd.C_alloc ?_ _) | (with_reducible refine Kd.C_drewN ?_ _) | (with_reducible refine Kd.C_drew ?_)))
        (case side2 => exact (qvR HO436.out).2.1)
        (case side3 => repeat (first | exact (qvR HO418.out).2.2 | (with_reducible refine Kd.C_alloc ?_ _) | (with_reducible refine Kd.C_drewN ?_ _) | (with_reducible refine Kd.C_drew ?_)))
        (case side4 => exact (qvR HO418.out).2.1)
        (case side5 => repeat (first | exact (qvR HO422.out).2.2 | (with_reducible refine Kd.C_alloc ?_ _) | (with_reducible refine Kd.C_drewN ?_ _) | (with_reducible refine Kd.C_drew ?_)))
        (case side6 => exact (qvR HO422.out).2.1)
        rintro e w55 ⟨rfl, hb⟩
        refine ⟨_, rfl, ?_⟩
        have n0_ := qaM (qvB zr9_7 hb)
        have n1_ := qaM (qvB zr9_8 hb)
        have n2_ := qaM (qvB zr9_9 hb)
        have n3_ := qaM (qvB zr9_12 hb)
        have n4_ := qaM (qvB zr9_14 hb)
        have n5_ := qaM (qvB zr9_15 hb)
        have n6_ := qaM (qbB (g := gb414) (o := .cells #[.bool t410, .slice Ao36 t411.length co36] 25 (0, 0)) zr9_1 hb)
        have n7_ := qaM (qbB (g := gb423) (o := .cells #[.bool t415, .slice Ao43 t416.length co43] 25 (0, 0)) zr9_3 hb)
        have n8_ := qaM (qbB (g := gb424) (o := .cells #[.bool t419, .slice Ao46 t420.length co46] 25 (0, 0)) zr9_6 hb)
        have n9_ := qaM (qbT zr9_0 hb)
        clear HO413
        clear HO418
        clear HO422
        clear HO428
        clear HO432
        clear HO436
        clear BK414
        clear BK423
        clear BK424
        clear HB
        have HO413 := n0_
        have HO418 := n1_
        have HO422 := n2_
        have HO428 := n3_
        have HO432 := n4_
        have HO436 := n5_
        have BK414 := n6_
        have BK423 := n7_
        have BK424 := n8_
        have HB := n9_
        clear n0_ n1_ n2_ n3_ n4_ n5_ n6_ n7_ n8_ n9_
        (try clear hb)
        (try clear hb2)
        (try clear hk)
        (try clear hi)
        refine hK.out _ _ ⟨(qbC BK414.out 0).trans rfl, (qbC BK414.out 1).trans rfl, (qbC BK423.out 0).trans rfl, (qbC BK423.out 1).trans rfl, (qbC BK424.out 0).trans rfl, (qbC BK424.out 1).trans rfl⟩ (fun hHeld => ?_)
        clear hK K
        refine norm_ (a' := ?_) ?_ ?_
        rotate_left
        ·show Act.put _ (some 80) _ = _
         simp only [Act.put, qsA, qsZ, qsS, i64_w, i32_w]
         rfl
        refine pure_ (i := 10) (N := some 70) (v := ?_) (a' := ?_) #[true, true, true, true, true, true, true, true, true, true, true, false, false, false, false] rfl rfl (any_of HT_.out zr9_13) (fun _ _ _ h => h) (Or.inl ⟨by rfl, ?_⟩) ?_ ?_
        rotate_left
        ·intro w'
         go_simp
         with_reducible rfl
        rotate_left
        ·simp only [Act.put, qsA, qsZ, qsS, i64_w, i32_w]
         rfl
        refine pure_ (i := 11) (N := some 81) (v := ?_) (a' := ?_) #[true, true, true, true, true, true, true, true, true, true, true, true, false, false, false] rfl rfl (any_of HT_.out zr9_13) (fun _ _ _ h => h) (Or.inl ⟨by rfl, ?_⟩) ?_ ?_
        rotate_left
        ·intro w'
         go_simp
         with_reducible rfl
        rotate_left
        ·simp only [Act.put, qsA, qsZ, qsS, i64_w, i32_w]
         rfl
        refine pure_ (i := 12) (N := some 82) (v := ?_) (a' := ?_) #[true, true, true, true, true, true, true, true, true, true, true, true, true, false, false] rfl rfl (any_of HT_.out zr9_13) (fun _ _ _ h => h) (Or.inl ⟨by rfl, ?_⟩) ?_ ?_
        rotate_left
        ·intro w'
         go_simp
         with_reducible rfl
        rotate_left
        ·simp only [Act.put, qsA, qsZ, qsS, i64_w, i32_w]
         rfl
        refine pure_ (i := 13) (N := some 15) (v := ?_) (a' := ?_) #[true, true, true, true, true, true, true, true, true, true, true, true, true, true, false] rfl rfl (any_of HT_.out zr9_13) (fun _ _ _ h => h) (Or.inl ⟨by rfl, ?_⟩) ?_ ?_
        rotate_left
        ·intro w'
         go_simp
         with_reducible rfl
        rotate_left
        ·simp only [Act.put, qsA, qsZ, qsS, i64_w, i32_w]
         rfl
        refine pure_ (i := 14) (N := some 16) (v := ?_) (a' := ?_) #[true, true, true, true, true, true, true, true, true, true, true, true, true, true, true] rfl rfl (any_of HT_.out zr9_13) (fun _ _ _ h => h) (Or.inl ⟨by rfl, ?_⟩) ?_ ?_
        rotate_left
        ·intro w'
         go_simp
         with_reducible rfl
        rotate_left
        ·simp only [Act.put, qsA, qsZ, qsS, i64_w, i32_w]
         rfl
        refine done_ (done_of HT_.out zr9_13) ?_
        try go_wp2
        go_ret
        exact ⟨by first | rfl | (simp [errW_none, errW_some] <;> rfl) | (simp [*, errW_none, errW_some] <;> rfl), by repeat (first | (with_reducible first | exact HB.out | apply qwA | apply qwN | apply qwD | refine qwS ?_ GE414.out | refine qwS ?_ GE423.out | refine qwS ?_ GE424.out) | exact HB.out)⟩
       ·rw [if_neg c32] at H
        have c32b0 : decide (a0 ≤ (-2305843009213693952)) = false := decide_eq_false c32
        clear c32
        by_cases c56 : a0 ≥ 2305843009213693952
        ·rw [if_pos c56] at H
         have c56b0 : decide (2305843009213693952 ≤ a0) = true := decide_eq_true c56
         clear c56
         obtain rfl := Option.some.inj H
         try go_wp2_with (first | ((with_reducible refine gate_callee (f := 17) rfl ?_); refine goesL_ (some 65) rfl rfl Try.func17 zr9_13 rfl #[.int .i64 a1] rfl zr9_4 ?_; (with_reducible refine (spec_WideInt.calls kj8 a1 t410 t411 _ A25.out).mono ?_); rintro e w57 ⟨v412, rfl, ho0, hb⟩; refine ⟨_, rfl, ?_⟩; have n0_ := qaM (qvL (qvM (ok' := fun k_ => True) ho0 (fun k_ hk_ => trivial)) (qbS zr9_10)); have n1_ := qaM (qbT zr9_10 hb); clear HB; have HO413 := n0_; have HB := n1_; clear n0_ n1_; (try clear hb); (try clear hb2); (try clear hk); (try clear hi); (try clear ho0)) | ((with_reducible refine gate_dst (N := 12) rfl ?_); refine box_event ?hg (N := 12) ?hd (cs := #[.bool false, .slice none 0 0]) (t := 25) ?hr ?_; (case hd => rfl); (case hg => rfl); (case hr => first | (go_simp; done) | (go_simp; rfl)); intro gb414 hg w58 hbox hb; have n0_ := qaM (qvB (qvE zr9_7 gb414 (Nat.le_of_eq hg.symm)) hb); have n1_ := qaM (qbT zr9_10 hb); have n2_ := qaM (hbox); have n3_ := qaM ((by rw [hg]; exact (qbS zr9_10) : w.heap.size ≤ gb414)); have n4_ := qaM ((by rw [hg]; exact (qbS zr9_10) : w.heap.size ≤ gb414)); clear HO413; clear HB; have HO413 := n0_; have HB := n1_; have BK414 := n2_; have GW414 := n3_; have GE414 := n4_; clear n0_ n1_ n2_ n3_ n4_; clear hb hbox hg; have hcz59_0 : w58.cell? ⟨gb414, 0, none⟩ = some (.bool false) := (qbC BK414.out 0).trans rfl; have hcz59_1 : w58.cell? ⟨gb414, 1, none⟩ = some (.slice none 0 0) := (qbC BK414.out 1).trans rfl; have hfz59_0 := blk_frozen BK414.out 0; have hfz59_1 := blk_frozen BK414.out 1; obtain ⟨Ao60, co60, eo60⟩ := Kd.V_slice HO413.out; subst eo60) | ((with_reducible refine gate_callee (f := 9) rfl ?_); refine goesL_ (some 67) rfl rfl Try.func9 zr9_13 rfl #[.int .i64 62, .bool true] rfl zr9_4 ?_; (with_reducible refine (laws_bounds.calls kj8 62 true t415 t416 t419 t420 _ A26.out).mono ?_); rintro e w61 ⟨v417, v421, rfl, ho0, ho1, hb⟩; refine ⟨_, rfl, ?_⟩; have n0_ := qaM (qvB (by (with_reducible repeat (first | apply qvA | apply qvN | apply qvD)); exact (qvM (qvF (p := ⟨gb414, 1, none⟩) (qvF (p := ⟨gb414, 0, none⟩) (qvM HO413.out (fun k_ hk => (⟨hk, hk.2⟩ : _ ∧ k_ ≠ gb414))) (fun _ hk => hk.2) (.bool t410)) (fun _ hk => hk.2) (.slice Ao60 t411.length co60)) (fun _ h_ => h_.1))) hb); have n1_ := qaM (qvL (qvM (ok' := fun k_ => k_ ≠ gb414) ho0 (fun k_ hk_ => (qfB (g := gb414) (o := .cells #[.bool t410, .slice Ao60 t411.length co60] 25 (0, 0)) zr9_2 k_ hk_))) (qbS zr9_5)); have n2_ := qaM (qvL (qvM (ok' := fun k_ => k_ ≠ gb414) ho1 (fun k_ hk_ => (qfB (g := gb414) (o := .cells #[.bool t410, .slice Ao60 t411.length co60] 25 (0, 0)) zr9_2 k_ hk_))) (qbS zr9_5)); have n3_ := qaM (qbB (g := gb414) (o := .cells #[.bool t410, .slice Ao60 t411.length co60] 25 (0, 0)) zr9_2 hb); have n4_ := qaM (qbT zr9_5 hb); clear HO413; clear BK414; clear HB; have HO413 := n0_; have HO418 := n1_; have HO422 := n2_; have BK414 := n3_; have HB := n4_; clear n0_ n1_ n2_ n3_ n4_; (try clear hb); (try clear hb2); (try clear hk); (try clear hi); (try clear ho0); (try clear ho1)) | ((with_reducible refine gate_dst (N := 13) rfl ?_); refine box_event ?hg (N := 13) ?hd (cs := #[.bool false, .slice none 0 0]) (t := 25) ?hr ?_; (case hd => rfl); (case hg => rfl); (case hr => first | (go_simp; done) | (go_simp; rfl)); intro gb423 hg w62 hbox hb; have n0_ := qaM (qvB (qvE zr9_7 gb423 (Nat.le_of_eq hg.symm)) hb); have n1_ := qaM (qvB (qvE zr9_8 gb423 (Nat.le_of_eq hg.symm)) hb); have n2_ := qaM (qvB (qvE zr9_9 gb423 (Nat.le_of_eq hg.symm)) hb); have n3_ := qaM (qbB (g := gb414) (o := .cells #[.bool t410, .slice Ao60 t411.length co60] 25 (0, 0)) zr9_1 hb); have n4_ := qaM (qbT zr9_5 hb); have n5_ := qaM (hbox); have n6_ := qaM ((by rw [hg]; exact (qbS zr9_5) : w.heap.size ≤ gb423)); have n7_ := qaM ((by rw [hg]; exact (qbS zr9_5) : w.heap.size ≤ gb423)); have n8_ := qaM ((by rw [hg]; exact qnL (qbL (g := gb414) (o := .cells #[.bool t410, .slice Ao60 t411.length co60] 25 (0, 0)) zr9_1) : gb414 ≠ gb423)); have n9_ := qaM ((by rw [hg]; exact qnG (qbL (g := gb414) (o := .cells #[.bool t410, .slice Ao60 t411.length co60] 25 (0, 0)) zr9_1) : gb423 ≠ gb414)); clear HO413; clear HO418; clear HO422; clear BK414; clear HB; have HO413 := n0_; have HO418 := n1_; have HO422 := n2_; have BK414 := n3_; have HB := n4_; have BK423 := n5_; have GW423 := n6_; have GE423 := n7_; have NB414_423 := n8_; have NB423_414 := n9_; clear n0_ n1_ n2_ n3_ n4_ n5_ n6_ n7_ n8_ n9_; clear hb hbox hg) | ((with_reducible refine gate_dst (N := 14) rfl ?_); refine box_event ?hg (N := 14) ?hd (cs := #[.bool false, .slice none 0 0]) (t := 25) ?hr ?_; (case hd => rfl); (case hg => rfl); (case hr => first | (go_simp; done) | (go_simp; rfl)); intro gb424 hg w63 hbox hb; have n0_ := qaM (qvB (qvE zr9_7 gb424 (Nat.le_of_eq hg.symm)) hb); have n1_ := qaM (qvB (qvE zr9_8 gb424 (Nat.le_of_eq hg.symm)) hb); have n2_ := qaM (qvB (qvE zr9_9 gb424 (Nat.le_of_eq hg.symm)) hb); have n3_ := qaM (qbB (g := gb414) (o := .cells #[.bool t410, .slice Ao60 t411.length co60] 25 (0, 0)) zr9_1 hb); have n4_ := qaM (qbB (g := gb423) (o := .cells #[.bool false, .slice none 0 0] 25 (0, 0)) zr9_3 hb); have n5_ := qaM (qbT zr9_11 hb); have n6_ := qaM (hbox); have n7_ := qaM ((by rw [hg]; exact (qbS zr9_11) : w.heap.size ≤ gb424)); have n8_ := qaM ((by rw [hg]; exact (qbS zr9_11) : w.heap.size ≤ gb424)); have n9_ := qaM ((by rw [hg]; exact qnL (qbL (g := gb414) (o := .cells #[.bool t410, .slice Ao60 t411.length co60] 25 (0, 0)) zr9_1) : gb414 ≠ gb424)); have n10_ := qaM ((by rw [hg]; exact qnG (qbL (g := gb414) (o := .cells #[.bool t410, .slice Ao60 t411.length co60] 25 (0, 0)) zr9_1) : gb424 ≠ gb414)); have n11_ := qaM ((by rw [hg]; exact qnL (qbL (g := gb423) (o := .cells #[.bool false, .slice none 0 0] 25 (0, 0)) zr9_3) : gb423 ≠ gb424)); have n12_ := qaM ((by rw [hg]; exact qnG (qbL (g := gb423) (o := .cells #[.bool false, .slice none 0 0] 25 (0, 0)) zr9_3) : gb424 ≠ gb423)); clear HO413; clear HO418; clear HO422; clear BK414; clear BK423; clear HB; have HO413 := n0_; have HO418 := n1_; have HO422 := n2_; have BK414 := n3_; have BK423 := n4_; have HB := n5_; have BK424 := n6_; have GW424 := n7_; have GE424 := n8_; have NB414_424 := n9_; have NB424_414 := n10_; have NB423_424 := n11_; have NB424_423 := n12_; clear n0_ n1_ n2_ n3_ n4_ n5_ n6_ n7_ n8_ n9_ n10_ n11_ n12_; clear hb hbox hg; have hnb64 := NB423_414.out; have hnc64 := NB414_423.out; have hnb65 := NB423_424.out; have hnc65 := NB424_423.out; have hcz66_0 : w63.cell? ⟨gb423, 0, none⟩ = some (.bool false) := (qbC BK423.out 0).trans rfl; have hcz66_1 : w63.cell? ⟨gb423, 1, none⟩ = some (.slice none 0 0) := (qbC BK423.out 1).trans rfl; have hfz66_0 := blk_frozen BK423.out 0; have hfz66_1 := blk_frozen BK423.out 1; obtain ⟨Ao67, co67, eo67⟩ := Kd.V_slice HO418.out; subst eo67; have hnb68 := NB424_414.out; have hnc68 := NB414_424.out; have hcz69_0 : w63.cell? ⟨gb424, 0, none⟩ = some (.bool false) := (qbC BK424.out 0).trans rfl; have hcz69_1 : w63.cell? ⟨gb424, 1, none⟩ = some (.slice none 0 0) := (qbC BK424.out 1).trans rfl; have hfz69_0 := blk_frozen BK424.out 0; have hfz69_1 := blk_frozen BK424.out 1; obtain ⟨Ao70, co70, eo70⟩ := Kd.V_slice HO422.out; subst eo70))
         have n0_ : Aside0 (Kd.V (Kd.int .u32) 22 ((((w63.setCell ⟨gb423, 0, none⟩ (.bool t415)).setCell ⟨gb423, 1, none⟩ (.slice Ao67 t416.length co67)).setCell ⟨gb424, 0, none⟩ (.bool t419)).setCell ⟨gb424, 1, none⟩ (.slice Ao70 t420.length co70)) w.heap.size (fun k_ => k_ ≠ gb414 ∧ k_ ≠ gb423 ∧ k_ ≠ gb424) (.slice Ao60 t411.length co60) t411) := ⟨by (with_reducible repeat (first | apply qvA | apply qvN | apply qvD)); exact qvM (qvF (p := ⟨gb424, 1, none⟩) (qvF (p := ⟨gb424, 0, none⟩) (qvF (p := ⟨gb423, 1, none⟩) (qvF (p := ⟨gb423, 0, none⟩) (qvM (qvM HO413.out (fun k_ hk => (⟨hk, hk.1.2⟩ : _ ∧ k_ ≠ gb423))) (fun k_ hk => (⟨hk, hk.1.2⟩ : _ ∧ k_ ≠ gb424))) (fun _ hk => hk.1.2) (.bool t415)) (fun _ hk => hk.1.2) (.slice Ao67 t416.length co67)) (fun _ hk => hk.2) (.bool t419)) (fun _ hk => hk.2) (.slice Ao70 t420.length co70)) (fun _ hk => ⟨hk.1.1.1.1.2, ⟨hk.1.1.1.2, hk.1.1.2⟩⟩)⟩
         have n1_ : Aside0 (Kd.V (Kd.int .u32) 22 ((((w63.setCell ⟨gb423, 0, none⟩ (.bool t415)).setCell ⟨gb423, 1, none⟩ (.slice Ao67 t416.length co67)).setCell ⟨gb424, 0, none⟩ (.bool t419)).setCell ⟨gb424, 1, none⟩ (.slice Ao70 t420.length co70)) w.heap.size (fun k_ => k_ ≠ gb414 ∧ k_ ≠ gb423 ∧ k_ ≠ gb424) (.slice Ao67 t416.length co67) t416) := ⟨by (with_reducible repeat (first | apply qvA | apply qvN | apply qvD)); exact qvM (qvF (p := ⟨gb424, 1, none⟩) (qvF (p := ⟨gb424, 0, none⟩) (qvF (p := ⟨gb423, 1, none⟩) (qvF (p := ⟨gb423, 0, none⟩) (qvM (qvM HO418.out (fun k_ hk => (⟨hk, hk.1.2⟩ : _ ∧ k_ ≠ gb423))) (fun k_ hk => (⟨hk, hk.1.2⟩ : _ ∧ k_ ≠ gb424))) (fun _ hk => hk.1.2) (.bool t415)) (fun _ hk => hk.1.2) (.slice Ao67 t416.length co67)) (fun _ hk => hk.2) (.bool t419)) (fun _ hk => hk.2) (.slice Ao70 t420.length co70)) (fun _ hk => ⟨hk.1.1.1.1, ⟨hk.1.1.1.2, hk.1.1.2⟩⟩)⟩
         have n2_ : Aside0 (Kd.V (Kd.int .u32) 22 ((((w63.setCell ⟨gb423, 0, none⟩ (.bool t415)).setCell ⟨gb423, 1, none⟩ (.slice Ao67 t416.length co67)).setCell ⟨gb424, 0, none⟩ (.bool t419)).setCell ⟨gb424, 1, none⟩ (.slice Ao70 t420.length co70)) w.heap.size (fun k_ => k_ ≠ gb414 ∧ k_ ≠ gb423 ∧ k_ ≠ gb424) (.slice Ao70 t420.length co70) t420) := ⟨by (with_reducible repeat (first | apply qvA | apply qvN | apply qvD)); exact qvM (qvF (p := ⟨gb424, 1, none⟩) (qvF (p := ⟨gb424, 0, none⟩) (qvF (p := ⟨gb423, 1, none⟩) (qvF (p := ⟨gb423, 0, none⟩) (qvM (qvM HO422.out (fun k_ hk => (⟨hk, hk.1.2⟩ : _ ∧ k_ ≠ gb423))) (fun k_ hk => (⟨hk, hk.1.2⟩ : _ ∧ k_ ≠ gb424))) (fun _ hk => hk.1.2) (.bool t415)) (fun _ hk => hk.1.2) (.slice Ao67 t416.length co67)) (fun _ hk => hk.2) (.bool t419)) (fun _ hk => hk.2) (.slice Ao70 t420.length co70)) (fun _ hk => ⟨hk.1.1.1.1, ⟨hk.1.1.1.2, hk.1.1.2⟩⟩)⟩
         have n3_ : Aside0 (((((w63.setCell ⟨gb423, 0, none⟩ (.bool t415)).setCell ⟨gb423, 1, none⟩ (.slice Ao67 t416.length co67)).setCell ⟨gb424, 0, none⟩ (.bool t419)).setCell ⟨gb424, 1, none⟩ (.slice Ao70 t420.length co70)).heap[gb414]? = some (.cells #[.bool t410, .slice Ao60 t411.length co60] 25 (0, 0))) := ⟨by (with_reducible repeat (first | refine qbN ?_ _ | refine qbD ?_ | refine qbA ?_ _)); refine qbF ?_ NB414_424.out _; (with_reducible repeat (first | refine qbN ?_ _ | refine qbD ?_ | refine qbA ?_ _)); refine qbF ?_ NB414_424.out _; (with_reducible repeat (first | refine qbN ?_ _ | refine qbD ?_ | refine qbA ?_ _)); refine qbF ?_ NB414_423.out _; (with_reducible repeat (first | refine qbN ?_ _ | refine qbD ?_ | refine qbA ?_ _)); refine qbF ?_ NB414_423.out _; (with_reducible repeat (first | refine qbN ?_ _ | refine qbD ?_ | refine qbA ?_ _)); exact BK414.out⟩
         have n4_ : Aside0 (((((w63.setCell ⟨gb423, 0, none⟩ (.bool t415)).setCell ⟨gb423, 1, none⟩ (.slice Ao67 t416.length co67)).setCell ⟨gb424, 0, none⟩ (.bool t419)).setCell ⟨gb424, 1, none⟩ (.slice Ao70 t420.length co70)).heap[gb423]? = some (.cells #[.bool t415, .slice Ao67 t416.length co67] 25 (0, 0))) := ⟨by (with_reducible repeat (first | refine qbN ?_ _ | refine qbD ?_ | refine qbA ?_ _)); refine qbF ?_ NB423_424.out _; (with_reducible repeat (first | refine qbN ?_ _ | refine qbD ?_ | refine qbA ?_ _)); refine qbF ?_ NB423_424.out _; (with_reducible repeat (first | refine qbN ?_ _ | refine qbD ?_ | refine qbA ?_ _)); refine qbP (cs := #[.bool t415, .slice none 0 0]) ?_ 1 _ rfl; (with_reducible repeat (first | refine qbN ?_ _ | refine qbD ?_ | refine qbA ?_ _)); refine qbP (cs := #[.bool false, .slice none 0 0]) ?_ 0 _ rfl; (with_reducible repeat (first | refine qbN ?_ _ | refine qbD ?_ | refine qbA ?_ _)); exact BK423.out⟩
         have n5_ : Aside0 (((((w63.setCell ⟨gb423, 0, none⟩ (.bool t415)).setCell ⟨gb423, 1, none⟩ (.slice Ao67 t416.length co67)).setCell ⟨gb424, 0, none⟩ (.bool t419)).setCell ⟨gb424, 1, none⟩ (.slice Ao70 t420.length co70)).heap[gb424]? = some (.cells #[.bool t419, .slice Ao70 t420.length co70] 25 (0, 0))) := ⟨by (with_reducible repeat (first | refine qbN ?_ _ | refine qbD ?_ | refine qbA ?_ _)); refine qbP (cs := #[.bool t419, .slice none 0 0]) ?_ 1 _ rfl; (with_reducible repeat (first | refine qbN ?_ _ | refine qbD ?_ | refine qbA ?_ _)); refine qbP (cs := #[.bool false, .slice none 0 0]) ?_ 0 _ rfl; (with_reducible repeat (first | refine qbN ?_ _ | refine qbD ?_ | refine qbA ?_ _)); refine qbF ?_ NB424_423.out _; (with_reducible repeat (first | refine qbN ?_ _ | refine qbD ?_ | refine qbA ?_ _)); refine qbF ?_ NB424_423.out _; (with_reducible repeat (first | refine qbN ?_ _ | refine qbD ?_ | refine qbA ?_ _)); exact BK424.out⟩
         have n6_ : Aside0 (Below w.heap.size w ((((w63.setCell ⟨gb423, 0, none⟩ (.bool t415)).setCell ⟨gb423, 1, none⟩ (.slice Ao67 t416.length co67)).setCell ⟨gb424, 0, none⟩ (.bool t419)).setCell ⟨gb424, 1, none⟩ (.slice Ao70 t420.length co70))) := ⟨by repeat (first | (with_reducible first | exact HB.out | apply qwA | apply qwN | apply qwD | refine qwS ?_ GE414.out | refine qwS ?_ GE423.out | refine qwS ?_ GE424.out) | exact HB.out)⟩
         (try clear HO413)
         (try clear HO418)
         (try clear HO422)
         (try clear BK414)
         (try clear BK423)
         (try clear BK424)
         (try clear HB)
         generalize ((((w63.setCell ⟨gb423, 0, none⟩ (.bool t415)).setCell ⟨gb423, 1, none⟩ (.slice Ao67 t416.length co67)).setCell ⟨gb424, 0, none⟩ (.bool t419)).setCell ⟨gb424, 1, none⟩ (.slice Ao70 t420.length co70)) = w71 at n0_ n1_ n2_ n3_ n4_ n5_ n6_ ⊢
         have HO413 := n0_
         have HO418 := n1_
         have HO422 := n2_
         have BK414 := n3_
         have BK423 := n4_
         have BK424 := n5_
         have HB := n6_
         clear n0_ n1_ n2_ n3_ n4_ n5_ n6_
         have n0_ := qaM (qvD HO413.out)
         have n1_ := qaM (qvD HO418.out)
         have n2_ := qaM (qvD HO422.out)
         have n3_ := qaM (qbD BK414.out)
         have n4_ := qaM (qbD BK423.out)
         have n5_ := qaM (qbD BK424.out)
         have n6_ := qaM (qwD HB.out)
         clear HO413
         clear HO418
         clear HO422
         clear BK414
         clear BK423
         clear BK424
         clear HB
         have HO413 := n0_
         have HO418 := n1_
         have HO422 := n2_
         have BK414 := n3_
         have BK423 := n4_
         have BK424 := n5_
         have HB := n6_
         clear n0_ n1_ n2_ n3_ n4_ n5_ n6_
         refine start_ (n := 15) (S := fun w' => w'.cell? ⟨gb414, 0, none⟩ = some (.bool t410) ∧ w'.cell? ⟨gb414, 1, none⟩ = some (.slice Ao60 t411.length co60) ∧ w'.cell? ⟨gb423, 0, none⟩ = some (.bool t415) ∧ w'.cell? ⟨gb423, 1, none⟩ = some (.slice Ao67 t416.length co67) ∧ w'.cell? ⟨gb424, 0, none⟩ = some (.bool t419) ∧ w'.cell? ⟨gb424, 1, none⟩ = some (.slice Ao70 t420.length co70)) (ds := []) #[false, false, false, false, false, false, false, false, false, false, false, false, false, false, false] zr9_13 rfl rfl ⟨(qbC BK414.out 0).trans rfl, (qbC BK414.out 1).trans rfl, (qbC BK423.out 0).trans rfl, (qbC BK423.out 1).trans rfl, (qbC BK424.out 0).trans rfl, (qbC BK424.out 1).trans rfl⟩ (fun hHeld => ?_); refine with_tabW laws_FnRoundInt64To.tab7 laws_FnRoundInt64To.bits7 (fun HT_ HW_ => ?_)
         generalize w71.drew = w72 at HO413 HO418 HO422 BK414 BK423 BK424 HB hHeld ⊢
         refine pure_ (i := 0) (N := some 71) (v := ?_) (a' := ?_) #[true, false, false, false, false, false, false, false, false, false, false, false, false, false, false] rfl rfl (any_of HT_.out zr9_13) (fun _ _ _ h => h) (Or.inl ⟨by rfl, ?_⟩) ?_ ?_
         rotate_left
         ·intro w'
          go_simp
          with_reducible rfl
         rotate_left
         ·simp only [Act.put, qsA, qsZ, qsS, i64_w, i32_w]
          rfl
         refine pure_ (i := 3) (N := some 74) (v := ?_) (a' := ?_) #[true, false, false, true, false, false, false, false, false, false, false, false, false, false, false] rfl rfl (any_of HT_.out zr9_13) (fun _ _ _ h => h) (Or.inl ⟨by rfl, ?_⟩) ?_ ?_
         rotate_left
         ·intro w'
          go_simp
          with_reducible rfl
         rotate_left
         ·simp only [Act.put, qsA, qsZ, qsS, i64_w, i32_w]
          rfl
         refine take_ (i := 2) (N := some 73) (v := ?_) (a' := ?_) #[true, false, true, true, false, false, false, false, false, false, false, false, false, false, false] rfl rfl (take_ofW HT_.out HW_.out zr9_13) (fun _ _ _ h => h) (Or.inl ⟨by rfl, ?_⟩) hHeld ?_ ?_
         rotate_left
         ·rintro w' ⟨s0, s1, s2, s3, s4, s5⟩
          go_simp
          with_reducible rfl
         rotate_left
         ·simp only [Act.put, qsA, qsZ, qsS, i64_w, i32_w]
          rfl
         refine take_ (i := 5) (N := some 76) (v := ?_) (a' := ?_) #[true, false, true, true, false, true, false, false, false, false, false, false, false, false, false] rfl rfl (take_ofW HT_.out HW_.out zr9_13) (fun _ _ _ h => h) (Or.inl ⟨by rfl, ?_⟩) hHeld ?_ ?_
         rotate_left
         ·rintro w' ⟨s0, s1, s2, s3, s4, s5⟩
          go_simp
          with_reducible rfl
         rotate_left
         ·simp only [Act.put, qsA, qsZ, qsS, i64_w, i32_w]
          rfl
         refine take_ (i := 7) (N := some 78) (v := ?_) (a' := ?_) #[true, false, true, true, false, true, false, true, false, false, false, false, false, false, false] rfl rfl (take_ofW HT_.out HW_.out zr9_13) (fun _ _ _ h => h) (Or.inl ⟨by rfl, ?_⟩) hHeld ?_ ?_
         rotate_left
         ·rintro w' ⟨s0, s1, s2, s3, s4, s5⟩
          go_simp
          with_reducible rfl
         rotate_left
         ·simp only [Act.put, qsA, qsZ, qsS, i64_w, i32_w]
          rfl
         refine take_ (i := 8) (N := some 79) (v := ?_) (a' := ?_) #[true, false, true, true, false, true, false, true, true, false, false, false, false, false, false] rfl rfl (take_ofW HT_.out HW_.out zr9_13) (fun _ _ _ h => h) (Or.inl ⟨by rfl, ?_⟩) hHeld ?_ ?_
         rotate_left
         ·rintro w' ⟨s0, s1, s2, s3, s4, s5⟩
          go_simp
          with_reducible rfl
         rotate_left
         ·simp only [Act.put, qsA, qsZ, qsS, i64_w, i32_w]
          rfl
         refine one_ (i := 1) (N := some 72) #[true, true, true, true, false, true, false, true, true, false, false, false, false, false, false] rfl rfl (one_of HT_.out zr9_13) zr9_17 (fun K hK => ?_)
         refine goes_ Try.func17 zr9_13 rfl #[.int .i64 a0] (by rfl) rfl rfl zr9_4 ?_
         with_reducible refine (spec_WideInt.calls kj8 a0 t425 t426 _ A27.out).mono ?_
         rintro e w73 ⟨v427, rfl, ho0, hb⟩
         refine ⟨_, rfl, ?_⟩
         have n0_ := qaM (qvB zr9_7 hb)
         have n1_ := qaM (qvB zr9_8 hb)
         have n2_ := qaM (qvB zr9_9 hb)
         have n3_ := qaM (qvL (qvM (ok' := fun k_ => k_ ≠ gb414 ∧ k_ ≠ gb423 ∧ k_ ≠ gb424) ho0 (fun k_ hk_ => ⟨(qfB (g := gb414) (o := .cells #[.bool t410, .slice Ao60 t411.length co60] 25 (0, 0)) zr9_1 k_ hk_), (qfB (g := gb423) (o := .cells #[.bool t415, .slice Ao67 t416.length co67] 25 (0, 0)) zr9_3 k_ hk_), (qfB (g := gb424) (o := .cells #[.bool t419, .slice Ao70 t420.length co70] 25 (0, 0)) zr9_6 k_ hk_)⟩)) (qbS zr9_0))
         have n4_ := qaM (qbB (g := gb414) (o := .cells #[.bool t410, .slice Ao60 t411.length co60] 25 (0, 0)) zr9_1 hb)
         have n5_ := qaM (qbB (g := gb423) (o := .cells #[.bool t415, .slice Ao67 t416.length co67] 25 (0, 0)) zr9_3 hb)
         have n6_ := qaM (qbB (g := gb424) (o := .cells #[.bool t419, .slice Ao70 t420.length co70] 25 (0, 0)) zr9_6 hb)
         have n7_ := qaM (qbT zr9_0 hb)
         clear HO413
         clear HO418
         clear HO422
         clear BK414
         clear BK423
         clear BK424
         clear HB
         have HO413 := n0_
         have HO418 := n1_
         have HO422 := n2_
         have HO428 := n3_
         have BK414 := n4_
         have BK423 := n5_
         have BK424 := n6_
         have HB := n7_
         clear n0_ n1_ n2_ n3_ n4_ n5_ n6_ n7_
         (try clear hb)
         (try clear hb2)
         (try clear hk)
         (try clear hi)
         (try clear ho0)
         obtain ⟨Ao74, co74, eo74⟩ := Kd.V_slice HO428.out
         (first | subst eo74 | (injection eo74 with f1_ f2_ f3_; have f4_ := f1_.symm; have f5_ := f3_.symm; clear f1_ f2_ f3_; subst f4_; subst f5_))
         refine hK.out _ _ ⟨(qbC BK414.out 0).trans rfl, (qbC BK414.out 1).trans rfl, (qbC BK423.out 0).trans rfl, (qbC BK423.out 1).trans rfl, (qbC BK424.out 0).trans rfl, (qbC BK424.out 1).trans rfl⟩ (fun hHeld => ?_)
         clear hK K
         refine norm_ (a' := ?_) ?_ ?_
         rotate_left
         ·show Act.put _ (some 72) _ = _
          simp only [Act.put, qsA, qsZ, qsS, i64_w, i32_w]
          rfl
         refine one_ (i := 4) (N := some 75) #[true, true, true, true, true, true, false, true, true, false, false, false, false, false, false] rfl rfl (one_of HT_.out zr9_13) zr9_17 (fun K hK => ?_)
         refine goes_ Try.func22 zr9_13 rfl #[.agg #[.bool t425, .slice Ao74 t426.length co74], .agg #[.bool t410, .slice Ao60 t411.length co60], .int .i64 a2] (by rfl) rfl rfl zr9_4 ?_
         with_reducible refine (spec_RoundWide.calls kj8 t425 _ _ t426 t410 _ _ t411 a2 t429 t430 _ ?side1 ?side2 ?side3 ?side4 A28.out).mono ?_
         (case side1 => repeat (first | exact (qvR HO428.out).2.2 | (with_reducible refine Kd.C_alloc ?_ _) | (with_reducible refine Kd.C_drewN ?_ _) | (with_reducible refine Kd.C_drew ?_)))
         (case side2 => exact (qvR HO428.out).2.1)
         (case side3 => repeat (first | exact (qvR HO413.out).2.2 | (with_reducible refine Kd.C_alloc ?_ _) | (with_reducible refine Kd.C_drewN ?_ _) | (with_reducible refine Kd.C_drew ?_)))
         (case side4 => exact (qvR HO413.out).2.1)
         rintro e w75 ⟨v431, rfl, ho0, hb⟩
         refine ⟨_, rfl, ?_⟩
         have n0_ := qaM (qvB zr9_7 hb)
         have n1_ := qaM (qvB zr9_8 hb)
         have n2_ := qaM (qvB zr9_9 hb)
         have n3_ := qaM (qvB zr9_12 hb)
         have n4_ := qaM (qvL (qvM (ok' := fun k_ => k_ ≠ gb414 ∧ k_ ≠ gb423 ∧ k_ ≠ gb424) ho0 (fun k_ hk_ => ⟨(qfB (g := gb414) (o := .cells #[.bool t410, .slice Ao60 t411.length co60] 25 (0, 0)) zr9_1 k_ hk_), (qfB (g := gb423) (o := .cells #[.bool t415, .slice Ao67 t416.length co67] 25 (0, 0)) zr9_3 k_ hk_), (qfB (g := gb424) (o := .cells #[.bool t419, .slice Ao70 t420.length co70] 25 (0, 0)) zr9_6 k_ hk_)⟩)) (qbS zr9_0))
         have n5_ := qaM (qbB (g := gb414) (o := .cells #[.bool t410, .slice Ao60 t411.length co60] 25 (0, 0)) zr9_1 hb)
         have n6_ := qaM (qbB (g := gb423) (o := .cells #[.bool t415, .slice Ao67 t416.length co67] 25 (0, 0)) zr9_3 hb)
         have n7_ := qaM (qbB (g := gb424) (o := .cells #[.bool t419, .slice Ao70 t420.length co70] 25 (0, 0)) zr9_6 hb)
         have n8_ := qaM (qbT zr9_0 hb)
         clear HO413
         clear HO418
         clear HO422
         clear HO428
         clear BK414
         clear BK423
         clear BK424
         clear HB
         have HO413 := n0_
         have HO418 := n1_
         have HO422 := n2_
         have HO428 := n3_
         have HO432 := n4_
         have BK414 := n5_
         have BK423 := n6_
         have BK424 := n7_
         have HB := n8_
         clear n0_ n1_ n2_ n3_ n4_ n5_ n6_ n7_ n8_
         (try clear hb)
         (try clear hb2)
         (try clear hk)
         (try clear hi)
         (try clear ho0)
         obtain ⟨Ao76, co76, eo76⟩ := Kd.V_slice HO432.out
         (first | subst eo76 | (injection eo76 with f1_ f2_ f3_; have f4_ := f1_.symm; have f5_ := f3_.symm; clear f1_ f2_ f3_; subst f4_; subst f5_))
         refine hK.out _ _ ⟨(qbC BK414.out 0).trans rfl, (qbC BK414.out 1).trans rfl, (qbC BK423.out 0).trans rfl, (qbC BK423.out 1).trans rfl, (qbC BK424.out 0).trans rfl, (qbC BK424.out 1).trans rfl⟩ (fun hHeld => ?_)
         clear hK K
         refine norm_ (a' := ?_) ?_ ?_
         rotate_left
         ·show Act.put _ (some 75) _ = _
          simp only [Act.put, qsA, qsZ, qsS, i64_w, i32_w]
          rfl
         refine one_ (i := 6) (N := some 77) #[true, true, true, true, true, true, true, true, true, false, false, false, false, false, false] rfl rfl (one_of HT_.out zr9_13) zr9_17 (fun K hK => ?_)
         refine goes_ Try.func16 zr9_13 rfl #[.agg #[.bool t429, .slice Ao76 t430.length co76], .agg #[.bool t410, .slice Ao60 t411.length co60]] (by rfl) rfl rfl zr9_4 ?_
         with_reducible refine (spec_WideMul.calls kj8 t429 _ _ t430 t410 _ _ t411 t433 t434 _ ?side1 ?side2 ?side3 ?side4 A29.out).mono ?_
         (case side1 => repeat (first | exact (qvR HO432.out).2.2 | (with_reducible refine Kd.C_alloc ?_ _) | (with_reducible refine Kd.C_drewN ?_ _) | (with_reducible refine Kd.C_drew ?_)))
         (case side2 => exact (qvR HO432.out).2.1)
         (case side3 => repeat (first | exact (qvR HO413.out).2.2 | (with_reducible refine Kd.C_alloc ?_ _) | (with_reducible refine Kd.C_drewN ?_ _) | (with_reducible refine Kd.C_drew ?_)))
         (case side4 => exact (qvR HO413.out).2.1)
         rintro e w77 ⟨v435, rfl, ho0, hb⟩
         refine ⟨_, rfl, ?_⟩
         have n0_ := qaM (qvB zr9_7 hb)
         have n1_ := qaM (qvB zr9_8 hb)
         have n2_ := qaM (qvB zr9_9 hb)
         have n3_ := qaM (qvB zr9_12 hb)
         have n4_ := qaM (qvB zr9_14 hb)
         have n5_ := qaM (qvL (qvM (ok' := fun k_ => k_ ≠ gb414 ∧ k_ ≠ gb423 ∧ k_ ≠ gb424) ho0 (fun k_ hk_ => ⟨(qfB (g := gb414) (o := .cells #[.bool t410, .slice Ao60 t411.length co60] 25 (0, 0)) zr9_1 k_ hk_), (qfB (g := gb423) (o := .cells #[.bool t415, .slice Ao67 t416.length co67] 25 (0, 0)) zr9_3 k_ hk_), (qfB (g := gb424) (o := .cells #[.bool t419, .slice Ao70 t420.length co70] 25 (0, 0)) zr9_6 k_ hk_)⟩)) (qbS zr9_0))
         have n6_ := qaM (qbB (g := gb414) (o := .cells #[.bool t410, .slice Ao60 t411.length co60] 25 (0, 0)) zr9_1 hb)
         have n7_ := qaM (qbB (g := gb423) (o := .cells #[.bool t415, .slice Ao67 t416.length co67] 25 (0, 0)) zr9_3 hb)
         have n8_ := qaM (qbB (g := gb424) (o := .cells #[.bool t419, .slice Ao70 t420.length co70] 25 (0, 0)) zr9_6 hb)
         have n9_ := qaM (qbT zr9_0 hb)
         clear HO413
         clear HO418
         clear HO422
         clear HO428
         clear HO432
         clear BK414
         clear BK423
         clear BK424
         clear HB
         have HO413 := n0_
         have HO418 := n1_
         have HO422 := n2_
         have HO428 := n3_
         have HO432 := n4_
         have HO436 := n5_
         have BK414 := n6_
         have BK423 := n7_
         have BK424 := n8_
         have HB := n9_
         clear n0_ n1_ n2_ n3_ n4_ n5_ n6_ n7_ n8_ n9_
         (try clear hb)
         (try clear hb2)
         (try clear hk)
         (try clear hi)
         (try clear ho0)
         obtain ⟨Ao78, co78, eo78⟩ := Kd.V_slice HO436.out
         (first | subst eo78 | (injection eo78 with f1_ f2_ f3_; have f4_ := f1_.symm; have f5_ := f3_.symm; clear f1_ f2_ f3_; subst f4_; subst f5_))
         refine hK.out _ _ ⟨(qbC BK414.out 0).trans rfl, (qbC BK414.out 1).trans rfl, (qbC BK423.out 0).trans rfl, (qbC BK423.out 1).trans rfl, (qbC BK424.out 0).trans rfl, (qbC BK424.out 1).trans rfl⟩ (fun hHeld => ?_)
         clear hK K
         refine norm_ (a' := ?_) ?_ ?_
         rotate_left
         ·show Act.put _ (some 77) _ = _
          simp only [Act.put, qsA, qsZ, qsS, i64_w, i32_w]
          rfl
         refine one_ (i := 9) (N := some 80) #[true, true, true, true, true, true, true, true, true, true, false, false, false, false, false] rfl rfl (one_of HT_.out zr9_13) zr9_17 (fun K hK => ?_)
         refine goes_ Try.func10 zr9_13 rfl #[.agg #[.bool t433, .slice Ao78 t434.length co78], .agg #[.bool t415, .slice Ao67 t416.length co67], .agg #[.bool t419, .slice Ao70 t420.length co70]] (by rfl) rfl rfl zr9_4 ?_
         with_reducible refine (laws_fitted.calls kj8 t433 _ _ t434 t415 _ _ t416 t419 _ _ t420 t437 true _ ?side1 ?side2 ?side3 ?side4 ?side5 ?side6 A30.out).mono ?_
         (case side1 => repeat (first | exact (qvR HO436.out).2.2 | (with_reducible refine Kd.C_alloc ?_ _) | (with_reducible refine Kd.C_drewN ?_ _) | (with_reducible refine Kd.C_drew ?_)))
         (case side2 => exact (qvR HO436.out).2.1)
         (case side3 => repeat (first | exact (qvR HO418.out).2.2 | (with_reducible refine Kd.C_alloc ?_ _) | (with_reducible refine Kd.C_drewN ?_ _) | (with_reducible refine Kd.C_drew ?_)))
         (case side4 => exact (qvR HO418.out).2.1)
         (case side5 => repeat (first | exact (qvR HO422.out).2.2 | (with_reducible refine Kd.C_alloc ?_ _) | (with_reducible refine Kd.C_drewN ?_ _) | (with_reducible refine Kd.C_drew ?_)))
         (case side6 => exact (qvR HO422.out).2.1)
         rintro e w79 ⟨rfl, hb⟩
         refine ⟨_, rfl, ?_⟩
         have n0_ := qaM (qvB zr9_7 hb)
         have n1_ := qaM (qvB zr9_8 hb)
         have n2_ := qaM (qvB zr9_9 hb)
         have n3_ := qaM (qvB zr9_12 hb)
         have n4_ := qaM (qvB zr9_14 hb)
         have n5_ := qaM (qvB zr9_15 hb)
         have n6_ := qaM (qbB (g := gb414) (o := .cells #[.bool t410, .slice Ao60 t411.length co60] 25 (0, 0)) zr9_1 hb)
         have n7_ := qaM (qbB (g := gb423) (o := .cells #[.bool t415, .slice Ao67 t416.length co67] 25 (0, 0)) zr9_3 hb)
         have n8_ := qaM (qbB (g := gb424) (o := .cells #[.bool t419, .slice Ao70 t420.length co70] 25 (0, 0)) zr9_6 hb)
         have n9_ := qaM (qbT zr9_0 hb)
         clear HO413
         clear HO418
         clear HO422
         clear HO428
         clear HO432
         clear HO436
         clear BK414
         clear BK423
         clear BK424
         clear HB
         have HO413 := n0_
         have HO418 := n1_
         have HO422 := n2_
         have HO428 := n3_
         have HO432 := n4_
         have HO436 := n5_
         have BK414 := n6_
         have BK423 := n7_
         have BK424 := n8_
         have HB := n9_
         clear n0_ n1_ n2_ n3_ n4_ n5_ n6_ n7_ n8_ n9_
         (try clear hb)
         (try clear hb2)
         (try clear hk)
         (try clear hi)
         refine hK.out _ _ ⟨(qbC BK414.out 0).trans rfl, (qbC BK414.out 1).trans rfl, (qbC BK423.out 0).trans rfl, (qbC BK423.out 1).trans rfl, (qbC BK424.out 0).trans rfl, (qbC BK424.out 1).trans rfl⟩ (fun hHeld => ?_)
         clear hK K
         refine norm_ (a' := ?_) ?_ ?_
         rotate_left
         ·show Act.put _ (some 80) _ = _
          simp only [Act.put, qsA, qsZ, qsS, i64_w, i32_w]
          rfl
         refine pure_ (i := 10) (N := some 70) (v := ?_) (a' := ?_) #[true, true, true, true, true, true, true, true, true, true, true, false, false, false, false] rfl rfl (any_of HT_.out zr9_13) (fun _ _ _ h => h) (Or.inl ⟨by rfl, ?_⟩) ?_ ?_
         rotate_left
         ·intro w'
          go_simp
          with_reducible rfl
         rotate_left
         ·simp only [Act.put, qsA, qsZ, qsS, i64_w, i32_w]
          rfl
         refine pure_ (i := 11) (N := some 81) (v := ?_) (a' := ?_) #[true, true, true, true, true, true, true, true, true, true, true, true, false, false, false] rfl rfl (any_of HT_.out zr9_13) (fun _ _ _ h => h) (Or.inl ⟨by rfl, ?_⟩) ?_ ?_
         rotate_left
         ·intro w'
          go_simp
          with_reducible rfl
         rotate_left
         ·simp only [Act.put, qsA, qsZ, qsS, i64_w, i32_w]
          rfl
         refine pure_ (i := 12) (N := some 82) (v := ?_) (a' := ?_) #[true, true, true, true, true, true, true, true, true, true, true, true, true, false, false] rfl rfl (any_of HT_.out zr9_13) (fun _ _ _ h => h) (Or.inl ⟨by rfl, ?_⟩) ?_ ?_
         rotate_left
         ·intro w'
          go_simp
          with_reducible rfl
         rotate_left
         ·simp only [Act.put, qsA, qsZ, qsS, i64_w, i32_w]
          rfl
         refine pure_ (i := 13) (N := some 15) (v := ?_) (a' := ?_) #[true, true, true, true, true, true, true, true, true, true, true, true, true, true, false] rfl rfl (any_of HT_.out zr9_13) (fun _ _ _ h => h) (Or.inl ⟨by rfl, ?_⟩) ?_ ?_
         rotate_left
         ·intro w'
          go_simp
          with_reducible rfl
         rotate_left
         ·simp only [Act.put, qsA, qsZ, qsS, i64_w, i32_w]
          rfl
         refine pure_ (i := 14) (N := some 16) (v := ?_) (a' := ?_) #[true, true, true, true, true, true, true, true, true, true, true, true, true, true, true] rfl rfl (any_of HT_.out zr9_13) (fun _ _ _ h => h) (Or.inl ⟨by rfl, ?_⟩) ?_ ?_
         rotate_left
         ·intro w'
          go_simp
          with_reducible rfl
         rotate_left
         ·simp only [Act.put, qsA, qsZ, qsS, i64_w, i32_w]
          rfl
         refine done_ (done_of HT_.out zr9_13) ?_
         try go_wp2
         go_ret
         exact ⟨by first | rfl | (simp [errW_none, errW_some] <;> rfl) | (simp [*, errW_none, errW_some] <;> rfl), by repeat (first | (with_reducible first | exact HB.out | apply qwA | apply qwN | apply qwD | refine qwS ?_ GE414.out | refine qwS ?_ GE423.out | refine qwS ?_ GE424.out) | exact HB.out)⟩
        ·rw [if_neg c56] at H
         have c56b0 : decide (2305843009213693952 ≤ a0) = false := decide_eq_false c56
         clear c56
         by_cases c80 : a1 ≥ 2305843009213693952
         ·rw [if_pos c80] at H
          have c80b0 : decide (2305843009213693952 ≤ a1) = true := decide_eq_true c80
          clear c80
          obtain rfl := Option.some.inj H
          try go_wp2_with (first | ((with_reducible refine gate_callee (f := 17) rfl ?_); refine goesL_ (some 65) rfl rfl Try.func17 zr9_13 rfl #[.int .i64 a1] rfl zr9_4 ?_; (with_reducible refine (spec_WideInt.calls kj8 a1 t410 t411 _ A25.out).mono ?_); rintro e w81 ⟨v412, rfl, ho0, hb⟩; refine ⟨_, rfl, ?_⟩; have n0_ := qaM (qvL (qvM (ok' := fun k_ => True) ho0 (fun k_ hk_ => trivial)) (qbS zr9_10)); have n1_ := qaM (qbT zr9_10 hb); clear HB; have HO413 := n0_; have HB := n1_; clear n0_ n1_; (try clear hb); (try clear hb2); (try clear hk); (try clear hi); (try clear ho0)) | ((with_reducible refine gate_dst (N := 12) rfl ?_); refine box_event ?hg (N := 12) ?hd (cs := #[.bool false, .slice none 0 0]) (t := 25) ?hr ?_; (case hd => rfl); (case hg => rfl); (case hr => first | (go_simp; done) | (go_simp; rfl)); intro gb414 hg w82 hbox hb; have n0_ := qaM (qvB (qvE zr9_7 gb414 (Nat.le_of_eq hg.symm)) hb); have n1_ := qaM (qbT zr9_10 hb); have n2_ := qaM (hbox); have n3_ := qaM ((by rw [hg]; exact (qbS zr9_10) : w.heap.size ≤ gb414)); have n4_ := qaM ((by rw [hg]; exact (qbS zr9_10) : w.heap.size ≤ gb414)); clear HO413; clear HB; have HO413 := n0_; have HB := n1_; have BK414 := n2_; have GW414 := n3_; have GE414 := n4_; clear n0_ n1_ n2_ n3_ n4_; clear hb hbox hg; have hcz83_0 : w82.cell? ⟨gb414, 0, none⟩ = some (.bool false) := (qbC BK414.out 0).trans rfl; have hcz83_1 : w82.cell? ⟨gb414, 1, none⟩ = some (.slice none 0 0) := (qbC BK414.out 1).trans rfl; have hfz83_0 := blk_frozen BK414.out 0; have hfz83_1 := blk_frozen BK414.out 1; obtain ⟨Ao84, co84, eo84⟩ := Kd.V_slice HO413.out; subst eo84) | ((with_reducible refine gate_callee (f := 9) rfl ?_); refine goesL_ (some 67) rfl rfl Try.func9 zr9_13 rfl #[.int .i64 62, .bool true] rfl zr9_4 ?_; (with_reducible refine (laws_bounds.calls kj8 62 true t415 t416 t419 t420 _ A26.out).mono ?_); rintro e w85 ⟨v417, v421, rfl, ho0, ho1, hb⟩; refine ⟨_, rfl, ?_⟩; have n0_ := qaM (qvB (by (with_reducible repeat (first | apply qvA | apply qvN | apply qvD)); exact (qvM (qvF (p := ⟨gb414, 1, none⟩) (qvF (p := ⟨gb414, 0, none⟩) (qvM HO413.out (fun k_ hk => (⟨hk, hk.2⟩ : _ ∧ k_ ≠ gb414))) (fun _ hk => hk.2) (.bool t410)) (fun _ hk => hk.2) (.slice Ao84 t411.length co84)) (fun _ h_ => h_.1))) hb); have n1_ := qaM (qvL (qvM (ok' := fun k_ => k_ ≠ gb414) ho0 (fun k_ hk_ => (qfB (g := gb414) (o := .cells #[.bool t410, .slice Ao84 t411.length co84] 25 (0, 0)) zr9_2 k_ hk_))) (qbS zr9_5)); have n2_ := qaM (qvL (qvM (ok' := fun k_ => k_ ≠ gb414) ho1 (fun k_ hk_ => (qfB (g := gb414) (o := .cells #[.bool t410, .slice Ao84 t411.length co84] 25 (0, 0)) zr9_2 k_ hk_))) (qbS zr9_5)); have n3_ := qaM (qbB (g := gb414) (o := .cells #[.bool t410, .slice Ao84 t411.length co84] 25 (0, 0)) zr9_2 hb); have n4_ := qaM (qbT zr9_5 hb); clear HO413; clear BK414; clear HB; have HO413 := n0_; have HO418 := n1_; have HO422 := n2_; have BK414 := n3_; have HB := n4_; clear n0_ n1_ n2_ n3_ n4_; (try clear hb); (try clear hb2); (try clear hk); (try clear hi); (try clear ho0); (try clear ho1)) | ((with_reducible refine gate_dst (N := 13) rfl ?_); refine box_event ?hg (N := 13) ?hd (cs := #[.bool false, .slice none 0 0]) (t := 25) ?hr ?_; (case hd => rfl); (case hg => rfl); (case hr => first | (go_simp; done) | (go_simp; rfl)); intro gb423 hg w86 hbox hb; have n0_ := qaM (qvB (qvE zr9_7 gb423 (Nat.le_of_eq hg.symm)) hb); have n1_ := qaM (qvB (qvE zr9_8 gb423 (Nat.le_of_eq hg.symm)) hb); have n2_ := qaM (qvB (qvE zr9_9 gb423 (Nat.le_of_eq hg.symm)) hb); have n3_ := qaM (qbB (g := gb414) (o := .cells #[.bool t410, .slice Ao84 t411.length co84] 25 (0, 0)) zr9_1 hb); have n4_ := qaM (qbT zr9_5 hb); have n5_ := qaM (hbox); have n6_ := qaM ((by rw [hg]; exact (qbS zr9_5) : w.heap.size ≤ gb423)); have n7_ := qaM ((by rw [hg]; exact (qbS zr9_5) : w.heap.size ≤ gb423)); have n8_ := qaM ((by rw [hg]; exact qnL (qbL (g := gb414) (o := .cells #[.bool t410, .slice Ao84 t411.length co84] 25 (0, 0)) zr9_1) : gb414 ≠ gb423)); have n9_ := qaM ((by rw [hg]; exact qnG (qbL (g := gb414) (o := .cells #[.bool t410, .slice Ao84 t411.length co84] 25 (0, 0)) zr9_1) : gb423 ≠ gb414)); clear HO413; clear HO418; clear HO422; clear BK414; clear HB; have HO413 := n0_; have HO418 := n1_; have HO422 := n2_; have BK414 := n3_; have HB := n4_; have BK423 := n5_; have GW423 := n6_; have GE423 := n7_; have NB414_423 := n8_; have NB423_414 := n9_; clear n0_ n1_ n2_ n3_ n4_ n5_ n6_ n7_ n8_ n9_; clear hb hbox hg) | ((with_reducible refine gate_dst (N := 14) rfl ?_); refine box_event ?hg (N := 14) ?hd (cs := #[.bool false, .slice none 0 0]) (t := 25) ?hr ?_; (case hd => rfl); (case hg => rfl); (case hr => first | (go_simp; done) | (go_simp; rfl)); intro gb424 hg w87 hbox hb; have n0_ := qaM (qvB (qvE zr9_7 gb424 (Nat.le_of_eq hg.symm)) hb); have n1_ := qaM (qvB (qvE zr9_8 gb424 (Nat.le_of_eq hg.symm)) hb); have n2_ := qaM (qvB (qvE zr9_9 gb424 (Nat.le_of_eq hg.symm)) hb); have n3_ := qaM (qbB (g := gb414) (o := .cells #[.bool t410, .slice Ao84 t411.length co84] 25 (0, 0)) zr9_1 hb); have n4_ := qaM (qbB (g := gb423) (o := .cells #[.bool false, .slice none 0 0] 25 (0, 0)) zr9_3 hb); have n5_ := qaM (qbT zr9_11 hb); have n6_ := qaM (hbox); have n7_ := qaM ((by rw [hg]; exact (qbS zr9_11) : w.heap.size ≤ gb424)); have n8_ := qaM ((by rw [hg]; exact (qbS zr9_11) : w.heap.size ≤ gb424)); have n9_ := qaM ((by rw [hg]; exact qnL (qbL (g := gb414) (o := .cells #[.bool t410, .slice Ao84 t411.length co84] 25 (0, 0)) zr9_1) : gb414 ≠ gb424)); have n10_ := qaM ((by rw [hg]; exact qnG (qbL (g := gb414) (o := .cells #[.bool t410, .slice Ao84 t411.length co84] 25 (0, 0)) zr9_1) : gb424 ≠ gb414)); have n11_ := qaM ((by rw [hg]; exact qnL (qbL (g := gb423) (o := .cells #[.bool false, .slice none 0 0] 25 (0, 0)) zr9_3) : gb423 ≠ gb424)); have n12_ := qaM ((by rw [hg]; exact qnG (qbL (g := gb423) (o := .cells #[.bool false, .slice none 0 0] 25 (0, 0)) zr9_3) : gb424 ≠ gb423)); clear HO413; clear HO418; clear HO422; clear BK414; clear BK423; clear HB; have HO413 := n0_; have HO418 := n1_; have HO422 := n2_; have BK414 := n3_; have BK423 := n4_; have HB := n5_; have BK424 := n6_; have GW424 := n7_; have GE424 := n8_; have NB414_424 := n9_; have NB424_414 := n10_; have NB423_424 := n11_; have NB424_423 := n12_; clear n0_ n1_ n2_ n3_ n4_ n5_ n6_ n7_ n8_ n9_ n10_ n11_ n12_; clear hb hbox hg; have hnb88 := NB423_414.out; have hnc88 := NB414_423.out; have hnb89 := NB423_424.out; have hnc89 := NB424_423.out; have hcz90_0 : w87.cell? ⟨gb423, 0, none⟩ = some (.bool false) := (qbC BK423.out 0).trans rfl; have hcz90_1 : w87.cell? ⟨gb423, 1, none⟩ = some (.slice none 0 0) := (qbC BK423.out 1).trans rfl; have hfz90_0 := blk_frozen BK423.out 0; have hfz90_1 := blk_frozen BK423.out 1; obtain ⟨Ao91, co91, eo91⟩ := Kd.V_slice HO418.out; subst eo91; have hnb92 := NB424_414.out; have hnc92 := NB414_424.out; have hcz93_0 : w87.cell? ⟨gb424, 0, none⟩ = some (.bool false) := (qbC BK424.out 0).trans rfl; have hcz93_1 : w87.cell? ⟨gb424, 1, none⟩ = some (.slice none 0 0) := (qbC BK424.out 1).trans rfl; have hfz93_0 := blk_frozen BK424.out 0; have hfz93_1 := blk_frozen BK424.out 1; obtain ⟨Ao94, co94, eo94⟩ := Kd.V_slice HO422.out; subst eo94))
          have n0_ : Aside0 (Kd.V (Kd.int .u32) 22 ((((w87.setCell ⟨gb423, 0, none⟩ (.bool t415)).setCell ⟨gb423, 1, none⟩ (.slice Ao91 t416.length co91)).setCell ⟨gb424, 0, none⟩ (.bool t419)).setCell ⟨gb424, 1, none⟩ (.slice Ao94 t420.length co94)) w.heap.size (fun k_ => k_ ≠ gb414 ∧ k_ ≠ gb423 ∧ k_ ≠ gb424) (.slice Ao84 t411.length co84) t411) := ⟨by (with_reducible repeat (first | apply qvA | apply qvN | apply qvD)); exact qvM (qvF (p := ⟨gb424, 1, none⟩) (qvF (p := ⟨gb424, 0, none⟩) (qvF (p := ⟨gb423, 1, none⟩) (qvF (p := ⟨gb423, 0, none⟩) (qvM (qvM HO413.out (fun k_ hk => (⟨hk, hk.1.2⟩ : _ ∧ k_ ≠ gb423))) (fun k_ hk => (⟨hk, hk.1.2⟩ : _ ∧ k_ ≠ gb424))) (fun _ hk => hk.1.2) (.bool t415)) (fun _ hk => hk.1.2) (.slice Ao91 t416.length co91)) (fun _ hk => hk.2) (.bool t419)) (fun _ hk => hk.2) (.slice Ao94 t420.length co94)) (fun _ hk => ⟨hk.1.1.1.1.2, ⟨hk.1.1.1.2, hk.1.1.2⟩⟩)⟩
          have n1_ : Aside0 (Kd.V (Kd.int .u32) 22 ((((w87.setCell ⟨gb423, 0, none⟩ (.bool t415)).setCell ⟨gb423, 1, none⟩ (.slice Ao91 t416.length co91)).setCell ⟨gb424, 0, none⟩ (.bool t419)).setCell ⟨gb424, 1, none⟩ (.slice Ao94 t420.length co94)) w.heap.size (fun k_ => k_ ≠ gb414 ∧ k_ ≠ gb423 ∧ k_ ≠ gb424) (.slice Ao91 t416.length co91) t416) := ⟨by (with_reducible repeat (first | apply qvA | apply qvN | apply qvD)); exact qvM (qvF (p := ⟨gb424, 1, none⟩) (qvF (p := ⟨gb424, 0, none⟩) (qvF (p := ⟨gb423, 1, none⟩) (qvF (p := ⟨gb423, 0, none⟩) (qvM (qvM HO418.out (fun k_ hk => (⟨hk, hk.1.2⟩ : _ ∧ k_ ≠ gb423))) (fun k_ hk => (⟨hk, hk.1.2⟩ : _ ∧ k_ ≠ gb424))) (fun _ hk => hk.1.2) (.bool t415)) (fun _ hk => hk.1.2) (.slice Ao91 t416.length co91)) (fun _ hk => hk.2) (.bool t419)) (fun _ hk => hk.2) (.slice Ao94 t420.length co94)) (fun _ hk => ⟨hk.1.1.1.1, ⟨hk.1.1.1.2, hk.1.1.2⟩⟩)⟩
          have n2_ : Aside0 (Kd.V (Kd.int .u32) 22 ((((w87.setCell ⟨gb423, 0, none⟩ (.bool t415)).setCell ⟨gb423, 1, none⟩ (.slice Ao91 t416.length co91)).setCell ⟨gb424, 0, none⟩ (.bool t419)).setCell ⟨gb424, 1, none⟩ (.slice Ao94 t420.length co94)) w.heap.size (fun k_ => k_ ≠ gb414 ∧ k_ ≠ gb423 ∧ k_ ≠ gb424) (.slice Ao94 t420.length co94) t420) := ⟨by (with_reducible repeat (first | apply qvA | apply qvN | apply qvD)); exact qvM (qvF (p := ⟨gb424, 1, none⟩) (qvF (p := ⟨gb424, 0, none⟩) (qvF (p := ⟨gb423, 1, none⟩) (qvF (p := ⟨gb423, 0, none⟩) (qvM (qvM HO422.out (fun k_ hk => (⟨hk, hk.1.2⟩ : _ ∧ k_ ≠ gb423))) (fun k_ hk => (⟨hk, hk.1.2⟩ : _ ∧ k_ ≠ gb424))) (fun _ hk => hk.1.2) (.bool t415)) (fun _ hk => hk.1.2) (.slice Ao91 t416.length co91)) (fun _ hk => hk.2) (.bool t419)) (fun _ hk => hk.2) (.slice Ao94 t420.length co94)) (fun _ hk => ⟨hk.1.1.1.1, ⟨hk.1.1.1.2, hk.1.1.2⟩⟩)⟩
          have n3_ : Aside0 (((((w87.setCell ⟨gb423, 0, none⟩ (.bool t415)).setCell ⟨gb423, 1, none⟩ (.slice Ao91 t416.length co91)).setCell ⟨gb424, 0, none⟩ (.bool t419)).setCell ⟨gb424, 1, none⟩ (.slice Ao94 t420.length co94)).heap[gb414]? = some (.cells #[.bool t410, .slice Ao84 t411.length co84] 25 (0, 0))) := ⟨by (with_reducible repeat (first | refine qbN ?_ _ | refine qbD ?_ | refine qbA ?_ _)); refine qbF ?_ NB414_424.out _; (with_reducible repeat (first | refine qbN ?_ _ | refine qbD ?_ | refine qbA ?_ _)); refine qbF ?_ NB414_424.out _; (with_reducible repeat (first | refine qbN ?_ _ | refine qbD ?_ | refine qbA ?_ _)); refine qbF ?_ NB414_423.out _; (with_reducible repeat (first | refine qbN ?_ _ | refine qbD ?_ | refine qbA ?_ _)); refine qbF ?_ NB414_423.out _; (with_reducible repeat (first | refine qbN ?_ _ | refine qbD ?_ | refine qbA ?_ _)); exact BK414.out⟩
          have n4_ : Aside0 (((((w87.setCell ⟨gb423, 0, none⟩ (.bool t415)).setCell ⟨gb423, 1, none⟩ (.slice Ao91 t416.length co91)).setCell ⟨gb424, 0, none⟩ (.bool t419)).setCell ⟨gb424, 1, none⟩ (.slice Ao94 t420.length co94)).heap[gb423]? = some (.cells #[.bool t415, .slice Ao91 t416.length co91] 25 (0, 0))) := ⟨by (with_reducible repeat (first | refine qbN ?_ _ | refine qbD ?_ | refine qbA ?_ _)); refine qbF ?_ NB423_424.out _; (with_reducible repeat (first | refine qbN ?_ _ | refine qbD ?_ | refine qbA ?_ _)); refine qbF ?_ NB423_424.out _; (with_reducible repeat (first | refine qbN ?_ _ | refine qbD ?_ | refine qbA ?_ _)); refine qbP (cs := #[.bool t415, .slice none 0 0]) ?_ 1 _ rfl; (with_reducible repeat (first | refine qbN ?_ _ | refine qbD ?_ | refine qbA ?_ _)); refine qbP (cs := #[.bool false, .slice none 0 0]) ?_ 0 _ rfl; (with_reducible repeat (first | refine qbN ?_ _ | refine qbD ?_ | refine qbA ?_ _)); exact BK423.out⟩
          have n5_ : Aside0 (((((w87.setCell ⟨gb423, 0, none⟩ (.bool t415)).setCell ⟨gb423, 1, none⟩ (.slice Ao91 t416.length co91)).setCell ⟨gb424, 0, none⟩ (.bool t419)).setCell ⟨gb424, 1, none⟩ (.slice Ao94 t420.length co94)).heap[gb424]? = some (.cells #[.bool t419, .slice Ao94 t420.length co94] 25 (0, 0))) := ⟨by (with_reducible repeat (first | refine qbN ?_ _ | refine qbD ?_ | refine qbA ?_ _)); refine qbP (cs := #[.bool t419, .slice none 0 0]) ?_ 1 _ rfl; (with_reducible repeat (first | refine qbN ?_ _ | refine qbD ?_ | refine qbA ?_ _)); refine qbP (cs := #[.bool false, .slice none 0 0]) ?_ 0 _ rfl; (with_reducible repeat (first | refine qbN ?_ _ | refine qbD ?_ | refine qbA ?_ _)); refine qbF ?_ NB424_423.out _; (with_reducible repeat (first | refine qbN ?_ _ | refine qbD ?_ | refine qbA ?_ _)); refine qbF ?_ NB424_423.out _; (with_reducible repeat (first | refine qbN ?_ _ | refine qbD ?_ | refine qbA ?_ _)); exact BK424.out⟩
          have n6_ : Aside0 (Below w.heap.size w ((((w87.setCell ⟨gb423, 0, none⟩ (.bool t415)).setCell ⟨gb423, 1, none⟩ (.slice Ao91 t416.length co91)).setCell ⟨gb424, 0, none⟩ (.bool t419)).setCell ⟨gb424, 1, none⟩ (.slice Ao94 t420.length co94))) := ⟨by repeat (first | (with_reducible first | exact HB.out | apply qwA | apply qwN | apply qwD | refine qwS ?_ GE414.out | refine qwS ?_ GE423.out | refine qwS ?_ GE424.out) | exact HB.out)⟩
          (try clear HO413)
          (try clear HO418)
          (try clear HO422)
          (try clear BK414)
          (try clear BK423)
          (try clear BK424)
          (try clear HB)
          generalize ((((w87.setCell ⟨gb423, 0, none⟩ (.bool t415)).setCell ⟨gb423, 1, none⟩ (.slice Ao91 t416.length co91)).setCell ⟨gb424, 0, none⟩ (.bool t419)).setCell ⟨gb424, 1, none⟩ (.slice Ao94 t420.length co94)) = w95 at n0_ n1_ n2_ n3_ n4_ n5_ n6_ ⊢
          have HO413 := n0_
          have HO418 := n1_
          have HO422 := n2_
          have BK414 := n3_
          have BK423 := n4_
          have BK424 := n5_
          have HB := n6_
          clear n0_ n1_ n2_ n3_ n4_ n5_ n6_
          have n0_ := qaM (qvD HO413.out)
          have n1_ := qaM (qvD HO418.out)
          have n2_ := qaM (qvD HO422.out)
          have n3_ := qaM (qbD BK414.out)
          have n4_ := qaM (qbD BK423.out)
          have n5_ := qaM (qbD BK424.out)
          have n6_ := qaM (qwD HB.out)
          clear HO413
          clear HO418
          clear HO422
          clear BK414
          clear BK423
          clear BK424
          clear HB
          have HO413 := n0_
          have HO418 := n1_
          have HO422 := n2_
          have BK414 := n3_
          have BK423 := n4_
          have BK424 := n5_
          have HB := n6_
          clear n0_ n1_ n2_ n3_ n4_ n5_ n6_
          refine start_ (n := 15) (S := fun w' => w'.cell? ⟨gb414, 0, none⟩ = some (.bool t410) ∧ w'.cell? ⟨gb414, 1, none⟩ = some (.slice Ao84 t411.length co84) ∧ w'.cell? ⟨gb423, 0, none⟩ = some (.bool t415) ∧ w'.cell? ⟨gb423, 1, none⟩ = some (.slice Ao91 t416.length co91) ∧ w'.cell? ⟨gb424, 0, none⟩ = some (.bool t419) ∧ w'.cell? ⟨gb424, 1, none⟩ = some (.slice Ao94 t420.length co94)) (ds := []) #[false, false, false, false, false, false, false, false, false, false, false, false, false, false, false] zr9_13 rfl rfl ⟨(qbC BK414.out 0).trans rfl, (qbC BK414.out 1).trans rfl, (qbC BK423.out 0).trans rfl, (qbC BK423.out 1).trans rfl, (qbC BK424.out 0).trans rfl, (qbC BK424.out 1).trans rfl⟩ (fun hHeld => ?_); refine with_tabW laws_FnRoundInt64To.tab7 laws_FnRoundInt64To.bits7 (fun HT_ HW_ => ?_)
          generalize w95.drew = w96 at HO413 HO418 HO422 BK414 BK423 BK424 HB hHeld ⊢
          refine pure_ (i := 0) (N := some 71) (v := ?_) (a' := ?_) #[true, false, false, false, false, false, false, false, false, false, false, false, false, false, false] rfl rfl (any_of HT_.out zr9_13) (fun _ _ _ h => h) (Or.inl ⟨by rfl, ?_⟩) ?_ ?_
          rotate_left
          ·intro w'
           go_simp
           with_reducible rfl
          rotate_left
          ·simp only [Act.put, qsA, qsZ, qsS, i64_w, i32_w]
           rfl
          refine pure_ (i := 3) (N := some 74) (v := ?_) (a' := ?_) #[true, false, false, true, false, false, false, false, false, false, false, false, false, false, false] rfl rfl (any_of HT_.out zr9_13) (fun _ _ _ h => h) (Or.inl ⟨by rfl, ?_⟩) ?_ ?_
          rotate_left
          ·intro w'
           go_simp
           with_reducible rfl
          rotate_left
          ·simp only [Act.put, qsA, qsZ, qsS, i64_w, i32_w]
           rfl
          refine take_ (i := 2) (N := some 73) (v := ?_) (a' := ?_) #[true, false, true, true, false, false, false, false, false, false, false, false, false, false, false] rfl rfl (take_ofW HT_.out HW_.out zr9_13) (fun _ _ _ h => h) (Or.inl ⟨by rfl, ?_⟩) hHeld ?_ ?_
          rotate_left
          ·rintro w' ⟨s0, s1, s2, s3, s4, s5⟩
           go_simp
           with_reducible rfl
          rotate_left
          ·simp only [Act.put, qsA, qsZ, qsS, i64_w, i32_w]
           rfl
          refine take_ (i := 5) (N := some 76) (v := ?_) (a' := ?_) #[true, false, true, true, false, true, false, false, false, false, false, false, false, false, false] rfl rfl (take_ofW HT_.out HW_.out zr9_13) (fun _ _ _ h => h) (Or.inl ⟨by rfl, ?_⟩) hHeld ?_ ?_
          rotate_left
          ·rintro w' ⟨s0, s1, s2, s3, s4, s5⟩
           go_simp
           with_reducible rfl
          rotate_left
          ·simp only [Act.put, qsA, qsZ, qsS, i64_w, i32_w]
           rfl
          refine take_ (i := 7) (N := some 78) (v := ?_) (a' := ?_) #[true, false, true, true, false, true, false, true, false, false, false, false, false, false, false] rfl rfl (take_ofW HT_.out HW_.out zr9_13) (fun _ _ _ h => h) (Or.inl ⟨by rfl, ?_⟩) hHeld ?_ ?_
          rotate_left
          ·rintro w' ⟨s0, s1, s2, s3, s4, s5⟩
           go_simp
           with_reducible rfl
          rotate_left
          ·simp only [Act.put, qsA, qsZ, qsS, i64_w, i32_w]
           rfl
          refine take_ (i := 8) (N := some 79) (v := ?_) (a' := ?_) #[true, false, true, true, false, true, false, true, true, false, false, false, false, false, false] rfl rfl (take_ofW HT_.out HW_.out zr9_13) (fun _ _ _ h => h) (Or.inl ⟨by rfl, ?_⟩) hHeld ?_ ?_
          rotate_left
          ·rintro w' ⟨s0, s1, s2, s3, s4, s5⟩
           go_simp
           with_reducible rfl
          rotate_left
          ·simp only [Act.put, qsA, qsZ, qsS, i64_w, i32_w]
           rfl
          refine one_ (i := 1) (N := some 72) #[true, true, true, true, false, true, false, true, true, false, false, false, false, false, false] rfl rfl (one_of HT_.out zr9_13) zr9_17 (fun K hK => ?_)
          refine goes_ Try.func17 zr9_13 rfl #[.int .i64 a0] (by rfl) rfl rfl zr9_4 ?_
          with_reducible refine (spec_WideInt.calls kj8 a0 t425 t426 _ A27.out).mono ?_
          rintro e w97 ⟨v427, rfl, ho0, hb⟩
          refine ⟨_, rfl, ?_⟩
          have n0_ := qaM (qvB zr9_7 hb)
          have n1_ := qaM (qvB zr9_8 hb)
          have n2_ := qaM (qvB zr9_9 hb)
          have n3_ := qaM (qvL (qvM (ok' := fun k_ => k_ ≠ gb414 ∧ k_ ≠ gb423 ∧ k_ ≠ gb424) ho0 (fun k_ hk_ => ⟨(qfB (g := gb414) (o := .cells #[.bool t410, .slice Ao84 t411.length co84] 25 (0, 0)) zr9_1 k_ hk_), (qfB (g := gb423) (o := .cells #[.bool t415, .slice Ao91 t416.length co91] 25 (0, 0)) zr9_3 k_ hk_), (qfB (g := gb424) (o := .cells #[.bool t419, .slice Ao94 t420.length co94] 25 (0, 0)) zr9_6 k_ hk_)⟩)) (qbS zr9_0))
          have n4_ := qaM (qbB (g := gb414) (o := .cells #[.bool t410, .slice Ao84 t411.length co84] 25 (0, 0)) zr9_1 hb)
          have n5_ := qaM (qbB (g := gb423) (o := .cells #[.bool t415, .slice Ao91 t416.length co91] 25 (0, 0)) zr9_3 hb)
          have n6_ := qaM (qbB (g := gb424) (o := .cells #[.bool t419, .slice Ao94 t420.length co94] 25 (0, 0)) zr9_6 hb)
          have n7_ := qaM (qbT zr9_0 hb)
          clear HO413
          clear HO418
          clear HO422
          clear BK414
          clear BK423
          clear BK424
          clear HB
          have HO413 := n0_
          have HO418 := n1_
          have HO422 := n2_
          have HO428 := n3_
          have BK414 := n4_
          have BK423 := n5_
          have BK424 := n6_
          have HB := n7_
          clear n0_ n1_ n2_ n3_ n4_ n5_ n6_ n7_
          (try clear hb)
          (try clear hb2)
          (try clear hk)
          (try clear hi)
          (try clear ho0)
          obtain ⟨Ao98, co98, eo98⟩ := Kd.V_slice HO428.out
          (first | subst eo98 | (injection eo98 with f1_ f2_ f3_; have f4_ := f1_.symm; have f5_ := f3_.symm; clear f1_ f2_ f3_; subst f4_; subst f5_))
          refine hK.out _ _ ⟨(qbC BK414.out 0).trans rfl, (qbC BK414.out 1).trans rfl, (qbC BK423.out 0).trans rfl, (qbC BK423.out 1).trans rfl, (qbC BK424.out 0).trans rfl, (qbC BK424.out 1).trans rfl⟩ (fun hHeld => ?_)
          clear hK K
          refine norm_ (a' := ?_) ?_ ?_
          rotate_left
          ·show Act.put _ (some 72) _ = _
           simp only [Act.put, qsA, qsZ, qsS, i64_w, i32_w]
           rfl
          refine one_ (i := 4) (N := some 75) #[true, true, true, true, true, true, false, true, true, false, false, false, false, false, false] rfl rfl (one_of HT_.out zr9_13) zr9_17 (fun K hK => ?_)
          refine goes_ Try.func22 zr9_13 rfl #[.agg #[.bool t425, .slice Ao98 t426.length co98], .agg #[.bool t410, .slice Ao84 t411.length co84], .int .i64 a2] (by rfl) rfl rfl zr9_4 ?_
          with_reducible refine (spec_RoundWide.calls kj8 t425 _ _ t426 t410 _ _ t411 a2 t429 t430 _ ?side1 ?side2 ?side3 ?side4 A28.out).mono ?_
          (case side1 => repeat (first | exact (qvR HO428.out).2.2 | (with_reducible refine Kd.C_alloc ?_ _) | (with_reducible refine Kd.C_drewN ?_ _) | (with_reducible refine Kd.C_drew ?_)))
          (case side2 => exact (qvR HO428.out).2.1)
          (case side3 => repeat (first | exact (qvR HO413.out).2.2 | (with_reducible refine Kd.C_alloc ?_ _) | (with_reducible refine Kd.C_drewN ?_ _) | (with_reducible refine Kd.C_drew ?_)))
          (case side4 => exact (qvR HO413.out).2.1)
          rintro e w99 ⟨v431, rfl, ho0, hb⟩
          refine ⟨_, rfl, ?_⟩
          have n0_ := qaM (qvB zr9_7 hb)
          have n1_ := qaM (qvB zr9_8 hb)
          have n2_ := qaM (qvB zr9_9 hb)
          have n3_ := qaM (qvB zr9_12 hb)
          have n4_ := qaM (qvL (qvM (ok' := fun k_ => k_ ≠ gb414 ∧ k_ ≠ gb423 ∧ k_ ≠ gb424) ho0 (fun k_ hk_ => ⟨(qfB (g := gb414) (o := .cells #[.bool t410, .slice Ao84 t411.length co84] 25 (0, 0)) zr9_1 k_ hk_), (qfB (g := gb423) (o := .cells #[.bool t415, .slice Ao91 t416.length co91] 25 (0, 0)) zr9_3 k_ hk_), (qfB (g := gb424) (o := .cells #[.bool t419, .slice Ao94 t420.length co94] 25 (0, 0)) zr9_6 k_ hk_)⟩)) (qbS zr9_0))
          have n5_ := qaM (qbB (g := gb414) (o := .cells #[.bool t410, .slice Ao84 t411.length co84] 25 (0, 0)) zr9_1 hb)
          have n6_ := qaM (qbB (g := gb423) (o := .cells #[.bool t415, .slice Ao91 t416.length co91] 25 (0, 0)) zr9_3 hb)
          have n7_ := qaM (qbB (g := gb424) (o := .cells #[.bool t419, .slice Ao94 t420.length co94] 25 (0, 0)) zr9_6 hb)
          have n8_ := qaM (qbT zr9_0 hb)
          clear HO413
          clear HO418
          clear HO422
          clear HO428
          clear BK414
          clear BK423
          clear BK424
          clear HB
          have HO413 := n0_
          have HO418 := n1_
          have HO422 := n2_
          have HO428 := n3_
          have HO432 := n4_
          have BK414 := n5_
          have BK423 := n6_
          have BK424 := n7_
          have HB := n8_
          clear n0_ n1_ n2_ n3_ n4_ n5_ n6_ n7_ n8_
          (try clear hb)
          (try clear hb2)
          (try clear hk)
          (try clear hi)
          (try clear ho0)
          obtain ⟨Ao100, co100, eo100⟩ := Kd.V_slice HO432.out
          (first | subst eo100 | (injection eo100 with f1_ f2_ f3_; have f4_ := f1_.symm; have f5_ := f3_.symm; clear f1_ f2_ f3_; subst f4_; subst f5_))
          refine hK.out _ _ ⟨(qbC BK414.out 0).trans rfl, (qbC BK414.out 1).trans rfl, (qbC BK423.out 0).trans rfl, (qbC BK423.out 1).trans rfl, (qbC BK424.out 0).trans rfl, (qbC BK424.out 1).trans rfl⟩ (fun hHeld => ?_)
          clear hK K
          refine norm_ (a' := ?_) ?_ ?_
          rotate_left
          ·show Act.put _ (some 75) _ = _
           simp only [Act.put, qsA, qsZ, qsS, i64_w, i32_w]
           rfl
          refine one_ (i := 6) (N := some 77) #[true, true, true, true, true, true, true, true, true, false, false, false, false, false, false] rfl rfl (one_of HT_.out zr9_13) zr9_17 (fun K hK => ?_)
          refine goes_ Try.func16 zr9_13 rfl #[.agg #[.bool t429, .slice Ao100 t430.length co100], .agg #[.bool t410, .slice Ao84 t411.length co84]] (by rfl) rfl rfl zr9_4 ?_
          with_reducible refine (spec_WideMul.calls kj8 t429 _ _ t430 t410 _ _ t411 t433 t434 _ ?side1 ?side2 ?side3 ?side4 A29.out).mono ?_
          (case side1 => repeat (first | exact (qvR HO432.out).2.2 | (with_reducible refine Kd.C_alloc ?_ _) | (with_reducible refine Kd.C_drewN ?_ _) | (with_reducible refine Kd.C_drew ?_)))
          (case side2 => exact (qvR HO432.out).2.1)
          (case side3 => repeat (first | exact (qvR HO413.out).2.2 | (with_reducible refine Kd.C_alloc ?_ _) | (with_reducible refine Kd.C_drewN ?_ _) | (with_reducible refine Kd.C_drew ?_)))
          (case side4 => exact (qvR HO413.out).2.1)
          rintro e w101 ⟨v435, rfl, ho0, hb⟩
          refine ⟨_, rfl, ?_⟩
          have n0_ := qaM (qvB zr9_7 hb)
          have n1_ := qaM (qvB zr9_8 hb)
          have n2_ := qaM (qvB zr9_9 hb)
          have n3_ := qaM (qvB zr9_12 hb)
          have n4_ := qaM (qvB zr9_14 hb)
          have n5_ := qaM (qvL (qvM (ok' := fun k_ => k_ ≠ gb414 ∧ k_ ≠ gb423 ∧ k_ ≠ gb424) ho0 (fun k_ hk_ => ⟨(qfB (g := gb414) (o := .cells #[.bool t410, .slice Ao84 t411.length co84] 25 (0, 0)) zr9_1 k_ hk_), (qfB (g := gb423) (o := .cells #[.bool t415, .slice Ao91 t416.length co91] 25 (0, 0)) zr9_3 k_ hk_), (qfB (g := gb424) (o := .cells #[.bool t419, .slice Ao94 t420.length co94] 25 (0, 0)) zr9_6 k_ hk_)⟩)) (qbS zr9_0))
          have n6_ := qaM (qbB (g := gb414) (o := .cells #[.bool t410, .slice Ao84 t411.length co84] 25 (0, 0)) zr9_1 hb)
          have n7_ := qaM (qbB (g := gb423) (o := .cells #[.bool t415, .slice Ao91 t416.length co91] 25 (0, 0)) zr9_3 hb)
          have n8_ := qaM (qbB (g := gb424) (o := .cells #[.bool t419, .slice Ao94 t420.length co94] 25 (0, 0)) zr9_6 hb)
          have n9_ := qaM (qbT zr9_0 hb)
          clear HO413
          clear HO418
          clear HO422
          clear HO428
          clear HO432
          clear BK414
          clear BK423
          clear BK424
          clear HB
          have HO413 := n0_
          have HO418 := n1_
          have HO422 := n2_
          have HO428 := n3_
          have HO432 := n4_
          have HO436 := n5_
          have BK414 := n6_
          have BK423 := n7_
          have BK424 := n8_
          have HB := n9_
          clear n0_ n1_ n2_ n3_ n4_ n5_ n6_ n7_ n8_ n9_
          (try clear hb)
          (try clear hb2)
          (try clear hk)
          (try clear hi)
          (try clear ho0)
          obtain ⟨Ao102, co102, eo102⟩ := Kd.V_slice HO436.out
          (first | subst eo102 | (injection eo102 with f1_ f2_ f3_; have f4_ := f1_.symm; have f5_ := f3_.symm; clear f1_ f2_ f3_; subst f4_; subst f5_))
          refine hK.out _ _ ⟨(qbC BK414.out 0).trans rfl, (qbC BK414.out 1).trans rfl, (qbC BK423.out 0).trans rfl, (qbC BK423.out 1).trans rfl, (qbC BK424.out 0).trans rfl, (qbC BK424.out 1).trans rfl⟩ (fun hHeld => ?_)
          clear hK K
          refine norm_ (a' := ?_) ?_ ?_
          rotate_left
          ·show Act.put _ (some 77) _ = _
           simp only [Act.put, qsA, qsZ, qsS, i64_w, i32_w]
           rfl
          refine one_ (i := 9) (N := some 80) #[true, true, true, true, true, true, true, true, true, true, false, false, false, false, false] rfl rfl (one_of HT_.out zr9_13) zr9_17 (fun K hK => ?_)
          refine goes_ Try.func10 zr9_13 rfl #[.agg #[.bool t433, .slice Ao102 t434.length co102], .agg #[.bool t415, .slice Ao91 t416.length co91], .agg #[.bool t419, .slice Ao94 t420.length co94]] (by rfl) rfl rfl zr9_4 ?_
          with_reducible refine (laws_fitted.calls kj8 t433 _ _ t434 t415 _ _ t416 t419 _ _ t420 t437 true _ ?side1 ?side2 ?side3 ?side4 ?side5 ?side6 A30.out).mono ?_
          (case side1 => repeat (first | exact (qvR HO436.out).2.2 | (with_reducible refine Kd.C_alloc ?_ _) | (with_reducible refine Kd.C_drewN ?_ _) | (with_reducible refine Kd.C_drew ?_)))
          (case side2 => exact (qvR HO436.out).2.1)
          (case side3 => repeat (first | exact (qvR HO418.out).2.2 | (with_reducible refine Kd.C_alloc ?_ _) | (with_reducible refine Kd.C_drewN ?_ _) | (with_reducible refine Kd.C_drew ?_)))
          (case side4 => exact (qvR HO418.out).2.1)
          (case side5 => repeat (first | exact (qvR HO422.out).2.2 | (with_reducible refine Kd.C_alloc ?_ _) | (with_reducible refine Kd.C_drewN ?_ _) | (with_reducible refine Kd.C_drew ?_)))
          (case side6 => exact (qvR HO422.out).2.1)
          rintro e w103 ⟨rfl, hb⟩
          refine ⟨_, rfl, ?_⟩
          have n0_ := qaM (qvB zr9_7 hb)
          have n1_ := qaM (qvB zr9_8 hb)
          have n2_ := qaM (qvB zr9_9 hb)
          have n3_ := qaM (qvB zr9_12 hb)
          have n4_ := qaM (qvB zr9_14 hb)
          have n5_ := qaM (qvB zr9_15 hb)
          have n6_ := qaM (qbB (g := gb414) (o := .cells #[.bool t410, .slice Ao84 t411.length co84] 25 (0, 0)) zr9_1 hb)
          have n7_ := qaM (qbB (g := gb423) (o := .cells #[.bool t415, .slice Ao91 t416.length co91] 25 (0, 0)) zr9_3 hb)
          have n8_ := qaM (qbB (g := gb424) (o := .cells #[.bool t419, .slice Ao94 t420.length co94] 25 (0, 0)) zr9_6 hb)
          have n9_ := qaM (qbT zr9_0 hb)
          clear HO413
          clear HO418
          clear HO422
          clear HO428
          clear HO432
          clear HO436
          clear BK414
          clear BK423
          clear BK424
          clear HB
          have HO413 := n0_
          have HO418 := n1_
          have HO422 := n2_
          have HO428 := n3_
          have HO432 := n4_
          have HO436 := n5_
          have BK414 := n6_
          have BK423 := n7_
          have BK424 := n8_
          have HB := n9_
          clear n0_ n1_ n2_ n3_ n4_ n5_ n6_ n7_ n8_ n9_
          (try clear hb)
          (try clear hb2)
          (try clear hk)
          (try clear hi)
          refine hK.out _ _ ⟨(qbC BK414.out 0).trans rfl, (qbC BK414.out 1).trans rfl, (qbC BK423.out 0).trans rfl, (qbC BK423.out 1).trans rfl, (qbC BK424.out 0).trans rfl, (qbC BK424.out 1).trans rfl⟩ (fun hHeld => ?_)
          clear hK K
          refine norm_ (a' := ?_) ?_ ?_
          rotate_left
          ·show Act.put _ (some 80) _ = _
           simp only [Act.put, qsA, qsZ, qsS, i64_w, i32_w]
           rfl
          refine pure_ (i := 10) (N := some 70) (v := ?_) (a' := ?_) #[true, true, true, true, true, true, true, true, true, true, true, false, false, false, false] rfl rfl (any_of HT_.out zr9_13) (fun _ _ _ h => h) (Or.inl ⟨by rfl, ?_⟩) ?_ ?_
          rotate_left
          ·intro w'
           go_simp
           with_reducible rfl
          rotate_left
          ·simp only [Act.put, qsA, qsZ, qsS, i64_w, i32_w]
           rfl
          refine pure_ (i := 11) (N := some 81) (v := ?_) (a' := ?_) #[true, true, true, true, true, true, true, true, true, true, true, true, false, false, false] rfl rfl (any_of HT_.out zr9_13) (fun _ _ _ h => h) (Or.inl ⟨by rfl, ?_⟩) ?_ ?_
          rotate_left
          ·intro w'
           go_simp
           with_reducible rfl
          rotate_left
          ·simp only [Act.put, qsA, qsZ, qsS, i64_w, i32_w]
           rfl
          refine pure_ (i := 12) (N := some 82) (v := ?_) (a' := ?_) #[true, true, true, true, true, true, true, true, true, true, true, true, true, false, false] rfl rfl (any_of HT_.out zr9_13) (fun _ _ _ h => h) (Or.inl ⟨by rfl, ?_⟩) ?_ ?_
          rotate_left
          ·intro w'
           go_simp
           with_reducible rfl
          rotate_left
          ·simp only [Act.put, qsA, qsZ, qsS, i64_w, i32_w]
           rfl
          refine pure_ (i := 13) (N := some 15) (v := ?_) (a' := ?_) #[true, true, true, true, true, true, true, true, true, true, true, true, true, true, false] rfl rfl (any_of HT_.out zr9_13) (fun _ _ _ h => h) (Or.inl ⟨by rfl, ?_⟩) ?_ ?_
          rotate_left
          ·intro w'
           go_simp
           with_reducible rfl
          rotate_left
          ·simp only [Act.put, qsA, qsZ, qsS, i64_w, i32_w]
           rfl
          refine pure_ (i := 14) (N := some 16) (v := ?_) (a' := ?_) #[true, true, true, true, true, true, true, true, true, true, true, true, true, true, true] rfl rfl (any_of HT_.out zr9_13) (fun _ _ _ h => h) (Or.inl ⟨by rfl, ?_⟩) ?_ ?_
          rotate_left
          ·intro w'
           go_simp
           with_reducible rfl
          rotate_left
          ·simp only [Act.put, qsA, qsZ, qsS, i64_w, i32_w]
           rfl
          refine done_ (done_of HT_.out zr9_13) ?_
          try go_wp2
          go_ret
          exact ⟨by first | rfl | (simp [errW_none, errW_some] <;> rfl) | (simp [*, errW_none, errW_some] <;> rfl), by repeat (first | (with_reducible first | exact HB.out | apply qwA | apply qwN | apply qwD | refine qwS ?_ GE414.out | refine qwS ?_ GE423.out | refine qwS ?_ GE424.out) | exact HB.out)⟩
         ·rw [if_neg c80] at H
          have c80b0 : decide (2305843009213693952 ≤ a1) = false := decide_eq_false c80
          clear c80
          replace H := Option.bind_eq_some_iff.mp H
          obtain ⟨⟨t439, t440⟩, A1040, H⟩ := H
          replace H : (if t440 = true then (if t439 = (wrap64 (t437)) then (some x11_5) else (some false)) else (some false)) = some r := H
          have A104 := qaM A1040
          clear A1040
          by_cases c105 : t440 = true
          ·subst c105
           have H1 : (if t439 = (wrap64 (t437)) then (some x11_5) else (some false)) = some r := by rw [if_pos rfl] at H; exact H
           clear H
           have H := H1
           clear H1
           by_cases c106 : t439 = (wrap64 (t437))
           ·rw [if_pos c106] at H
            have c106b0 : (t439 == (wrap64 (t437))) = true := beq_iff_eq.mpr c106
            have c106b1 : (t439 != (wrap64 (t437))) = false := bne_eq_false_iff_eq.mpr c106
            clear c106
            obtain rfl := Option.some.inj H
            try go_wp2_with (first | ((with_reducible refine gate_callee (f := 17) rfl ?_); refine goesL_ (some 65) rfl rfl Try.func17 zr9_13 rfl #[.int .i64 a1] rfl zr9_4 ?_; (with_reducible refine (spec_WideInt.calls kj8 a1 t410 t411 _ A25.out).mono ?_); rintro e w107 ⟨v412, rfl, ho0, hb⟩; refine ⟨_, rfl, ?_⟩; have n0_ := qaM (qvL (qvM (ok' := fun k_ => True) ho0 (fun k_ hk_ => trivial)) (qbS zr9_10)); have n1_ := qaM (qbT zr9_10 hb); clear HB; have HO413 := n0_; have HB := n1_; clear n0_ n1_; (try clear hb); (try clear hb2); (try clear hk); (try clear hi); (try clear ho0)) | ((with_reducible refine gate_dst (N := 12) rfl ?_); refine box_event ?hg (N := 12) ?hd (cs := #[.bool false, .slice none 0 0]) (t := 25) ?hr ?_; (case hd => rfl); (case hg => rfl); (case hr => first | (go_simp; done) | (go_simp; rfl)); intro gb414 hg w108 hbox hb; have n0_ := qaM (qvB (qvE zr9_7 gb414 (Nat.le_of_eq hg.symm)) hb); have n1_ := qaM (qbT zr9_10 hb); have n2_ := qaM (hbox); have n3_ := qaM ((by rw [hg]; exact (qbS zr9_10) : w.heap.size ≤ gb414)); have n4_ := qaM ((by rw [hg]; exact (qbS zr9_10) : w.heap.size ≤ gb414)); clear HO413; clear HB; have HO413 := n0_; have HB := n1_; have BK414 := n2_; have GW414 := n3_; have GE414 := n4_; clear n0_ n1_ n2_ n3_ n4_; clear hb hbox hg; have hcz109_0 : w108.cell? ⟨gb414, 0, none⟩ = some (.bool false) := (qbC BK414.out 0).trans rfl; have hcz109_1 : w108.cell? ⟨gb414, 1, none⟩ = some (.slice none 0 0) := (qbC BK414.out 1).trans rfl; have hfz109_0 := blk_frozen BK414.out 0; have hfz109_1 := blk_frozen BK414.out 1; obtain ⟨Ao110, co110, eo110⟩ := Kd.V_slice HO413.out; subst eo110) | ((with_reducible refine gate_callee (f := 9) rfl ?_); refine goesL_ (some 67) rfl rfl Try.func9 zr9_13 rfl #[.int .i64 62, .bool true] rfl zr9_4 ?_; (with_reducible refine (laws_bounds.calls kj8 62 true t415 t416 t419 t420 _ A26.out).mono ?_); rintro e w111 ⟨v417, v421, rfl, ho0, ho1, hb⟩; refine ⟨_, rfl, ?_⟩; have n0_ := qaM (qvB (by (with_reducible repeat (first | apply qvA | apply qvN | apply qvD)); exact (qvM (qvF (p := ⟨gb414, 1, none⟩) (qvF (p := ⟨gb414, 0, none⟩) (qvM HO413.out (fun k_ hk => (⟨hk, hk.2⟩ : _ ∧ k_ ≠ gb414))) (fun _ hk => hk.2) (.bool t410)) (fun _ hk => hk.2) (.slice Ao110 t411.length co110)) (fun _ h_ => h_.1))) hb); have n1_ := qaM (qvL (qvM (ok' := fun k_ => k_ ≠ gb414) ho0 (fun k_ hk_ => (qfB (g := gb414) (o := .cells #[.bool t410, .slice Ao110 t411.length co110] 25 (0, 0)) zr9_2 k_ hk_))) (qbS zr9_5)); have n2_ := qaM (qvL (qvM (ok' := fun k_ => k_ ≠ gb414) ho1 (fun k_ hk_ => (qfB (g := gb414) (o := .cells #[.bool t410, .slice Ao110 t411.length co110] 25 (0, 0)) zr9_2 k_ hk_))) (qbS zr9_5)); have n3_ := qaM (qbB (g := gb414) (o := .cells #[.bool t410, .slice Ao110 t411.length co110] 25 (0, 0)) zr9_2 hb); have n4_ := qaM (qbT zr9_5 hb); clear HO413; clear BK414; clear HB; have HO413 := n0_; have HO418 := n1_; have HO422 := n2_; have BK414 := n3_; have HB := n4_; clear n0_ n1_ n2_ n3_ n4_; (try clear hb); (try clear hb2); (try clear hk); (try clear hi); (try clear ho0); (try clear ho1)) | ((with_reducible refine gate_dst (N := 13) rfl ?_); refine box_event ?hg (N := 13) ?hd (cs := #[.bool false, .slice none 0 0]) (t := 25) ?hr ?_; (case hd => rfl); (case hg => rfl); (case hr => first | (go_simp; done) | (go_simp; rfl)); intro gb423 hg w112 hbox hb; have n0_ := qaM (qvB (qvE zr9_7 gb423 (Nat.le_of_eq hg.symm)) hb); have n1_ := qaM (qvB (qvE zr9_8 gb423 (Nat.le_of_eq hg.symm)) hb); have n2_ := qaM (qvB (qvE zr9_9 gb423 (Nat.le_of_eq hg.symm)) hb); have n3_ := qaM (qbB (g := gb414) (o := .cells #[.bool t410, .slice Ao110 t411.length co110] 25 (0, 0)) zr9_1 hb); have n4_ := qaM (qbT zr9_5 hb); have n5_ := qaM (hbox); have n6_ := qaM ((by rw [hg]; exact (qbS zr9_5) : w.heap.size ≤ gb423)); have n7_ := qaM ((by rw [hg]; exact (qbS zr9_5) : w.heap.size ≤ gb423)); have n8_ := qaM ((by rw [hg]; exact qnL (qbL (g := gb414) (o := .cells #[.bool t410, .slice Ao110 t411.length co110] 25 (0, 0)) zr9_1) : gb414 ≠ gb423)); have n9_ := qaM ((by rw [hg]; exact qnG (qbL (g := gb414) (o := .cells #[.bool t410, .slice Ao110 t411.length co110] 25 (0, 0)) zr9_1) : gb423 ≠ gb414)); clear HO413; clear HO418; clear HO422; clear BK414; clear HB; have HO413 := n0_; have HO418 := n1_; have HO422 := n2_; have BK414 := n3_; have HB := n4_; have BK423 := n5_; have GW423 := n6_; have GE423 := n7_; have NB414_423 := n8_; have NB423_414 := n9_; clear n0_ n1_ n2_ n3_ n4_ n5_ n6_ n7_ n8_ n9_; clear hb hbox hg) | ((with_reducible refine gate_dst (N := 14) rfl ?_); refine box_event ?hg (N := 14) ?hd (cs := #[.bool false, .slice none 0 0]) (t := 25) ?hr ?_; (case hd => rfl); (case hg => rfl); (case hr => first | (go_simp; done) | (go_simp; rfl)); intro gb424 hg w113 hbox hb; have n0_ := qaM (qvB (qvE zr9_7 gb424 (Nat.le_of_eq hg.symm)) hb); have n1_ := qaM (qvB (qvE zr9_8 gb424 (Nat.le_of_eq hg.symm)) hb); have n2_ := qaM (qvB (qvE zr9_9 gb424 (Nat.le_of_eq hg.symm)) hb); have n3_ := qaM (qbB (g := gb414) (o := .cells #[.bool t410, .slice Ao110 t411.length co110] 25 (0, 0)) zr9_1 hb); have n4_ := qaM (qbB (g := gb423) (o := .cells #[.bool false, .slice none 0 0] 25 (0, 0)) zr9_3 hb); have n5_ := qaM (qbT zr9_11 hb); have n6_ := qaM (hbox); have n7_ := qaM ((by rw [hg]; exact (qbS zr9_11) : w.heap.size ≤ gb424)); have n8_ := qaM ((by rw [hg]; exact (qbS zr9_11) : w.heap.size ≤ gb424)); have n9_ := qaM ((by rw [hg]; exact qnL (qbL (g := gb414) (o := .cells #[.bool t410, .slice Ao110 t411.length co110] 25 (0, 0)) zr9_1) : gb414 ≠ gb424)); have n10_ := qaM ((by rw [hg]; exact qnG (qbL (g := gb414) (o := .cells #[.bool t410, .slice Ao110 t411.length co110] 25 (0, 0)) zr9_1) : gb424 ≠ gb414)); have n11_ := qaM ((by rw [hg]; exact qnL (qbL (g := gb423) (o := .cells #[.bool false, .slice none 0 0] 25 (0, 0)) zr9_3) : gb423 ≠ gb424)); have n12_ := qaM ((by rw [hg]; exact qnG (qbL (g := gb423) (o := .cells #[.bool false, .slice none 0 0] 25 (0, 0)) zr9_3) : gb424 ≠ gb423)); clear HO413; clear HO418; clear HO422; clear BK414; clear BK423; clear HB; have HO413 := n0_; have HO418 := n1_; have HO422 := n2_; have BK414 := n3_; have BK423 := n4_; have HB := n5_; have BK424 := n6_; have GW424 := n7_; have GE424 := n8_; have NB414_424 := n9_; have NB424_414 := n10_; have NB423_424 := n11_; have NB424_423 := n12_; clear n0_ n1_ n2_ n3_ n4_ n5_ n6_ n7_ n8_ n9_ n10_ n11_ n12_; clear hb hbox hg; have hnb114 := NB423_414.out; have hnc114 := NB414_423.out; have hnb115 := NB423_424.out; have hnc115 := NB424_423.out; have hcz116_0 : w113.cell? ⟨gb423, 0, none⟩ = some (.bool false) := (qbC BK423.out 0).trans rfl; have hcz116_1 : w113.cell? ⟨gb423, 1, none⟩ = some (.slice none 0 0) := (qbC BK423.out 1).trans rfl; have hfz116_0 := blk_frozen BK423.out 0; have hfz116_1 := blk_frozen BK423.out 1; obtain ⟨Ao117, co117, eo117⟩ := Kd.V_slice HO418.out; subst eo117; have hnb118 := NB424_414.out; have hnc118 := NB414_424.out; have hcz119_0 : w113.cell? ⟨gb424, 0, none⟩ = some (.bool false) := (qbC BK424.out 0).trans rfl; have hcz119_1 : w113.cell? ⟨gb424, 1, none⟩ = some (.slice none 0 0) := (qbC BK424.out 1).trans rfl; have hfz119_0 := blk_frozen BK424.out 0; have hfz119_1 := blk_frozen BK424.out 1; obtain ⟨Ao120, co120, eo120⟩ := Kd.V_slice HO422.out; subst eo120))
            have n0_ : Aside0 (Kd.V (Kd.int .u32) 22 ((((w113.setCell ⟨gb423, 0, none⟩ (.bool t415)).setCell ⟨gb423, 1, none⟩ (.slice Ao117 t416.length co117)).setCell ⟨gb424, 0, none⟩ (.bool t419)).setCell ⟨gb424, 1, none⟩ (.slice Ao120 t420.length co120)) w.heap.size (fun k_ => k_ ≠ gb414 ∧ k_ ≠ gb423 ∧ k_ ≠ gb424) (.slice Ao110 t411.length co110) t411) := ⟨by (with_reducible repeat (first | apply qvA | apply qvN | apply qvD)); exact qvM (qvF (p := ⟨gb424, 1, none⟩) (qvF (p := ⟨gb424, 0, none⟩) (qvF (p := ⟨gb423, 1, none⟩) (qvF (p := ⟨gb423, 0, none⟩) (qvM (qvM HO413.out (fun k_ hk => (⟨hk, hk.1.2⟩ : _ ∧ k_ ≠ gb423))) (fun k_ hk => (⟨hk, hk.1.2⟩ : _ ∧ k_ ≠ gb424))) (fun _ hk => hk.1.2) (.bool t415)) (fun _ hk => hk.1.2) (.slice Ao117 t416.length co117)) (fun _ hk => hk.2) (.bool t419)) (fun _ hk => hk.2) (.slice Ao120 t420.length co120)) (fun _ hk => ⟨hk.1.1.1.1.2, ⟨hk.1.1.1.2, hk.1.1.2⟩⟩)⟩
            have n1_ : Aside0 (Kd.V (Kd.int .u32) 22 ((((w113.setCell ⟨gb423, 0, none⟩ (.bool t415)).setCell ⟨gb423, 1, none⟩ (.slice Ao117 t416.length co117)).setCell ⟨gb424, 0, none⟩ (.bool t419)).setCell ⟨gb424, 1, none⟩ (.slice Ao120 t420.length co120)) w.heap.size (fun k_ => k_ ≠ gb414 ∧ k_ ≠ gb423 ∧ k_ ≠ gb424) (.slice Ao117 t416.length co117) t416) := ⟨by (with_reducible repeat (first | apply qvA | apply qvN | apply qvD)); exact qvM (qvF (p := ⟨gb424, 1, none⟩) (qvF (p := ⟨gb424, 0, none⟩) (qvF (p := ⟨gb423, 1, none⟩) (qvF (p := ⟨gb423, 0, none⟩) (qvM (qvM HO418.out (fun k_ hk => (⟨hk, hk.1.2⟩ : _ ∧ k_ ≠ gb423))) (fun k_ hk => (⟨hk, hk.1.2⟩ : _ ∧ k_ ≠ gb424))) (fun _ hk => hk.1.2) (.bool t415)) (fun _ hk => hk.1.2) (.slice Ao117 t416.length co117)) (fun _ hk => hk.2) (.bool t419)) (fun _ hk => hk.2) (.slice Ao120 t420.length co120)) (fun _ hk => ⟨hk.1.1.1.1, ⟨hk.1.1.1.2, hk.1.1.2⟩⟩)⟩
            have n2_ : Aside0 (Kd.V (Kd.int .u32) 22 ((((w113.setCell ⟨gb423, 0, none⟩ (.bool t415)).setCell ⟨gb423, 1, none⟩ (.slice Ao117 t416.length co117)).setCell ⟨gb424, 0, none⟩ (.bool t419)).setCell ⟨gb424, 1, none⟩ (.slice Ao120 t420.length co120)) w.heap.size (fun k_ => k_ ≠ gb414 ∧ k_ ≠ gb423 ∧ k_ ≠ gb424) (.slice Ao120 t420.length co120) t420) := ⟨by (with_reducible repeat (first | apply qvA | apply qvN | apply qvD)); exact qvM (qvF (p := ⟨gb424, 1, none⟩) (qvF (p := ⟨gb424, 0, none⟩) (qvF (p := ⟨gb423, 1, none⟩) (qvF (p := ⟨gb423, 0, none⟩) (qvM (qvM HO422.out (fun k_ hk => (⟨hk, hk.1.2⟩ : _ ∧ k_ ≠ gb423))) (fun k_ hk => (⟨hk, hk.1.2⟩ : _ ∧ k_ ≠ gb424))) (fun _ hk => hk.1.2) (.bool t415)) (fun _ hk => hk.1.2) (.slice Ao117 t416.length co117)) (fun _ hk => hk.2) (.bool t419)) (fun _ hk => hk.2) (.slice Ao120 t420.length co120)) (fun _ hk => ⟨hk.1.1.1.1, ⟨hk.1.1.1.2, hk.1.1.2⟩⟩)⟩
            have n3_ : Aside0 (((((w113.setCell ⟨gb423, 0, none⟩ (.bool t415)).setCell ⟨gb423, 1, none⟩ (.slice Ao117 t416.length co117)).setCell ⟨gb424, 0, none⟩ (.bool t419)).setCell ⟨gb424, 1, none⟩ (.slice Ao120 t420.length co120)).heap[gb414]? = some (.cells #[.bool t410, .slice Ao110 t411.length co110] 25 (0, 0))) := ⟨by (with_reducible repeat (first | refine qbN ?_ _ | refine qbD ?_ | refine qbA ?_ _)); refine qbF ?_ NB414_424.out _; (with_reducible repeat (first | refine qbN ?_ _ | refine qbD ?_ | refine qbA ?_ _)); refine qbF ?_ NB414_424.out _; (with_reducible repeat (first | refine qbN ?_ _ | refine qbD ?_ | refine qbA ?_ _)); refine qbF ?_ NB414_423.out _; (with_reducible repeat (first | refine qbN ?_ _ | refine qbD ?_ | refine qbA ?_ _)); refine qbF ?_ NB414_423.out _; (with_reducible repeat (first | refine qbN ?_ _ | refine qbD ?_ | refine qbA ?_ _)); exact BK414.out⟩
            have n4_ : Aside0 (((((w113.setCell ⟨gb423, 0, none⟩ (.bool t415)).setCell ⟨gb423, 1, none⟩ (.slice Ao117 t416.length co117)).setCell ⟨gb424, 0, none⟩ (.bool t419)).setCell ⟨gb424, 1, none⟩ (.slice Ao120 t420.length co120)).heap[gb423]? = some (.cells #[.bool t415, .slice Ao117 t416.length co117] 25 (0, 0))) := ⟨by (with_reducible repeat (first | refine qbN ?_ _ | refine qbD ?_ | refine qbA ?_ _)); refine qbF ?_ NB423_424.out _; (with_reducible repeat (first | refine qbN ?_ _ | refine qbD ?_ | refine qbA ?_ _)); refine qbF ?_ NB423_424.out _; (with_reducible repeat (first | refine qbN ?_ _ | refine qbD ?_ | refine qbA ?_ _)); refine qbP (cs := #[.bool t415, .slice none 0 0]) ?_ 1 _ rfl; (with_reducible repeat (first | refine qbN ?_ _ | refine qbD ?_ | refine qbA ?_ _)); refine qbP (cs := #[.bool false, .slice none 0 0]) ?_ 0 _ rfl; (with_reducible repeat (first | refine qbN ?_ _ | refine qbD ?_ | refine qbA ?_ _)); exact BK423.out⟩
            have n5_ : Aside0 (((((w113.setCell ⟨gb423, 0, none⟩ (.bool t415)).setCell ⟨gb423, 1, none⟩ (.slice Ao117 t416.length co117)).setCell ⟨gb424, 0, none⟩ (.bool t419)).setCell ⟨gb424, 1, none⟩ (.slice Ao120 t420.length co120)).heap[gb424]? = some (.cells #[.bool t419, .slice Ao120 t420.length co120] 25 (0, 0))) := ⟨by (with_reducible repeat (first | refine qbN ?_ _ | refine qbD ?_ | refine qbA ?_ _)); refine qbP (cs := #[.bool t419, .slice none 0 0]) ?_ 1 _ rfl; (with_reducible repeat (first | refine qbN ?_ _ | refine qbD ?_ | refine qbA ?_ _)); refine qbP (cs := #[.bool false, .slice none 0 0]) ?_ 0 _ rfl; (with_reducible repeat (first | refine qbN ?_ _ | refine qbD ?_ | refine qbA ?_ _)); refine qbF ?_ NB424_423.out _; (with_reducible repeat (first | refine qbN ?_ _ | refine qbD ?_ | refine qbA ?_ _)); refine qbF ?_ NB424_423.out _; (with_reducible repeat (first | refine qbN ?_ _ | refine qbD ?_ | refine qbA ?_ _)); exact BK424.out⟩
            have n6_ : Aside0 (Below w.heap.size w ((((w113.setCell ⟨gb423, 0, none⟩ (.bool t415)).setCell ⟨gb423, 1, none⟩ (.slice Ao117 t416.length co117)).setCell ⟨gb424, 0, none⟩ (.bool t419)).setCell ⟨gb424, 1, none⟩ (.slice Ao120 t420.length co120))) := ⟨by repeat (first | (with_reducible first | exact HB.out | apply qwA | apply qwN | apply qwD | refine qwS ?_ GE414.out | refine qwS ?_ GE423.out | refine qwS ?_ GE424.out) | exact HB.out)⟩
            (try clear HO413)
            (try clear HO418)
            (try clear HO422)
            (try clear BK414)
            (try clear BK423)
            (try clear BK424)
            (try clear HB)
            generalize ((((w113.setCell ⟨gb423, 0, none⟩ (.bool t415)).setCell ⟨gb423, 1, none⟩ (.slice Ao117 t416.length co117)).setCell ⟨gb424, 0, none⟩ (.bool t419)).setCell ⟨gb424, 1, none⟩ (.slice Ao120 t420.length co120)) = w121 at n0_ n1_ n2_ n3_ n4_ n5_ n6_ ⊢
            have HO413 := n0_
            have HO418 := n1_
            have HO422 := n2_
            have BK414 := n3_
            have BK423 := n4_
            have BK424 := n5_
            have HB := n6_
            clear n0_ n1_ n2_ n3_ n4_ n5_ n6_
            have n0_ := qaM (qvD HO413.out)
            have n1_ := qaM (qvD HO418.out)
            have n2_ := qaM (qvD HO422.out)
            have n3_ := qaM (qbD BK414.out)
            have n4_ := qaM (qbD BK423.out)
            have n5_ := qaM (qbD BK424.out)
            have n6_ := qaM (qwD HB.out)
            clear HO413
            clear HO418
            clear HO422
            clear BK414
            clear BK423
            clear BK424
            clear HB
            have HO413 := n0_
            have HO418 := n1_
            have HO422 := n2_
            have BK414 := n3_
            have BK423 := n4_
            have BK424 := n5_
            have HB := n6_
            clear n0_ n1_ n2_ n3_ n4_ n5_ n6_
            refine start_ (n := 15) (S := fun w' => w'.cell? ⟨gb414, 0, none⟩ = some (.bool t410) ∧ w'.cell? ⟨gb414, 1, none⟩ = some (.slice Ao110 t411.length co110) ∧ w'.cell? ⟨gb423, 0, none⟩ = some (.bool t415) ∧ w'.cell? ⟨gb423, 1, none⟩ = some (.slice Ao117 t416.length co117) ∧ w'.cell? ⟨gb424, 0, none⟩ = some (.bool t419) ∧ w'.cell? ⟨gb424, 1, none⟩ = some (.slice Ao120 t420.length co120)) (ds := []) #[false, false, false, false, false, false, false, false, false, false, false, false, false, false, false] zr9_13 rfl rfl ⟨(qbC BK414.out 0).trans rfl, (qbC BK414.out 1).trans rfl, (qbC BK423.out 0).trans rfl, (qbC BK423.out 1).trans rfl, (qbC BK424.out 0).trans rfl, (qbC BK424.out 1).trans rfl⟩ (fun hHeld => ?_); refine with_tabW laws_FnRoundInt64To.tab7 laws_FnRoundInt64To.bits7 (fun HT_ HW_ => ?_)
            generalize w121.drew = w122 at HO413 HO418 HO422 BK414 BK423 BK424 HB hHeld ⊢
            refine pure_ (i := 0) (N := some 71) (v := ?_) (a' := ?_) #[true, false, false, false, false, false, false, false, false, false, false, false, false, false, false] rfl rfl (any_of HT_.out zr9_13) (fun _ _ _ h => h) (Or.inl ⟨by rfl, ?_⟩) ?_ ?_
            rotate_left
            ·intro w'
             go_simp
             with_reducible rfl
            rotate_left
            ·simp only [Act.put, qsA, qsZ, qsS, i64_w, i32_w]
             rfl
            refine pure_ (i := 3) (N := some 74) (v := ?_) (a' := ?_) #[true, false, false, true, false, false, false, false, false, false, false, false, false, false, false] rfl rfl (any_of HT_.out zr9_13) (fun _ _ _ h => h) (Or.inl ⟨by rfl, ?_⟩) ?_ ?_
            rotate_left
            ·intro w'
             go_simp
             with_reducible rfl
            rotate_left
            ·simp only [Act.put, qsA, qsZ, qsS, i64_w, i32_w]
             rfl
            refine take_ (i := 2) (N := some 73) (v := ?_) (a' := ?_) #[true, false, true, true, false, false, false, false, false, false, false, false, false, false, false] rfl rfl (take_ofW HT_.out HW_.out zr9_13) (fun _ _ _ h => h) (Or.inl ⟨by rfl, ?_⟩) hHeld ?_ ?_
            rotate_left
            ·rintro w' ⟨s0, s1, s2, s3, s4, s5⟩
             go_simp
             with_reducible rfl
            rotate_left
            ·simp only [Act.put, qsA, qsZ, qsS, i64_w, i32_w]
             rfl
            refine take_ (i := 5) (N := some 76) (v := ?_) (a' := ?_) #[true, false, true, true, false, true, false, false, false, false, false, false, false, false, false] rfl rfl (take_ofW HT_.out HW_.out zr9_13) (fun _ _ _ h => h) (Or.inl ⟨by rfl, ?_⟩) hHeld ?_ ?_
            rotate_left
            ·rintro w' ⟨s0, s1, s2, s3, s4, s5⟩
             go_simp
             with_reducible rfl
            rotate_left
            ·simp only [Act.put, qsA, qsZ, qsS, i64_w, i32_w]
             rfl
            refine take_ (i := 7) (N := some 78) (v := ?_) (a' := ?_) #[true, false, true, true, false, true, false, true, false, false, false, false, false, false, false] rfl rfl (take_ofW HT_.out HW_.out zr9_13) (fun _ _ _ h => h) (Or.inl ⟨by rfl, ?_⟩) hHeld ?_ ?_
            rotate_left
            ·rintro w' ⟨s0, s1, s2, s3, s4, s5⟩
             go_simp
             with_reducible rfl
            rotate_left
            ·simp only [Act.put, qsA, qsZ, qsS, i64_w, i32_w]
             rfl
            refine take_ (i := 8) (N := some 79) (v := ?_) (a' := ?_) #[true, false, true, true, false, true, false, true, true, false, false, false, false, false, false] rfl rfl (take_ofW HT_.out HW_.out zr9_13) (fun _ _ _ h => h) (Or.inl ⟨by rfl, ?_⟩) hHeld ?_ ?_
            rotate_left
            ·rintro w' ⟨s0, s1, s2, s3, s4, s5⟩
             go_simp
             with_reducible rfl
            rotate_left
            ·simp only [Act.put, qsA, qsZ, qsS, i64_w, i32_w]
             rfl
            refine one_ (i := 1) (N := some 72) #[true, true, true, true, false, true, false, true, true, false, false, false, false, false, false] rfl rfl (one_of HT_.out zr9_13) zr9_17 (fun K hK => ?_)
            refine goes_ Try.func17 zr9_13 rfl #[.int .i64 a0] (by rfl) rfl rfl zr9_4 ?_
            with_reducible refine (spec_WideInt.calls kj8 a0 t425 t426 _ A27.out).mono ?_
            rintro e w123 ⟨v427, rfl, ho0, hb⟩
            refine ⟨_, rfl, ?_⟩
            have n0_ := qaM (qvB zr9_7 hb)
            have n1_ := qaM (qvB zr9_8 hb)
            have n2_ := qaM (qvB zr9_9 hb)
            have n3_ := qaM (qvL (qvM (ok' := fun k_ => k_ ≠ gb414 ∧ k_ ≠ gb423 ∧ k_ ≠ gb424) ho0 (fun k_ hk_ => ⟨(qfB (g := gb414) (o := .cells #[.bool t410, .slice Ao110 t411.length co110] 25 (0, 0)) zr9_1 k_ hk_), (qfB (g := gb423) (o := .cells #[.bool t415, .slice Ao117 t416.length co117] 25 (0, 0)) zr9_3 k_ hk_), (qfB (g := gb424) (o := .cells #[.bool t419, .slice Ao120 t420.length co120] 25 (0, 0)) zr9_6 k_ hk_)⟩)) (qbS zr9_0))
            have n4_ := qaM (qbB (g := gb414) (o := .cells #[.bool t410, .slice Ao110 t411.length co110] 25 (0, 0)) zr9_1 hb)
            have n5_ := qaM (qbB (g := gb423) (o := .cells #[.bool t415, .slice Ao117 t416.length co117] 25 (0, 0)) zr9_3 hb)
            have n6_ := qaM (qbB (g := gb424) (o := .cells #[.bool t419, .slice Ao120 t420.length co120] 25 (0, 0)) zr9_6 hb)
            have n7_ := qaM (qbT zr9_0 hb)
            clear HO413
            clear HO418
            clear HO422
            clear BK414
            clear BK423
            clear BK424
            clear HB
            have HO413 := n0_
            have HO418 := n1_
            have HO422 := n2_
            have HO428 := n3_
            have BK414 := n4_
            have BK423 := n5_
            have BK424 := n6_
            have HB := n7_
            clear n0_ n1_ n2_ n3_ n4_ n5_ n6_ n7_
            (try clear hb)
            (try clear hb2)
            (try clear hk)
            (try clear hi)
            (try clear ho0)
            obtain ⟨Ao124, co124, eo124⟩ := Kd.V_slice HO428.out
            (first | subst eo124 | (injection eo124 with f1_ f2_ f3_; have f4_ := f1_.symm; have f5_ := f3_.symm; clear f1_ f2_ f3_; subst f4_; subst f5_))
            refine hK.out _ _ ⟨(qbC BK414.out 0).trans rfl, (qbC BK414.out 1).trans rfl, (qbC BK423.out 0).trans rfl, (qbC BK423.out 1).trans rfl, (qbC BK424.out 0).trans rfl, (qbC BK424.out 1).trans rfl⟩ (fun hHeld => ?_)
            clear hK K
            refine norm_ (a' := ?_) ?_ ?_
            rotate_left
            ·show Act.put _ (some 72) _ = _
             simp only [Act.put, qsA, qsZ, qsS, i64_w, i32_w]
             rfl
            refine one_ (i := 4) (N := some 75) #[true, true, true, true, true, true, false, true, true, false, false, false, false, false, false] rfl rfl (one_of HT_.out zr9_13) zr9_17 (fun K hK => ?_)
            refine goes_ Try.func22 zr9_13 rfl #[.agg #[.bool t425, .slice Ao124 t426.length co124], .agg #[.bool t410, .slice Ao110 t411.length co110], .int .i64 a2] (by rfl) rfl rfl zr9_4 ?_
            with_reducible refine (spec_RoundWide.calls kj8 t425 _ _ t426 t410 _ _ t411 a2 t429 t430 _ ?side1 ?side2 ?side3 ?side4 A28.out).mono ?_
            (case side1 => repeat (first | exact (qvR HO428.out).2.2 | (with_reducible refine Kd.C_alloc ?_ _) | (with_reducible refine Kd.C_drewN ?_ _) | (with_reducible refine Kd.C_drew ?_)))
            (case side2 => exact (qvR HO428.out).2.1)
            (case side3 => repeat (first | exact (qvR HO413.out).2.2 | (with_reducible refine Kd.C_alloc ?_ _) | (with_reducible refine Kd.C_drewN ?_ _) | (with_reducible refine Kd.C_drew ?_)))
            (case side4 => exact (qvR HO413.out).2.1)
            rintro e w125 ⟨v431, rfl, ho0, hb⟩
            refine ⟨_, rfl, ?_⟩
            have n0_ := qaM (qvB zr9_7 hb)
            have n1_ := qaM (qvB zr9_8 hb)
            have n2_ := qaM (qvB zr9_9 hb)
            have n3_ := qaM (qvB zr9_12 hb)
            have n4_ := qaM (qvL (qvM (ok' := fun k_ => k_ ≠ gb414 ∧ k_ ≠ gb423 ∧ k_ ≠ gb424) ho0 (fun k_ hk_ => ⟨(qfB (g := gb414) (o := .cells #[.bool t410, .slice Ao110 t411.length co110] 25 (0, 0)) zr9_1 k_ hk_), (qfB (g := gb423) (o := .cells #[.bool t415, .slice Ao117 t416.length co117] 25 (0, 0)) zr9_3 k_ hk_), (qfB (g := gb424) (o := .cells #[.bool t419, .slice Ao120 t420.length co120] 25 (0, 0)) zr9_6 k_ hk_)⟩)) (qbS zr9_0))
            have n5_ := qaM (qbB (g := gb414) (o := .cells #[.bool t410, .slice Ao110 t411.length co110] 25 (0, 0)) zr9_1 hb)
            have n6_ := qaM (qbB (g := gb423) (o := .cells #[.bool t415, .slice Ao117 t416.length co117] 25 (0, 0)) zr9_3 hb)
            have n7_ := qaM (qbB (g := gb424) (o := .cells #[.bool t419, .slice Ao120 t420.length co120] 25 (0, 0)) zr9_6 hb)
            have n8_ := qaM (qbT zr9_0 hb)
            clear HO413
            clear HO418
            clear HO422
            clear HO428
            clear BK414
            clear BK423
            clear BK424
            clear HB
            have HO413 := n0_
            have HO418 := n1_
            have HO422 := n2_
            have HO428 := n3_
            have HO432 := n4_
            have BK414 := n5_
            have BK423 := n6_
            have BK424 := n7_
            have HB := n8_
            clear n0_ n1_ n2_ n3_ n4_ n5_ n6_ n7_ n8_
            (try clear hb)
            (try clear hb2)
            (try clear hk)
            (try clear hi)
            (try clear ho0)
            obtain ⟨Ao126, co126, eo126⟩ := Kd.V_slice HO432.out
            (first | subst eo126 | (injection eo126 with f1_ f2_ f3_; have f4_ := f1_.symm; have f5_ := f3_.symm; clear f1_ f2_ f3_; subst f4_; subst f5_))
            refine hK.out _ _ ⟨(qbC BK414.out 0).trans rfl, (qbC BK414.out 1).trans rfl, (qbC BK423.out 0).trans rfl, (qbC BK423.out 1).trans rfl, (qbC BK424.out 0).trans rfl, (qbC BK424.out 1).trans rfl⟩ (fun hHeld => ?_)
            clear hK K
            refine norm_ (a' := ?_) ?_ ?_
            rotate_left
            ·show Act.put _ (some 75) _ = _
             simp only [Act.put, qsA, qsZ, qsS, i64_w, i32_w]
             rfl
            refine one_ (i := 6) (N := some 77) #[true, true, true, true, true, true, true, true, true, false, false, false, false, false, false] rfl rfl (one_of HT_.out zr9_13) zr9_17 (fun K hK => ?_)
            refine goes_ Try.func16 zr9_13 rfl #[.agg #[.bool t429, .slice Ao126 t430.length co126], .agg #[.bool t410, .slice Ao110 t411.length co110]] (by rfl) rfl rfl zr9_4 ?_
            with_reducible refine (spec_WideMul.calls kj8 t429 _ _ t430 t410 _ _ t411 t433 t434 _ ?side1 ?side2 ?side3 ?side4 A29.out).mono ?_
            (case side1 => repeat (first | exact (qvR HO432.out).2.2 | (with_reducible refine Kd.C_alloc ?_ _) | (with_reducible refine Kd.C_drewN ?_ _) | (with_reducible refine Kd.C_drew ?_)))
            (case side2 => exact (qvR HO432.out).2.1)
            (case side3 => repeat (first | exact (qvR HO413.out).2.2 | (with_reducible refine Kd.C_alloc ?_ _) | (with_reducible refine Kd.C_drewN ?_ _) | (with_reducible refine Kd.C_drew ?_)))
            (case side4 => exact (qvR HO413.out).2.1)
            rintro e w127 ⟨v435, rfl, ho0, hb⟩
            refine ⟨_, rfl, ?_⟩
            have n0_ := qaM (qvB zr9_7 hb)
            have n1_ := qaM (qvB zr9_8 hb)
            have n2_ := qaM (qvB zr9_9 hb)
            have n3_ := qaM (qvB zr9_12 hb)
            have n4_ := qaM (qvB zr9_14 hb)
            have n5_ := qaM (qvL (qvM (ok' := fun k_ => k_ ≠ gb414 ∧ k_ ≠ gb423 ∧ k_ ≠ gb424) ho0 (fun k_ hk_ => ⟨(qfB (g := gb414) (o := .cells #[.bool t410, .slice Ao110 t411.length co110] 25 (0, 0)) zr9_1 k_ hk_), (qfB (g := gb423) (o := .cells #[.bool t415, .slice Ao117 t416.length co117] 25 (0, 0)) zr9_3 k_ hk_), (qfB (g := gb424) (o := .cells #[.bool t419, .slice Ao120 t420.length co120] 25 (0, 0)) zr9_6 k_ hk_)⟩)) (qbS zr9_0))
            have n6_ := qaM (qbB (g := gb414) (o := .cells #[.bool t410, .slice Ao110 t411.length co110] 25 (0, 0)) zr9_1 hb)
            have n7_ := qaM (qbB (g := gb423) (o := .cells #[.bool t415, .slice Ao117 t416.length co117] 25 (0, 0)) zr9_3 hb)
            have n8_ := qaM (qbB (g := gb424) (o := .cells #[.bool t419, .slice Ao120 t420.length co120] 25 (0, 0)) zr9_6 hb)
            have n9_ := qaM (qbT zr9_0 hb)
            clear HO413
            clear HO418
            clear HO422
            clear HO428
            clear HO432
            clear BK414
            clear BK423
            clear BK424
            clear HB
            have HO413 := n0_
            have HO418 := n1_
            have HO422 := n2_
            have HO428 := n3_
            have HO432 := n4_
            have HO436 := n5_
            have BK414 := n6_
            have BK423 := n7_
            have BK424 := n8_
            have HB := n9_
            clear n0_ n1_ n2_ n3_ n4_ n5_ n6_ n7_ n8_ n9_
            (try clear hb)
            (try clear hb2)
            (try clear hk)
            (try clear hi)
            (try clear ho0)
            obtain ⟨Ao128, co128, eo128⟩ := Kd.V_slice HO436.out
            (first | subst eo128 | (injection eo128 with f1_ f2_ f3_; have f4_ := f1_.symm; have f5_ := f3_.symm; clear f1_ f2_ f3_; subst f4_; subst f5_))
            refine hK.out _ _ ⟨(qbC BK414.out 0).trans rfl, (qbC BK414.out 1).trans rfl, (qbC BK423.out 0).trans rfl, (qbC BK423.out 1).trans rfl, (qbC BK424.out 0).trans rfl, (qbC BK424.out 1).trans rfl⟩ (fun hHeld => ?_)
            clear hK K
            refine norm_ (a' := ?_) ?_ ?_
            rotate_left
            ·show Act.put _ (some 77) _ = _
             simp only [Act.put, qsA, qsZ, qsS, i64_w, i32_w]
             rfl
            refine one_ (i := 9) (N := some 80) #[true, true, true, true, true, true, true, true, true, true, false, false, false, false, false] rfl rfl (one_of HT_.out zr9_13) zr9_17 (fun K hK => ?_)
            refine goes_ Try.func10 zr9_13 rfl #[.agg #[.bool t433, .slice Ao128 t434.length co128], .agg #[.bool t415, .slice Ao117 t416.length co117], .agg #[.bool t419, .slice Ao120 t420.length co120]] (by rfl) rfl rfl zr9_4 ?_
            with_reducible refine (laws_fitted.calls kj8 t433 _ _ t434 t415 _ _ t416 t419 _ _ t420 t437 true _ ?side1 ?side2 ?side3 ?side4 ?side5 ?side6 A30.out).mono ?_
            (case side1 => repeat (first | exact (qvR HO436.out).2.2 | (with_reducible refine Kd.C_alloc ?_ _) | (with_reducible refine Kd.C_drewN ?_ _) | (with_reducible refine Kd.C_drew ?_)))
            (case side2 => exact (qvR HO436.out).2.1)
            (case side3 => repeat (first | exact (qvR HO418.out).2.2 | (with_reducible refine Kd.C_alloc ?_ _) | (with_reducible refine Kd.C_drewN ?_ _) | (with_reducible refine Kd.C_drew ?_)))
            (case side4 => exact (qvR HO418.out).2.1)
            (case side5 => repeat (first | exact (qvR HO422.out).2.2 | (with_reducible refine Kd.C_alloc ?_ _) | (with_reducible refine Kd.C_drewN ?_ _) | (with_reducible refine Kd.C_drew ?_)))
            (case side6 => exact (qvR HO422.out).2.1)
            rintro e w129 ⟨rfl, hb⟩
            refine ⟨_, rfl, ?_⟩
            have n0_ := qaM (qvB zr9_7 hb)
            have n1_ := qaM (qvB zr9_8 hb)
            have n2_ := qaM (qvB zr9_9 hb)
            have n3_ := qaM (qvB zr9_12 hb)
            have n4_ := qaM (qvB zr9_14 hb)
            have n5_ := qaM (qvB zr9_15 hb)
            have n6_ := qaM (qbB (g := gb414) (o := .cells #[.bool t410, .slice Ao110 t411.length co110] 25 (0, 0)) zr9_1 hb)
            have n7_ := qaM (qbB (g := gb423) (o := .cells #[.bool t415, .slice Ao117 t416.length co117] 25 (0, 0)) zr9_3 hb)
            have n8_ := qaM (qbB (g := gb424) (o := .cells #[.bool t419, .slice Ao120 t420.length co120] 25 (0, 0)) zr9_6 hb)
            have n9_ := qaM (qbT zr9_0 hb)
            clear HO413
            clear HO418
            clear HO422
            clear HO428
            clear HO432
            clear HO436
            clear BK414
            clear BK423
            clear BK424
            clear HB
            have HO413 := n0_
            have HO418 := n1_
            have HO422 := n2_
            have HO428 := n3_
            have HO432 := n4_
            have HO436 := n5_
            have BK414 := n6_
            have BK423 := n7_
            have BK424 := n8_
            have HB := n9_
            clear n0_ n1_ n2_ n3_ n4_ n5_ n6_ n7_ n8_ n9_
            (try clear hb)
            (try clear hb2)
            (try clear hk)
            (try clear hi)
            refine hK.out _ _ ⟨(qbC BK414.out 0).trans rfl, (qbC BK414.out 1).trans rfl, (qbC BK423.out 0).trans rfl, (qbC BK423.out 1).trans rfl, (qbC BK424.out 0).trans rfl, (qbC BK424.out 1).trans rfl⟩ (fun hHeld => ?_)
            clear hK K
            refine norm_ (a' := ?_) ?_ ?_
            rotate_left
            ·show Act.put _ (some 80) _ = _
             simp only [Act.put, qsA, qsZ, qsS, i64_w, i32_w]
             rfl
            refine pure_ (i := 10) (N := some 70) (v := ?_) (a' := ?_) #[true, true, true, true, true, true, true, true, true, true, true, false, false, false, false] rfl rfl (any_of HT_.out zr9_13) (fun _ _ _ h => h) (Or.inl ⟨by rfl, ?_⟩) ?_ ?_
            rotate_left
            ·intro w'
             go_simp
             with_reducible rfl
            rotate_left
            ·simp only [Act.put, qsA, qsZ, qsS, i64_w, i32_w]
             rfl
            refine pure_ (i := 11) (N := some 81) (v := ?_) (a' := ?_) #[true, true, true, true, true, true, true, true, true, true, true, true, false, false, false] rfl rfl (any_of HT_.out zr9_13) (fun _ _ _ h => h) (Or.inl ⟨by rfl, ?_⟩) ?_ ?_
            rotate_left
            ·intro w'
             go_simp
             with_reducible rfl
            rotate_left
            ·simp only [Act.put, qsA, qsZ, qsS, i64_w, i32_w]
             rfl
            refine pure_ (i := 12) (N := some 82) (v := ?_) (a' := ?_) #[true, true, true, true, true, true, true, true, true, true, true, true, true, false, false] rfl rfl (any_of HT_.out zr9_13) (fun _ _ _ h => h) (Or.inl ⟨by rfl, ?_⟩) ?_ ?_
            rotate_left
            ·intro w'
             go_simp
             with_reducible rfl
            rotate_left
            ·simp only [Act.put, qsA, qsZ, qsS, i64_w, i32_w]
             rfl
            refine pure_ (i := 13) (N := some 15) (v := ?_) (a' := ?_) #[true, true, true, true, true, true, true, true, true, true, true, true, true, true, false] rfl rfl (any_of HT_.out zr9_13) (fun _ _ _ h => h) (Or.inl ⟨by rfl, ?_⟩) ?_ ?_
            rotate_left
            ·intro w'
             go_simp
             with_reducible rfl
            rotate_left
            ·simp only [Act.put, qsA, qsZ, qsS, i64_w, i32_w]
             rfl
            refine pure_ (i := 14) (N := some 16) (v := ?_) (a' := ?_) #[true, true, true, true, true, true, true, true, true, true, true, true, true, true, true] rfl rfl (any_of HT_.out zr9_13) (fun _ _ _ h => h) (Or.inl ⟨by rfl, ?_⟩) ?_ ?_
            rotate_left
            ·intro w'
             go_simp
             with_reducible rfl
            rotate_left
            ·simp only [Act.put, qsA, qsZ, qsS, i64_w, i32_w]
             rfl
            refine done_ (done_of HT_.out zr9_13) ?_
            try go_wp2_with (first | ((with_reducible refine gate_callee (f := 21) rfl ?_); refine goesL_ (some 103) rfl rfl Try.func21 zr9_13 rfl #[.int .i64 a0, .int .i64 a1, .int .i64 a2, .bool a3] rfl zr9_4 ?_; (with_reducible refine (impl_RoundInt64To.calls kj8 a0 a1 a2 a3 t439 true _ A104.out).mono ?_); rintro e w130 ⟨rfl, hb⟩; refine ⟨_, rfl, ?_⟩; have n0_ := qaM (qvB zr9_7 hb); have n1_ := qaM (qvB zr9_8 hb); have n2_ := qaM (qvB zr9_9 hb); have n3_ := qaM (qvB zr9_12 hb); have n4_ := qaM (qvB zr9_14 hb); have n5_ := qaM (qvB zr9_15 hb); have n6_ := qaM (qbB (g := gb414) (o := .cells #[.bool t410, .slice Ao110 t411.length co110] 25 (0, 0)) zr9_1 hb); have n7_ := qaM (qbB (g := gb423) (o := .cells #[.bool t415, .slice Ao117 t416.length co117] 25 (0, 0)) zr9_3 hb); have n8_ := qaM (qbB (g := gb424) (o := .cells #[.bool t419, .slice Ao120 t420.length co120] 25 (0, 0)) zr9_6 hb); have n9_ := qaM (qbT zr9_0 hb); clear HO413; clear HO418; clear HO422; clear HO428; clear HO432; clear HO436; clear BK414; clear BK423; clear BK424; clear HB; have HO413 := n0_; have HO418 := n1_; have HO422 := n2_; have HO428 := n3_; have HO432 := n4_; have HO436 := n5_; have BK414 := n6_; have BK423 := n7_; have BK424 := n8_; have HB := n9_; clear n0_ n1_ n2_ n3_ n4_ n5_ n6_ n7_ n8_ n9_; (try clear hb); (try clear hb2); (try clear hk); (try clear hi)))
            go_ret
            exact ⟨by first | rfl | (simp [errW_none, errW_some] <;> rfl) | (simp [*, errW_none, errW_some] <;> rfl), by repeat (first | (with_reducible first | exact HB.out | apply qwA | apply qwN | apply qwD | refine qwS ?_ GE414.out | refine qwS ?_ GE423.out | refine qwS ?_ GE424.out) | exact HB.out)⟩
           ·rw [if_neg c106] at H
            have c106b0 : (t439 == (wrap64 (t437))) = false := beq_eq_false_iff_ne.mpr c106
            have c106b1 : (t439 != (wrap64 (t437))) = true := bne_iff_ne.mpr c106
            obtain rfl := Option.some.inj H
            try go_wp2_with (first | ((with_reducible refine gate_callee (f := 17) rfl ?_); refine goesL_ (some 65) rfl rfl Try.func17 zr9_13 rfl #[.int .i64 a1] rfl zr9_4 ?_; (with_reducible refine (spec_WideInt.calls kj8 a1 t410 t411 _ A25.out).mono ?_); rintro e w131 ⟨v412, rfl, ho0, hb⟩; refine ⟨_, rfl, ?_⟩; have n0_ := qaM (qvL (qvM (ok' := fun k_ => True) ho0 (fun k_ hk_ => trivial)) (qbS zr9_10)); have n1_ := qaM (qbT zr9_10 hb); clear HB; have HO413 := n0_; have HB := n1_; clear n0_ n1_; (try clear hb); (try clear hb2); (try clear hk); (try clear hi); (try clear ho0)) | ((with_reducible refine gate_dst (N := 12) rfl ?_); refine box_event ?hg (N := 12) ?hd (cs := #[.bool false, .slice none 0 0]) (t := 25) ?hr ?_; (case hd => rfl); (case hg => rfl); (case hr => first | (go_simp; done) | (go_simp; rfl)); intro gb414 hg w132 hbox hb; have n0_ := qaM (qvB (qvE zr9_7 gb414 (Nat.le_of_eq hg.symm)) hb); have n1_ := qaM (qbT zr9_10 hb); have n2_ := qaM (hbox); have n3_ := qaM ((by rw [hg]; exact (qbS zr9_10) : w.heap.size ≤ gb414)); have n4_ := qaM ((by rw [hg]; exact (qbS zr9_10) : w.heap.size ≤ gb414)); clear HO413; clear HB; have HO413 := n0_; have HB := n1_; have BK414 := n2_; have GW414 := n3_; have GE414 := n4_; clear n0_ n1_ n2_ n3_ n4_; clear hb hbox hg; have hcz133_0 : w132.cell? ⟨gb414, 0, none⟩ = some (.bool false) := (qbC BK414.out 0).trans rfl; have hcz133_1 : w132.cell? ⟨gb414, 1, none⟩ = some (.slice none 0 0) := (qbC BK414.out 1).trans rfl; have hfz133_0 := blk_frozen BK414.out 0; have hfz133_1 := blk_frozen BK414.out 1; obtain ⟨Ao134, co134, eo134⟩ := Kd.V_slice HO413.out; subst eo134) | ((with_reducible refine gate_callee (f := 9) rfl ?_); refine goesL_ (some 67) rfl rfl Try.func9 zr9_13 rfl #[.int .i64 62, .bool true] rfl zr9_4 ?_; (with_reducible refine (laws_bounds.calls kj8 62 true t415 t416 t419 t420 _ A26.out).mono ?_); rintro e w135 ⟨v417, v421, rfl, ho0, ho1, hb⟩; refine ⟨_, rfl, ?_⟩; have n0_ := qaM (qvB (by (with_reducible repeat (first | apply qvA | apply qvN | apply qvD)); exact (qvM (qvF (p := ⟨gb414, 1, none⟩) (qvF (p := ⟨gb414, 0, none⟩) (qvM HO413.out (fun k_ hk => (⟨hk, hk.2⟩ : _ ∧ k_ ≠ gb414))) (fun _ hk => hk.2) (.bool t410)) (fun _ hk => hk.2) (.slice Ao134 t411.length co134)) (fun _ h_ => h_.1))) hb); have n1_ := qaM (qvL (qvM (ok' := fun k_ => k_ ≠ gb414) ho0 (fun k_ hk_ => (qfB (g := gb414) (o := .cells #[.bool t410, .slice Ao134 t411.length co134] 25 (0, 0)) zr9_2 k_ hk_))) (qbS zr9_5)); have n2_ := qaM (qvL (qvM (ok' := fun k_ => k_ ≠ gb414) ho1 (fun k_ hk_ => (qfB (g := gb414) (o := .cells #[.bool t410, .slice Ao134 t411.length co134] 25 (0, 0)) zr9_2 k_ hk_))) (qbS zr9_5)); have n3_ := qaM (qbB (g := gb414) (o := .cells #[.bool t410, .slice Ao134 t411.length co134] 25 (0, 0)) zr9_2 hb); have n4_ := qaM (qbT zr9_5 hb); clear HO413; clear BK414; clear HB; have HO413 := n0_; have HO418 := n1_; have HO422 := n2_; have BK414 := n3_; have HB := n4_; clear n0_ n1_ n2_ n3_ n4_; (try clear hb); (try clear hb2); (try clear hk); (try clear hi); (try clear ho0); (try clear ho1)) | ((with_reducible refine gate_dst (N := 13) rfl ?_); refine box_event ?hg (N := 13) ?hd (cs := #[.bool false, .slice none 0 0]) (t := 25) ?hr ?_; (case hd => rfl); (case hg => rfl); (case hr => first | (go_simp; done) | (go_simp; rfl)); intro gb423 hg w136 hbox hb; have n0_ := qaM (qvB (qvE zr9_7 gb423 (Nat.le_of_eq hg.symm)) hb); have n1_ := qaM (qvB (qvE zr9_8 gb423 (Nat.le_of_eq hg.symm)) hb); have n2_ := qaM (qvB (qvE zr9_9 gb423 (Nat.le_of_eq hg.symm)) hb); have n3_ := qaM (qbB (g := gb414) (o := .cells #[.bool t410, .slice Ao134 t411.length co134] 25 (0, 0)) zr9_1 hb); have n4_ := qaM (qbT zr9_5 hb); have n5_ := qaM (hbox); have n6_ := qaM ((by rw [hg]; exact (qbS zr9_5) : w.heap.size ≤ gb423)); have n7_ := qaM ((by rw [hg]; exact (qbS zr9_5) : w.heap.size ≤ gb423)); have n8_ := qaM ((by rw [hg]; exact qnL (qbL (g := gb414) (o := .cells #[.bool t410, .slice Ao134 t411.length co134] 25 (0, 0)) zr9_1) : gb414 ≠ gb423)); have n9_ := qaM ((by rw [hg]; exact qnG (qbL (g := gb414) (o := .cells #[.bool t410, .slice Ao134 t411.length co134] 25 (0, 0)) zr9_1) : gb423 ≠ gb414)); clear HO413; clear HO418; clear HO422; clear BK414; clear HB; have HO413 := n0_; have HO418 := n1_; have HO422 := n2_; have BK414 := n3_; have HB := n4_; have BK423 := n5_; have GW423 := n6_; have GE423 := n7_; have NB414_423 := n8_; have NB423_414 := n9_; clear n0_ n1_ n2_ n3_ n4_ n5_ n6_ n7_ n8_ n9_; clear hb hbox hg) | ((with_reducible refine gate_dst (N := 14) rfl ?_); refine box_event ?hg (N := 14) ?hd (cs := #[.bool false, .slice none 0 0]) (t := 25) ?hr ?_; (case hd => rfl); (case hg => rfl); (case hr => first | (go_simp; done) | (go_simp; rfl)); intro gb424 hg w137 hbox hb; have n0_ := qaM (qvB (qvE zr9_7 gb424 (Nat.le_of_eq hg.symm)) hb); have n1_ := qaM (qvB (qvE zr9_8 gb424 (Nat.le_of_eq hg.symm)) hb); have n2_ := qaM (qvB (qvE zr9_9 gb424 (Nat.le_of_eq hg.symm)) hb); have n3_ := qaM (qbB (g := gb414) (o := .cells #[.bool t410, .slice Ao134 t411.length co134] 25 (0, 0)) zr9_1 hb); have n4_ := qaM (qbB (g := gb423) (o := .cells #[.bool false, .slice none 0 0] 25 (0, 0)) zr9_3 hb); have n5_ := qaM (qbT zr9_11 hb); have n6_ := qaM (hbox); have n7_ := qaM ((by rw [hg]; exact (qbS zr9_11) : w.heap.size ≤ gb424)); have n8_ := qaM ((by rw [hg]; exact (qbS zr9_11) : w.heap.size ≤ gb424)); have n9_ := qaM ((by rw [hg]; exact qnL (qbL (g := gb414) (o := .cells #[.bool t410, .slice Ao134 t411.length co134] 25 (0, 0)) zr9_1) : gb414 ≠ gb424)); have n10_ := qaM ((by rw [hg]; exact qnG (qbL (g := gb414) (o := .cells #[.bool t410, .slice Ao134 t411.length co134] 25 (0, 0)) zr9_1) : gb424 ≠ gb414)); have n11_ := qaM ((by rw [hg]; exact qnL (qbL (g := gb423) (o := .cells #[.bool false, .slice none 0 0] 25 (0, 0)) zr9_3) : gb423 ≠ gb424)); have n12_ := qaM ((by rw [hg]; exact qnG (qbL (g := gb423) (o := .cells #[.bool false, .slice none 0 0] 25 (0, 0)) zr9_3) : gb424 ≠ gb423)); clear HO413; clear HO418; clear HO422; clear BK414; clear BK423; clear HB; have HO413 := n0_; have HO418 := n1_; have HO422 := n2_; have BK414 := n3_; have BK423 := n4_; have HB := n5_; have BK424 := n6_; have GW424 := n7_; have GE424 := n8_; have NB414_424 := n9_; have NB424_414 := n10_; have NB423_424 := n11_; have NB424_423 := n12_; clear n0_ n1_ n2_ n3_ n4_ n5_ n6_ n7_ n8_ n9_ n10_ n11_ n12_; clear hb hbox hg; have hnb138 := NB423_414.out; have hnc138 := NB414_423.out; have hnb139 := NB423_424.out; have hnc139 := NB424_423.out; have hcz140_0 : w137.cell? ⟨gb423, 0, none⟩ = some (.bool false) := (qbC BK423.out 0).trans rfl; have hcz140_1 : w137.cell? ⟨gb423, 1, none⟩ = some (.slice none 0 0) := (qbC BK423.out 1).trans rfl; have hfz140_0 := blk_frozen BK423.out 0; have hfz140_1 := blk_frozen BK423.out 1; obtain ⟨Ao141, co141, eo141⟩ := Kd.V_slice HO418.out; subst eo141; have hnb142 := NB424_414.out; have hnc142 := NB414_424.out; have hcz143_0 : w137.cell? ⟨gb424, 0, none⟩ = some (.bool false) := (qbC BK424.out 0).trans rfl; have hcz143_1 : w137.cell? ⟨gb424, 1, none⟩ = some (.slice none 0 0) := (qbC BK424.out 1).trans rfl; have hfz143_0 := blk_frozen BK424.out 0; have hfz143_1 := blk_frozen BK424.out 1; obtain ⟨Ao144, co144, eo144⟩ := Kd.V_slice HO422.out; subst eo144))
            have n0_ : Aside0 (Kd.V (Kd.int .u32) 22 ((((w137.setCell ⟨gb423, 0, none⟩ (.bool t415)).setCell ⟨gb423, 1, none⟩ (.slice Ao141 t416.length co141)).setCell ⟨gb424, 0, none⟩ (.bool t419)).setCell ⟨gb424, 1, none⟩ (.slice Ao144 t420.length co144)) w.heap.size (fun k_ => k_ ≠ gb414 ∧ k_ ≠ gb423 ∧ k_ ≠ gb424) (.slice Ao134 t411.length co134) t411) := ⟨by (with_reducible repeat (first | apply qvA | apply qvN | apply qvD)); exact qvM (qvF (p := ⟨gb424, 1, none⟩) (qvF (p := ⟨gb424, 0, none⟩) (qvF (p := ⟨gb423, 1, none⟩) (qvF (p := ⟨gb423, 0, none⟩) (qvM (qvM HO413.out (fun k_ hk => (⟨hk, hk.1.2⟩ : _ ∧ k_ ≠ gb423))) (fun k_ hk => (⟨hk, hk.1.2⟩ : _ ∧ k_ ≠ gb424))) (fun _ hk => hk.1.2) (.bool t415)) (fun _ hk => hk.1.2) (.slice Ao141 t416.length co141)) (fun _ hk => hk.2) (.bool t419)) (fun _ hk => hk.2) (.slice Ao144 t420.length co144)) (fun _ hk => ⟨hk.1.1.1.1.2, ⟨hk.1.1.1.2, hk.1.1.2⟩⟩)⟩
            have n1_ : Aside0 (Kd.V (Kd.int .u32) 22 ((((w137.setCell ⟨gb423, 0, none⟩ (.bool t415)).setCell ⟨gb423, 1, none⟩ (.slice Ao141 t416.length co141)).setCell ⟨gb424, 0, none⟩ (.bool t419)).setCell ⟨gb424, 1, none⟩ (.slice Ao144 t420.length co144)) w.heap.size (fun k_ => k_ ≠ gb414 ∧ k_ ≠ gb423 ∧ k_ ≠ gb424) (.slice Ao141 t416.length co141) t416) := ⟨by (with_reducible repeat (first | apply qvA | apply qvN | apply qvD)); exact qvM (qvF (p := ⟨gb424, 1, none⟩) (qvF (p := ⟨gb424, 0, none⟩) (qvF (p := ⟨gb423, 1, none⟩) (qvF (p := ⟨gb423, 0, none⟩) (qvM (qvM HO418.out (fun k_ hk => (⟨hk, hk.1.2⟩ : _ ∧ k_ ≠ gb423))) (fun k_ hk => (⟨hk, hk.1.2⟩ : _ ∧ k_ ≠ gb424))) (fun _ hk => hk.1.2) (.bool t415)) (fun _ hk => hk.1.2) (.slice Ao141 t416.length co141)) (fun _ hk => hk.2) (.bool t419)) (fun _ hk => hk.2) (.slice Ao144 t420.length co144)) (fun _ hk => ⟨hk.1.1.1.1, ⟨hk.1.1.1.2, hk.1.1.2⟩⟩)⟩
            have n2_ : Aside0 (Kd.V (Kd.int .u32) 22 ((((w137.setCell ⟨gb423, 0, none⟩ (.bool t415)).setCell ⟨gb423, 1, none⟩ (.slice Ao141 t416.length co141)).setCell ⟨gb424, 0, none⟩ (.bool t419)).setCell ⟨gb424, 1, none⟩ (.slice Ao144 t420.length co144)) w.heap.size (fun k_ => k_ ≠ gb414 ∧ k_ ≠ gb423 ∧ k_ ≠ gb424) (.slice Ao144 t420.length co144) t420) := ⟨by (with_reducible repeat (first | apply qvA | apply qvN | apply qvD)); exact qvM (qvF (p := ⟨gb424, 1, none⟩) (qvF (p := ⟨gb424, 0, none⟩) (qvF (p := ⟨gb423, 1, none⟩) (qvF (p := ⟨gb423, 0, none⟩) (qvM (qvM HO422.out (fun k_ hk => (⟨hk, hk.1.2⟩ : _ ∧ k_ ≠ gb423))) (fun k_ hk => (⟨hk, hk.1.2⟩ : _ ∧ k_ ≠ gb424))) (fun _ hk => hk.1.2) (.bool t415)) (fun _ hk => hk.1.2) (.slice Ao141 t416.length co141)) (fun _ hk => hk.2) (.bool t419)) (fun _ hk => hk.2) (.slice Ao144 t420.length co144)) (fun _ hk => ⟨hk.1.1.1.1, ⟨hk.1.1.1.2, hk.1.1.2⟩⟩)⟩
            have n3_ : Aside0 (((((w137.setCell ⟨gb423, 0, none⟩ (.bool t415)).setCell ⟨gb423, 1, none⟩ (.slice Ao141 t416.length co141)).setCell ⟨gb424, 0, none⟩ (.bool t419)).setCell ⟨gb424, 1, none⟩ (.slice Ao144 t420.length co144)).heap[gb414]? = some (.cells #[.bool t410, .slice Ao134 t411.length co134] 25 (0, 0))) := ⟨by (with_reducible repeat (first | refine qbN ?_ _ | refine qbD ?_ | refine qbA ?_ _)); refine qbF ?_ NB414_424.out _; (with_reducible repeat (first | refine qbN ?_ _ | refine qbD ?_ | refine qbA ?_ _)); refine qbF ?_ NB414_424.out _; (with_reducible repeat (first | refine qbN ?_ _ | refine qbD ?_ | refine qbA ?_ _)); refine qbF ?_ NB414_423.out _; (with_reducible repeat (first | refine qbN ?_ _ | refine qbD ?_ | refine qbA ?_ _)); refine qbF ?_ NB414_423.out _; (with_reducible repeat (first | refine qbN ?_ _ | refine qbD ?_ | refine qbA ?_ _)); exact BK414.out⟩
            have n4_ : Aside0 (((((w137.setCell ⟨gb423, 0, none⟩ (.bool t415)).setCell ⟨gb423, 1, none⟩ (.slice Ao141 t416.length co141)).setCell ⟨gb424, 0, none⟩ (.bool t419)).setCell ⟨gb424, 1, none⟩ (.slice Ao144 t420.length co144)).heap[gb423]? = some (.cells #[.bool t415, .slice Ao141 t416.length co141] 25 (0, 0))) := ⟨by (with_reducible repeat (first | refine qbN ?_ _ | refine qbD ?_ | refine qbA ?_ _)); refine qbF ?_ NB423_424.out _; (with_reducible repeat (first | refine qbN ?_ _ | refine qbD ?_ | refine qbA ?_ _)); refine qbF ?_ NB423_424.out _; (with_reducible repeat (first | refine qbN ?_ _ | refine qbD ?_ | refine qbA ?_ _)); refine qbP (cs := #[.bool t415, .slice none 0 0]) ?_ 1 _ rfl; (with_reducible repeat (first | refine qbN ?_ _ | refine qbD ?_ | refine qbA ?_ _)); refine qbP (cs := #[.bool false, .slice none 0 0]) ?_ 0 _ rfl; (with_reducible repeat (first | refine qbN ?_ _ | refine qbD ?_ | refine qbA ?_ _)); exact BK423.out⟩
            have n5_ : Aside0 (((((w137.setCell ⟨gb423, 0, none⟩ (.bool t415)).setCell ⟨gb423, 1, none⟩ (.slice Ao141 t416.length co141)).setCell ⟨gb424, 0, none⟩ (.bool t419)).setCell ⟨gb424, 1, none⟩ (.slice Ao144 t420.length co144)).heap[gb424]? = some (.cells #[.bool t419, .slice Ao144 t420.length co144] 25 (0, 0))) := ⟨by (with_reducible repeat (first | refine qbN ?_ _ | refine qbD ?_ | refine qbA ?_ _)); refine qbP (cs := #[.bool t419, .slice none 0 0]) ?_ 1 _ rfl; (with_reducible repeat (first | refine qbN ?_ _ | refine qbD ?_ | refine qbA ?_ _)); refine qbP (cs := #[.bool false, .slice none 0 0]) ?_ 0 _ rfl; (with_reducible repeat (first | refine qbN ?_ _ | refine qbD ?_ | refine qbA ?_ _)); refine qbF ?_ NB424_423.out _; (with_reducible repeat (first | refine qbN ?_ _ | refine qbD ?_ | refine qbA ?_ _)); refine qbF ?_ NB424_423.out _; (with_reducible repeat (first | refine qbN ?_ _ | refine qbD ?_ | refine qbA ?_ _)); exact BK424.out⟩
            have n6_ : Aside0 (Below w.heap.size w ((((w137.setCell ⟨gb423, 0, none⟩ (.bool t415)).setCell ⟨gb423, 1, none⟩ (.slice Ao141 t416.length co141)).setCell ⟨gb424, 0, none⟩ (.bool t419)).setCell ⟨gb424, 1, none⟩ (.slice Ao144 t420.length co144))) := ⟨by repeat (first | (with_reducible first | exact HB.out | apply qwA | apply qwN | apply qwD | refine qwS ?_ GE414.out | refine qwS ?_ GE423.out | refine qwS ?_ GE424.out) | exact HB.out)⟩
            (try clear HO413)
            (try clear HO418)
            (try clear HO422)
            (try clear BK414)
            (try clear BK423)
            (try clear BK424)
            (try clear HB)
            generalize ((((w137.setCell ⟨gb423, 0, none⟩ (.bool t415)).setCell ⟨gb423, 1, none⟩ (.slice Ao141 t416.length co141)).setCell ⟨gb424, 0, none⟩ (.bool t419)).setCell ⟨gb424, 1, none⟩ (.slice Ao144 t420.length co144)) = w145 at n0_ n1_ n2_ n3_ n4_ n5_ n6_ ⊢
            have HO413 := n0_
            have HO418 := n1_
            have HO422 := n2_
            have BK414 := n3_
            have BK423 := n4_
            have BK424 := n5_
            have HB := n6_
            clear n0_ n1_ n2_ n3_ n4_ n5_ n6_
            have n0_ := qaM (qvD HO413.out)
            have n1_ := qaM (qvD HO418.out)
            have n2_ := qaM (qvD HO422.out)
            have n3_ := qaM (qbD BK414.out)
            have n4_ := qaM (qbD BK423.out)
            have n5_ := qaM (qbD BK424.out)
            have n6_ := qaM (qwD HB.out)
            clear HO413
            clear HO418
            clear HO422
            clear BK414
            clear BK423
            clear BK424
            clear HB
            have HO413 := n0_
            have HO418 := n1_
            have HO422 := n2_
            have BK414 := n3_
            have BK423 := n4_
            have BK424 := n5_
            have HB := n6_
            clear n0_ n1_ n2_ n3_ n4_ n5_ n6_
            refine start_ (n := 15) (S := fun w' => w'.cell? ⟨gb414, 0, none⟩ = some (.bool t410) ∧ w'.cell? ⟨gb414, 1, none⟩ = some (.slice Ao134 t411.length co134) ∧ w'.cell? ⟨gb423, 0, none⟩ = some (.bool t415) ∧ w'.cell? ⟨gb423, 1, none⟩ = some (.slice Ao141 t416.length co141) ∧ w'.cell? ⟨gb424, 0, none⟩ = some (.bool t419) ∧ w'.cell? ⟨gb424, 1, none⟩ = some (.slice Ao144 t420.length co144)) (ds := []) #[false, false, false, false, false, false, false, false, false, false, false, false, false, false, false] zr9_13 rfl rfl ⟨(qbC BK414.out 0).trans rfl, (qbC BK414.out 1).trans rfl, (qbC BK423.out 0).trans rfl, (qbC BK423.out 1).trans rfl, (qbC BK424.out 0).trans rfl, (qbC BK424.out 1).trans rfl⟩ (fun hHeld => ?_); refine with_tabW laws_FnRoundInt64To.tab7 laws_FnRoundInt64To.bits7 (fun HT_ HW_ => ?_)
            generalize w145.drew = w146 at HO413 HO418 HO422 BK414 BK423 BK424 HB hHeld ⊢
            refine pure_ (i := 0) (N := some 71) (v := ?_) (a' := ?_) #[true, false, false, false, false, false, false, false, false, false, false, false, false, false, false] rfl rfl (any_of HT_.out zr9_13) (fun _ _ _ h => h) (Or.inl ⟨by rfl, ?_⟩) ?_ ?_
            rotate_left
            ·intro w'
             go_simp
             with_reducible rfl
            rotate_left
            ·simp only [Act.put, qsA, qsZ, qsS, i64_w, i32_w]
             rfl
            refine pure_ (i := 3) (N := some 74) (v := ?_) (a' := ?_) #[true, false, false, true, false, false, false, false, false, false, false, false, false, false, false] rfl rfl (any_of HT_.out zr9_13) (fun _ _ _ h => h) (Or.inl ⟨by rfl, ?_⟩) ?_ ?_
            rotate_left
            ·intro w'
             go_simp
             with_reducible rfl
            rotate_left
            ·simp only [Act.put, qsA, qsZ, qsS, i64_w, i32_w]
             rfl
            refine take_ (i := 2) (N := some 73) (v := ?_) (a' := ?_) #[true, false, true, true, false, false, false, false, false, false, false, false, false, false, false] rfl rfl (take_ofW HT_.out HW_.out zr9_13) (fun _ _ _ h => h) (Or.inl ⟨by rfl, ?_⟩) hHeld ?_ ?_
            rotate_left
            ·rintro w' ⟨s0, s1, s2, s3, s4, s5⟩
             go_simp
             with_reducible rfl
            rotate_left
            ·simp only [Act.put, qsA, qsZ, qsS, i64_w, i32_w]
             rfl
            refine take_ (i := 5) (N := some 76) (v := ?_) (a' := ?_) #[true, false, true, true, false, true, false, false, false, false, false, false, false, false, false] rfl rfl (take_ofW HT_.out HW_.out zr9_13) (fun _ _ _ h => h) (Or.inl ⟨by rfl, ?_⟩) hHeld ?_ ?_
            rotate_left
            ·rintro w' ⟨s0, s1, s2, s3, s4, s5⟩
             go_simp
             with_reducible rfl
            rotate_left
            ·simp only [Act.put, qsA, qsZ, qsS, i64_w, i32_w]
             rfl
            refine take_ (i := 7) (N := some 78) (v := ?_) (a' := ?_) #[true, false, true, true, false, true, false, true, false, false, false, false, false, false, false] rfl rfl (take_ofW HT_.out HW_.out zr9_13) (fun _ _ _ h => h) (Or.inl ⟨by rfl, ?_⟩) hHeld ?_ ?_
            rotate_left
            ·rintro w' ⟨s0, s1, s2, s3, s4, s5⟩
             go_simp
             with_reducible rfl
            rotate_left
            ·simp only [Act.put, qsA, qsZ, qsS, i64_w, i32_w]
             rfl
            refine take_ (i := 8) (N := some 79) (v := ?_) (a' := ?_) #[true, false, true, true, false, true, false, true, true, false, false, false, false, false, false] rfl rfl (take_ofW HT_.out HW_.out zr9_13) (fun _ _ _ h => h) (Or.inl ⟨by rfl, ?_⟩) hHeld ?_ ?_
            rotate_left
            ·rintro w' ⟨s0, s1, s2, s3, s4, s5⟩
             go_simp
             with_reducible rfl
            rotate_left
            ·simp only [Act.put, qsA, qsZ, qsS, i64_w, i32_w]
             rfl
            refine one_ (i := 1) (N := some 72) #[true, true, true, true, false, true, false, true, true, false, false, false, false, false, false] rfl rfl (one_of HT_.out zr9_13) zr9_17 (fun K hK => ?_)
            refine goes_ Try.func17 zr9_13 rfl #[.int .i64 a0] (by rfl) rfl rfl zr9_4 ?_
            with_reducible refine (spec_WideInt.calls kj8 a0 t425 t426 _ A27.out).mono ?_
            rintro e w147 ⟨v427, rfl, ho0, hb⟩
            refine ⟨_, rfl, ?_⟩
            have n0_ := qaM (qvB zr9_7 hb)
            have n1_ := qaM (qvB zr9_8 hb)
            have n2_ := qaM (qvB zr9_9 hb)
            have n3_ := qaM (qvL (qvM (ok' := fun k_ => k_ ≠ gb414 ∧ k_ ≠ gb423 ∧ k_ ≠ gb424) ho0 (fun k_ hk_ => ⟨(qfB (g := gb414) (o := .cells #[.bool t410, .slice Ao134 t411.length co134] 25 (0, 0)) zr9_1 k_ hk_), (qfB (g := gb423) (o := .cells #[.bool t415, .slice Ao141 t416.length co141] 25 (0, 0)) zr9_3 k_ hk_), (qfB (g := gb424) (o := .cells #[.bool t419, .slice Ao144 t420.length co144] 25 (0, 0)) zr9_6 k_ hk_)⟩)) (qbS zr9_0))
            have n4_ := qaM (qbB (g := gb414) (o := .cells #[.bool t410, .slice Ao134 t411.length co134] 25 (0, 0)) zr9_1 hb)
            have n5_ := qaM (qbB (g := gb423) (o := .cells #[.bool t415, .slice Ao141 t416.length co141] 25 (0, 0)) zr9_3 hb)
            have n6_ := qaM (qbB (g := gb424) (o := .cells #[.bool t419, .slice Ao144 t420.length co144] 25 (0, 0)) zr9_6 hb)
            have n7_ := qaM (qbT zr9_0 hb)
            clear HO413
            clear HO418
            clear HO422
            clear BK414
            clear BK423
            clear BK424
            clear HB
            have HO413 := n0_
            have HO418 := n1_
            have HO422 := n2_
            have HO428 := n3_
            have BK414 := n4_
            have BK423 := n5_
            have BK424 := n6_
            have HB := n7_
            clear n0_ n1_ n2_ n3_ n4_ n5_ n6_ n7_
            (try clear hb)
            (try clear hb2)
            (try clear hk)
            (try clear hi)
            (try clear ho0)
            obtain ⟨Ao148, co148, eo148⟩ := Kd.V_slice HO428.out
            (first | subst eo148 | (injection eo148 with f1_ f2_ f3_; have f4_ := f1_.symm; have f5_ := f3_.symm; clear f1_ f2_ f3_; subst f4_; subst f5_))
            refine hK.out _ _ ⟨(qbC BK414.out 0).trans rfl, (qbC BK414.out 1).trans rfl, (qbC BK423.out 0).trans rfl, (qbC BK423.out 1).trans rfl, (qbC BK424.out 0).trans rfl, (qbC BK424.out 1).trans rfl⟩ (fun hHeld => ?_)
            clear hK K
            refine norm_ (a' := ?_) ?_ ?_
            rotate_left
            ·show Act.put _ (some 72) _ = _
             simp only [Act.put, qsA, qsZ, qsS, i64_w, i32_w]
             rfl
            refine one_ (i := 4) (N := some 75) #[true, true, true, true, true, true, false, true, true, false, false, false, false, false, false] rfl rfl (one_of HT_.out zr9_13) zr9_17 (fun K hK => ?_)
            refine goes_ Try.func22 zr9_13 rfl #[.agg #[.bool t425, .slice Ao148 t426.length co148], .agg #[.bool t410, .slice Ao134 t411.length co134], .int .i64 a2] (by rfl) rfl rfl zr9_4 ?_
            with_reducible refine (spec_RoundWide.calls kj8 t425 _ _ t426 t410 _ _ t411 a2 t429 t430 _ ?side1 ?side2 ?side3 ?side4 A28.out).mono ?_
            (case side1 => repeat (first | exact (qvR HO428.out).2.2 | (with_reducible refine Kd.C_alloc ?_ _) | (with_reducible refine Kd.C_drewN ?_ _) | (with_reducible refine Kd.C_drew ?_)))
            (case side2 => exact (qvR HO428.out).2.1)
            (case side3 => repeat (first | exact (qvR HO413.out).2.2 | (with_reducible refine Kd.C_alloc ?_ _) | (with_reducible refine Kd.C_drewN ?_ _) | (with_reducible refine Kd.C_drew ?_)))
            (case side4 => exact (qvR HO413.out).2.1)
            rintro e w149 ⟨v431, rfl, ho0, hb⟩
            refine ⟨_, rfl, ?_⟩
            have n0_ := qaM (qvB zr9_7 hb)
            have n1_ := qaM (qvB zr9_8 hb)
            have n2_ := qaM (qvB zr9_9 hb)
            have n3_ := qaM (qvB zr9_12 hb)
            have n4_ := qaM (qvL (qvM (ok' := fun k_ => k_ ≠ gb414 ∧ k_ ≠ gb423 ∧ k_ ≠ gb424) ho0 (fun k_ hk_ => ⟨(qfB (g := gb414) (o := .cells #[.bool t410, .slice Ao134 t411.length co134] 25 (0, 0)) zr9_1 k_ hk_), (qfB (g := gb423) (o := .cells #[.bool t415, .slice Ao141 t416.length co141] 25 (0, 0)) zr9_3 k_ hk_), (qfB (g := gb424) (o := .cells #[.bool t419, .slice Ao144 t420.length co144] 25 (0, 0)) zr9_6 k_ hk_)⟩)) (qbS zr9_0))
            have n5_ := qaM (qbB (g := gb414) (o := .cells #[.bool t410, .slice Ao134 t411.length co134] 25 (0, 0)) zr9_1 hb)
            have n6_ := qaM (qbB (g := gb423) (o := .cells #[.bool t415, .slice Ao141 t416.length co141] 25 (0, 0)) zr9_3 hb)
            have n7_ := qaM (qbB (g := gb424) (o := .cells #[.bool t419, .slice Ao144 t420.length co144] 25 (0, 0)) zr9_6 hb)
            have n8_ := qaM (qbT zr9_0 hb)
            clear HO413
            clear HO418
            clear HO422
            clear HO428
            clear BK414
            clear BK423
            clear BK424
            clear HB
            have HO413 := n0_
            have HO418 := n1_
            have HO422 := n2_
            have HO428 := n3_
            have HO432 := n4_
            have BK414 := n5_
            have BK423 := n6_
            have BK424 := n7_
            have HB := n8_
            clear n0_ n1_ n2_ n3_ n4_ n5_ n6_ n7_ n8_
            (try clear hb)
            (try clear hb2)
            (try clear hk)
            (try clear hi)
            (try clear ho0)
            obtain ⟨Ao150, co150, eo150⟩ := Kd.V_slice HO432.out
            (first | subst eo150 | (injection eo150 with f1_ f2_ f3_; have f4_ := f1_.symm; have f5_ := f3_.symm; clear f1_ f2_ f3_; subst f4_; subst f5_))
            refine hK.out _ _ ⟨(qbC BK414.out 0).trans rfl, (qbC BK414.out 1).trans rfl, (qbC BK423.out 0).trans rfl, (qbC BK423.out 1).trans rfl, (qbC BK424.out 0).trans rfl, (qbC BK424.out 1).trans rfl⟩ (fun hHeld => ?_)
            clear hK K
            refine norm_ (a' := ?_) ?_ ?_
            rotate_left
            ·show Act.put _ (some 75) _ = _
             simp only [Act.put, qsA, qsZ, qsS, i64_w, i32_w]
             rfl
            refine one_ (i := 6) (N := some 77) #[true, true, true, true, true, true, true, true, true, false, false, false, false, false, false] rfl rfl (one_of HT_.out zr9_13) zr9_17 (fun K hK => ?_)
            refine goes_ Try.func16 zr9_13 rfl #[.agg #[.bool t429, .slice Ao150 t430.length co150], .agg #[.bool t410, .slice Ao134 t411.length co134]] (by rfl) rfl rfl zr9_4 ?_
            with_reducible refine (spec_WideMul.calls kj8 t429 _ _ t430 t410 _ _ t411 t433 t434 _ ?side1 ?side2 ?side3 ?side4 A29.out).mono ?_
            (case side1 => repeat (first | exact (qvR HO432.out).2.2 | (with_reducible refine Kd.C_alloc ?_ _) | (with_reducible refine Kd.C_drewN ?_ _) | (with_reducible refine Kd.C_drew ?_)))
            (case side2 => exact (qvR HO432.out).2.1)
            (case side3 => repeat (first | exact (qvR HO413.out).2.2 | (with_reducible refine Kd.C_alloc ?_ _) | (with_reducible refine Kd.C_drewN ?_ _) | (with_reducible refine Kd.C_drew ?_)))
            (case side4 => exact (qvR HO413.out).2.1)
            rintro e w151 ⟨v435, rfl, ho0, hb⟩
            refine ⟨_, rfl, ?_⟩
            have n0_ := qaM (qvB zr9_7 hb)
            have n1_ := qaM (qvB zr9_8 hb)
            have n2_ := qaM (qvB zr9_9 hb)
            have n3_ := qaM (qvB zr9_12 hb)
            have n4_ := qaM (qvB zr9_14 hb)
            have n5_ := qaM (qvL (qvM (ok' := fun k_ => k_ ≠ gb414 ∧ k_ ≠ gb423 ∧ k_ ≠ gb424) ho0 (fun k_ hk_ => ⟨(qfB (g := gb414) (o := .cells #[.bool t410, .slice Ao134 t411.length co134] 25 (0, 0)) zr9_1 k_ hk_), (qfB (g := gb423) (o := .cells #[.bool t415, .slice Ao141 t416.length co141] 25 (0, 0)) zr9_3 k_ hk_), (qfB (g := gb424) (o := .cells #[.bool t419, .slice Ao144 t420.length co144] 25 (0, 0)) zr9_6 k_ hk_)⟩)) (qbS zr9_0))
            have n6_ := qaM (qbB (g := gb414) (o := .cells #[.bool t410, .slice Ao134 t411.length co134] 25 (0, 0)) zr9_1 hb)
            have n7_ := qaM (qbB (g := gb423) (o := .cells #[.bool t415, .slice Ao141 t416.length co141] 25 (0, 0)) zr9_3 hb)
            have n8_ := qaM (qbB (g := gb424) (o := .cells #[.bool t419, .slice Ao144 t420.length co144] 25 (0, 0)) zr9_6 hb)
            have n9_ := qaM (qbT zr9_0 hb)
            clear HO413
            clear HO418
            clear HO422
            clear HO428
            clear HO432
            clear BK414
            clear BK423
            clear BK424
            clear HB
            have HO413 := n0_
            have HO418 := n1_
            have HO422 := n2_
            have HO428 := n3_
            have HO432 := n4_
            have HO436 := n5_
            have BK414 := n6_
            have BK423 := n7_
            have BK424 := n8_
            have HB := n9_
            clear n0_ n1_ n2_ n3_ n4_ n5_ n6_ n7_ n8_ n9_
            (try clear hb)
            (try clear hb2)
            (try clear hk)
            (try clear hi)
            (try clear ho0)
            obtain ⟨Ao152, co152, eo152⟩ := Kd.V_slice HO436.out
            (first | subst eo152 | (injection eo152 with f1_ f2_ f3_; have f4_ := f1_.symm; have f5_ := f3_.symm; clear f1_ f2_ f3_; subst f4_; subst f5_))
            refine hK.out _ _ ⟨(qbC BK414.out 0).trans rfl, (qbC BK414.out 1).trans rfl, (qbC BK423.out 0).trans rfl, (qbC BK423.out 1).trans rfl, (qbC BK424.out 0).trans rfl, (qbC BK424.out 1).trans rfl⟩ (fun hHeld => ?_)
            clear hK K
            refine norm_ (a' := ?_) ?_ ?_
            rotate_left
            ·show Act.put _ (some 77) _ = _
             simp only [Act.put, qsA, qsZ, qsS, i64_w, i32_w]
             rfl
            refine one_ (i := 9) (N := some 80) #[true, true, true, true, true, true, true, true, true, true, false, false, false, false, false] rfl rfl (one_of HT_.out zr9_13) zr9_17 (fun K hK => ?_)
            refine goes_ Try.func10 zr9_13 rfl #[.agg #[.bool t433, .slice Ao152 t434.length co152], .agg #[.bool t415, .slice Ao141 t416.length co141], .agg #[.bool t419, .slice Ao144 t420.length co144]] (by rfl) rfl rfl zr9_4 ?_
            with_reducible refine (laws_fitted.calls kj8 t433 _ _ t434 t415 _ _ t416 t419 _ _ t420 t437 true _ ?side1 ?side2 ?side3 ?side4 ?side5 ?side6 A30.out).mono ?_
            (case side1 => repeat (first | exact (qvR HO436.out).2.2 | (with_reducible refine Kd.C_alloc ?_ _) | (with_reducible refine Kd.C_drewN ?_ _) | (with_reducible refine Kd.C_drew ?_)))
            (case side2 => exact (qvR HO436.out).2.1)
            (case side3 => repeat (first | exact (qvR HO418.out).2.2 | (with_reducible refine Kd.C_alloc ?_ _) | (with_reducible refine Kd.C_drewN ?_ _) | (with_reducible refine Kd.C_drew ?_)))
            (case side4 => exact (qvR HO418.out).2.1)
            (case side5 => repeat (first | exact (qvR HO422.out).2.2 | (with_reducible refine Kd.C_alloc ?_ _) | (with_reducible refine Kd.C_drewN ?_ _) | (with_reducible refine Kd.C_drew ?_)))
            (case side6 => exact (qvR HO422.out).2.1)
            rintro e w153 ⟨rfl, hb⟩
            refine ⟨_, rfl, ?_⟩
            have n0_ := qaM (qvB zr9_7 hb)
            have n1_ := qaM (qvB zr9_8 hb)
            have n2_ := qaM (qvB zr9_9 hb)
            have n3_ := qaM (qvB zr9_12 hb)
            have n4_ := qaM (qvB zr9_14 hb)
            have n5_ := qaM (qvB zr9_15 hb)
            have n6_ := qaM (qbB (g := gb414) (o := .cells #[.bool t410, .slice Ao134 t411.length co134] 25 (0, 0)) zr9_1 hb)
            have n7_ := qaM (qbB (g := gb423) (o := .cells #[.bool t415, .slice Ao141 t416.length co141] 25 (0, 0)) zr9_3 hb)
            have n8_ := qaM (qbB (g := gb424) (o := .cells #[.bool t419, .slice Ao144 t420.length co144] 25 (0, 0)) zr9_6 hb)
            have n9_ := qaM (qbT zr9_0 hb)
            clear HO413
            clear HO418
            clear HO422
            clear HO428
            clear HO432
            clear HO436
            clear BK414
            clear BK423
            clear BK424
            clear HB
            have HO413 := n0_
            have HO418 := n1_
            have HO422 := n2_
            have HO428 := n3_
            have HO432 := n4_
            have HO436 := n5_
            have BK414 := n6_
            have BK423 := n7_
            have BK424 := n8_
            have HB := n9_
            clear n0_ n1_ n2_ n3_ n4_ n5_ n6_ n7_ n8_ n9_
            (try clear hb)
            (try clear hb2)
            (try clear hk)
            (try clear hi)
            refine hK.out _ _ ⟨(qbC BK414.out 0).trans rfl, (qbC BK414.out 1).trans rfl, (qbC BK423.out 0).trans rfl, (qbC BK423.out 1).trans rfl, (qbC BK424.out 0).trans rfl, (qbC BK424.out 1).trans rfl⟩ (fun hHeld => ?_)
            clear hK K
            refine norm_ (a' := ?_) ?_ ?_
            rotate_left
            ·show Act.put _ (some 80) _ = _
             simp only [Act.put, qsA, qsZ, qsS, i64_w, i32_w]
             rfl
            refine pure_ (i := 10) (N := some 70) (v := ?_) (a' := ?_) #[true, true, true, true, true, true, true, true, true, true, true, false, false, false, false] rfl rfl (any_of HT_.out zr9_13) (fun _ _ _ h => h) (Or.inl ⟨by rfl, ?_⟩) ?_ ?_
            rotate_left
            ·intro w'
             go_simp
             with_reducible rfl
            rotate_left
            ·simp only [Act.put, qsA, qsZ, qsS, i64_w, i32_w]
             rfl
            refine pure_ (i := 11) (N := some 81) (v := ?_) (a' := ?_) #[true, true, true, true, true, true, true, true, true, true, true, true, false, false, false] rfl rfl (any_of HT_.out zr9_13) (fun _ _ _ h => h) (Or.inl ⟨by rfl, ?_⟩) ?_ ?_
            rotate_left
            ·intro w'
             go_simp
             with_reducible rfl
            rotate_left
            ·simp only [Act.put, qsA, qsZ, qsS, i64_w, i32_w]
             rfl
            refine pure_ (i := 12) (N := some 82) (v := ?_) (a' := ?_) #[true, true, true, true, true, true, true, true, true, true, true, true, true, false, false] rfl rfl (any_of HT_.out zr9_13) (fun _ _ _ h => h) (Or.inl ⟨by rfl, ?_⟩) ?_ ?_
            rotate_left
            ·intro w'
             go_simp
             with_reducible rfl
            rotate_left
            ·simp only [Act.put, qsA, qsZ, qsS, i64_w, i32_w]
             rfl
            refine pure_ (i := 13) (N := some 15) (v := ?_) (a' := ?_) #[true, true, true, true, true, true, true, true, true, true, true, true, true, true, false] rfl rfl (any_of HT_.out zr9_13) (fun _ _ _ h => h) (Or.inl ⟨by rfl, ?_⟩) ?_ ?_
            rotate_left
            ·intro w'
             go_simp
             with_reducible rfl
            rotate_left
            ·simp only [Act.put, qsA, qsZ, qsS, i64_w, i32_w]
             rfl
            refine pure_ (i := 14) (N := some 16) (v := ?_) (a' := ?_) #[true, true, true, true, true, true, true, true, true, true, true, true, true, true, true] rfl rfl (any_of HT_.out zr9_13) (fun _ _ _ h => h) (Or.inl ⟨by rfl, ?_⟩) ?_ ?_
            rotate_left
            ·intro w'
             go_simp
             with_reducible rfl
            rotate_left
            ·simp only [Act.put, qsA, qsZ, qsS, i64_w, i32_w]
             rfl
            refine done_ (done_of HT_.out zr9_13) ?_
            try go_wp2_with (first | ((with_reducible refine gate_callee (f := 21) rfl ?_); refine goesL_ (some 103) rfl rfl Try.func21 zr9_13 rfl #[.int .i64 a0, .int .i64 a1, .int .i64 a2, .bool a3] rfl zr9_4 ?_; (with_reducible refine (impl_RoundInt64To.calls kj8 a0 a1 a2 a3 t439 true _ A104.out).mono ?_); rintro e w154 ⟨rfl, hb⟩; refine ⟨_, rfl, ?_⟩; have n0_ := qaM (qvB zr9_7 hb); have n1_ := qaM (qvB zr9_8 hb); have n2_ := qaM (qvB zr9_9 hb); have n3_ := qaM (qvB zr9_12 hb); have n4_ := qaM (qvB zr9_14 hb); have n5_ := qaM (qvB zr9_15 hb); have n6_ := qaM (qbB (g := gb414) (o := .cells #[.bool t410, .slice Ao134 t411.length co134] 25 (0, 0)) zr9_1 hb); have n7_ := qaM (qbB (g := gb423) (o := .cells #[.bool t415, .slice Ao141 t416.length co141] 25 (0, 0)) zr9_3 hb); have n8_ := qaM (qbB (g := gb424) (o := .cells #[.bool t419, .slice Ao144 t420.length co144] 25 (0, 0)) zr9_6 hb); have n9_ := qaM (qbT zr9_0 hb); clear HO413; clear HO418; clear HO422; clear HO428; clear HO432; clear HO436; clear BK414; clear BK423; clear BK424; clear HB; have HO413 := n0_; have HO418 := n1_; have HO422 := n2_; have HO428 := n3_; have HO432 := n4_; have HO436 := n5_; have BK414 := n6_; have BK423 := n7_; have BK424 := n8_; have HB := n9_; clear n0_ n1_ n2_ n3_ n4_ n5_ n6_ n7_ n8_ n9_; (try clear hb); (try clear hb2); (try clear hk); (try clear hi)))
            go_ret
            exact ⟨by first | rfl | (simp [errW_none, errW_some] <;> rfl) | (simp [*, errW_none, errW_some] <;> rfl), by repeat (first | (with_reducible first | exact HB.out | apply qwA | apply qwN | apply qwD | refine qwS ?_ GE414.out | refine qwS ?_ GE423.out | refine qwS ?_ GE424.out) | exact HB.out)⟩
          ·replace c105 := Bool.eq_false_iff.mpr c105
           subst c105
           have H1 : (some false) = some r := by rw [if_neg (show ¬ (false = true) by decide)] at H; exact H
           clear H
           have H := H1
           clear H1
           obtain rfl := Option.some.inj H
           try go_wp2_with (first | ((with_reducible refine gate_callee (f := 17) rfl ?_); refine goesL_ (some 65) rfl rfl Try.func17 zr9_13 rfl #[.int .i64 a1] rfl zr9_4 ?_; (with_reducible refine (spec_WideInt.calls kj8 a1 t410 t411 _ A25.out).mono ?_); rintro e w155 ⟨v412, rfl, ho0, hb⟩; refine ⟨_, rfl, ?_⟩; have n0_ := qaM (qvL (qvM (ok' := fun k_ => True) ho0 (fun k_ hk_ => trivial)) (qbS zr9_10)); have n1_ := qaM (qbT zr9_10 hb); clear HB; have HO413 := n0_; have HB := n1_; clear n0_ n1_; (try clear hb); (try clear hb2); (try clear hk); (try clear hi); (try clear ho0)) | ((with_reducible refine gate_dst (N := 12) rfl ?_); refine box_event ?hg (N := 12) ?hd (cs := #[.bool false, .slice none 0 0]) (t := 25) ?hr ?_; (case hd => rfl); (case hg => rfl); (case hr => first | (go_simp; done) | (go_simp; rfl)); intro gb414 hg w156 hbox hb; have n0_ := qaM (qvB (qvE zr9_7 gb414 (Nat.le_of_eq hg.symm)) hb); have n1_ := qaM (qbT zr9_10 hb); have n2_ := qaM (hbox); have n3_ := qaM ((by rw [hg]; exact (qbS zr9_10) : w.heap.size ≤ gb414)); have n4_ := qaM ((by rw [hg]; exact (qbS zr9_10) : w.heap.size ≤ gb414)); clear HO413; clear HB; have HO413 := n0_; have HB := n1_; have BK414 := n2_; have GW414 := n3_; have GE414 := n4_; clear n0_ n1_ n2_ n3_ n4_; clear hb hbox hg; have hcz157_0 : w156.cell? ⟨gb414, 0, none⟩ = some (.bool false) := (qbC BK414.out 0).trans rfl; have hcz157_1 : w156.cell? ⟨gb414, 1, none⟩ = some (.slice none 0 0) := (qbC BK414.out 1).trans rfl; have hfz157_0 := blk_frozen BK414.out 0; have hfz157_1 := blk_frozen BK414.out 1; obtain ⟨Ao158, co158, eo158⟩ := Kd.V_slice HO413.out; subst eo158) | ((with_reducible refine gate_callee (f := 9) rfl ?_); refine goesL_ (some 67) rfl rfl Try.func9 zr9_13 rfl #[.int .i64 62, .bool true] rfl zr9_4 ?_; (with_reducible refine (laws_bounds.calls kj8 62 true t415 t416 t419 t420 _ A26.out).mono ?_); rintro e w159 ⟨v417, v421, rfl, ho0, ho1, hb⟩; refine ⟨_, rfl, ?_⟩; have n0_ := qaM (qvB (by (with_reducible repeat (first | apply qvA | apply qvN | apply qvD)); exact (qvM (qvF (p := ⟨gb414, 1, none⟩) (qvF (p := ⟨gb414, 0, none⟩) (qvM HO413.out (fun k_ hk => (⟨hk, hk.2⟩ : _ ∧ k_ ≠ gb414))) (fun _ hk => hk.2) (.bool t410)) (fun _ hk => hk.2) (.slice Ao158 t411.length co158)) (fun _ h_ => h_.1))) hb); have n1_ := qaM (qvL (qvM (ok' := fun k_ => k_ ≠ gb414) ho0 (fun k_ hk_ => (qfB (g := gb414) (o := .cells #[.bool t410, .slice Ao158 t411.length co158] 25 (0, 0)) zr9_2 k_ hk_))) (qbS zr9_5)); have n2_ := qaM (qvL (qvM (ok' := fun k_ => k_ ≠ gb414) ho1 (fun k_ hk_ => (qfB (g := gb414) (o := .cells #[.bool t410, .slice Ao158 t411.length co158] 25 (0, 0)) zr9_2 k_ hk_))) (qbS zr9_5)); have n3_ := qaM (qbB (g := gb414) (o := .cells #[.bool t410, .slice Ao158 t411.length co158] 25 (0, 0)) zr9_2 hb); have n4_ := qaM (qbT zr9_5 hb); clear HO413; clear BK414; clear HB; have HO413 := n0_; have HO418 := n1_; have HO422 := n2_; have BK414 := n3_; have HB := n4_; clear n0_ n1_ n2_ n3_ n4_; (try clear hb); (try clear hb2); (try clear hk); (try clear hi); (try clear ho0); (try clear ho1)) | ((with_reducible refine gate_dst (N := 13) rfl ?_); refine box_event ?hg (N := 13) ?hd (cs := #[.bool false, .slice none 0 0]) (t := 25) ?hr ?_; (case hd => rfl); (case hg => rfl); (case hr => first | (go_simp; done) | (go_simp; rfl)); intro gb423 hg w160 hbox hb; have n0_ := qaM (qvB (qvE zr9_7 gb423 (Nat.le_of_eq hg.symm)) hb); have n1_ := qaM (qvB (qvE zr9_8 gb423 (Nat.le_of_eq hg.symm)) hb); have n2_ := qaM (qvB (qvE zr9_9 gb423 (Nat.le_of_eq hg.symm)) hb); have n3_ := qaM (qbB (g := gb414) (o := .cells #[.bool t410, .slice Ao158 t411.length co158] 25 (0, 0)) zr9_1 hb); have n4_ := qaM (qbT zr9_5 hb); have n5_ := qaM (hbox); have n6_ := qaM ((by rw [hg]; exact (qbS zr9_5) : w.heap.size ≤ gb423)); have n7_ := qaM ((by rw [hg]; exact (qbS zr9_5) : w.heap.size ≤ gb423)); have n8_ := qaM ((by rw [hg]; exact qnL (qbL (g := gb414) (o := .cells #[.bool t410, .slice Ao158 t411.length co158] 25 (0, 0)) zr9_1) : gb414 ≠ gb423)); have n9_ := qaM ((by rw [hg]; exact qnG (qbL (g := gb414) (o := .cells #[.bool t410, .slice Ao158 t411.length co158] 25 (0, 0)) zr9_1) : gb423 ≠ gb414)); clear HO413; clear HO418; clear HO422; clear BK414; clear HB; have HO413 := n0_; have HO418 := n1_; have HO422 := n2_; have BK414 := n3_; have HB := n4_; have BK423 := n5_; have GW423 := n6_; have GE423 := n7_; have NB414_423 := n8_; have NB423_414 := n9_; clear n0_ n1_ n2_ n3_ n4_ n5_ n6_ n7_ n8_ n9_; clear hb hbox hg) | ((with_reducible refine gate_dst (N := 14) rfl ?_); refine box_event ?hg (N := 14) ?hd (cs := #[.bool false, .slice none 0 0]) (t := 25) ?hr ?_; (case hd => rfl); (case hg => rfl); (case hr => first | (go_simp; done) | (go_simp; rfl)); intro gb424 hg w161 hbox hb; have n0_ := qaM (qvB (qvE zr9_7 gb424 (Nat.le_of_eq hg.symm)) hb); have n1_ := qaM (qvB (qvE zr9_8 gb424 (Nat.le_of_eq hg.symm)) hb); have n2_ := qaM (qvB (qvE zr9_9 gb424 (Nat.le_of_eq hg.symm)) hb); have n3_ := qaM (qbB (g := gb414) (o := .cells #[.bool t410, .slice Ao158 t411.length co158] 25 (0, 0)) zr9_1 hb); have n4_ := qaM (qbB (g := gb423) (o := .cells #[.bool false, .slice none 0 0] 25 (0, 0)) zr9_3 hb); have n5_ := qaM (qbT zr9_11 hb); have n6_ := qaM (hbox); have n7_ := qaM ((by rw [hg]; exact (qbS zr9_11) : w.heap.size ≤ gb424)); have n8_ := qaM ((by rw [hg]; exact (qbS zr9_11) : w.heap.size ≤ gb424)); have n9_ := qaM ((by rw [hg]; exact qnL (qbL (g := gb414) (o := .cells #[.bool t410, .slice Ao158 t411.length co158] 25 (0, 0)) zr9_1) : gb414 ≠ gb424)); have n10_ := qaM ((by rw [hg]; exact qnG (qbL (g := gb414) (o := .cells #[.bool t410, .slice Ao158 t411.length co158] 25 (0, 0)) zr9_1) : gb424 ≠ gb414)); have n11_ := qaM ((by rw [hg]; exact qnL (qbL (g := gb423) (o := .cells #[.bool false, .slice none 0 0] 25 (0, 0)) zr9_3) : gb423 ≠ gb424)); have n12_ := qaM ((by rw [hg]; exact qnG (qbL (g := gb423) (o := .cells #[.bool false, .slice none 0 0] 25 (0, 0)) zr9_3) : gb424 ≠ gb423)); clear HO413; clear HO418; clear HO422; clear BK414; clear BK423; clear HB; have HO413 := n0_; have HO418 := n1_; have HO422 := n2_; have BK414 := n3_; have BK423 := n4_; have HB := n5_; have BK424 := n6_; have GW424 := n7_; have GE424 := n8_; have NB414_424 := n9_; have NB424_414 := n10_; have NB423_424 := n11_; have NB424_423 := n12_; clear n0_ n1_ n2_ n3_ n4_ n5_ n6_ n7_ n8_ n9_ n10_ n11_ n12_; clear hb hbox hg; have hnb162 := NB423_414.out; have hnc162 := NB414_423.out; have hnb163 := NB423_424.out; have hnc163 := NB424_423.out; have hcz164_0 : w161.cell? ⟨gb423, 0, none⟩ = some (.bool false) := (qbC BK423.out 0).trans rfl; have hcz164_1 : w161.cell? ⟨gb423, 1, none⟩ = some (.slice none 0 0) := (qbC BK423.out 1).trans rfl; have hfz164_0 := blk_frozen BK423.out 0; have hfz164_1 := blk_frozen BK423.out 1; obtain ⟨Ao165, co165, eo165⟩ := Kd.V_slice HO418.out; subst eo165; have hnb166 := NB424_414.out; have hnc166 := NB414_424.out; have hcz167_0 : w161.cell? ⟨gb424, 0, none⟩ = some (.bool false) := (qbC BK424.out 0).trans rfl; have hcz167_1 : w161.cell? ⟨gb424, 1, none⟩ = some (.slice none 0 0) := (qbC BK424.out 1).trans rfl; have hfz167_0 := blk_frozen BK424.out 0; have hfz167_1 := blk_frozen BK424.out 1; obtain ⟨Ao168, co168, eo168⟩ := Kd.V_slice HO422.out; subst eo168))
           have n0_ : Aside0 (Kd.V (Kd.int .u32) 22 ((((w161.setCell ⟨gb423, 0, none⟩ (.bool t415)).setCell ⟨gb423, 1, none⟩ (.slice Ao165 t416.length co165)).setCell ⟨gb424, 0, none⟩ (.bool t419)).setCell ⟨gb424, 1, none⟩ (.slice Ao168 t420.length co168)) w.heap.size (fun k_ => k_ ≠ gb414 ∧ k_ ≠ gb423 ∧ k_ ≠ gb424) (.slice Ao158 t411.length co158) t411) := ⟨by (with_reducible repeat (first | apply qvA | apply qvN | apply qvD)); exact qvM (qvF (p := ⟨gb424, 1, none⟩) (qvF (p := ⟨gb424, 0, none⟩) (qvF (p := ⟨gb423, 1, none⟩) (qvF (p := ⟨gb423, 0, none⟩) (qvM (qvM HO413.out (fun k_ hk => (⟨hk, hk.1.2⟩ : _ ∧ k_ ≠ gb423))) (fun k_ hk => (⟨hk, hk.1.2⟩ : _ ∧ k_ ≠ gb424))) (fun _ hk => hk.1.2) (.bool t415)) (fun _ hk => hk.1.2) (.slice Ao165 t416.length co165)) (fun _ hk => hk.2) (.bool t419)) (fun _ hk => hk.2) (.slice Ao168 t420.length co168)) (fun _ hk => ⟨hk.1.1.1.1.2, ⟨hk.1.1.1.2, hk.1.1.2⟩⟩)⟩
           have n1_ : Aside0 (Kd.V (Kd.int .u32) 22 ((((w161.setCell ⟨gb423, 0, none⟩ (.bool t415)).setCell ⟨gb423, 1, none⟩ (.slice Ao165 t416.length co165)).setCell ⟨gb424, 0, none⟩ (.bool t419)).setCell ⟨gb424, 1, none⟩ (.slice Ao168 t420.length co168)) w.heap.size (fun k_ => k_ ≠ gb414 ∧ k_ ≠ gb423 ∧ k_ ≠ gb424) (.slice Ao165 t416.length co165) t416) := ⟨by (with_reducible repeat (first | apply qvA | apply qvN | apply qvD)); exact qvM (qvF (p := ⟨gb424, 1, none⟩) (qvF (p := ⟨gb424, 0, none⟩) (qvF (p := ⟨gb423, 1, none⟩) (qvF (p := ⟨gb423, 0, none⟩) (qvM (qvM HO418.out (fun k_ hk => (⟨hk, hk.1.2⟩ : _ ∧ k_ ≠ gb423))) (fun k_ hk => (⟨hk, hk.1.2⟩ : _ ∧ k_ ≠ gb424))) (fun _ hk => hk.1.2) (.bool t415)) (fun _ hk => hk.1.2) (.slice Ao165 t416.length co165)) (fun _ hk => hk.2) (.bool t419)) (fun _ hk => hk.2) (.slice Ao168 t420.length co168)) (fun _ hk => ⟨hk.1.1.1.1, ⟨hk.1.1.1.2, hk.1.1.2⟩⟩)⟩
           have n2_ : Aside0 (Kd.V (Kd.int .u32) 22 ((((w161.setCell ⟨gb423, 0, none⟩ (.bool t415)).setCell ⟨gb423, 1, none⟩ (.slice Ao165 t416.length co165)).setCell ⟨gb424, 0, none⟩ (.bool t419)).setCell ⟨gb424, 1, none⟩ (.slice Ao168 t420.length co168)) w.heap.size (fun k_ => k_ ≠ gb414 ∧ k_ ≠ gb423 ∧ k_ ≠ gb424) (.slice Ao168 t420.length co168) t420) := ⟨by (with_reducible repeat (first | apply qvA | apply qvN | apply qvD)); exact qvM (qvF (p := ⟨gb424, 1, none⟩) (qvF (p := ⟨gb424, 0, none⟩) (qvF (p := ⟨gb423, 1, none⟩) (qvF (p := ⟨gb423, 0, none⟩) (qvM (qvM HO422.out (fun k_ hk => (⟨hk, hk.1.2⟩ : _ ∧ k_ ≠ gb423))) (fun k_ hk => (⟨hk, hk.1.2⟩ : _ ∧ k_ ≠ gb424))) (fun _ hk => hk.1.2) (.bool t415)) (fun _ hk => hk.1.2) (.slice Ao165 t416.length co165)) (fun _ hk => hk.2) (.bool t419)) (fun _ hk => hk.2) (.slice Ao168 t420.length co168)) (fun _ hk => ⟨hk.1.1.1.1, ⟨hk.1.1.1.2, hk.1.1.2⟩⟩)⟩
           have n3_ : Aside0 (((((w161.setCell ⟨gb423, 0, none⟩ (.bool t415)).setCell ⟨gb423, 1, none⟩ (.slice Ao165 t416.length co165)).setCell ⟨gb424, 0, none⟩ (.bool t419)).setCell ⟨gb424, 1, none⟩ (.slice Ao168 t420.length co168)).heap[gb414]? = some (.cells #[.bool t410, .slice Ao158 t411.length co158] 25 (0, 0))) := ⟨by (with_reducible repeat (first | refine qbN ?_ _ | refine qbD ?_ | refine qbA ?_ _)); refine qbF ?_ NB414_424.out _; (with_reducible repeat (first | refine qbN ?_ _ | refine qbD ?_ | refine qbA ?_ _)); refine qbF ?_ NB414_424.out _; (with_reducible repeat (first | refine qbN ?_ _ | refine qbD ?_ | refine qbA ?_ _)); refine qbF ?_ NB414_423.out _; (with_reducible repeat (first | refine qbN ?_ _ | refine qbD ?_ | refine qbA ?_ _)); refine qbF ?_ NB414_423.out _; (with_reducible repeat (first | refine qbN ?_ _ | refine qbD ?_ | refine qbA ?_ _)); exact BK414.out⟩
           have n4_ : Aside0 (((((w161.setCell ⟨gb423, 0, none⟩ (.bool t415)).setCell ⟨gb423, 1, none⟩ (.slice Ao165 t416.length co165)).setCell ⟨gb424, 0, none⟩ (.bool t419)).setCell ⟨gb424, 1, none⟩ (.slice Ao168 t420.length co168)).heap[gb423]? = some (.cells #[.bool t415, .slice Ao165 t416.length co165] 25 (0, 0))) := ⟨by (with_reducible repeat (first | refine qbN ?_ _ | refine qbD ?_ | refine qbA ?_ _)); refine qbF ?_ NB423_424.out _; (with_reducible repeat (first | refine qbN ?_ _ | refine qbD ?_ | refine qbA ?_ _)); refine qbF ?_ NB423_424.out _; (with_reducible repeat (first | refine qbN ?_ _ | refine qbD ?_ | refine qbA ?_ _)); refine qbP (cs := #[.bool t415, .slice none 0 0]) ?_ 1 _ rfl; (with_reducible repeat (first | refine qbN ?_ _ | refine qbD ?_ | refine qbA ?_ _)); refine qbP (cs := #[.bool false, .slice none 0 0]) ?_ 0 _ rfl; (with_reducible repeat (first | refine qbN ?_ _ | refine qbD ?_ | refine qbA ?_ _)); exact BK423.out⟩
           have n5_ : Aside0 (((((w161.setCell ⟨gb423, 0, none⟩ (.bool t415)).setCell ⟨gb423, 1, none⟩ (.slice Ao165 t416.length co165)).setCell ⟨gb424, 0, none⟩ (.bool t419)).setCell ⟨gb424, 1, none⟩ (.slice Ao168 t420.length co168)).heap[gb424]? = some (.cells #[.bool t419, .slice Ao168 t420.length co168] 25 (0, 0))) := ⟨by (with_reducible repeat (first | refine qbN ?_ _ | refine qbD ?_ | refine qbA ?_ _)); refine qbP (cs := #[.bool t419, .slice none 0 0]) ?_ 1 _ rfl; (with_reducible repeat (first | refine qbN ?_ _ | refine qbD ?_ | refine qbA ?_ _)); refine qbP (cs := #[.bool false, .slice none 0 0]) ?_ 0 _ rfl; (with_reducible repeat (first | refine qbN ?_ _ | refine qbD ?_ | refine qbA ?_ _)); refine qbF ?_ NB424_423.out _; (with_reducible repeat (first | refine qbN ?_ _ | refine qbD ?_ | refine qbA ?_ _)); refine qbF ?_ NB424_423.out _; (with_reducible repeat (first | refine qbN ?_ _ | refine qbD ?_ | refine qbA ?_ _)); exact BK424.out⟩
           have n6_ : Aside0 (Below w.heap.size w ((((w161.setCell ⟨gb423, 0, none⟩ (.bool t415)).setCell ⟨gb423, 1, none⟩ (.slice Ao165 t416.length co165)).setCell ⟨gb424, 0, none⟩ (.bool t419)).setCell ⟨gb424, 1, none⟩ (.slice Ao168 t420.length co168))) := ⟨by repeat (first | (with_reducible first | exact HB.out | apply qwA | apply qwN | apply qwD | refine qwS ?_ GE414.out | refine qwS ?_ GE423.out | refine qwS ?_ GE424.out) | exact HB.out)⟩
           (try clear HO413)
           (try clear HO418)
           (try clear HO422)
           (try clear BK414)
           (try clear BK423)
           (try clear BK424)
           (try clear HB)
           generalize ((((w161.setCell ⟨gb423, 0, none⟩ (.bool t415)).setCell ⟨gb423, 1, none⟩ (.slice Ao165 t416.length co165)).setCell ⟨gb424, 0, none⟩ (.bool t419)).setCell ⟨gb424, 1, none⟩ (.slice Ao168 t420.length co168)) = w169 at n0_ n1_ n2_ n3_ n4_ n5_ n6_ ⊢
           have HO413 := n0_
           have HO418 := n1_
           have HO422 := n2_
           have BK414 := n3_
           have BK423 := n4_
           have BK424 := n5_
           have HB := n6_
           clear n0_ n1_ n2_ n3_ n4_ n5_ n6_
           have n0_ := qaM (qvD HO413.out)
           have n1_ := qaM (qvD HO418.out)
           have n2_ := qaM (qvD HO422.out)
           have n3_ := qaM (qbD BK414.out)
           have n4_ := qaM (qbD BK423.out)
           have n5_ := qaM (qbD BK424.out)
           have n6_ := qaM (qwD HB.out)
           clear HO413
           clear HO418
           clear HO422
           clear BK414
           clear BK423
           clear BK424
           clear HB
           have HO413 := n0_
           have HO418 := n1_
           have HO422 := n2_
           have BK414 := n3_
           have BK423 := n4_
           have BK424 := n5_
           have HB := n6_
           clear n0_ n1_ n2_ n3_ n4_ n5_ n6_
           refine start_ (n := 15) (S := fun w' => w'.cell? ⟨gb414, 0, none⟩ = some (.bool t410) ∧ w'.cell? ⟨gb414, 1, none⟩ = some (.slice Ao158 t411.length co158) ∧ w'.cell? ⟨gb423, 0, none⟩ = some (.bool t415) ∧ w'.cell? ⟨gb423, 1, none⟩ = some (.slice Ao165 t416.length co165) ∧ w'.cell? ⟨gb424, 0, none⟩ = some (.bool t419) ∧ w'.cell? ⟨gb424, 1, none⟩ = some (.slice Ao168 t420.length co168)) (ds := []) #[false, false, false, false, false, false, false, false, false, false, false, false, false, false, false] zr9_13 rfl rfl ⟨(qbC BK414.out 0).trans rfl, (qbC BK414.out 1).trans rfl, (qbC BK423.out 0).trans rfl, (qbC BK423.out 1).trans rfl, (qbC BK424.out 0).trans rfl, (qbC BK424.out 1).trans rfl⟩ (fun hHeld => ?_); refine with_tabW laws_FnRoundInt64To.tab7 laws_FnRoundInt64To.bits7 (fun HT_ HW_ => ?_)
           generalize w169.drew = w170 at HO413 HO418 HO422 BK414 BK423 BK424 HB hHeld ⊢
           refine pure_ (i := 0) (N := some 71) (v := ?_) (a' := ?_) #[true, false, false, false, false, false, false, false, false, false, false, false, false, false, false] rfl rfl (any_of HT_.out zr9_13) (fun _ _ _ h => h) (Or.inl ⟨by rfl, ?_⟩) ?_ ?_
           rotate_left
           ·intro w'
            go_simp
            with_reducible rfl
           rotate_left
           ·simp only [Act.put, qsA, qsZ, qsS, i64_w, i32_w]
            rfl
           refine pure_ (i := 3) (N := some 74) (v := ?_) (a' := ?_) #[true, false, false, true, false, false, false, false, false, false, false, false, false, false, false] rfl rfl (any_of HT_.out zr9_13) (fun _ _ _ h => h) (Or.inl ⟨by rfl, ?_⟩) ?_ ?_
           rotate_left
           ·intro w'
            go_simp
            with_reducible rfl
           rotate_left
           ·simp only [Act.put, qsA, qsZ, qsS, i64_w, i32_w]
            rfl
           refine take_ (i := 2) (N := some 73) (v := ?_) (a' := ?_) #[true, false, true, true, false, false, false, false, false, false, false, false, false, false, false] rfl rfl (take_ofW HT_.out HW_.out zr9_13) (fun _ _ _ h => h) (Or.inl ⟨by rfl, ?_⟩) hHeld ?_ ?_
           rotate_left
           ·rintro w' ⟨s0, s1, s2, s3, s4, s5⟩
            go_simp
            with_reducible rfl
           rotate_left
           ·simp only [Act.put, qsA, qsZ, qsS, i64_w, i32_w]
            rfl
           refine take_ (i := 5) (N := some 76) (v := ?_) (a' := ?_) #[true, false, true, true, false, true, false, false, false, false, false, false, false, false, false] rfl rfl (take_ofW HT_.out HW_.out zr9_13) (fun _ _ _ h => h) (Or.inl ⟨by rfl, ?_⟩) hHeld ?_ ?_
           rotate_left
           ·rintro w' ⟨s0, s1, s2, s3, s4, s5⟩
            go_simp
            with_reducible rfl
           rotate_left
           ·simp only [Act.put, qsA, qsZ, qsS, i64_w, i32_w]
            rfl
           refine take_ (i := 7) (N := some 78) (v := ?_) (a' := ?_) #[true, false, true, true, false, true, false, true, false, false, false, false, false, false, false] rfl rfl (take_ofW HT_.out HW_.out zr9_13) (fun _ _ _ h => h) (Or.inl ⟨by rfl, ?_⟩) hHeld ?_ ?_
           rotate_left
           ·rintro w' ⟨s0, s1, s2, s3, s4, s5⟩
            go_simp
            with_reducible rfl
           rotate_left
           ·simp only [Act.put, qsA, qsZ, qsS, i64_w, i32_w]
            rfl
           refine take_ (i := 8) (N := some 79) (v := ?_) (a' := ?_) #[true, false, true, true, false, true, false, true, true, false, false, false, false, false, false] rfl rfl (take_ofW HT_.out HW_.out zr9_13) (fun _ _ _ h => h) (Or.inl ⟨by rfl, ?_⟩) hHeld ?_ ?_
           rotate_left
           ·rintro w' ⟨s0, s1, s2, s3, s4, s5⟩
            go_simp
            with_reducible rfl
           rotate_left
           ·simp only [Act.put, qsA, qsZ, qsS, i64_w, i32_w]
            rfl
           refine one_ (i := 1) (N := some 72) #[true, true, true, true, false, true, false, true, true, false, false, false, false, false, false] rfl rfl (one_of HT_.out zr9_13) zr9_17 (fun K hK => ?_)
           refine goes_ Try.func17 zr9_13 rfl #[.int .i64 a0] (by rfl) rfl rfl zr9_4 ?_
           with_reducible refine (spec_WideInt.calls kj8 a0 t425 t426 _ A27.out).mono ?_
           rintro e w171 ⟨v427, rfl, ho0, hb⟩
           refine ⟨_, rfl, ?_⟩
           have n0_ := qaM (qvB zr9_7 hb)
           have n1_ := qaM (qvB zr9_8 hb)
           have n2_ := qaM (qvB zr9_9 hb)
           have n3_ := qaM (qvL (qvM (ok' := fun k_ => k_ ≠ gb414 ∧ k_ ≠ gb423 ∧ k_ ≠ gb424) ho0 (fun k_ hk_ => ⟨(qfB (g := gb414) (o := .cells #[.bool t410, .slice Ao158 t411.length co158] 25 (0, 0)) zr9_1 k_ hk_), (qfB (g := gb423) (o := .cells #[.bool t415, .slice Ao165 t416.length co165] 25 (0, 0)) zr9_3 k_ hk_), (qfB (g := gb424) (o := .cells #[.bool t419, .slice Ao168 t420.length co168] 25 (0, 0)) zr9_6 k_ hk_)⟩)) (qbS zr9_0))
           have n4_ := qaM (qbB (g := gb414) (o := .cells #[.bool t410, .slice Ao158 t411.length co158] 25 (0, 0)) zr9_1 hb)
           have n5_ := qaM (qbB (g := gb423) (o := .cells #[.bool t415, .slice Ao165 t416.length co165] 25 (0, 0)) zr9_3 hb)
           have n6_ := qaM (qbB (g := gb424) (o := .cells #[.bool t419, .slice Ao168 t420.length co168] 25 (0, 0)) zr9_6 hb)
           have n7_ := qaM (qbT zr9_0 hb)
           clear HO413
           clear HO418
           clear HO422
           clear BK414
           clear BK423
           clear BK424
           clear HB
           have HO413 := n0_
           have HO418 := n1_
           have HO422 := n2_
           have HO428 := n3_
           have BK414 := n4_
           have BK423 := n5_
           have BK424 := n6_
           have HB := n7_
           clear n0_ n1_ n2_ n3_ n4_ n5_ n6_ n7_
           (try clear hb)
           (try clear hb2)
           (try clear hk)
           (try clear hi)
           (try clear ho0)
           obtain ⟨Ao172, co172, eo172⟩ := Kd.V_slice HO428.out
           (first | subst eo172 | (injection eo172 with f1_ f2_ f3_; have f4_ := f1_.symm; have f5_ := f3_.symm; clear f1_ f2_ f3_; subst f4_; subst f5_))
           refine hK.out _ _ ⟨(qbC BK414.out 0).trans rfl, (qbC BK414.out 1).trans rfl, (qbC BK423.out 0).trans rfl, (qbC BK423.out 1).trans rfl, (qbC BK424.out 0).trans rfl, (qbC BK424.out 1).trans rfl⟩ (fun hHeld => ?_)
           clear hK K
           refine norm_ (a' := ?_) ?_ ?_
           rotate_left
           ·show Act.put _ (some 72) _ = _
            simp only [Act.put, qsA, qsZ, qsS, i64_w, i32_w]
            rfl
           refine one_ (i := 4) (N := some 75) #[true, true, true, true, true, true, false, true, true, false, false, false, false, false, false] rfl rfl (one_of HT_.out zr9_13) zr9_17 (fun K hK => ?_)
           refine goes_ Try.func22 zr9_13 rfl #[.agg #[.bool t425, .slice Ao172 t426.length co172], .agg #[.bool t410, .slice Ao158 t411.length co158], .int .i64 a2] (by rfl) rfl rfl zr9_4 ?_
           with_reducible refine (spec_RoundWide.calls kj8 t425 _ _ t426 t410 _ _ t411 a2 t429 t430 _ ?side1 ?side2 ?side3 ?side4 A28.out).mono ?_
           (case side1 => repeat (first | exact (qvR HO428.out).2.2 | (with_reducible refine Kd.C_alloc ?_ _) | (with_reducible refine Kd.C_drewN ?_ _) | (with_reducible refine Kd.C_drew ?_)))
           (case side2 => exact (qvR HO428.out).2.1)
           (case side3 => repeat (first | exact (qvR HO413.out).2.2 | (with_reducible refine Kd.C_alloc ?_ _) | (with_reducible refine Kd.C_drewN ?_ _) | (with_reducible refine Kd.C_drew ?_)))
           (case side4 => exact (qvR HO413.out).2.1)
           rintro e w173 ⟨v431, rfl, ho0, hb⟩
           refine ⟨_, rfl, ?_⟩
           have n0_ := qaM (qvB zr9_7 hb)
           have n1_ := qaM (qvB zr9_8 hb)
           have n2_ := qaM (qvB zr9_9 hb)
           have n3_ := qaM (qvB zr9_12 hb)
           have n4_ := qaM (qvL (qvM (ok' := fun k_ => k_ ≠ gb414 ∧ k_ ≠ gb423 ∧ k_ ≠ gb424) ho0 (fun k_ hk_ => ⟨(qfB (g := gb414) (o := .cells #[.bool t410, .slice Ao158 t411.length co158] 25 (0, 0)) zr9_1 k_ hk_), (qfB (g := gb423) (o := .cells #[.bool t415, .slice Ao165 t416.length co165] 25 (0, 0)) zr9_3 k_ hk_), (qfB (g := gb424) (o := .cells #[.bool t419, .slice Ao168 t420.length co168] 25 (0, 0)) zr9_6 k_ hk_)⟩)) (qbS zr9_0))
           have n5_ := qaM (qbB (g := gb414) (o := .cells #[.bool t410, .slice Ao158 t411.length co158] 25 (0, 0)) zr9_1 hb)
           have n6_ := qaM (qbB (g := gb423) (o := .cells #[.bool t415, .slice Ao165 t416.length co165] 25 (0, 0)) zr9_3 hb)
           have n7_ := qaM (qbB (g := gb424) (o := .cells #[.bool t419, .slice Ao168 t420.length co168] 25 (0, 0)) zr9_6 hb)
           have n8_ := qaM (qbT zr9_0 hb)
           clear HO413
           clear HO418
           clear HO422
           clear HO428
           clear BK414
           clear BK423
           clear BK424
           clear HB
           have HO413 := n0_
           have HO418 := n1_
           have HO422 := n2_
           have HO428 := n3_
           have HO432 := n4_
           have BK414 := n5_
           have BK423 := n6_
           have BK424 := n7_
           have HB := n8_
           clear n0_ n1_ n2_ n3_ n4_ n5_ n6_ n7_ n8_
           (try clear hb)
           (try clear hb2)
           (try clear hk)
           (try clear hi)
           (try clear ho0)
           obtain ⟨Ao174, co174, eo174⟩ := Kd.V_slice HO432.out
           (first | subst eo174 | (injection eo174 with f1_ f2_ f3_; have f4_ := f1_.symm; have f5_ := f3_.symm; clear f1_ f2_ f3_; subst f4_; subst f5_))
           refine hK.out _ _ ⟨(qbC BK414.out 0).trans rfl, (qbC BK414.out 1).trans rfl, (qbC BK423.out 0).trans rfl, (qbC BK423.out 1).trans rfl, (qbC BK424.out 0).trans rfl, (qbC BK424.out 1).trans rfl⟩ (fun hHeld => ?_)
           clear hK K
           refine norm_ (a' := ?_) ?_ ?_
           rotate_left
           ·show Act.put _ (some 75) _ = _
            simp only [Act.put, qsA, qsZ, qsS, i64_w, i32_w]
            rfl
           refine one_ (i := 6) (N := some 77) #[true, true, true, true, true, true, true, true, true, false, false, false, false, false, false] rfl rfl (one_of HT_.out zr9_13) zr9_17 (fun K hK => ?_)
           refine goes_ Try.func16 zr9_13 rfl #[.agg #[.bool t429, .slice Ao174 t430.length co174], .agg #[.bool t410, .slice Ao158 t411.length co158]] (by rfl) rfl rfl zr9_4 ?_
           with_reducible refine (spec_WideMul.calls kj8 t429 _ _ t430 t410 _ _ t411 t433 t434 _ ?side1 ?side2 ?side3 ?side4 A29.out).mono ?_
           (case side1 => repeat (first | exact (qvR HO432.out).2.2 | (with_reducible refine Kd.C_alloc ?_ _) | (with_reducible refine Kd.C_drewN ?_ _) | (with_reducible refine Kd.C_drew ?_)))
           (case side2 => exact (qvR HO432.out).2.1)
           (case side3 => repeat (first | exact (qvR HO413.out).2.2 | (with_reducible refine Kd.C_alloc ?_ _) | (with_reducible refine Kd.C_drewN ?_ _) | (with_reducible refine Kd.C_drew ?_)))
           (case side4 => exact (qvR HO413.out).2.1)
           rintro e w175 ⟨v435, rfl, ho0, hb⟩
           refine ⟨_, rfl, ?_⟩
           have n0_ := qaM (qvB zr9_7 hb)
           have n1_ := qaM (qvB zr9_8 hb)
           have n2_ := qaM (qvB zr9_9 hb)
           have n3_ := qaM (qvB zr9_12 hb)
           have n4_ := qaM (qvB zr9_14 hb)
           have n5_ := qaM (qvL (qvM (ok' := fun k_ => k_ ≠ gb414 ∧ k_ ≠ gb423 ∧ k_ ≠ gb424) ho0 (fun k_ hk_ => ⟨(qfB (g := gb414) (o := .cells #[.bool t410, .slice Ao158 t411.length co158] 25 (0, 0)) zr9_1 k_ hk_), (qfB (g := gb423) (o := .cells #[.bool t415, .slice Ao165 t416.length co165] 25 (0, 0)) zr9_3 k_ hk_), (qfB (g := gb424) (o := .cells #[.bool t419, .slice Ao168 t420.length co168] 25 (0, 0)) zr9_6 k_ hk_)⟩)) (qbS zr9_0))
           have n6_ := qaM (qbB (g := gb414) (o := .cells #[.bool t410, .slice Ao158 t411.length co158] 25 (0, 0)) zr9_1 hb)
           have n7_ := qaM (qbB (g := gb423) (o := .cells #[.bool t415, .slice Ao165 t416.length co165] 25 (0, 0)) zr9_3 hb)
           have n8_ := qaM (qbB (g := gb424) (o := .cells #[.bool t419, .slice Ao168 t420.length co168] 25 (0, 0)) zr9_6 hb)
           have n9_ := qaM (qbT zr9_0 hb)
           clear HO413
           clear HO418
           clear HO422
           clear HO428
           clear HO432
           clear BK414
           clear BK423
           clear BK424
           clear HB
           have HO413 := n0_
           have HO418 := n1_
           have HO422 := n2_
           have HO428 := n3_
           have HO432 := n4_
           have HO436 := n5_
           have BK414 := n6_
           have BK423 := n7_
           have BK424 := n8_
           have HB := n9_
           clear n0_ n1_ n2_ n3_ n4_ n5_ n6_ n7_ n8_ n9_
           (try clear hb)
           (try clear hb2)
           (try clear hk)
           (try clear hi)
           (try clear ho0)
           obtain ⟨Ao176, co176, eo176⟩ := Kd.V_slice HO436.out
           (first | subst eo176 | (injection eo176 with f1_ f2_ f3_; have f4_ := f1_.symm; have f5_ := f3_.symm; clear f1_ f2_ f3_; subst f4_; subst f5_))
           refine hK.out _ _ ⟨(qbC BK414.out 0).trans rfl, (qbC BK414.out 1).trans rfl, (qbC BK423.out 0).trans rfl, (qbC BK423.out 1).trans rfl, (qbC BK424.out 0).trans rfl, (qbC BK424.out 1).trans rfl⟩ (fun hHeld => ?_)
           clear hK K
           refine norm_ (a' := ?_) ?_ ?_
           rotate_left
           ·show Act.put _ (some 77) _ = _
            simp only [Act.put, qsA, qsZ, qsS, i64_w, i32_w]
            rfl
           refine one_ (i := 9) (N := some 80) #[true, true, true, true, true, true, true, true, true, true, false, false, false, false, false] rfl rfl (one_of HT_.out zr9_13) zr9_17 (fun K hK => ?_)
           refine goes_ Try.func10 zr9_13 rfl #[.agg #[.bool t433, .slice Ao176 t434.length co176], .agg #[.bool t415, .slice Ao165 t416.length co165], .agg #[.bool t419, .slice Ao168 t420.length co168]] (by rfl) rfl rfl zr9_4 ?_
           with_reducible refine (laws_fitted.calls kj8 t433 _ _ t434 t415 _ _ t416 t419 _ _ t420 t437 true _ ?side1 ?side2 ?side3 ?side4 ?side5 ?side6 A30.out).mono ?_
           (case side1 => repeat (first | exact (qvR HO436.out).2.2 | (with_reducible refine Kd.C_alloc ?_ _) | (with_reducible refine Kd.C_drewN ?_ _) | (with_reducible refine Kd.C_drew ?_)))
           (case side2 => exact (qvR HO436.out).2.1)
           (case side3 => repeat (first | exact (qvR HO418.out).2.2 | (with_reducible refine Kd.C_alloc ?_ _) | (with_reducible refine Kd.C_drewN ?_ _) | (with_reducible refine Kd.C_drew ?_)))
           (case side4 => exact (qvR HO418.out).2.1)
           (case side5 => repeat (first | exact (qvR HO422.out).2.2 | (with_reducible refine Kd.C_alloc ?_ _) | (with_reducible refine Kd.C_drewN ?_ _) | (with_reducible refine Kd.C_drew ?_)))
           (case side6 => exact (qvR HO422.out).2.1)
           rintro e w177 ⟨rfl, hb⟩
           refine ⟨_, rfl, ?_⟩
           have n0_ := qaM (qvB zr9_7 hb)
           have n1_ := qaM (qvB zr9_8 hb)
           have n2_ := qaM (qvB zr9_9 hb)
           have n3_ := qaM (qvB zr9_12 hb)
           have n4_ := qaM (qvB zr9_14 hb)
           have n5_ := qaM (qvB zr9_15 hb)
           have n6_ := qaM (qbB (g := gb414) (o := .cells #[.bool t410, .slice Ao158 t411.length co158] 25 (0, 0)) zr9_1 hb)
           have n7_ := qaM (qbB (g := gb423) (o := .cells #[.bool t415, .slice Ao165 t416.length co165] 25 (0, 0)) zr9_3 hb)
           have n8_ := qaM (qbB (g := gb424) (o := .cells #[.bool t419, .slice Ao168 t420.length co168] 25 (0, 0)) zr9_6 hb)
           have n9_ := qaM (qbT zr9_0 hb)
           clear HO413
           clear HO418
           clear HO422
           clear HO428
           clear HO432
           clear HO436
           clear BK414
           clear BK423
           clear BK424
           clear HB
           have HO413 := n0_
           have HO418 := n1_
           have HO422 := n2_
           have HO428 := n3_
           have HO432 := n4_
           have HO436 := n5_
           have BK414 := n6_
           have BK423 := n7_
           have BK424 := n8_
           have HB := n9_
           clear n0_ n1_ n2_ n3_ n4_ n5_ n6_ n7_ n8_ n9_
           (try clear hb)
           (try clear hb2)
           (try clear hk)
           (try clear hi)
           refine hK.out _ _ ⟨(qbC BK414.out 0).trans rfl, (qbC BK414.out 1).trans rfl, (qbC BK423.out 0).trans rfl, (qbC BK423.out 1).trans rfl, (qbC BK424.out 0).trans rfl, (qbC BK424.out 1).trans rfl⟩ (fun hHeld => ?_)
           clear hK K
           refine norm_ (a' := ?_) ?_ ?_
           rotate_left
           ·show Act.put _ (some 80) _ = _
            simp only [Act.put, qsA, qsZ, qsS, i64_w, i32_w]
            rfl
           refine pure_ (i := 10) (N := some 70) (v := ?_) (a' := ?_) #[true, true, true, true, true, true, true, true, true, true, true, false, false, false, false] rfl rfl (any_of HT_.out zr9_13) (fun _ _ _ h => h) (Or.inl ⟨by rfl, ?_⟩) ?_ ?_
           rotate_left
           ·intro w'
            go_simp
            with_reducible rfl
           rotate_left
           ·simp only [Act.put, qsA, qsZ, qsS, i64_w, i32_w]
            rfl
           refine pure_ (i := 11) (N := some 81) (v := ?_) (a' := ?_) #[true, true, true, true, true, true, true, true, true, true, true, true, false, false, false] rfl rfl (any_of HT_.out zr9_13) (fun _ _ _ h => h) (Or.inl ⟨by rfl, ?_⟩) ?_ ?_
           rotate_left
           ·intro w'
            go_simp
            with_reducible rfl
           rotate_left
           ·simp only [Act.put, qsA, qsZ, qsS, i64_w, i32_w]
            rfl
           refine pure_ (i := 12) (N := some 82) (v := ?_) (a' := ?_) #[true, true, true, true, true, true, true, true, true, true, true, true, true, false, false] rfl rfl (any_of HT_.out zr9_13) (fun _ _ _ h => h) (Or.inl ⟨by rfl, ?_⟩) ?_ ?_
           rotate_left
           ·intro w'
            go_simp
            with_reducible rfl
           rotate_left
           ·simp only [Act.put, qsA, qsZ, qsS, i64_w, i32_w]
            rfl
           refine pure_ (i := 13) (N := some 15) (v := ?_) (a' := ?_) #[true, true, true, true, true, true, true, true, true, true, true, true, true, true, false] rfl rfl (any_of HT_.out zr9_13) (fun _ _ _ h => h) (Or.inl ⟨by rfl, ?_⟩) ?_ ?_
           rotate_left
           ·intro w'
            go_simp
            with_reducible rfl
           rotate_left
           ·simp only [Act.put, qsA, qsZ, qsS, i64_w, i32_w]
            rfl
           refine pure_ (i := 14) (N := some 16) (v := ?_) (a' := ?_) #[true, true, true, true, true, true, true, true, true, true, true, true, true, true, true] rfl rfl (any_of HT_.out zr9_13) (fun _ _ _ h => h) (Or.inl ⟨by rfl, ?_⟩) ?_ ?_
           rotate_left
           ·intro w'
            go_simp
            with_reducible rfl
           rotate_left
           ·simp only [Act.put, qsA, qsZ, qsS, i64_w, i32_w]
            rfl
           refine done_ (done_of HT_.out zr9_13) ?_
           try go_wp2_with (first | ((with_reducible refine gate_callee (f := 21) rfl ?_); refine goesL_ (some 103) rfl rfl Try.func21 zr9_13 rfl #[.int .i64 a0, .int .i64 a1, .int .i64 a2, .bool a3] rfl zr9_4 ?_; (with_reducible refine (impl_RoundInt64To.calls kj8 a0 a1 a2 a3 t439 false _ A104.out).mono ?_); rintro e w178 ⟨rfl, hb⟩; refine ⟨_, rfl, ?_⟩; have n0_ := qaM (qvB zr9_7 hb); have n1_ := qaM (qvB zr9_8 hb); have n2_ := qaM (qvB zr9_9 hb); have n3_ := qaM (qvB zr9_12 hb); have n4_ := qaM (qvB zr9_14 hb); have n5_ := qaM (qvB zr9_15 hb); have n6_ := qaM (qbB (g := gb414) (o := .cells #[.bool t410, .slice Ao158 t411.length co158] 25 (0, 0)) zr9_1 hb); have n7_ := qaM (qbB (g := gb423) (o := .cells #[.bool t415, .slice Ao165 t416.length co165] 25 (0, 0)) zr9_3 hb); have n8_ := qaM (qbB (g := gb424) (o := .cells #[.bool t419, .slice Ao168 t420.length co168] 25 (0, 0)) zr9_6 hb); have n9_ := qaM (qbT zr9_0 hb); clear HO413; clear HO418; clear HO422; clear HO428; clear HO432; clear HO436; clear BK414; clear BK423; clear BK424; clear HB; have HO413 := n0_; have HO418 := n1_; have HO422 := n2_; have HO428 := n3_; have HO432 := n4_; have HO436 := n5_; have BK414 := n6_; have BK423 := n7_; have BK424 := n8_; have HB := n9_; clear n0_ n1_ n2_ n3_ n4_ n5_ n6_ n7_ n8_ n9_; (try clear hb); (try clear hb2); (try clear hk); (try clear hi)))
           go_ret
           exact ⟨by first | rfl | (simp [errW_none, errW_some] <;> rfl) | (simp [*, errW_none, errW_some] <;> rfl), by repeat (first | (with_reducible first | exact HB.out | apply qwA | apply qwN | apply qwD | refine qwS ?_ GE414.out | refine qwS ?_ GE423.out | refine qwS ?_ GE424.out) | exact HB.out)⟩
      ·replace c31 := Bool.eq_false_iff.mpr c31
       subst c31
       have H1 : (some x11_5) = some r := by rw [if_neg (show ¬ (false = true) by decide)] at H; exact H
       clear H
       have H := H1
       clear H1
       obtain rfl := Option.some.inj H
       try go_wp2_with (first | ((with_reducible refine gate_callee (f := 17) rfl ?_); refine goesL_ (some 65) rfl rfl Try.func17 zr9_13 rfl #[.int .i64 a1] rfl zr9_4 ?_; (with_reducible refine (spec_WideInt.calls kj8 a1 t410 t411 _ A25.out).mono ?_); rintro e w179 ⟨v412, rfl, ho0, hb⟩; refine ⟨_, rfl, ?_⟩; have n0_ := qaM (qvL (qvM (ok' := fun k_ => True) ho0 (fun k_ hk_ => trivial)) (qbS zr9_10)); have n1_ := qaM (qbT zr9_10 hb); clear HB; have HO413 := n0_; have HB := n1_; clear n0_ n1_; (try clear hb); (try clear hb2); (try clear hk); (try clear hi); (try clear ho0)) | ((with_reducible refine gate_dst (N := 12) rfl ?_); refine box_event ?hg (N := 12) ?hd (cs := #[.bool false, .slice none 0 0]) (t := 25) ?hr ?_; (case hd => rfl); (case hg => rfl); (case hr => first | (go_simp; done) | (go_simp; rfl)); intro gb414 hg w180 hbox hb; have n0_ := qaM (qvB (qvE zr9_7 gb414 (Nat.le_of_eq hg.symm)) hb); have n1_ := qaM (qbT zr9_10 hb); have n2_ := qaM (hbox); have n3_ := qaM ((by rw [hg]; exact (qbS zr9_10) : w.heap.size ≤ gb414)); have n4_ := qaM ((by rw [hg]; exact (qbS zr9_10) : w.heap.size ≤ gb414)); clear HO413; clear HB; have HO413 := n0_; have HB := n1_; have BK414 := n2_; have GW414 := n3_; have GE414 := n4_; clear n0_ n1_ n2_ n3_ n4_; clear hb hbox hg; have hcz181_0 : w180.cell? ⟨gb414, 0, none⟩ = some (.bool false) := (qbC BK414.out 0).trans rfl; have hcz181_1 : w180.cell? ⟨gb414, 1, none⟩ = some (.slice none 0 0) := (qbC BK414.out 1).trans rfl; have hfz181_0 := blk_frozen BK414.out 0; have hfz181_1 := blk_frozen BK414.out 1; obtain ⟨Ao182, co182, eo182⟩ := Kd.V_slice HO413.out; subst eo182) | ((with_reducible refine gate_callee (f := 9) rfl ?_); refine goesL_ (some 67) rfl rfl Try.func9 zr9_13 rfl #[.int .i64 62, .bool true] rfl zr9_4 ?_; (with_reducible refine (laws_bounds.calls kj8 62 true t415 t416 t419 t420 _ A26.out).mono ?_); rintro e w183 ⟨v417, v421, rfl, ho0, ho1, hb⟩; refine ⟨_, rfl, ?_⟩; have n0_ := qaM (qvB (by (with_reducible repeat (first | apply qvA | apply qvN | apply qvD)); exact (qvM (qvF (p := ⟨gb414, 1, none⟩) (qvF (p := ⟨gb414, 0, none⟩) (qvM HO413.out (fun k_ hk => (⟨hk, hk.2⟩ : _ ∧ k_ ≠ gb414))) (fun _ hk => hk.2) (.bool t410)) (fun _ hk => hk.2) (.slice Ao182 t411.length co182)) (fun _ h_ => h_.1))) hb); have n1_ := qaM (qvL (qvM (ok' := fun k_ => k_ ≠ gb414) ho0 (fun k_ hk_ => (qfB (g := gb414) (o := .cells #[.bool t410, .slice Ao182 t411.length co182] 25 (0, 0)) zr9_2 k_ hk_))) (qbS zr9_5)); have n2_ := qaM (qvL (qvM (ok' := fun k_ => k_ ≠ gb414) ho1 (fun k_ hk_ => (qfB (g := gb414) (o := .cells #[.bool t410, .slice Ao182 t411.length co182] 25 (0, 0)) zr9_2 k_ hk_))) (qbS zr9_5)); have n3_ := qaM (qbB (g := gb414) (o := .cells #[.bool t410, .slice Ao182 t411.length co182] 25 (0, 0)) zr9_2 hb); have n4_ := qaM (qbT zr9_5 hb); clear HO413; clear BK414; clear HB; have HO413 := n0_; have HO418 := n1_; have HO422 := n2_; have BK414 := n3_; have HB := n4_; clear n0_ n1_ n2_ n3_ n4_; (try clear hb); (try clear hb2); (try clear hk); (try clear hi); (try clear ho0); (try clear ho1)) | ((with_reducible refine gate_dst (N := 13) rfl ?_); refine box_event ?hg (N := 13) ?hd (cs := #[.bool false, .slice none 0 0]) (t := 25) ?hr ?_; (case hd => rfl); (case hg => rfl); (case hr => first | (go_simp; done) | (go_simp; rfl)); intro gb423 hg w184 hbox hb; have n0_ := qaM (qvB (qvE zr9_7 gb423 (Nat.le_of_eq hg.symm)) hb); have n1_ := qaM (qvB (qvE zr9_8 gb423 (Nat.le_of_eq hg.symm)) hb); have n2_ := qaM (qvB (qvE zr9_9 gb423 (Nat.le_of_eq hg.symm)) hb); have n3_ := qaM (qbB (g := gb414) (o := .cells #[.bool t410, .slice Ao182 t411.length co182] 25 (0, 0)) zr9_1 hb); have n4_ := qaM (qbT zr9_5 hb); have n5_ := qaM (hbox); have n6_ := qaM ((by rw [hg]; exact (qbS zr9_5) : w.heap.size ≤ gb423)); have n7_ := qaM ((by rw [hg]; exact (qbS zr9_5) : w.heap.size ≤ gb423)); have n8_ := qaM ((by rw [hg]; exact qnL (qbL (g := gb414) (o := .cells #[.bool t410, .slice Ao182 t411.length co182] 25 (0, 0)) zr9_1) : gb414 ≠ gb423)); have n9_ := qaM ((by rw [hg]; exact qnG (qbL (g := gb414) (o := .cells #[.bool t410, .slice Ao182 t411.length co182] 25 (0, 0)) zr9_1) : gb423 ≠ gb414)); clear HO413; clear HO418; clear HO422; clear BK414; clear HB; have HO413 := n0_; have HO418 := n1_; have HO422 := n2_; have BK414 := n3_; have HB := n4_; have BK423 := n5_; have GW423 := n6_; have GE423 := n7_; have NB414_423 := n8_; have NB423_414 := n9_; clear n0_ n1_ n2_ n3_ n4_ n5_ n6_ n7_ n8_ n9_; clear hb hbox hg) | ((with_reducible refine gate_dst (N := 14) rfl ?_); refine box_event ?hg (N := 14) ?hd (cs := #[.bool false, .slice none 0 0]) (t := 25) ?hr ?_; (case hd => rfl); (case hg => rfl); (case hr => first | (go_simp; done) | (go_simp; rfl)); intro gb424 hg w185 hbox hb; have n0_ := qaM (qvB (qvE zr9_7 gb424 (Nat.le_of_eq hg.symm)) hb); have n1_ := qaM (qvB (qvE zr9_8 gb424 (Nat.le_of_eq hg.symm)) hb); have n2_ := qaM (qvB (qvE zr9_9 gb424 (Nat.le_of_eq hg.symm)) hb); have n3_ := qaM (qbB (g := gb414) (o := .cells #[.bool t410, .slice Ao182 t411.length co182] 25 (0, 0)) zr9_1 hb); have n4_ := qaM (qbB (g := gb423) (o := .cells #[.bool false, .slice none 0 0] 25 (0, 0)) zr9_3 hb); have n5_ := qaM (qbT zr9_11 hb); have n6_ := qaM (hbox); have n7_ := qaM ((by rw [hg]; exact (qbS zr9_11) : w.heap.size ≤ gb424)); have n8_ := qaM ((by rw [hg]; exact (qbS zr9_11) : w.heap.size ≤ gb424)); have n9_ := qaM ((by rw [hg]; exact qnL (qbL (g := gb414) (o := .cells #[.bool t410, .slice Ao182 t411.length co182] 25 (0, 0)) zr9_1) : gb414 ≠ gb424)); have n10_ := qaM ((by rw [hg]; exact qnG (qbL (g := gb414) (o := .cells #[.bool t410, .slice Ao182 t411.length co182] 25 (0, 0)) zr9_1) : gb424 ≠ gb414)); have n11_ := qaM ((by rw [hg]; exact qnL (qbL (g := gb423) (o := .cells #[.bool false, .slice none 0 0] 25 (0, 0)) zr9_3) : gb423 ≠ gb424)); have n12_ := qaM ((by rw [hg]; exact qnG (qbL (g := gb423) (o := .cells #[.bool false, .slice none 0 0] 25 (0, 0)) zr9_3) : gb424 ≠ gb423)); clear HO413; clear HO418; clear HO422; clear BK414; clear BK423; clear HB; have HO413 := n0_; have HO418 := n1_; have HO422 := n2_; have BK414 := n3_; have BK423 := n4_; have HB := n5_; have BK424 := n6_; have GW424 := n7_; have GE424 := n8_; have NB414_424 := n9_; have NB424_414 := n10_; have NB423_424 := n11_; have NB424_423 := n12_; clear n0_ n1_ n2_ n3_ n4_ n5_ n6_ n7_ n8_ n9_ n10_ n11_ n12_; clear hb hbox hg; have hnb186 := NB423_414.out; have hnc186 := NB414_423.out; have hnb187 := NB423_424.out; have hnc187 := NB424_423.out; have hcz188_0 : w185.cell? ⟨gb423, 0, none⟩ = some (.bool false) := (qbC BK423.out 0).trans rfl; have hcz188_1 : w185.cell? ⟨gb423, 1, none⟩ = some (.slice none 0 0) := (qbC BK423.out 1).trans rfl; have hfz188_0 := blk_frozen BK423.out 0; have hfz188_1 := blk_frozen BK423.out 1; obtain ⟨Ao189, co189, eo189⟩ := Kd.V_slice HO418.out; subst eo189; have hnb190 := NB424_414.out; have hnc190 := NB414_424.out; have hcz191_0 : w185.cell? ⟨gb424, 0, none⟩ = some (.bool false) := (qbC BK424.out 0).trans rfl; have hcz191_1 : w185.cell? ⟨gb424, 1, none⟩ = some (.slice none 0 0) := (qbC BK424.out 1).trans rfl; have hfz191_0 := blk_frozen BK424.out 0; have hfz191_1 := blk_frozen BK424.out 1; obtain ⟨Ao192, co192, eo192⟩ := Kd.V_slice HO422.out; subst eo192))
       have n0_ : Aside0 (Kd.V (Kd.int .u32) 22 ((((w185.setCell ⟨gb423, 0, none⟩ (.bool t415)).setCell ⟨gb423, 1, none⟩ (.slice Ao189 t416.length co189)).setCell ⟨gb424, 0, none⟩ (.bool t419)).setCell ⟨gb424, 1, none⟩ (.slice Ao192 t420.length co192)) w.heap.size (fun k_ => k_ ≠ gb414 ∧ k_ ≠ gb423 ∧ k_ ≠ gb424) (.slice Ao182 t411.length co182) t411) := ⟨by (with_reducible repeat (first | apply qvA | apply qvN | apply qvD)); exact qvM (qvF (p := ⟨gb424, 1, none⟩) (qvF (p := ⟨gb424, 0, none⟩) (qvF (p := ⟨gb423, 1, none⟩) (qvF (p := ⟨gb423, 0, none⟩) (qvM (qvM HO413.out (fun k_ hk => (⟨hk, hk.1.2⟩ : _ ∧ k_ ≠ gb423))) (fun k_ hk => (⟨hk, hk.1.2⟩ : _ ∧ k_ ≠ gb424))) (fun _ hk => hk.1.2) (.bool t415)) (fun _ hk => hk.1.2) (.slice Ao189 t416.length co189)) (fun _ hk => hk.2) (.bool t419)) (fun _ hk => hk.2) (.slice Ao192 t420.length co192)) (fun _ hk => ⟨hk.1.1.1.1.2, ⟨hk.1.1.1.2, hk.1.1.2⟩⟩)⟩
       have n1_ : Aside0 (Kd.V (Kd.int .u32) 22 ((((w185.setCell ⟨gb423, 0, none⟩ (.bool t415)).setCell ⟨gb423, 1, none⟩ (.slice Ao189 t416.length co189)).setCell ⟨gb424, 0, none⟩ (.bool t419)).setCell ⟨gb424, 1, none⟩ (.slice Ao192 t420.length co192)) w.heap.size (fun k_ => k_ ≠ gb414 ∧ k_ ≠ gb423 ∧ k_ ≠ gb424) (.slice Ao189 t416.length co189) t416) := ⟨by (with_reducible repeat (first | apply qvA | apply qvN | apply qvD)); exact qvM (qvF (p := ⟨gb424, 1, none⟩) (qvF (p := ⟨gb424, 0, none⟩) (qvF (p := ⟨gb423, 1, none⟩) (qvF (p := ⟨gb423, 0, none⟩) (qvM (qvM HO418.out (fun k_ hk => (⟨hk, hk.1.2⟩ : _ ∧ k_ ≠ gb423))) (fun k_ hk => (⟨hk, hk.1.2⟩ : _ ∧ k_ ≠ gb424))) (fun _ hk => hk.1.2) (.bool t415)) (fun _ hk => hk.1.2) (.slice Ao189 t416.length co189)) (fun _ hk => hk.2) (.bool t419)) (fun _ hk => hk.2) (.slice Ao192 t420.length co192)) (fun _ hk => ⟨hk.1.1.1.1, ⟨hk.1.1.1.2, hk.1.1.2⟩⟩)⟩
       have n2_ : Aside0 (Kd.V (Kd.int .u32) 22 ((((w185.setCell ⟨gb423, 0, none⟩ (.bool t415)).setCell ⟨gb423, 1, none⟩ (.slice Ao189 t416.length co189)).setCell ⟨gb424, 0, none⟩ (.bool t419)).setCell ⟨gb424, 1, none⟩ (.slice Ao192 t420.length co192)) w.heap.size (fun k_ => k_ ≠ gb414 ∧ k_ ≠ gb423 ∧ k_ ≠ gb424) (.slice Ao192 t420.length co192) t420) := ⟨by (with_reducible repeat (first | apply qvA | apply qvN | apply qvD)); exact qvM (qvF (p := ⟨gb424, 1, none⟩) (qvF (p := ⟨gb424, 0, none⟩) (qvF (p := ⟨gb423, 1, none⟩) (qvF (p := ⟨gb423, 0, none⟩) (qvM (qvM HO422.out (fun k_ hk => (⟨hk, hk.1.2⟩ : _ ∧ k_ ≠ gb423))) (fun k_ hk => (⟨hk, hk.1.2⟩ : _ ∧ k_ ≠ gb424))) (fun _ hk => hk.1.2) (.bool t415)) (fun _ hk => hk.1.2) (.slice Ao189 t416.length co189)) (fun _ hk => hk.2) (.bool t419)) (fun _ hk => hk.2) (.slice Ao192 t420.length co192)) (fun _ hk => ⟨hk.1.1.1.1, ⟨hk.1.1.1.2, hk.1.1.2⟩⟩)⟩
       have n3_ : Aside0 (((((w185.setCell ⟨gb423, 0, none⟩ (.bool t415)).setCell ⟨gb423, 1, none⟩ (.slice Ao189 t416.length co189)).setCell ⟨gb424, 0, none⟩ (.bool t419)).setCell ⟨gb424, 1, none⟩ (.slice Ao192 t420.length co192)).heap[gb414]? = some (.cells #[.bool t410, .slice Ao182 t411.length co182] 25 (0, 0))) := ⟨by (with_reducible repeat (first | refine qbN ?_ _ | refine qbD ?_ | refine qbA ?_ _)); refine qbF ?_ NB414_424.out _; (with_reducible repeat (first | refine qbN ?_ _ | refine qbD ?_ | refine qbA ?_ _)); refine qbF ?_ NB414_424.out _; (with_reducible repeat (first | refine qbN ?_ _ | refine qbD ?_ | refine qbA ?_ _)); refine qbF ?_ NB414_423.out _; (with_reducible repeat (first | refine qbN ?_ _ | refine qbD ?_ | refine qbA ?_ _)); refine qbF ?_ NB414_423.out _; (with_reducible repeat (first | refine qbN ?_ _ | refine qbD ?_ | refine qbA ?_ _)); exact BK414.out⟩
       have n4_ : Aside0 (((((w185.setCell ⟨gb423, 0, none⟩ (.bool t415)).setCell ⟨gb423, 1, none⟩ (.slice Ao189 t416.length co189)).setCell ⟨gb424, 0, none⟩ (.bool t419)).setCell ⟨gb424, 1, none⟩ (.slice Ao192 t420.length co192)).heap[gb423]? = some (.cells #[.bool t415, .slice Ao189 t416.length co189] 25 (0, 0))) := ⟨by (with_reducible repeat (first | refine qbN ?_ _ | refine qbD ?_ | refine qbA ?_ _)); refine qbF ?_ NB423_424.out _; (with_reducible repeat (first | refine qbN ?_ _ | refine qbD ?_ | refine qbA ?_ _)); refine qbF ?_ NB423_424.out _; (with_reducible repeat (first | refine qbN ?_ _ | refine qbD ?_ | refine qbA ?_ _)); refine qbP (cs := #[.bool t415, .slice none 0 0]) ?_ 1 _ rfl; (with_reducible repeat (first | refine qbN ?_ _ | refine qbD ?_ | refine qbA ?_ _)); refine qbP (cs := #[.bool false, .slice none 0 0]) ?_ 0 _ rfl; (with_reducible repeat (first | refine qbN ?_ _ | refine qbD ?_ | refine qbA ?_ _)); exact BK423.out⟩
       have n5_ : Aside0 (((((w185.setCell ⟨gb423, 0, none⟩ (.bool t415)).setCell ⟨gb423, 1, none⟩ (.slice Ao189 t416.length co189)).setCell ⟨gb424, 0, none⟩ (.bool t419)).setCell ⟨gb424, 1, none⟩ (.slice Ao192 t420.length co192)).heap[gb424]? = some (.cells #[.bool t419, .slice Ao192 t420.length co192] 25 (0, 0))) := ⟨by (with_reducible repeat (first | refine qbN ?_ _ | refine qbD ?_ | refine qbA ?_ _)); refine qbP (cs := #[.bool t419, .slice none 0 0]) ?_ 1 _ rfl; (with_reducible repeat (first | refine qbN ?_ _ | refine qbD ?_ | refine qbA ?_ _)); refine qbP (cs := #[.bool false, .slice none 0 0]) ?_ 0 _ rfl; (with_reducible repeat (first | refine qbN ?_ _ | refine qbD ?_ | refine qbA ?_ _)); refine qbF ?_ NB424_423.out _; (with_reducible repeat (first | refine qbN ?_ _ | refine qbD ?_ | refine qbA ?_ _)); refine qbF ?_ NB424_423.out _; (with_reducible repeat (first | refine qbN ?_ _ | refine qbD ?_ | refine qbA ?_ _)); exact BK424.out⟩
       have n6_ : Aside0 (Below w.heap.size w ((((w185.setCell ⟨gb423, 0, none⟩ (.bool t415)).setCell ⟨gb423, 1, none⟩ (.slice Ao189 t416.length co189)).setCell ⟨gb424, 0, none⟩ (.bool t419)).setCell ⟨gb424, 1, none⟩ (.slice Ao192 t420.length co192))) := ⟨by repeat (first | (with_reducible first | exact HB.out | apply qwA | apply qwN | apply qwD | refine qwS ?_ GE414.out | refine qwS ?_ GE423.out | refine qwS ?_ GE424.out) | exact HB.out)⟩
       (try clear HO413)
       (try clear HO418)
       (try clear HO422)
       (try clear BK414)
       (try clear BK423)
       (try clear BK424)
       (try clear HB)
       generalize ((((w185.setCell ⟨gb423, 0, none⟩ (.bool t415)).setCell ⟨gb423, 1, none⟩ (.slice Ao189 t416.length co189)).setCell ⟨gb424, 0, none⟩ (.bool t419)).setCell ⟨gb424, 1, none⟩ (.slice Ao192 t420.length co192)) = w193 at n0_ n1_ n2_ n3_ n4_ n5_ n6_ ⊢
       have HO413 := n0_
       have HO418 := n1_
       have HO422 := n2_
       have BK414 := n3_
       have BK423 := n4_
       have BK424 := n5_
       have HB := n6_
       clear n0_ n1_ n2_ n3_ n4_ n5_ n6_
       have n0_ := qaM (qvD HO413.out)
       have n1_ := qaM (qvD HO418.out)
       have n2_ := qaM (qvD HO422.out)
       have n3_ := qaM (qbD BK414.out)
       have n4_ := qaM (qbD BK423.out)
       have n5_ := qaM (qbD BK424.out)
       have n6_ := qaM (qwD HB.out)
       clear HO413
       clear HO418
       clear HO422
       clear BK414
       clear BK423
       clear BK424
       clear HB
       have HO413 := n0_
       have HO418 := n1_
       have HO422 := n2_
       have BK414 := n3_
       have BK423 := n4_
       have BK424 := n5_
       have HB := n6_
       clear n0_ n1_ n2_ n3_ n4_ n5_ n6_
       refine start_ (n := 15) (S := fun w' => w'.cell? ⟨gb414, 0, none⟩ = some (.bool t410) ∧ w'.cell? ⟨gb414, 1, none⟩ = some (.slice Ao182 t411.length co182) ∧ w'.cell? ⟨gb423, 0, none⟩ = some (.bool t415) ∧ w'.cell? ⟨gb423, 1, none⟩ = some (.slice Ao189 t416.length co189) ∧ w'.cell? ⟨gb424, 0, none⟩ = some (.bool t419) ∧ w'.cell? ⟨gb424, 1, none⟩ = some (.slice Ao192 t420.length co192)) (ds := []) #[false, false, false, false, false, false, false, false, false, false, false, false, false, false, false] zr9_13 rfl rfl ⟨(qbC BK414.out 0).trans rfl, (qbC BK414.out 1).trans rfl, (qbC BK423.out 0).trans rfl, (qbC BK423.out 1).trans rfl, (qbC BK424.out 0).trans rfl, (qbC BK424.out 1).trans rfl⟩ (fun hHeld => ?_); refine with_tabW laws_FnRoundInt64To.tab7 laws_FnRoundInt64To.bits7 (fun HT_ HW_ => ?_)
       generalize w193.drew = w194 at HO413 HO418 HO422 BK414 BK423 BK424 HB hHeld ⊢
       refine pure_ (i := 0) (N := some 71) (v := ?_) (a' := ?_) #[true, false, false, false, false, false, false, false, false, false, false, false, false, false, false] rfl rfl (any_of HT_.out zr9_13) (fun _ _ _ h => h) (Or.inl ⟨by rfl, ?_⟩) ?_ ?_
       rotate_left
       ·intro w'
        go_simp
        with_reducible rfl
       rotate_left
       ·simp only [Act.put, qsA, qsZ, qsS, i64_w, i32_w]
        rfl
       refine pure_ (i := 3) (N := some 74) (v := ?_) (a' := ?_) #[true, false, false, true, false, false, false, false, false, false, false, false, false, false, false] rfl rfl (any_of HT_.out zr9_13) (fun _ _ _ h => h) (Or.inl ⟨by rfl, ?_⟩) ?_ ?_
       rotate_left
       ·intro w'
        go_simp
        with_reducible rfl
       rotate_left
       ·simp only [Act.put, qsA, qsZ, qsS, i64_w, i32_w]
        rfl
       refine take_ (i := 2) (N := some 73) (v := ?_) (a' := ?_) #[true, false, true, true, false, false, false, false, false, false, false, false, false, false, false] rfl rfl (take_ofW HT_.out HW_.out zr9_13) (fun _ _ _ h => h) (Or.inl ⟨by rfl, ?_⟩) hHeld ?_ ?_
       rotate_left
       ·rintro w' ⟨s0, s1, s2, s3, s4, s5⟩
        go_simp
        with_reducible rfl
       rotate_left
       ·simp only [Act.put, qsA, qsZ, qsS, i64_w, i32_w]
        rfl
       refine take_ (i := 5) (N := some 76) (v := ?_) (a' := ?_) #[true, false, true, true, false, true, false, false, false, false, false, false, false, false, false] rfl rfl (take_ofW HT_.out HW_.out zr9_13) (fun _ _ _ h => h) (Or.inl ⟨by rfl, ?_⟩) hHeld ?_ ?_
       rotate_left
       ·rintro w' ⟨s0, s1, s2, s3, s4, s5⟩
        go_simp
        with_reducible rfl
       rotate_left
       ·simp only [Act.put, qsA, qsZ, qsS, i64_w, i32_w]
        rfl
       refine take_ (i := 7) (N := some 78) (v := ?_) (a' := ?_) #[true, false, true, true, false, true, false, true, false, false, false, false, false, false, false] rfl rfl (take_ofW HT_.out HW_.out zr9_13) (fun _ _ _ h => h) (Or.inl ⟨by rfl, ?_⟩) hHeld ?_ ?_
       rotate_left
       ·rintro w' ⟨s0, s1, s2, s3, s4, s5⟩
        go_simp
        with_reducible rfl
       rotate_left
       ·simp only [Act.put, qsA, qsZ, qsS, i64_w, i32_w]
        rfl
       refine take_ (i := 8) (N := some 79) (v := ?_) (a' := ?_) #[true, false, true, true, false, true, false, true, true, false, false, false, false, false, false] rfl rfl (take_ofW HT_.out HW_.out zr9_13) (fun _ _ _ h => h) (Or.inl ⟨by rfl, ?_⟩) hHeld ?_ ?_
       rotate_left
       ·rintro w' ⟨s0, s1, s2, s3, s4, s5⟩
        go_simp
        with_reducible rfl
       rotate_left
       ·simp only [Act.put, qsA, qsZ, qsS, i64_w, i32_w]
        rfl
       refine one_ (i := 1) (N := some 72) #[true, true, true, true, false, true, false, true, true, false, false, false, false, false, false] rfl rfl (one_of HT_.out zr9_13) zr9_17 (fun K hK => ?_)
       refine goes_ Try.func17 zr9_13 rfl #[.int .i64 a0] (by rfl) rfl rfl zr9_4 ?_
       with_reducible refine (spec_WideInt.calls kj8 a0 t425 t426 _ A27.out).mono ?_
       rintro e w195 ⟨v427, rfl, ho0, hb⟩
       refine ⟨_, rfl, ?_⟩
       have n0_ := qaM (qvB zr9_7 hb)
       have n1_ := qaM (qvB zr9_8 hb)
       have n2_ := qaM (qvB zr9_9 hb)
       have n3_ := qaM (qvL (qvM (ok' := fun k_ => k_ ≠ gb414 ∧ k_ ≠ gb423 ∧ k_ ≠ gb424) ho0 (fun k_ hk_ => ⟨(qfB (g := gb414) (o := .cells #[.bool t410, .slice Ao182 t411.length co182] 25 (0, 0)) zr9_1 k_ hk_), (qfB (g := gb423) (o := .cells #[.bool t415, .slice Ao189 t416.length co189] 25 (0, 0)) zr9_3 k_ hk_), (qfB (g := gb424) (o := .cells #[.bool t419, .slice Ao192 t420.length co192] 25 (0, 0)) zr9_6 k_ hk_)⟩)) (qbS zr9_0))
       have n4_ := qaM (qbB (g := gb414) (o := .cells #[.bool t410, .slice Ao182 t411.length co182] 25 (0, 0)) zr9_1 hb)
       have n5_ := qaM (qbB (g := gb423) (o := .cells #[.bool t415, .slice Ao189 t416.length co189] 25 (0, 0)) zr9_3 hb)
       have n6_ := qaM (qbB (g := gb424) (o := .cells #[.bool t419, .slice Ao192 t420.length co192] 25 (0, 0)) zr9_6 hb)
       have n7_ := qaM (qbT zr9_0 hb)
       clear HO413
       clear HO418
       clear HO422
       clear BK414
       clear BK423
       clear BK424
       clear HB
       have HO413 := n0_
       have HO418 := n1_
       have HO422 := n2_
       have HO428 := n3_
       have BK414 := n4_
       have BK423 := n5_
       have BK424 := n6_
       have HB := n7_
       clear n0_ n1_ n2_ n3_ n4_ n5_ n6_ n7_
       (try clear hb)
       (try clear hb2)
       (try clear hk)
       (try clear hi)
       (try clear ho0)
       obtain ⟨Ao196, co196, eo196⟩ := Kd.V_slice HO428.out
       (first | subst eo196 | (injection eo196 with f1_ f2_ f3_; have f4_ := f1_.symm; have f5_ := f3_.symm; clear f1_ f2_ f3_; subst f4_; subst f5_))
       refine hK.out _ _ ⟨(qbC BK414.out 0).trans rfl, (qbC BK414.out 1).trans rfl, (qbC BK423.out 0).trans rfl, (qbC BK423.out 1).trans rfl, (qbC BK424.out 0).trans rfl, (qbC BK424.out 1).trans rfl⟩ (fun hHeld => ?_)
       clear hK K
       refine norm_ (a' := ?_) ?_ ?_
       rotate_left
       ·show Act.put _ (some 72) _ = _
        simp only [Act.put, qsA, qsZ, qsS, i64_w, i32_w]
        rfl
       refine one_ (i := 4) (N := some 75) #[true, true, true, true, true, true, false, true, true, false, false, false, false, false, false] rfl rfl (one_of HT_.out zr9_13) zr9_17 (fun K hK => ?_)
       refine goes_ Try.func22 zr9_13 rfl #[.agg #[.bool t425, .slice Ao196 t426.length co196], .agg #[.bool t410, .slice Ao182 t411.length co182], .int .i64 a2] (by rfl) rfl rfl zr9_4 ?_
       with_reducible refine (spec_RoundWide.calls kj8 t425 _ _ t426 t410 _ _ t411 a2 t429 t430 _ ?side1 ?side2 ?side3 ?side4 A28.out).mono ?_
       (case side1 => repeat (first | exact (qvR HO428.out).2.2 | (with_reducible refine Kd.C_alloc ?_ _) | (with_reducible refine Kd.C_drewN ?_ _) | (with_reducible refine Kd.C_drew ?_)))
       (case side2 => exact (qvR HO428.out).2.1)
       (case side3 => repeat (first | exact (qvR HO413.out).2.2 | (with_reducible refine Kd.C_alloc ?_ _) | (with_reducible refine Kd.C_drewN ?_ _) | (with_reducible refine Kd.C_drew ?_)))
       (case side4 => exact (qvR HO413.out).2.1)
       rintro e w197 ⟨v431, rfl, ho0, hb⟩
       refine ⟨_, rfl, ?_⟩
       have n0_ := qaM (qvB zr9_7 hb)
       have n1_ := qaM (qvB zr9_8 hb)
       have n2_ := qaM (qvB zr9_9 hb)
       have n3_ := qaM (qvB zr9_12 hb)
       have n4_ := qaM (qvL (qvM (ok' := fun k_ => k_ ≠ gb414 ∧ k_ ≠ gb423 ∧ k_ ≠ gb424) ho0 (fun k_ hk_ => ⟨(qfB (g := gb414) (o := .cells #[.bool t410, .slice Ao182 t411.length co182] 25 (0, 0)) zr9_1 k_ hk_), (qfB (g := gb423) (o := .cells #[.bool t415, .slice Ao189 t416.length co189] 25 (0, 0)) zr9_3 k_ hk_), (qfB (g := gb424) (o := .cells #[.bool t419, .slice Ao192 t420.length co192] 25 (0, 0)) zr9_6 k_ hk_)⟩)) (qbS zr9_0))
       have n5_ := qaM (qbB (g := gb414) (o := .cells #[.bool t410, .slice Ao182 t411.length co182] 25 (0, 0)) zr9_1 hb)
       have n6_ := qaM (qbB (g := gb423) (o := .cells #[.bool t415, .slice Ao189 t416.length co189] 25 (0, 0)) zr9_3 hb)
       have n7_ := qaM (qbB (g := gb424) (o := .cells #[.bool t419, .slice Ao192 t420.length co192] 25 (0, 0)) zr9_6 hb)
       have n8_ := qaM (qbT zr9_0 hb)
       clear HO413
       clear HO418
       clear HO422
       clear HO428
       clear BK414
       clear BK423
       clear BK424
       clear HB
       have HO413 := n0_
       have HO418 := n1_
       have HO422 := n2_
       have HO428 := n3_
       have HO432 := n4_
       have BK414 := n5_
       have BK423 := n6_
       have BK424 := n7_
       have HB := n8_
       clear n0_ n1_ n2_ n3_ n4_ n5_ n6_ n7_ n8_
       (try clear hb)
       (try clear hb2)
       (try clear hk)
       (try clear hi)
       (try clear ho0)
       obtain ⟨Ao198, co198, eo198⟩ := Kd.V_slice HO432.out
       (first | subst eo198 | (injection eo198 with f1_ f2_ f3_; have f4_ := f1_.symm; have f5_ := f3_.symm; clear f1_ f2_ f3_; subst f4_; subst f5_))
       refine hK.out _ _ ⟨(qbC BK414.out 0).trans rfl, (qbC BK414.out 1).trans rfl, (qbC BK423.out 0).trans rfl, (qbC BK423.out 1).trans rfl, (qbC BK424.out 0).trans rfl, (qbC BK424.out 1).trans rfl⟩ (fun hHeld => ?_)
       clear hK K
       refine norm_ (a' := ?_) ?_ ?_
       rotate_left
       ·show Act.put _ (some 75) _ = _
        simp only [Act.put, qsA, qsZ, qsS, i64_w, i32_w]
        rfl
       refine one_ (i := 6) (N := some 77) #[true, true, true, true, true, true, true, true, true, false, false, false, false, false, false] rfl rfl (one_of HT_.out zr9_13) zr9_17 (fun K hK => ?_)
       refine goes_ Try.func16 zr9_13 rfl #[.agg #[.bool t429, .slice Ao198 t430.length co198], .agg #[.bool t410, .slice Ao182 t411.length co182]] (by rfl) rfl rfl zr9_4 ?_
       with_reducible refine (spec_WideMul.calls kj8 t429 _ _ t430 t410 _ _ t411 t433 t434 _ ?side1 ?side2 ?side3 ?side4 A29.out).mono ?_
       (case side1 => repeat (first | exact (qvR HO432.out).2.2 | (with_reducible refine Kd.C_alloc ?_ _) | (with_reducible refine Kd.C_drewN ?_ _) | (with_reducible refine Kd.C_drew ?_)))
       (case side2 => exact (qvR HO432.out).2.1)
       (case side3 => repeat (first | exact (qvR HO413.out).2.2 | (with_reducible refine Kd.C_alloc ?_ _) | (with_reducible refine Kd.C_drewN ?_ _) | (with_reducible refine Kd.C_drew ?_)))
       (case side4 => exact (qvR HO413.out).2.1)
       rintro e w199 ⟨v435, rfl, ho0, hb⟩
       refine ⟨_, rfl, ?_⟩
       have n0_ := qaM (qvB zr9_7 hb)
       have n1_ := qaM (qvB zr9_8 hb)
       have n2_ := qaM (qvB zr9_9 hb)
       have n3_ := qaM (qvB zr9_12 hb)
       have n4_ := qaM (qvB zr9_14 hb)
       have n5_ := qaM (qvL (qvM (ok' := fun k_ => k_ ≠ gb414 ∧ k_ ≠ gb423 ∧ k_ ≠ gb424) ho0 (fun k_ hk_ => ⟨(qfB (g := gb414) (o := .cells #[.bool t410, .slice Ao182 t411.length co182] 25 (0, 0)) zr9_1 k_ hk_), (qfB (g := gb423) (o := .cells #[.bool t415, .slice Ao189 t416.length co189] 25 (0, 0)) zr9_3 k_ hk_), (qfB (g := gb424) (o := .cells #[.bool t419, .slice Ao192 t420.length co192] 25 (0, 0)) zr9_6 k_ hk_)⟩)) (qbS zr9_0))
       have n6_ := qaM (qbB (g := gb414) (o := .cells #[.bool t410, .slice Ao182 t411.length co182] 25 (0, 0)) zr9_1 hb)
       have n7_ := qaM (qbB (g := gb423) (o := .cells #[.bool t415, .slice Ao189 t416.length co189] 25 (0, 0)) zr9_3 hb)
       have n8_ := qaM (qbB (g := gb424) (o := .cells #[.bool t419, .slice Ao192 t420.length co192] 25 (0, 0)) zr9_6 hb)
       have n9_ := qaM (qbT zr9_0 hb)
       clear HO413
       clear HO418
       clear HO422
       clear HO428
       clear HO432
       clear BK414
       clear BK423
       clear BK424
       clear HB
       have HO413 := n0_
       have HO418 := n1_
       have HO422 := n2_
       have HO428 := n3_
       have HO432 := n4_
       have HO436 := n5_
       have BK414 := n6_
       have BK423 := n7_
       have BK424 := n8_
       have HB := n9_
       clear n0_ n1_ n2_ n3_ n4_ n5_ n6_ n7_ n8_ n9_
       (try clear hb)
       (try clear hb2)
       (try clear hk)
       (try clear hi)
       (try clear ho0)
       obtain ⟨Ao200, co200, eo200⟩ := Kd.V_slice HO436.out
       (first | subst eo200 | (injection eo200 with f1_ f2_ f3_; have f4_ := f1_.symm; have f5_ := f3_.symm; clear f1_ f2_ f3_; subst f4_; subst f5_))
       refine hK.out _ _ ⟨(qbC BK414.out 0).trans rfl, (qbC BK414.out 1).trans rfl, (qbC BK423.out 0).trans rfl, (qbC BK423.out 1).trans rfl, (qbC BK424.out 0).trans rfl, (qbC BK424.out 1).trans rfl⟩ (fun hHeld => ?_)
       clear hK K
       refine norm_ (a' := ?_) ?_ ?_
       rotate_left
       ·show Act.put _ (some 77) _ = _
        simp only [Act.put, qsA, qsZ, qsS, i64_w, i32_w]
        rfl
       refine one_ (i := 9) (N := some 80) #[true, true, true, true, true, true, true, true, true, true, false, false, false, false, false] rfl rfl (one_of HT_.out zr9_13) zr9_17 (fun K hK => ?_)
       refine goes_ Try.func10 zr9_13 rfl #[.agg #[.bool t433, .slice Ao200 t434.length co200], .agg #[.bool t415, .slice Ao189 t416.length co189], .agg #[.bool t419, .slice Ao192 t420.length co192]] (by rfl) rfl rfl zr9_4 ?_
       with_reducible refine (laws_fitted.calls kj8 t433 _ _ t434 t415 _ _ t416 t419 _ _ t420 t437 false _ ?side1 ?side2 ?side3 ?side4 ?side5 ?side6 A30.out).mono ?_
       (case side1 => repeat (first | exact (qvR HO436.out).2.2 | (with_reducible refine Kd.C_alloc ?_ _) | (with_reducible refine Kd.C_drewN ?_ _) | (with_reducible refine Kd.C_drew ?_)))
       (case side2 => exact (qvR HO436.out).2.1)
       (case side3 => repeat (first | exact (qvR HO418.out).2.2 | (with_reducible refine Kd.C_alloc ?_ _) | (with_reducible refine Kd.C_drewN ?_ _) | (with_reducible refine Kd.C_drew ?_)))
       (case side4 => exact (qvR HO418.out).2.1)
       (case side5 => repeat (first | exact (qvR HO422.out).2.2 | (with_reducible refine Kd.C_alloc ?_ _) | (with_reducible refine Kd.C_drewN ?_ _) | (with_reducible refine Kd.C_drew ?_)))
       (case side6 => exact (qvR HO422.out).2.1)
       rintro e w201 ⟨rfl, hb⟩
       refine ⟨_, rfl, ?_⟩
       have n0_ := qaM (qvB zr9_7 hb)
       have n1_ := qaM (qvB zr9_8 hb)
       have n2_ := qaM (qvB zr9_9 hb)
       have n3_ := qaM (qvB zr9_12 hb)
       have n4_ := qaM (qvB zr9_14 hb)
       have n5_ := qaM (qvB zr9_15 hb)
       have n6_ := qaM (qbB (g := gb414) (o := .cells #[.bool t410, .slice Ao182 t411.length co182] 25 (0, 0)) zr9_1 hb)
       have n7_ := qaM (qbB (g := gb423) (o := .cells #[.bool t415, .slice Ao189 t416.length co189] 25 (0, 0)) zr9_3 hb)
       have n8_ := qaM (qbB (g := gb424) (o := .cells #[.bool t419, .slice Ao192 t420.length co192] 25 (0, 0)) zr9_6 hb)
       have n9_ := qaM (qbT zr9_0 hb)
       clear HO413
       clear HO418
       clear HO422
       clear HO428
       clear HO432
       clear HO436
       clear BK414
       clear BK423
       clear BK424
       clear HB
       have HO413 := n0_
       have HO418 := n1_
       have HO422 := n2_
       have HO428 := n3_
       have HO432 := n4_
       have HO436 := n5_
       have BK414 := n6_
       have BK423 := n7_
       have BK424 := n8_
       have HB := n9_
       clear n0_ n1_ n2_ n3_ n4_ n5_ n6_ n7_ n8_ n9_
       (try clear hb)
       (try clear hb2)
       (try clear hk)
       (try clear hi)
       refine hK.out _ _ ⟨(qbC BK414.out 0).trans rfl, (qbC BK414.out 1).trans rfl, (qbC BK423.out 0).trans rfl, (qbC BK423.out 1).trans rfl, (qbC BK424.out 0).trans rfl, (qbC BK424.out 1).trans rfl⟩ (fun hHeld => ?_)
       clear hK K
       refine norm_ (a' := ?_) ?_ ?_
       rotate_left
       ·show Act.put _ (some 80) _ = _
        simp only [Act.put, qsA, qsZ, qsS, i64_w, i32_w]
        rfl
       refine pure_ (i := 10) (N := some 70) (v := ?_) (a' := ?_) #[true, true, true, true, true, true, true, true, true, true, true, false, false, false, false] rfl rfl (any_of HT_.out zr9_13) (fun _ _ _ h => h) (Or.inl ⟨by rfl, ?_⟩) ?_ ?_
       rotate_left
       ·intro w'
        go_simp
        with_reducible rfl
       rotate_left
       ·simp only [Act.put, qsA, qsZ, qsS, i64_w, i32_w]
        rfl
       refine pure_ (i := 11) (N := some 81) (v := ?_) (a' := ?_) #[true, true, true, true, true, true, true, true, true, true, true, true, false, false, false] rfl rfl (any_of HT_.out zr9_13) (fun _ _ _ h => h) (Or.inl ⟨by rfl, ?_⟩) ?_ ?_
       rotate_left
       ·intro w'
        go_simp
        with_reducible rfl
       rotate_left
       ·simp only [Act.put, qsA, qsZ, qsS, i64_w, i32_w]
        rfl
       refine pure_ (i := 12) (N := some 82) (v := ?_) (a' := ?_) #[true, true, true, true, true, true, true, true, true, true, true, true, true, false, false] rfl rfl (any_of HT_.out zr9_13) (fun _ _ _ h => h) (Or.inl ⟨by rfl, ?_⟩) ?_ ?_
       rotate_left
       ·intro w'
        go_simp
        with_reducible rfl
       rotate_left
       ·simp only [Act.put, qsA, qsZ, qsS, i64_w, i32_w]
        rfl
       refine pure_ (i := 13) (N := some 15) (v := ?_) (a' := ?_) #[true, true, true, true, true, true, true, true, true, true, true, true, true, true, false] rfl rfl (any_of HT_.out zr9_13) (fun _ _ _ h => h) (Or.inl ⟨by rfl, ?_⟩) ?_ ?_
       rotate_left
       ·intro w'
        go_simp
        with_reducible rfl
       rotate_left
       ·simp only [Act.put, qsA, qsZ, qsS, i64_w, i32_w]
        rfl
       refine pure_ (i := 14) (N := some 16) (v := ?_) (a' := ?_) #[true, true, true, true, true, true, true, true, true, true, true, true, true, true, true] rfl rfl (any_of HT_.out zr9_13) (fun _ _ _ h => h) (Or.inl ⟨by rfl, ?_⟩) ?_ ?_
       rotate_left
       ·intro w'
        go_simp
        with_reducible rfl
       rotate_left
       ·simp only [Act.put, qsA, qsZ, qsS, i64_w, i32_w]
        rfl
       refine done_ (done_of HT_.out zr9_13) ?_
       try go_wp2
       go_ret
       exact ⟨by first | rfl | (simp [errW_none, errW_some] <;> rfl) | (simp [*, errW_none, errW_some] <;> rfl), by repeat (first | (with_reducible first | exact HB.out | apply qwA | apply qwN | apply qwD | refine qwS ?_ GE414.out | refine qwS ?_ GE423.out | refine qwS ?_ GE424.out) | exact HB.out)⟩

/-- THE ONE PURE STATEMENT of laws_FnRoundInt64To: yours. -/
def laws_FnRoundInt64To.Pure : Prop := ∀ (a0 : Int) (a1 : Int) (a2 : Int) (a3 : Bool), (Lit.int .i64 a0).wf = true → (Lit.int .i64 a1).wf = true → (Lit.int .i64 a2).wf = true → ∃ k, laws_FnRoundInt64To.f k a0 a1 a2 a3 = some true
theorem laws_FnRoundInt64To.walk (P : laws_FnRoundInt64To.Pure) (a0 : Int) (a1 : Int) (a2 : Int) (a3 : Bool) (w : World) (w0 : (Lit.int .i64 a0).wf = true) (w1 : (Lit.int .i64 a1).wf = true) (w2 : (Lit.int .i64 a2).wf = true) :
  Calls Try.prog 8 #[.int .i64 a0, .int .i64 a1, .int .i64 a2, .bool a3] w fun e w' => e = .returned (.bool true) ∧ Below w.heap.size w w' := by
 obtain ⟨k, h⟩ := P a0 a1 a2 a3 w0 w1 w2
 refine (laws_FnRoundInt64To.calls k a0 a1 a2 a3 true w h).mono ?_
 rintro e w' ⟨rfl, hd⟩
 exact ⟨rfl, hd⟩

end Go.Proofs.Ytelpdndlmhcdoaa.QR
