/- Printed by a program of this session (print2.py) over the kit's print: the functions that a law reaches, over contracts proved by hand. Lean checks it. -/
import Derived.Test.YtelpdndlmhcdoaaQKx0
namespace Go.Proofs.Ytelpdndlmhcdoaa.QK
open Go.RowKit Go.Proofs.YtelpdndlmhcdoaaW.PrintWords Go.Proofs.YtelpdndlmhcdoaaW.PrintLast Go.Proofs.YtelpdndlmhcdoaaW.PrintMore
attribute [local go_sem] max2_int min2_int max_two min_two max_three min_three max_four min_four   -- for this text's walks alone
set_option linter.unusedVariables false
set_option linter.unusedSimpArgs false

/-! ### kernels_roundToMultipleInt64: function 48 -/
mutual
def kernels_roundToMultipleInt64.j0 : Nat → Int → Int → Int → Bool → Bool → Option (Int)
 | 0, _, _, _, _, _ => none
 | k + 1, x0, x1, x2, x3, x20 => if x20 = true then (if x3 = true then (if x2 = 1 then (some (wrap64 (x0 + x1))) else (some x0)) else (some x0)) else (if x1 = 0 then (none) else (if x2 = 0 then (if (Int.tmod x0 x1) < 0 then (some (wrap64 ((wrap64 ((wrap64 (Int.tdiv x0 x1)) - 1)) * x1))) else (some (wrap64 ((wrap64 (Int.tdiv x0 x1)) * x1)))) else (if x2 = 1 then (if (Int.tmod x0 x1) > 0 then (kernels_roundToMultipleInt64.j1 k x1 (wrap64 (Int.tdiv x0 x1)) (Int.tmod x0 x1) true) else (if x3 = true then (kernels_roundToMultipleInt64.j1 k x1 (wrap64 (Int.tdiv x0 x1)) (Int.tmod x0 x1) ((Int.tmod x0 x1) == 0)) else (kernels_roundToMultipleInt64.j1 k x1 (wrap64 (Int.tdiv x0 x1)) (Int.tmod x0 x1) false))) else (if x2 = 5 then (kernels_roundToMultipleInt64.j2 k x1 x2 (wrap64 (Int.tdiv x0 x1)) (Int.tmod x0 x1) (x2 == 5)) else (if x2 = 4 then (kernels_roundToMultipleInt64.j2 k x1 x2 (wrap64 (Int.tdiv x0 x1)) (Int.tmod x0 x1) (x2 == 4)) else (kernels_roundToMultipleInt64.j2 k x1 x2 (wrap64 (Int.tdiv x0 x1)) (Int.tmod x0 x1) (x2 == 8)))))))
def kernels_roundToMultipleInt64.j1 : Nat → Int → Int → Int → Bool → Option (Int)
 | 0, _, _, _, _ => none
 | k + 1, x1, x9, x10, x58 => if x58 = true then (some (wrap64 ((wrap64 (x9 + 1)) * x1))) else (if x10 < 0 then (some (wrap64 (x9 * x1))) else (some (wrap64 ((wrap64 (x9 + 1)) * x1))))
def kernels_roundToMultipleInt64.j2 : Nat → Int → Int → Int → Int → Bool → Option (Int)
 | 0, _, _, _, _, _ => none
 | k + 1, x1, x2, x9, x10, x72 => if x72 = true then (if x10 < 0 then (kernels_roundToMultipleInt64.j3 k x1 x2 x9 x10 (wrap64 (Int.tdiv x1 2)) (wrap64 (-x10))) else (kernels_roundToMultipleInt64.j3 k x1 x2 x9 x10 (wrap64 (Int.tdiv x1 2)) x10)) else (some (wrap64 (x9 * x1)))
def kernels_roundToMultipleInt64.j3 : Nat → Int → Int → Int → Int → Int → Int → Option (Int)
 | 0, _, _, _, _, _, _ => none
 | k + 1, x1, x2, x9, x10, x11, x12 => if x12 < x11 then (kernels_roundToMultipleInt64.j4 k x1 x2 x9 x10 x11 x12 true) else (if (Int.tmod x1 2) = 0 then (kernels_roundToMultipleInt64.j4 k x1 x2 x9 x10 x11 x12 false) else (kernels_roundToMultipleInt64.j4 k x1 x2 x9 x10 x11 x12 (x12 == x11)))
def kernels_roundToMultipleInt64.j4 : Nat → Int → Int → Int → Int → Int → Int → Bool → Option (Int)
 | 0, _, _, _, _, _, _, _ => none
 | k + 1, x1, x2, x9, x10, x11, x12, x95 => if x95 = true then (some (wrap64 (x9 * x1))) else (if x12 > x11 then (if x10 > 0 then (some (wrap64 ((wrap64 (x9 + 1)) * x1))) else (some (wrap64 ((wrap64 (x9 - 1)) * x1)))) else (if x2 = 4 then (if x10 > 0 then (some (wrap64 (x9 * x1))) else (some (wrap64 ((wrap64 (x9 - 1)) * x1)))) else (if x2 = 5 then (if x10 > 0 then (some (wrap64 ((wrap64 (x9 + 1)) * x1))) else (some (wrap64 (x9 * x1)))) else (if x2 = 8 then (if (Int.tmod x9 2) = 0 then (some (wrap64 (x9 * x1))) else (if x10 > 0 then (some (wrap64 ((wrap64 (x9 + 1)) * x1))) else (some (wrap64 ((wrap64 (x9 - 1)) * x1))))) else (some (wrap64 (x9 * x1)))))))
end
def kernels_roundToMultipleInt64.f (k : Nat) (a0 : Int) (a1 : Int) (a2 : Int) (a3 : Bool) : Option (Int) := if a1 = 0 then (kernels_roundToMultipleInt64.j0 k a0 a1 a2 a3 true) else (kernels_roundToMultipleInt64.j0 k a0 a1 a2 a3 ((Int.tmod a0 a1) == 0))
theorem kernels_roundToMultipleInt64.mono_l : ∀ k, (∀ y0 y1 y2 y3 y4, LeO (kernels_roundToMultipleInt64.j0 k y0 y1 y2 y3 y4) (kernels_roundToMultipleInt64.j0 (k + 1) y0 y1 y2 y3 y4)) ∧ (∀ y0 y1 y2 y3, LeO (kernels_roundToMultipleInt64.j1 k y0 y1 y2 y3) (kernels_roundToMultipleInt64.j1 (k + 1) y0 y1 y2 y3)) ∧ (∀ y0 y1 y2 y3 y4, LeO (kernels_roundToMultipleInt64.j2 k y0 y1 y2 y3 y4) (kernels_roundToMultipleInt64.j2 (k + 1) y0 y1 y2 y3 y4)) ∧ (∀ y0 y1 y2 y3 y4 y5, LeO (kernels_roundToMultipleInt64.j3 k y0 y1 y2 y3 y4 y5) (kernels_roundToMultipleInt64.j3 (k + 1) y0 y1 y2 y3 y4 y5)) ∧ (∀ y0 y1 y2 y3 y4 y5 y6, LeO (kernels_roundToMultipleInt64.j4 k y0 y1 y2 y3 y4 y5 y6) (kernels_roundToMultipleInt64.j4 (k + 1) y0 y1 y2 y3 y4 y5 y6))
 | 0 => ⟨fun _ _ _ _ _ r h => by simp [kernels_roundToMultipleInt64.j0] at h, fun _ _ _ _ r h => by simp [kernels_roundToMultipleInt64.j1] at h, fun _ _ _ _ _ r h => by simp [kernels_roundToMultipleInt64.j2] at h, fun _ _ _ _ _ _ r h => by simp [kernels_roundToMultipleInt64.j3] at h, fun _ _ _ _ _ _ _ r h => by simp [kernels_roundToMultipleInt64.j4] at h⟩
 | k + 1 => by
  obtain ⟨ih0, ih1, ih2, ih3, ih4⟩ := kernels_roundToMultipleInt64.mono_l k
  refine ⟨?_, ?_, ?_, ?_, ?_⟩
  ·intro y0 y1 y2 y3 y4
   unfold kernels_roundToMultipleInt64.j0
   repeat' first
   | (with_reducible exact ih0 _ _ _ _ _)
   | (with_reducible exact ih1 _ _ _ _)
   | (with_reducible exact ih2 _ _ _ _ _)
   | (with_reducible exact ih3 _ _ _ _ _ _)
   | (with_reducible exact ih4 _ _ _ _ _ _ _)
   | (with_reducible exact LeO.refl _)
   | (with_reducible exact LeO.none _)
   | (with_reducible refine LeO.ite ?_ ?_)
   | (with_reducible refine LeO.bind ?_ (fun _ => ?_))
   | exact ih0 _ _ _ _ _
   | exact ih1 _ _ _ _
   | exact ih2 _ _ _ _ _
   | exact ih3 _ _ _ _ _ _
   | exact ih4 _ _ _ _ _ _ _
   | exact LeO.none _
   | refine LeO.ite ?_ ?_
   | refine LeO.bind ?_ (fun _ => ?_)
  ·intro y0 y1 y2 y3
   unfold kernels_roundToMultipleInt64.j1
   repeat' first
   | (with_reducible exact ih0 _ _ _ _ _)
   | (with_reducible exact ih1 _ _ _ _)
   | (with_reducible exact ih2 _ _ _ _ _)
   | (with_reducible exact ih3 _ _ _ _ _ _)
   | (with_reducible exact ih4 _ _ _ _ _ _ _)
   | (with_reducible exact LeO.refl _)
   | (with_reducible exact LeO.none _)
   | (with_reducible refine LeO.ite ?_ ?_)
   | (with_reducible refine LeO.bind ?_ (fun _ => ?_))
   | exact ih0 _ _ _ _ _
   | exact ih1 _ _ _ _
   | exact ih2 _ _ _ _ _
   | exact ih3 _ _ _ _ _ _
   | exact ih4 _ _ _ _ _ _ _
   | exact LeO.none _
   | refine LeO.ite ?_ ?_
   | refine LeO.bind ?_ (fun _ => ?_)
  ·intro y0 y1 y2 y3 y4
   unfold kernels_roundToMultipleInt64.j2
   repeat' first
   | (with_reducible exact ih0 _ _ _ _ _)
   | (with_reducible exact ih1 _ _ _ _)
   | (with_reducible exact ih2 _ _ _ _ _)
   | (with_reducible exact ih3 _ _ _ _ _ _)
   | (with_reducible exact ih4 _ _ _ _ _ _ _)
   | (with_reducible exact LeO.refl _)
   | (with_reducible exact LeO.none _)
   | (with_reducible refine LeO.ite ?_ ?_)
   | (with_reducible refine LeO.bind ?_ (fun _ => ?_))
   | exact ih0 _ _ _ _ _
   | exact ih1 _ _ _ _
   | exact ih2 _ _ _ _ _
   | exact ih3 _ _ _ _ _ _
   | exact ih4 _ _ _ _ _ _ _
   | exact LeO.none _
   | refine LeO.ite ?_ ?_
   | refine LeO.bind ?_ (fun _ => ?_)
  ·intro y0 y1 y2 y3 y4 y5
   unfold kernels_roundToMultipleInt64.j3
   repeat' first
   | (with_reducible exact ih0 _ _ _ _ _)
   | (with_reducible exact ih1 _ _ _ _)
   | (with_reducible exact ih2 _ _ _ _ _)
   | (with_reducible exact ih3 _ _ _ _ _ _)
   | (with_reducible exact ih4 _ _ _ _ _ _ _)
   | (with_reducible exact LeO.refl _)
   | (with_reducible exact LeO.none _)
   | (with_reducible refine LeO.ite ?_ ?_)
   | (with_reducible refine LeO.bind ?_ (fun _ => ?_))
   | exact ih0 _ _ _ _ _
   | exact ih1 _ _ _ _
   | exact ih2 _ _ _ _ _
   | exact ih3 _ _ _ _ _ _
   | exact ih4 _ _ _ _ _ _ _
   | exact LeO.none _
   | refine LeO.ite ?_ ?_
   | refine LeO.bind ?_ (fun _ => ?_)
  ·intro y0 y1 y2 y3 y4 y5 y6
   unfold kernels_roundToMultipleInt64.j4
   repeat' first
   | (with_reducible exact ih0 _ _ _ _ _)
   | (with_reducible exact ih1 _ _ _ _)
   | (with_reducible exact ih2 _ _ _ _ _)
   | (with_reducible exact ih3 _ _ _ _ _ _)
   | (with_reducible exact ih4 _ _ _ _ _ _ _)
   | (with_reducible exact LeO.refl _)
   | (with_reducible exact LeO.none _)
   | (with_reducible refine LeO.ite ?_ ?_)
   | (with_reducible refine LeO.bind ?_ (fun _ => ?_))
   | exact ih0 _ _ _ _ _
   | exact ih1 _ _ _ _
   | exact ih2 _ _ _ _ _
   | exact ih3 _ _ _ _ _ _
   | exact ih4 _ _ _ _ _ _ _
   | exact LeO.none _
   | refine LeO.ite ?_ ?_
   | refine LeO.bind ?_ (fun _ => ?_)
theorem kernels_roundToMultipleInt64.mono : ∀ a0 a1 a2 a3 k, LeO (kernels_roundToMultipleInt64.f k a0 a1 a2 a3) (kernels_roundToMultipleInt64.f (k + 1) a0 a1 a2 a3) := by
 intro a0 a1 a2 a3 k
 obtain ⟨ih0, ih1, ih2, ih3, ih4⟩ := kernels_roundToMultipleInt64.mono_l k
 unfold kernels_roundToMultipleInt64.f
 repeat' first
   | (with_reducible exact ih0 _ _ _ _ _)
   | (with_reducible exact ih1 _ _ _ _)
   | (with_reducible exact ih2 _ _ _ _ _)
   | (with_reducible exact ih3 _ _ _ _ _ _)
   | (with_reducible exact ih4 _ _ _ _ _ _ _)
   | (with_reducible exact LeO.refl _)
   | (with_reducible exact LeO.none _)
   | (with_reducible refine LeO.ite ?_ ?_)
   | (with_reducible refine LeO.bind ?_ (fun _ => ?_))
   | exact ih0 _ _ _ _ _
   | exact ih1 _ _ _ _
   | exact ih2 _ _ _ _ _
   | exact ih3 _ _ _ _ _ _
   | exact ih4 _ _ _ _ _ _ _
   | exact LeO.none _
   | refine LeO.ite ?_ ?_
   | refine LeO.bind ?_ (fun _ => ?_)
set_option maxHeartbeats 8000000 in
set_option maxRecDepth 100000 in
theorem kernels_roundToMultipleInt64.calls (k : Nat) (a0 : Int) (a1 : Int) (a2 : Int) (a3 : Bool) (r : Int) (w : World) (h : kernels_roundToMultipleInt64.f k a0 a1 a2 a3 = some r) :
  Calls Try.prog 48 #[.int .i64 a0, .int .i64 a1, .int .i8 a2, .bool a3] w fun e w' => e = .returned (.int .i64 r) ∧ Drawn0 w w' := by
 have H : (if a1 = 0 then (kernels_roundToMultipleInt64.j0 k a0 a1 a2 a3 true) else (kernels_roundToMultipleInt64.j0 k a0 a1 a2 a3 ((Int.tmod a0 a1) == 0))) = some r := h
 clear h
 have HC5 := qaM H
 clear H
 go_enter Try.func48, Try.ntmps48
 go_upto_region 1 with (fail)
 go_cut [20] (fun v20 wc => ∃ (kq : Nat) (x20_4 : Bool), v20 = .bool x20_4 ∧ Aside0 (kernels_roundToMultipleInt64.j0 kq a0 a1 a2 a3 x20_4 = some r) ∧ Aside0 (kq ≤ k) ∧ Drawn0 w wc)
 case first =>
  have H := HC5.out
  clear HC5
  by_cases c6 : a1 = 0
  ·rw [if_pos c6] at H
   have c6b0 : (a1 == 0) = true := beq_iff_eq.mpr c6
   have c6b1 : (a1 != 0) = false := bne_eq_false_iff_eq.mpr c6
   clear c6
   (first | rw [c6b0] | (simp only [i64_w, i32_w]; rw [c6b0]) | skip)
   have H' := qaM H
   clear H
   go_wp2
   go_meet
   case rel => exact ⟨_, (true), (by first | rfl | (simp; done) | (simp [*]; done)), H', ⟨by first | omega | exact Nat.le_refl _⟩, by repeat (first | exact Drawn0.refl _ | apply Drawn0.step)⟩
  ·rw [if_neg c6] at H
   have c6b0 : (a1 == 0) = false := beq_eq_false_iff_ne.mpr c6
   have c6b1 : (a1 != 0) = true := bne_iff_ne.mpr c6
   (first | rw [c6b0] | (simp only [i64_w, i32_w]; rw [c6b0]) | skip)
   have H' := qaM H
   clear H
   go_wp2
   go_meet
   case rel => exact ⟨_, (((Int.tmod a0 a1) == 0)), (by first | rfl | (simp; done) | (simp [*]; done)), H', ⟨by first | omega | exact Nat.le_refl _⟩, by repeat (first | exact Drawn0.refl _ | apply Drawn0.step)⟩
 case rest =>
  clear HC5
  try clear p2
  try clear c4
  try clear c6
  try clear c6b0
  try clear c6b1
  obtain ⟨kq, x20_4, rfl, HA, HJ4, ⟨mc4, rfl⟩⟩ := hcut
  cases kq with
  | zero => exact absurd HA.out (by simp [kernels_roundToMultipleInt64.j0])
  | succ kj4 =>
   have H := HA.out
   clear HA
   simp only [kernels_roundToMultipleInt64.j0] at H
   by_cases c7 : x20_4 = true
   ·subst c7
    have H1 : (if a3 = true then (if a2 = 1 then (some (wrap64 (a0 + a1))) else (some a0)) else (some a0)) = some r := by rw [if_pos rfl] at H; exact H
    clear H
    have H := H1
    clear H1
    by_cases c8 : a3 = true
    ·subst c8
     have H1 : (if a2 = 1 then (some (wrap64 (a0 + a1))) else (some a0)) = some r := by rw [if_pos rfl] at H; exact H
     clear H
     have H := H1
     clear H1
     by_cases c9 : a2 = 1
     ·rw [if_pos c9] at H
      have c9b0 : (a2 == 1) = true := beq_iff_eq.mpr c9
      have c9b1 : (a2 != 1) = false := bne_eq_false_iff_eq.mpr c9
      clear c9
      obtain rfl := Option.some.inj H
      go_wp2
      go_ret
      exact ⟨by first | rfl | (simp; done) | (simp [*]; done), by repeat (first | exact Drawn0.refl _ | apply Drawn0.step)⟩
     ·rw [if_neg c9] at H
      have c9b0 : (a2 == 1) = false := beq_eq_false_iff_ne.mpr c9
      have c9b1 : (a2 != 1) = true := bne_iff_ne.mpr c9
      obtain rfl := Option.some.inj H
      go_wp2
      go_ret
      exact ⟨by first | rfl | (simp; done) | (simp [*]; done), by repeat (first | exact Drawn0.refl _ | apply Drawn0.step)⟩
    ·replace c8 := Bool.eq_false_iff.mpr c8
     subst c8
     have H1 : (some a0) = some r := by rw [if_neg (show ¬ (false = true) by decide)] at H; exact H
     clear H
     have H := H1
     clear H1
     obtain rfl := Option.some.inj H
     go_wp2
     go_ret
     exact ⟨by first | rfl | (simp; done) | (simp [*]; done), by repeat (first | exact Drawn0.refl _ | apply Drawn0.step)⟩
   ·replace c7 := Bool.eq_false_iff.mpr c7
    subst c7
    have H1 : (if a1 = 0 then (none) else (if a2 = 0 then (if (Int.tmod a0 a1) < 0 then (some (wrap64 ((wrap64 ((wrap64 (Int.tdiv a0 a1)) - 1)) * a1))) else (some (wrap64 ((wrap64 (Int.tdiv a0 a1)) * a1)))) else (if a2 = 1 then (if (Int.tmod a0 a1) > 0 then (kernels_roundToMultipleInt64.j1 kj4 a1 (wrap64 (Int.tdiv a0 a1)) (Int.tmod a0 a1) true) else (if a3 = true then (kernels_roundToMultipleInt64.j1 kj4 a1 (wrap64 (Int.tdiv a0 a1)) (Int.tmod a0 a1) ((Int.tmod a0 a1) == 0)) else (kernels_roundToMultipleInt64.j1 kj4 a1 (wrap64 (Int.tdiv a0 a1)) (Int.tmod a0 a1) false))) else (if a2 = 5 then (kernels_roundToMultipleInt64.j2 kj4 a1 a2 (wrap64 (Int.tdiv a0 a1)) (Int.tmod a0 a1) (a2 == 5)) else (if a2 = 4 then (kernels_roundToMultipleInt64.j2 kj4 a1 a2 (wrap64 (Int.tdiv a0 a1)) (Int.tmod a0 a1) (a2 == 4)) else (kernels_roundToMultipleInt64.j2 kj4 a1 a2 (wrap64 (Int.tdiv a0 a1)) (Int.tmod a0 a1) (a2 == 8))))))) = some r := by rw [if_neg (show ¬ (false = true) by decide)] at H; exact H
    clear H
    have H := H1
    clear H1
    by_cases c10 : a1 = 0
    ·rw [if_pos c10] at H
     exact absurd H (by simp)
    ·rw [if_neg c10] at H
     have c10b0 : (a1 == 0) = false := beq_eq_false_iff_ne.mpr c10
     have c10b1 : (a1 != 0) = true := bne_iff_ne.mpr c10
     by_cases c11 : a2 = 0
     ·rw [if_pos c11] at H
      have c11b0 : (a2 == 0) = true := beq_iff_eq.mpr c11
      have c11b1 : (a2 != 0) = false := bne_eq_false_iff_eq.mpr c11
      clear c11
      by_cases c12 : (Int.tmod a0 a1) < 0
      ·rw [if_pos c12] at H
       have c12b0 : decide ((Int.tmod a0 a1) < 0) = true := decide_eq_true c12
       clear c12
       obtain rfl := Option.some.inj H
       go_wp2
       go_ret
       exact ⟨by first | rfl | (simp; done) | (simp [*]; done), by repeat (first | exact Drawn0.refl _ | apply Drawn0.step)⟩
      ·rw [if_neg c12] at H
       have c12b0 : decide ((Int.tmod a0 a1) < 0) = false := decide_eq_false c12
       clear c12
       obtain rfl := Option.some.inj H
       go_wp2
       go_ret
       exact ⟨by first | rfl | (simp; done) | (simp [*]; done), by repeat (first | exact Drawn0.refl _ | apply Drawn0.step)⟩
     ·rw [if_neg c11] at H
      have c11b0 : (a2 == 0) = false := beq_eq_false_iff_ne.mpr c11
      have c11b1 : (a2 != 0) = true := bne_iff_ne.mpr c11
      by_cases c13 : a2 = 1
      ·rw [if_pos c13] at H
       have c13b0 : (a2 == 1) = true := beq_iff_eq.mpr c13
       have c13b1 : (a2 != 1) = false := bne_eq_false_iff_eq.mpr c13
       clear c13
       have HC14 := qaM H
       clear H
       go_upto_region 13 with (fail)
       go_cut [58] (fun v58 wc => ∃ (kq : Nat) (x58_13 : Bool), v58 = .bool x58_13 ∧ Aside0 (kernels_roundToMultipleInt64.j1 kq a1 (wrap64 (Int.tdiv a0 a1)) (Int.tmod a0 a1) x58_13 = some r) ∧ Aside0 (kq ≤ kj4) ∧ Drawn0 w wc)
       case first =>
        have H := HC14.out
        clear HC14
        by_cases c15 : (Int.tmod a0 a1) > 0
        ·rw [if_pos c15] at H
         have c15b0 : decide (0 < (Int.tmod a0 a1)) = true := decide_eq_true c15
         clear c15
         (first | rw [c15b0] | (simp only [i64_w, i32_w]; rw [c15b0]) | skip)
         have H' := qaM H
         clear H
         go_wp2
         go_meet
         case rel => exact ⟨_, (true), (by first | rfl | (simp; done) | (simp [*]; done)), H', ⟨by have := HJ4.out; first | omega | exact Nat.le_refl _⟩, by repeat (first | exact Drawn0.refl _ | apply Drawn0.step)⟩
        ·rw [if_neg c15] at H
         have c15b0 : decide (0 < (Int.tmod a0 a1)) = false := decide_eq_false c15
         clear c15
         (first | rw [c15b0] | (simp only [i64_w, i32_w]; rw [c15b0]) | skip)
         by_cases c16 : a3 = true
         ·subst c16
          have H1 : (kernels_roundToMultipleInt64.j1 kj4 a1 (wrap64 (Int.tdiv a0 a1)) (Int.tmod a0 a1) ((Int.tmod a0 a1) == 0)) = some r := by rw [if_pos rfl] at H; exact H
          clear H
          have H := H1
          clear H1
          have H' := qaM H
          clear H
          go_wp2
          go_meet
          case rel => exact ⟨_, (((Int.tmod a0 a1) == 0)), (by first | rfl | (simp; done) | (simp [*]; done)), H', ⟨by have := HJ4.out; first | omega | exact Nat.le_refl _⟩, by repeat (first | exact Drawn0.refl _ | apply Drawn0.step)⟩
         ·replace c16 := Bool.eq_false_iff.mpr c16
          subst c16
          have H1 : (kernels_roundToMultipleInt64.j1 kj4 a1 (wrap64 (Int.tdiv a0 a1)) (Int.tmod a0 a1) false) = some r := by rw [if_neg (show ¬ (false = true) by decide)] at H; exact H
          clear H
          have H := H1
          clear H1
          have H' := qaM H
          clear H
          go_wp2
          go_meet
          case rel => exact ⟨_, (false), (by first | rfl | (simp; done) | (simp [*]; done)), H', ⟨by have := HJ4.out; first | omega | exact Nat.le_refl _⟩, by repeat (first | exact Drawn0.refl _ | apply Drawn0.step)⟩
       case rest =>
        clear HC14
        try clear c1
        try clear p2
        try clear c4
        try clear c6
        try clear c6b0
        try clear c6b1
        try clear p6
        try clear c7
        try clear c8
        try clear c9
        try clear c9b0
        try clear c9b1
        try clear c10
        try clear c10b0
        try clear c10b1
        try clear c11
        try clear c11b0
        try clear c11b1
        try clear c12
        try clear c12b0
        try clear c13
        try clear c13b0
        try clear c13b1
        try clear c15
        try clear c15b0
        try clear c16
        try clear p2
        obtain ⟨kq, x58_13, rfl, HA, HJ13, ⟨mc13, rfl⟩⟩ := hcut
        cases kq with
        | zero => exact absurd HA.out (by simp [kernels_roundToMultipleInt64.j1])
        | succ kj13 =>
         have H := HA.out
         clear HA
         simp only [kernels_roundToMultipleInt64.j1] at H
         by_cases c17 : x58_13 = true
         ·subst c17
          have H1 : (some (wrap64 ((wrap64 ((wrap64 (Int.tdiv a0 a1)) + 1)) * a1))) = some r := by rw [if_pos rfl] at H; exact H
          clear H
          have H := H1
          clear H1
          obtain rfl := Option.some.inj H
          go_wp2
          go_ret
          exact ⟨by first | rfl | (simp; done) | (simp [*]; done), by repeat (first | exact Drawn0.refl _ | apply Drawn0.step)⟩
         ·replace c17 := Bool.eq_false_iff.mpr c17
          subst c17
          have H1 : (if (Int.tmod a0 a1) < 0 then (some (wrap64 ((wrap64 (Int.tdiv a0 a1)) * a1))) else (some (wrap64 ((wrap64 ((wrap64 (Int.tdiv a0 a1)) + 1)) * a1)))) = some r := by rw [if_neg (show ¬ (false = true) by decide)] at H; exact H
          clear H
          have H := H1
          clear H1
          by_cases c18 : (Int.tmod a0 a1) < 0
          ·rw [if_pos c18] at H
           have c18b0 : decide ((Int.tmod a0 a1) < 0) = true := decide_eq_true c18
           clear c18
           obtain rfl := Option.some.inj H
           go_wp2
           go_ret
           exact ⟨by first | rfl | (simp; done) | (simp [*]; done), by repeat (first | exact Drawn0.refl _ | apply Drawn0.step)⟩
          ·rw [if_neg c18] at H
           have c18b0 : decide ((Int.tmod a0 a1) < 0) = false := decide_eq_false c18
           clear c18
           obtain rfl := Option.some.inj H
           go_wp2
           go_ret
           exact ⟨by first | rfl | (simp; done) | (simp [*]; done), by repeat (first | exact Drawn0.refl _ | apply Drawn0.step)⟩
      ·rw [if_neg c13] at H
       have c13b0 : (a2 == 1) = false := beq_eq_false_iff_ne.mpr c13
       have c13b1 : (a2 != 1) = true := bne_iff_ne.mpr c13
       have HC19 := qaM H
       clear H
       go_upto_if 72 with (fail)
       go_cut [72] (fun v72 wc => ∃ (kq : Nat) (x72_18 : Bool), v72 = .bool x72_18 ∧ Aside0 (kernels_roundToMultipleInt64.j2 kq a1 a2 (wrap64 (Int.tdiv a0 a1)) (Int.tmod a0 a1) x72_18 = some r) ∧ Aside0 (kq ≤ kj4) ∧ Drawn0 w wc)
       case first =>
        have H := HC19.out
        clear HC19
        by_cases c20 : a2 = 5
        ·rw [if_pos c20] at H
         have c20b0 : (a2 == 5) = true := beq_iff_eq.mpr c20
         have c20b1 : (a2 != 5) = false := bne_eq_false_iff_eq.mpr c20
         clear c20
         (first | rw [c20b0] | (simp only [i64_w, i32_w]; rw [c20b0]) | skip)
         have H' := qaM H
         clear H
         go_wp2
         go_meet
         case rel => exact ⟨_, ((a2 == 5)), (by first | rfl | (simp; done) | (simp [*]; done)), H', ⟨by have := HJ4.out; first | omega | exact Nat.le_refl _⟩, by repeat (first | exact Drawn0.refl _ | apply Drawn0.step)⟩
        ·rw [if_neg c20] at H
         have c20b0 : (a2 == 5) = false := beq_eq_false_iff_ne.mpr c20
         have c20b1 : (a2 != 5) = true := bne_iff_ne.mpr c20
         (first | rw [c20b0] | (simp only [i64_w, i32_w]; rw [c20b0]) | skip)
         by_cases c21 : a2 = 4
         ·rw [if_pos c21] at H
          have c21b0 : (a2 == 4) = true := beq_iff_eq.mpr c21
          have c21b1 : (a2 != 4) = false := bne_eq_false_iff_eq.mpr c21
          clear c21
          have H' := qaM H
          clear H
          go_wp2
          go_meet
          case rel => exact ⟨_, ((a2 == 4)), (by first | rfl | (simp; done) | (simp [*]; done)), H', ⟨by have := HJ4.out; first | omega | exact Nat.le_refl _⟩, by repeat (first | exact Drawn0.refl _ | apply Drawn0.step)⟩
         ·rw [if_neg c21] at H
          have c21b0 : (a2 == 4) = false := beq_eq_false_iff_ne.mpr c21
          have c21b1 : (a2 != 4) = true := bne_iff_ne.mpr c21
          have H' := qaM H
          clear H
          go_wp2
          go_meet
          case rel => exact ⟨_, ((a2 == 8)), (by first | rfl | (simp; done) | (simp [*]; done)), H', ⟨by have := HJ4.out; first | omega | exact Nat.le_refl _⟩, by repeat (first | exact Drawn0.refl _ | apply Drawn0.step)⟩
       case rest =>
        clear HC19
        try clear c1
        try clear c2
        try clear p2
        try clear c4
        try clear c6
        try clear c6b0
        try clear c6b1
        try clear p6
        try clear c7
        try clear c8
        try clear c9
        try clear c9b0
        try clear c9b1
        try clear c10
        try clear c10b0
        try clear c10b1
        try clear c11
        try clear c11b0
        try clear c11b1
        try clear c12
        try clear c12b0
        try clear c13
        try clear c13b0
        try clear c13b1
        try clear c15
        try clear c15b0
        try clear c16
        try clear c17
        try clear c18
        try clear c18b0
        try clear c20
        try clear c20b0
        try clear c20b1
        try clear c21
        try clear c21b0
        try clear c21b1
        try clear p2
        try clear p6
        obtain ⟨kq, x72_18, rfl, HA, HJ18, ⟨mc18, rfl⟩⟩ := hcut
        cases kq with
        | zero => exact absurd HA.out (by simp [kernels_roundToMultipleInt64.j2])
        | succ kj18 =>
         have H := HA.out
         clear HA
         simp only [kernels_roundToMultipleInt64.j2] at H
         by_cases c22 : x72_18 = true
         ·subst c22
          have H1 : (if (Int.tmod a0 a1) < 0 then (kernels_roundToMultipleInt64.j3 kj18 a1 a2 (wrap64 (Int.tdiv a0 a1)) (Int.tmod a0 a1) (wrap64 (Int.tdiv a1 2)) (wrap64 (-(Int.tmod a0 a1)))) else (kernels_roundToMultipleInt64.j3 kj18 a1 a2 (wrap64 (Int.tdiv a0 a1)) (Int.tmod a0 a1) (wrap64 (Int.tdiv a1 2)) (Int.tmod a0 a1))) = some r := by rw [if_pos rfl] at H; exact H
          clear H
          have H := H1
          clear H1
          have HC23 := qaM H
          clear H
          go_upto_if 80 with (fail)
          go_cut [12] (fun v12 wc => ∃ (kq : Nat) (x12_22 : Int), v12 = .int .i64 x12_22 ∧ Aside0 (kernels_roundToMultipleInt64.j3 kq a1 a2 (wrap64 (Int.tdiv a0 a1)) (Int.tmod a0 a1) (wrap64 (Int.tdiv a1 2)) x12_22 = some r) ∧ Aside0 (kq ≤ kj18) ∧ Drawn0 w wc)
          case first =>
           have H := HC23.out
           clear HC23
           by_cases c24 : (Int.tmod a0 a1) < 0
           ·rw [if_pos c24] at H
            have c24b0 : decide ((Int.tmod a0 a1) < 0) = true := decide_eq_true c24
            clear c24
            (first | rw [c24b0] | (simp only [i64_w, i32_w]; rw [c24b0]) | skip)
            have H' := qaM H
            clear H
            go_wp2
            go_meet
            case rel => exact ⟨_, (wrap64 (-(Int.tmod a0 a1))), (by first | rfl | (simp; done) | (simp [*]; done)), H', ⟨by have := HJ4.out; have := HJ18.out; first | omega | exact Nat.le_refl _⟩, by repeat (first | exact Drawn0.refl _ | apply Drawn0.step)⟩
           ·rw [if_neg c24] at H
            have c24b0 : decide ((Int.tmod a0 a1) < 0) = false := decide_eq_false c24
            clear c24
            (first | rw [c24b0] | (simp only [i64_w, i32_w]; rw [c24b0]) | skip)
            have H' := qaM H
            clear H
            go_wp2
            go_meet
            case rel => exact ⟨_, ((Int.tmod a0 a1)), (by first | rfl | (simp; done) | (simp [*]; done)), H', ⟨by have := HJ4.out; have := HJ18.out; first | omega | exact Nat.le_refl _⟩, by repeat (first | exact Drawn0.refl _ | apply Drawn0.step)⟩
          case rest =>
           clear HC23
           try clear c1
           try clear c2
           try clear p2
           try clear c4
           try clear c6
           try clear c6b0
           try clear c6b1
           try clear p6
           try clear c7
           try clear c8
           try clear c9
           try clear c9b0
           try clear c9b1
           try clear c10
           try clear c10b0
           try clear c10b1
           try clear c11
           try clear c11b0
           try clear c11b1
           try clear c12
           try clear c12b0
           try clear c13
           try clear c13b0
           try clear c13b1
           try clear c15
           try clear c15b0
           try clear c16
           try clear c17
           try clear c18
           try clear c18b0
           try clear c20
           try clear c20b0
           try clear c20b1
           try clear c21
           try clear c21b0
           try clear c21b1
           try clear c22
           try clear c24
           try clear c24b0
           try clear p2
           try clear p6
           obtain ⟨kq, x12_22, rfl, HA, HJ22, ⟨mc22, rfl⟩⟩ := hcut
           cases kq with
           | zero => exact absurd HA.out (by simp [kernels_roundToMultipleInt64.j3])
           | succ kj22 =>
            have H := HA.out
            clear HA
            simp only [kernels_roundToMultipleInt64.j3] at H
            have HC25 := qaM H
            clear H
            go_upto_region 25 with (fail)
            go_cut [95] (fun v95 wc => ∃ (kq : Nat) (x95_24 : Bool), v95 = .bool x95_24 ∧ Aside0 (kernels_roundToMultipleInt64.j4 kq a1 a2 (wrap64 (Int.tdiv a0 a1)) (Int.tmod a0 a1) (wrap64 (Int.tdiv a1 2)) x12_22 x95_24 = some r) ∧ Aside0 (kq ≤ kj22) ∧ Drawn0 w wc)
            case first =>
             have H := HC25.out
             clear HC25
             by_cases c26 : x12_22 < (wrap64 (Int.tdiv a1 2))
             ·rw [if_pos c26] at H
              have c26b0 : decide (x12_22 < (wrap64 (Int.tdiv a1 2))) = true := decide_eq_true c26
              clear c26
              (first | rw [c26b0] | (simp only [i64_w, i32_w]; rw [c26b0]) | skip)
              have H' := qaM H
              clear H
              go_wp2
              go_meet
              case rel => exact ⟨_, (true), (by first | rfl | (simp; done) | (simp [*]; done)), H', ⟨by have := HJ4.out; have := HJ18.out; have := HJ22.out; first | omega | exact Nat.le_refl _⟩, by repeat (first | exact Drawn0.refl _ | apply Drawn0.step)⟩
             ·rw [if_neg c26] at H
              have c26b0 : decide (x12_22 < (wrap64 (Int.tdiv a1 2))) = false := decide_eq_false c26
              clear c26
              (first | rw [c26b0] | (simp only [i64_w, i32_w]; rw [c26b0]) | skip)
              by_cases c27 : (Int.tmod a1 2) = 0
              ·rw [if_pos c27] at H
               have c27b0 : ((Int.tmod a1 2) == 0) = true := beq_iff_eq.mpr c27
               have c27b1 : ((Int.tmod a1 2) != 0) = false := bne_eq_false_iff_eq.mpr c27
               clear c27
               have H' := qaM H
               clear H
               go_wp2
               go_meet
               case rel => exact ⟨_, (false), (by first | rfl | (simp; done) | (simp [*]; done)), H', ⟨by have := HJ4.out; have := HJ18.out; have := HJ22.out; first | omega | exact Nat.le_refl _⟩, by repeat (first | exact Drawn0.refl _ | apply Drawn0.step)⟩
              ·rw [if_neg c27] at H
               have c27b0 : ((Int.tmod a1 2) == 0) = false := beq_eq_false_iff_ne.mpr c27
               have c27b1 : ((Int.tmod a1 2) != 0) = true := bne_iff_ne.mpr c27
               have H' := qaM H
               clear H
               go_wp2
               go_meet
               case rel => exact ⟨_, ((x12_22 == (wrap64 (Int.tdiv a1 2)))), (by first | rfl | (simp; done) | (simp [*]; done)), H', ⟨by have := HJ4.out; have := HJ18.out; have := HJ22.out; first | omega | exact Nat.le_refl _⟩, by repeat (first | exact Drawn0.refl _ | apply Drawn0.step)⟩
            case rest =>
             clear HC25
             try clear c1
             try clear c2
             try clear p2
             try clear c4
             try clear c6
             try clear c6b0
             try clear c6b1
             try clear p6
             try clear c7
             try clear c8
             try clear c9
             try clear c9b0
             try clear c9b1
             try clear c10
             try clear c10b0
             try clear c10b1
             try clear c11
             try clear c11b0
             try clear c11b1
             try clear c12
             try clear c12b0
             try clear c13
             try clear c13b0
             try clear c13b1
             try clear c15
             try clear c15b0
             try clear c16
             try clear c17
             try clear c18
             try clear c18b0
             try clear c20
             try clear c20b0
             try clear c20b1
             try clear c21
             try clear c21b0
             try clear c21b1
             try clear c22
             try clear c24
             try clear c24b0
             try clear c26
             try clear c26b0
             try clear c27
             try clear c27b0
             try clear c27b1
             try clear p2
             try clear p6
             obtain ⟨kq, x95_24, rfl, HA, HJ24, ⟨mc24, rfl⟩⟩ := hcut
             cases kq with
             | zero => exact absurd HA.out (by simp [kernels_roundToMultipleInt64.j4])
             | succ kj24 =>
              have H := HA.out
              clear HA
              simp only [kernels_roundToMultipleInt64.j4] at H
              by_cases c28 : x95_24 = true
              ·subst c28
               have H1 : (some (wrap64 ((wrap64 (Int.tdiv a0 a1)) * a1))) = some r := by rw [if_pos rfl] at H; exact H
               clear H
               have H := H1
               clear H1
               obtain rfl := Option.some.inj H
               go_wp2
               go_ret
               exact ⟨by first | rfl | (simp; done) | (simp [*]; done), by repeat (first | exact Drawn0.refl _ | apply Drawn0.step)⟩
              ·replace c28 := Bool.eq_false_iff.mpr c28
               subst c28
               have H1 : (if x12_22 > (wrap64 (Int.tdiv a1 2)) then (if (Int.tmod a0 a1) > 0 then (some (wrap64 ((wrap64 ((wrap64 (Int.tdiv a0 a1)) + 1)) * a1))) else (some (wrap64 ((wrap64 ((wrap64 (Int.tdiv a0 a1)) - 1)) * a1)))) else (if a2 = 4 then (if (Int.tmod a0 a1) > 0 then (some (wrap64 ((wrap64 (Int.tdiv a0 a1)) * a1))) else (some (wrap64 ((wrap64 ((wrap64 (Int.tdiv a0 a1)) - 1)) * a1)))) else (if a2 = 5 then (if (Int.tmod a0 a1) > 0 then (some (wrap64 ((wrap64 ((wrap64 (Int.tdiv a0 a1)) + 1)) * a1))) else (some (wrap64 ((wrap64 (Int.tdiv a0 a1)) * a1)))) else (if a2 = 8 then (if (Int.tmod (wrap64 (Int.tdiv a0 a1)) 2) = 0 then (some (wrap64 ((wrap64 (Int.tdiv a0 a1)) * a1))) else (if (Int.tmod a0 a1) > 0 then (some (wrap64 ((wrap64 ((wrap64 (Int.tdiv a0 a1)) + 1)) * a1))) else (some (wrap64 ((wrap64 ((wrap64 (Int.tdiv a0 a1)) - 1)) * a1))))) else (some (wrap64 ((wrap64 (Int.tdiv a0 a1)) * a1))))))) = some r := by rw [if_neg (show ¬ (false = true) by decide)] at H; exact H
               clear H
               have H := H1
               clear H1
               by_cases c29 : x12_22 > (wrap64 (Int.tdiv a1 2))
               ·rw [if_pos c29] at H
                have c29b0 : decide ((wrap64 (Int.tdiv a1 2)) < x12_22) = true := decide_eq_true c29
                clear c29
                by_cases c30 : (Int.tmod a0 a1) > 0
                ·rw [if_pos c30] at H
                 have c30b0 : decide (0 < (Int.tmod a0 a1)) = true := decide_eq_true c30
                 clear c30
                 obtain rfl := Option.some.inj H
                 go_wp2
                 go_ret
                 exact ⟨by first | rfl | (simp; done) | (simp [*]; done), by repeat (first | exact Drawn0.refl _ | apply Drawn0.step)⟩
                ·rw [if_neg c30] at H
                 have c30b0 : decide (0 < (Int.tmod a0 a1)) = false := decide_eq_false c30
                 clear c30
                 obtain rfl := Option.some.inj H
                 go_wp2
                 go_ret
                 exact ⟨by first | rfl | (simp; done) | (simp [*]; done), by repeat (first | exact Drawn0.refl _ | apply Drawn0.step)⟩
               ·rw [if_neg c29] at H
                have c29b0 : decide ((wrap64 (Int.tdiv a1 2)) < x12_22) = false := decide_eq_false c29
                clear c29
                by_cases c31 : a2 = 4
                ·rw [if_pos c31] at H
                 have c31b0 : (a2 == 4) = true := beq_iff_eq.mpr c31
                 have c31b1 : (a2 != 4) = false := bne_eq_false_iff_eq.mpr c31
                 clear c31
                 by_cases c32 : (Int.tmod a0 a1) > 0
                 ·rw [if_pos c32] at H
                  have c32b0 : decide (0 < (Int.tmod a0 a1)) = true := decide_eq_true c32
                  clear c32
                  obtain rfl := Option.some.inj H
                  go_wp2
                  go_ret
                  exact ⟨by first | rfl | (simp; done) | (simp [*]; done), by repeat (first | exact Drawn0.refl _ | apply Drawn0.step)⟩
                 ·rw [if_neg c32] at H
                  have c32b0 : decide (0 < (Int.tmod a0 a1)) = false := decide_eq_false c32
                  clear c32
                  obtain rfl := Option.some.inj H
                  go_wp2
                  go_ret
                  exact ⟨by first | rfl | (simp; done) | (simp [*]; done), by repeat (first | exact Drawn0.refl _ | apply Drawn0.step)⟩
                ·rw [if_neg c31] at H
                 have c31b0 : (a2 == 4) = false := beq_eq_false_iff_ne.mpr c31
                 have c31b1 : (a2 != 4) = true := bne_iff_ne.mpr c31
                 by_cases c33 : a2 = 5
                 ·rw [if_pos c33] at H
                  have c33b0 : (a2 == 5) = true := beq_iff_eq.mpr c33
                  have c33b1 : (a2 != 5) = false := bne_eq_false_iff_eq.mpr c33
                  clear c33
                  by_cases c34 : (Int.tmod a0 a1) > 0
                  ·rw [if_pos c34] at H
                   have c34b0 : decide (0 < (Int.tmod a0 a1)) = true := decide_eq_true c34
                   clear c34
                   obtain rfl := Option.some.inj H
                   go_wp2
                   go_ret
                   exact ⟨by first | rfl | (simp; done) | (simp [*]; done), by repeat (first | exact Drawn0.refl _ | apply Drawn0.step)⟩
                  ·rw [if_neg c34] at H
                   have c34b0 : decide (0 < (Int.tmod a0 a1)) = false := decide_eq_false c34
                   clear c34
                   obtain rfl := Option.some.inj H
                   go_wp2
                   go_ret
                   exact ⟨by first | rfl | (simp; done) | (simp [*]; done), by repeat (first | exact Drawn0.refl _ | apply Drawn0.step)⟩
                 ·rw [if_neg c33] at H
                  have c33b0 : (a2 == 5) = false := beq_eq_false_iff_ne.mpr c33
                  have c33b1 : (a2 != 5) = true := bne_iff_ne.mpr c33
                  by_cases c35 : a2 = 8
                  ·rw [if_pos c35] at H
                   have c35b0 : (a2 == 8) = true := beq_iff_eq.mpr c35
                   have c35b1 : (a2 != 8) = false := bne_eq_false_iff_eq.mpr c35
                   clear c35
                   by_cases c36 : (Int.tmod (wrap64 (Int.tdiv a0 a1)) 2) = 0
                   ·rw [if_pos c36] at H
                    have c36b0 : ((Int.tmod (wrap64 (Int.tdiv a0 a1)) 2) == 0) = true := beq_iff_eq.mpr c36
                    have c36b1 : ((Int.tmod (wrap64 (Int.tdiv a0 a1)) 2) != 0) = false := bne_eq_false_iff_eq.mpr c36
                    clear c36
                    obtain rfl := Option.some.inj H
                    go_wp2
                    go_ret
                    exact ⟨by first | rfl | (simp; done) | (simp [*]; done), by repeat (first | exact Drawn0.refl _ | apply Drawn0.step)⟩
                   ·rw [if_neg c36] at H
                    have c36b0 : ((Int.tmod (wrap64 (Int.tdiv a0 a1)) 2) == 0) = false := beq_eq_false_iff_ne.mpr c36
                    have c36b1 : ((Int.tmod (wrap64 (Int.tdiv a0 a1)) 2) != 0) = true := bne_iff_ne.mpr c36
                    by_cases c37 : (Int.tmod a0 a1) > 0
                    ·rw [if_pos c37] at H
                     have c37b0 : decide (0 < (Int.tmod a0 a1)) = true := decide_eq_true c37
                     clear c37
                     obtain rfl := Option.some.inj H
                     go_wp2
                     go_ret
                     exact ⟨by first | rfl | (simp; done) | (simp [*]; done), by repeat (first | exact Drawn0.refl _ | apply Drawn0.step)⟩
                    ·rw [if_neg c37] at H
                     have c37b0 : decide (0 < (Int.tmod a0 a1)) = false := decide_eq_false c37
                     clear c37
                     obtain rfl := Option.some.inj H
                     go_wp2
                     go_ret
                     exact ⟨by first | rfl | (simp; done) | (simp [*]; done), by repeat (first | exact Drawn0.refl _ | apply Drawn0.step)⟩
                  ·rw [if_neg c35] at H
                   have c35b0 : (a2 == 8) = false := beq_eq_false_iff_ne.mpr c35
                   have c35b1 : (a2 != 8) = true := bne_iff_ne.mpr c35
                   obtain rfl := Option.some.inj H
                   go_wp2
                   go_ret
                   exact ⟨by first | rfl | (simp; done) | (simp [*]; done), by repeat (first | exact Drawn0.refl _ | apply Drawn0.step)⟩
         ·replace c22 := Bool.eq_false_iff.mpr c22
          subst c22
          have H1 : (some (wrap64 ((wrap64 (Int.tdiv a0 a1)) * a1))) = some r := by rw [if_neg (show ¬ (false = true) by decide)] at H; exact H
          clear H
          have H := H1
          clear H1
          obtain rfl := Option.some.inj H
          go_wp2
          go_ret
          exact ⟨by first | rfl | (simp; done) | (simp [*]; done), by repeat (first | exact Drawn0.refl _ | apply Drawn0.step)⟩

/-! ### kernels_RoundToMultipleInt64: function 39 -/
def kernels_RoundToMultipleInt64.f (k : Nat) (a0 : Int) (a1 : Int) (a2 : Int) (a3 : Bool) : Option (Int) := (kernels_roundToMultipleInt64.f k a0 a1 a2 a3).bind fun t101 => (some t101)
theorem kernels_RoundToMultipleInt64.mono : ∀ a0 a1 a2 a3 k, LeO (kernels_RoundToMultipleInt64.f k a0 a1 a2 a3) (kernels_RoundToMultipleInt64.f (k + 1) a0 a1 a2 a3) := by
 intro a0 a1 a2 a3 k
 unfold kernels_RoundToMultipleInt64.f
 repeat' first
   | (with_reducible exact kernels_roundToMultipleInt64.mono _ _ _ _ _)
   | (with_reducible exact LeO.refl _)
   | (with_reducible exact LeO.none _)
   | (with_reducible refine LeO.ite ?_ ?_)
   | (with_reducible refine LeO.bind ?_ (fun _ => ?_))
   | exact kernels_roundToMultipleInt64.mono _ _ _ _ _
   | exact LeO.none _
   | refine LeO.ite ?_ ?_
   | refine LeO.bind ?_ (fun _ => ?_)
set_option maxHeartbeats 8000000 in
set_option maxRecDepth 100000 in
theorem kernels_RoundToMultipleInt64.calls (k : Nat) (a0 : Int) (a1 : Int) (a2 : Int) (a3 : Bool) (r : Int) (w : World) (h : kernels_RoundToMultipleInt64.f k a0 a1 a2 a3 = some r) :
  Calls Try.prog 39 #[.int .i64 a0, .int .i64 a1, .int .i8 a2, .bool a3] w fun e w' => e = .returned (.int .i64 r) ∧ Drawn0 w w' := by
 have H : ((kernels_roundToMultipleInt64.f k a0 a1 a2 a3).bind fun t101 => (some t101)) = some r := h
 clear h
 replace H := Option.bind_eq_some_iff.mp H
 obtain ⟨t101, A50, H⟩ := H
 replace H : (some t101) = some r := H
 have A5 := qaM A50
 clear A50
 obtain rfl := Option.some.inj H
 go_enter Try.func39, Try.ntmps39
 go_wp2_with (first | ((with_reducible refine gate_callee (f := 48) rfl ?_); refine goesL_ (some 13) rfl rfl Try.func48 (by kernel_rfl) rfl #[.int .i64 a0, .int .i64 a1, .int .i8 a2, .bool a3] rfl (by (try simp only [List.map_toArray, List.map_cons, List.map_nil]); first | done | rfl | (simp only [List.length_drop, List.length_take]; rfl)) ?_; (with_reducible refine (kernels_roundToMultipleInt64.calls k a0 a1 a2 a3 t101 _ A5.out).mono ?_); rintro e w' ⟨rfl, ⟨nd, rfl⟩⟩; refine ⟨_, rfl, ?_⟩))
 go_ret
 exact ⟨by first | rfl | (simp; done) | (simp [*]; done), by repeat (first | exact Drawn0.refl _ | apply Drawn0.step)⟩

end Go.Proofs.Ytelpdndlmhcdoaa.QK
