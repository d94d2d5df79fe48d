/- The functions that getFloatRoundImpl hands back, one a mode. -/
import Derived.Test.YtmiafomaglijgaaL19
namespace Go.Proofs.Ytmiafomaglijgaa.QR
open Ieee Go.Proofs.Ytmiafomaglijgaa.Fl Go.RowKit Go.Proofs.YtmiafomaglijgaaW.PrintWords Go.Proofs.YtmiafomaglijgaaW.PrintLast Go.Proofs.YtmiafomaglijgaaW.PrintMore
set_option linter.unusedVariables false
set_option linter.unusedSimpArgs false
set_option maxHeartbeats 8000000 in
set_option maxRecDepth 100000 in
theorem cl24 {q : Nat} {s : Bool} {M : Nat} (hq : Units (F32.read q) s M) (hg : Good M) (w : World) : Calls Try.prog 24 #[.float .f32 q] w fun e w' => e = .returned (.float .f32 (W F32 s (R .down s M * U1))) ∧ Below w.heap.size w w' := by
  have hx := k64 s hg
  have hl := k64 s (R_good .down s hg)
  have c1 := up_run (widen_is hq hg)
  have QF := Aside0.mk (fun w => flr_is (W F64 s M) (units_fin hx).2 w)
  rw [whl_is .down hx] at QF
  have c2 := down_run (narrow_is hl (R_good .down s hg))
  clear hq hg hx hl
  generalize W F64 s M = x at c1 QF
  generalize W F64 s (R .down s M * U1) = l64 at QF c2
  generalize W F32 s (R .down s M * U1) = l32 at c2 ⊢
  go_enter Try.func24, Try.ntmps24
  go_wp2_with (go_at_call 13; with_reducible refine Calls.mono (QF.out _) ?_; rintro e w1 ⟨rfl, hb⟩; have Q1 := Aside0.mk hb; clear hb)
  go_ret
  exact ⟨rfl, Q1.out⟩
set_option maxHeartbeats 8000000 in
set_option maxRecDepth 100000 in
theorem cl25 {q : Nat} {s : Bool} {M : Nat} (hq : Units (F32.read q) s M) (hg : Good M) (w : World) : Calls Try.prog 25 #[.float .f32 q] w fun e w' => e = .returned (.float .f32 (W F32 s (R .up s M * U1))) ∧ Below w.heap.size w w' := by
  have hx := k64 s hg
  have hl := k64 s (R_good .up s hg)
  have c1 := up_run (widen_is hq hg)
  have QF := Aside0.mk (fun w => cel_is (W F64 s M) (units_fin hx).2 w)
  rw [whl_is .up hx] at QF
  have c2 := down_run (narrow_is hl (R_good .up s hg))
  clear hq hg hx hl
  generalize W F64 s M = x at c1 QF
  generalize W F64 s (R .up s M * U1) = l64 at QF c2
  generalize W F32 s (R .up s M * U1) = l32 at c2 ⊢
  go_enter Try.func25, Try.ntmps25
  go_wp2_with (go_at_call 26; with_reducible refine Calls.mono (QF.out _) ?_; rintro e w1 ⟨rfl, hb⟩; have Q1 := Aside0.mk hb; clear hb)
  go_ret
  exact ⟨rfl, Q1.out⟩
set_option maxHeartbeats 8000000 in
set_option maxRecDepth 100000 in
theorem cl27 {q : Nat} {s : Bool} {M : Nat} (hq : Units (F32.read q) s M) (hg : Good M) (w : World) : Calls Try.prog 27 #[.float .f32 q] w fun e w' => e = .returned (.float .f32 (W F32 s (R .zero s M * U1))) ∧ Below w.heap.size w w' := by
  have hx := k64 s hg
  have hl := k64 s (R_good .zero s hg)
  have c1 := up_run (widen_is hq hg)
  have QF := Aside0.mk (fun w => trn_is (W F64 s M) (units_fin hx).2 w)
  rw [whl_is .zero hx] at QF
  have c2 := down_run (narrow_is hl (R_good .zero s hg))
  clear hq hg hx hl
  generalize W F64 s M = x at c1 QF
  generalize W F64 s (R .zero s M * U1) = l64 at QF c2
  generalize W F32 s (R .zero s M * U1) = l32 at c2 ⊢
  go_enter Try.func27, Try.ntmps27
  go_wp2_with (go_at_call 28; with_reducible refine Calls.mono (QF.out _) ?_; rintro e w1 ⟨rfl, hb⟩; have Q1 := Aside0.mk hb; clear hb)
  go_ret
  exact ⟨rfl, Q1.out⟩
set_option maxHeartbeats 8000000 in
set_option maxRecDepth 100000 in
theorem cl31 {q : Nat} {s : Bool} {M : Nat} (hq : Units (F32.read q) s M) (hg : Good M) (w : World) : Calls Try.prog 31 #[.float .f32 q] w fun e w' => e = .returned (.float .f32 (W F32 s (R .down s M * U1))) ∧ Below w.heap.size w w' := by
  have hx := k64 s hg
  have hl := k64 s (R_good .down s hg)
  have c1 := up_run (widen_is hq hg)
  have QF := Aside0.mk (fun w => flr_is (W F64 s M) (units_fin hx).2 w)
  rw [whl_is .down hx] at QF
  have c2 := down_run (narrow_is hl (R_good .down s hg))
  clear hq hg hx hl
  generalize W F64 s M = x at c1 QF
  generalize W F64 s (R .down s M * U1) = l64 at QF c2
  generalize W F32 s (R .down s M * U1) = l32 at c2 ⊢
  go_enter Try.func31, Try.ntmps31
  go_wp2_with (go_at_call 13; with_reducible refine Calls.mono (QF.out _) ?_; rintro e w1 ⟨rfl, hb⟩; have Q1 := Aside0.mk hb; clear hb)
  go_ret
  exact ⟨rfl, Q1.out⟩
set_option maxHeartbeats 8000000 in
set_option maxRecDepth 100000 in
theorem cl32 {q : Nat} {s : Bool} {M : Nat} (hq : Units (F32.read q) s M) (hg : Good M) (w : World) : Calls Try.prog 32 #[.float .f32 q] w fun e w' => e = .returned (.float .f32 (W F32 s (R .up s M * U1))) ∧ Below w.heap.size w w' := by
  have hx := k64 s hg
  have hl := k64 s (R_good .up s hg)
  have c1 := up_run (widen_is hq hg)
  have QF := Aside0.mk (fun w => cel_is (W F64 s M) (units_fin hx).2 w)
  rw [whl_is .up hx] at QF
  have c2 := down_run (narrow_is hl (R_good .up s hg))
  clear hq hg hx hl
  generalize W F64 s M = x at c1 QF
  generalize W F64 s (R .up s M * U1) = l64 at QF c2
  generalize W F32 s (R .up s M * U1) = l32 at c2 ⊢
  go_enter Try.func32, Try.ntmps32
  go_wp2_with (go_at_call 26; with_reducible refine Calls.mono (QF.out _) ?_; rintro e w1 ⟨rfl, hb⟩; have Q1 := Aside0.mk hb; clear hb)
  go_ret
  exact ⟨rfl, Q1.out⟩
set_option maxHeartbeats 8000000 in
set_option maxRecDepth 100000 in
theorem cl33 {q : Nat} {s : Bool} {M : Nat} (hq : Units (F32.read q) s M) (hg : Good M) (w : World) : Calls Try.prog 33 #[.float .f32 q] w fun e w' => e = .returned (.float .f32 (W F32 s (R .zero s M * U1))) ∧ Below w.heap.size w w' := by
  have hx := k64 s hg
  have hl := k64 s (R_good .zero s hg)
  have c1 := up_run (widen_is hq hg)
  have QF := Aside0.mk (fun w => trn_is (W F64 s M) (units_fin hx).2 w)
  rw [whl_is .zero hx] at QF
  have c2 := down_run (narrow_is hl (R_good .zero s hg))
  clear hq hg hx hl
  generalize W F64 s M = x at c1 QF
  generalize W F64 s (R .zero s M * U1) = l64 at QF c2
  generalize W F32 s (R .zero s M * U1) = l32 at c2 ⊢
  go_enter Try.func33, Try.ntmps33
  go_wp2_with (go_at_call 28; with_reducible refine Calls.mono (QF.out _) ?_; rintro e w1 ⟨rfl, hb⟩; have Q1 := Aside0.mk hb; clear hb)
  go_ret
  exact ⟨rfl, Q1.out⟩
set_option maxHeartbeats 8000000 in
set_option maxRecDepth 100000 in
theorem cl35 {q : Nat} {s : Bool} {M : Nat} (hq : Units (F32.read q) s M) (hg : Good M) (w : World) : Calls Try.prog 35 #[.float .f32 q] w fun e w' => e = .returned (.float .f32 (W F32 s (R .even s M * U1))) ∧ Below w.heap.size w w' := by
  have hx := k64 s hg
  have hl := k64 s (R_good .even s hg)
  have c1 := up_run (widen_is hq hg)
  have hF := even_of (W F64 s M) (units_fin hx).2
  rw [whl_is .even hx] at hF
  have c2 := down_run (narrow_is hl (R_good .even s hg))
  clear hq hg hx hl
  generalize W F64 s M = x at c1 hF
  generalize W F64 s (R .even s M * U1) = l64 at hF c2
  generalize W F32 s (R .even s M * U1) = l32 at c2 ⊢
  go_enter Try.func35, Try.ntmps35
  go_wp2
  go_ret
  exact ⟨rfl, Below.refl _ _⟩
set_option maxHeartbeats 8000000 in
set_option maxRecDepth 100000 in
theorem cl29 {q : Nat} {s : Bool} {M : Nat} (hq : Units (F32.read q) s M) (hg : Good M) (h : M % U1 ≠ 0) (w : World) : Calls Try.prog 29 #[.float .f32 q] w fun e w' => e = .returned (.float .f32 (W F32 s ((if s then R .down s M else R .up s M) * U1))) ∧ Below w.heap.size w w' := by
  have hM : M ≠ 0 := by rintro rfl; exact h (Nat.zero_mod _)
  have hx := k64 s hg
  obtain ⟨rung, r1, r2, _⟩ := rnd_M s (hg hM).1 h
  have QS := Aside0.mk (fun w => sgn_is s rung (by omega) w)
  rw [← r1] at QS
  have c1 := up_run (widen_is hq hg)
  have QF := Aside0.mk (fun w => flr_is (W F64 s M) (units_fin hx).2 w)
  have QC := Aside0.mk (fun w => cel_is (W F64 s M) (units_fin hx).2 w)
  rw [whl_is .down hx] at QF
  rw [whl_is .up hx] at QC
  have c2 := down_run (narrow_is (k64 s (R_good .down s hg)) (R_good .down s hg))
  have c3 := down_run (narrow_is (k64 s (R_good .up s hg)) (R_good .up s hg))
  clear hq hg hx h hM r1 r2
  suffices core : Calls Try.prog 29 #[.float .f32 q] w fun e w' => e = .returned (.float .f32 (if s then W F32 s (R .down s M * U1) else W F32 s (R .up s M * U1))) ∧ Below w.heap.size w w' from by
    refine core.mono ?_
    rintro e w' ⟨rfl, hb⟩
    cases s
    · simp only [Bool.false_eq_true, if_false, true_and]; exact hb
    · simp only [if_true, true_and]; exact hb
  generalize W F64 s M = x at c1 QF QC QS
  generalize W F64 s (R .down s M * U1) = l64 at QF c2
  generalize W F32 s (R .down s M * U1) = l32 at c2 ⊢
  generalize W F64 s (R .up s M * U1) = u64 at QC c3
  generalize W F32 s (R .up s M * U1) = u32 at c3 ⊢
  cases s
  all_goals
    go_enter Try.func29, Try.ntmps29
    go_wp2_with (first | (go_at_call 30; with_reducible refine Calls.mono (QS.out _) ?_; rintro e w1 ⟨rfl, hb⟩; have Q1 := Aside0.mk hb; clear hb) | (go_at_call 13; with_reducible refine Calls.mono (QF.out _) ?_; rintro e w1 ⟨rfl, hb⟩; have Q2 := Aside0.mk (Q1.out.trans (hb.mono Q1.out.size)); clear hb) | (go_at_call 26; with_reducible refine Calls.mono (QC.out _) ?_; rintro e w1 ⟨rfl, hb⟩; have Q2 := Aside0.mk (Q1.out.trans (hb.mono Q1.out.size)); clear hb))
    go_ret
    exact ⟨rfl, Q2.out⟩
set_option maxHeartbeats 8000000 in
set_option maxRecDepth 100000 in
theorem cl34 {q : Nat} {s : Bool} {M : Nat} (hq : Units (F32.read q) s M) (hg : Good M) (h : M % U1 ≠ 0) (w : World) : Calls Try.prog 34 #[.float .f32 q] w fun e w' => e = .returned (.float .f32 (W F32 s ((if s then R .down s M else R .up s M) * U1))) ∧ Below w.heap.size w w' := by
  have hM : M ≠ 0 := by rintro rfl; exact h (Nat.zero_mod _)
  have hx := k64 s hg
  obtain ⟨rung, r1, r2, _⟩ := rnd_M s (hg hM).1 h
  have QS := Aside0.mk (fun w => sgn_is s rung (by omega) w)
  rw [← r1] at QS
  have c1 := up_run (widen_is hq hg)
  have QF := Aside0.mk (fun w => flr_is (W F64 s M) (units_fin hx).2 w)
  have QC := Aside0.mk (fun w => cel_is (W F64 s M) (units_fin hx).2 w)
  rw [whl_is .down hx] at QF
  rw [whl_is .up hx] at QC
  have c2 := down_run (narrow_is (k64 s (R_good .down s hg)) (R_good .down s hg))
  have c3 := down_run (narrow_is (k64 s (R_good .up s hg)) (R_good .up s hg))
  clear hq hg hx h hM r1 r2
  suffices core : Calls Try.prog 34 #[.float .f32 q] w fun e w' => e = .returned (.float .f32 (if s then W F32 s (R .down s M * U1) else W F32 s (R .up s M * U1))) ∧ Below w.heap.size w w' from by
    refine core.mono ?_
    rintro e w' ⟨rfl, hb⟩
    cases s
    · simp only [Bool.false_eq_true, if_false, true_and]; exact hb
    · simp only [if_true, true_and]; exact hb
  generalize W F64 s M = x at c1 QF QC QS
  generalize W F64 s (R .down s M * U1) = l64 at QF c2
  generalize W F32 s (R .down s M * U1) = l32 at c2 ⊢
  generalize W F64 s (R .up s M * U1) = u64 at QC c3
  generalize W F32 s (R .up s M * U1) = u32 at c3 ⊢
  cases s
  all_goals
    go_enter Try.func34, Try.ntmps34
    go_wp2_with (first | (go_at_call 30; with_reducible refine Calls.mono (QS.out _) ?_; rintro e w1 ⟨rfl, hb⟩; have Q1 := Aside0.mk hb; clear hb) | (go_at_call 13; with_reducible refine Calls.mono (QF.out _) ?_; rintro e w1 ⟨rfl, hb⟩; have Q2 := Aside0.mk (Q1.out.trans (hb.mono Q1.out.size)); clear hb) | (go_at_call 26; with_reducible refine Calls.mono (QC.out _) ?_; rintro e w1 ⟨rfl, hb⟩; have Q2 := Aside0.mk (Q1.out.trans (hb.mono Q1.out.size)); clear hb))
    go_ret
    exact ⟨rfl, Q2.out⟩
theorem mul_half {x : Nat} {s : Bool} {M : Nat} (h : Units (F64.read x) s (2 * M)) : floatBits .mul .f64 x 4602678819172646912 = some (W F64 s M) := by
  obtain ⟨m, i, he, hi, hm⟩ := h
  show ((F64.read x).product (F64.read 4602678819172646912)).map F64.write = _
  rw [he, show F64.read 4602678819172646912 = .number false 4503599627370496 (-53) by decide]
  show some (F64.nearest (s ^^ false) (m * 4503599627370496) (i + -53)) = _
  rw [Bool.xor_false, show (m * 4503599627370496) = m * pw 52 from congrArg (m * ·) (show 4503599627370496 = pw 52 from rfl), show i + -53 = (i - 1) - ((52 : Nat) : Int) by omega, nearest_scale']
  congr 1
  rcases Int.lt_or_le (-1074) i with h1 | h1
  · rw [W_of F64 s m (i - 1) (by omega)]
    have e : (i + 1074).toNat = (i - 1 + 1074).toNat + 1 := by omega
    rw [e, pw_succ, ← Nat.mul_assoc] at hm
    exact congrArg (W F64 s) (by omega)
  · have hi2 : i = -1074 := by omega
    subst hi2
    have e : ((-1074 : Int) + 1074).toNat = 0 := by omega
    rw [e, pw_zero, Nat.mul_one] at hm
    rw [← hm]
    have h2 := nearest_scale' F64 s M 1 (-1074)
    rw [show pw 1 = 2 from rfl, Nat.mul_comm M 2] at h2
    exact h2
theorem add_same {s : Bool} {a b : Nat} (ha : a < 16777216) (hb : b < 16777216) (h : 1 ≤ a + b) : floatBits .add .f64 (IW s a) (IW s b) = some (IW s (a + b)) := by
  obtain ⟨d, h1, h2⟩ := sum_units (IW_units s ha) (IW_units s hb)
  show ((F64.read (IW s a)).sum (F64.read (IW s b))).map F64.write = _
  rw [h1]
  show some (F64.write d) = _
  rw [write_units h2]
  have hp := U1_pos
  have hq : 0 < (a + b) * U1 := Nat.mul_pos (by omega) hp
  have e1 : sg s (a * U1) + sg s (b * U1) = sg s ((a + b) * U1) := by
    rw [Nat.add_mul]
    unfold sg
    cases s <;> simp <;> omega
  rw [e1]
  show some (W F64 _ _) = some (W F64 s ((a + b) * U1))
  generalize (a + b) * U1 = N at hq
  have e2 : (sg s N).natAbs = N := by
    unfold sg
    cases s <;> simp
  have e3 : (if sg s N = 0 then s && s else decide (sg s N < 0)) = s := by
    unfold sg
    cases s
    · simp only [Bool.false_eq_true, if_false]
      rw [if_neg (by omega)]
      exact decide_eq_false (by omega)
    · simp only [if_true]
      rw [if_neg (by omega)]
      exact decide_eq_true (by omega)
  rw [e2, e3]
/-- Half of a number that is no whole one. -/
theorem half_M (s : Bool) {M : Nat} (hg : Good M) (h : M % U1 ≠ 0) : M = 2 * (M / 2) ∧ Units (F64.read (W F64 s (M / 2))) s (M / 2) ∧ M / U1 < 8388608 ∧ (M / 2) / U1 = M / U1 / 2 ∧ (M / 2) % U1 ≠ 0 := by
  have hM : M ≠ 0 := by rintro rfl; exact h (Nat.zero_mod _)
  have hlt := div_small (part_small (hg hM).1 h).1
  rw [show pw 23 = 8388608 from rfl] at hlt
  obtain ⟨hr, hl⟩ := hg hM
  obtain ⟨k, hk⟩ := hr
  have hc : 925 ≤ cc F32 925 M := by unfold cc; omega
  have hp : pw (cc F32 925 M) = pw (cc F32 925 M - 1) * 2 := by
    rw [← pw_succ, show cc F32 925 M - 1 + 1 = cc F32 925 M by omega]
  rw [hp, Nat.mul_assoc] at hk
  have e1 : M / 2 = pw (cc F32 925 M - 1) * k := by
    have : M = 2 * (pw (cc F32 925 M - 1) * k) := by rw [Nat.mul_left_comm]; exact hk
    generalize pw (cc F32 925 M - 1) * k = z at this
    omega
  have e2 : M = 2 * (M / 2) := by
    rw [e1, Nat.mul_left_comm]; exact hk
  have h2 : M / 2 ≠ 0 := by omega
  have hlog : M.log2 = (M / 2).log2 + 1 := by
    have := log2_mul h2 1
    rw [show pw 1 = 2 from rfl, Nat.mul_comm, ← e2] at this
    exact this
  refine ⟨e2, hold64 h2 (by omega) ?_, hlt, ?_, ?_⟩
  · unfold Rep
    have : cc F64 0 (M / 2) ≤ cc F32 925 M - 1 := by
      unfold cc
      rw [hlog]
      show max ((M / 2).log2 - 52) 0 ≤ max ((M / 2).log2 + 1 - 23) 925 - 1
      omega
    refine Nat.dvd_trans (pw_dvd this) ?_
    exact ⟨k, e1⟩
  · rw [Nat.div_div_eq_div_mul, Nat.div_div_eq_div_mul, Nat.mul_comm]
  · intro h3
    refine h ?_
    rw [e2]
    have h4 := Nat.div_add_mod (M / 2) U1
    rw [h3, Nat.add_zero] at h4
    rw [← h4, Nat.mul_left_comm]
    exact Nat.mul_mod_right _ _
set_option maxHeartbeats 8000000 in
set_option maxRecDepth 100000 in
theorem cl37 {q : Nat} {s : Bool} {M : Nat} (hq : Units (F32.read q) s M) (hg : Good M) (h : M % U1 ≠ 0) (w : World) : Calls Try.prog 37 #[.float .f32 q] w fun e w' => e = .returned (.float .f32 (W F32 s ((2 * (M / U1 / 2) + 1) * U1))) ∧ Below w.heap.size w w' := by
  obtain ⟨t1, t2, t3, t4, t5⟩ := half_M s hg h
  have hx := k64 s hg
  have c1 := up_run (widen_is hq hg)
  have hx2 : Units (F64.read (W F64 s M)) s (2 * (M / 2)) := by rw [← t1]; exact hx
  have c2 := fun w => run_float_arith (P := Try.prog) (w := w) .mul 29 .f64 _ _ _ (mul_half hx2)
  clear hx2 hx hq t1
  have eK : (2 * (M / U1 / 2) + 1) = M / U1 / 2 + (M / U1 / 2 + 1) := by omega
  rw [eK]
  generalize M / 2 = M2 at t2 t4 t5 c2
  have hx := t2
  have QF := Aside0.mk (fun w => flr_is (W F64 s M2) (units_fin hx).2 w)
  have QC := Aside0.mk (fun w => cel_is (W F64 s M2) (units_fin hx).2 w)
  rw [whl_is .down hx] at QF
  rw [whl_is .up hx] at QC
  have hb : (M2 % U1 != 0) = true := by simpa using t5
  have hd : R .down s M2 = M / U1 / 2 + s.toNat := by
    unfold R mor
    rw [t4, hb, Bool.and_true]
  have hu : R .up s M2 = M / U1 / 2 + (!s).toNat := by
    unfold R mor
    rw [t4, hb]
    simp only [Bool.and_true]
  have c3 := fun w => run_float_arith (P := Try.prog) (w := w) .add 29 .f64 _ _ _ (add_same (s := s) (a := R .down s M2) (b := R .up s M2) (by rw [hd]; cases s <;> simp <;> omega) (by rw [hu]; cases s <;> simp <;> omega) (by rw [hd, hu]; cases s <;> simp <;> omega))
  have hsum : R .down s M2 + R .up s M2 = M / U1 / 2 + (M / U1 / 2 + 1) := by rw [hd, hu]; cases s <;> simp <;> omega
  rw [hsum] at c3
  generalize hk : M / U1 / 2 + (M / U1 / 2 + 1) = k at c3 ⊢
  have hk2 : k < 16777216 := by omega
  have c4 := down_run (narrow_is (IW_units s hk2) (good_int hk2))
  have eI : ∀ n, W F64 s (n * U1) = IW s n := fun _ => rfl
  rw [eI] at QF QC
  clear hg h t2 t3 t4 t5 eK hx hb hd hu hsum hk hk2 eI
  generalize W F64 s M = x at c1 c2
  generalize W F64 s M2 = y at c2 QF QC
  generalize IW s (R .down s M2) = a at QF c3
  generalize IW s (R .up s M2) = b at QC c3
  generalize IW s k = c at c3 c4
  generalize W F32 s (k * U1) = l32 at c4 ⊢
  go_enter Try.func37, Try.ntmps37
  go_wp2_with (first | (go_at_call 13; with_reducible refine Calls.mono (QF.out _) ?_; rintro e w1 ⟨rfl, hb⟩; have Q1 := Aside0.mk hb; clear hb) | (go_at_call 26; with_reducible refine Calls.mono (QC.out _) ?_; rintro e w1 ⟨rfl, hb⟩; have Q2 := Aside0.mk (Q1.out.trans (hb.mono Q1.out.size)); clear hb))
  go_ret
  exact ⟨rfl, Q2.out⟩
end Go.Proofs.Ytmiafomaglijgaa.QR
