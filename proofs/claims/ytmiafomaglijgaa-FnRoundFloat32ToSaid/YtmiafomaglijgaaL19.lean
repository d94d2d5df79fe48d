/- The reference's rounding to a whole number. -/
import Derived.Test.YtmiafomaglijgaaL18
namespace Go.Proofs.Ytmiafomaglijgaa.QR
open Ieee Go.Proofs.Ytmiafomaglijgaa.Fl Go.RowKit Go.Proofs.YtmiafomaglijgaaW.PrintWords Go.Proofs.YtmiafomaglijgaaW.PrintLast Go.Proofs.YtmiafomaglijgaaW.PrintMore
set_option linter.unusedVariables false
set_option linter.unusedSimpArgs false
set_option maxHeartbeats 8000000 in
set_option maxRecDepth 100000 in
theorem rf_whole (mode : Nat) {s : Bool} {M : Nat} (hg : Good M) (h : M % U1 = 0) (w : World) : Calls Try.prog 9 #[.float .f64 (W F64 s M), .int .i64 (mode : Int)] w fun e w' => e = .returned (.float .f64 (W F64 s M)) ∧ Below w.heap.size w w' := by
  have hx := k64 s hg
  have QF := Aside0.mk (fun w => flr_is (W F64 s M) (units_fin hx).2 w)
  rw [whl_is .down hx, (R_whole .down s h).2] at QF
  have c1 := order_eq hx hx
  rw [decide_eq_true rfl] at c1
  clear hx hg h
  generalize W F64 s M = x at QF c1 ⊢
  go_enter Try.func9, Try.ntmps9
  go_wp2_with (go_at_call 13; with_reducible refine Calls.mono (QF.out _) ?_; rintro e w1 ⟨rfl, hb⟩; have Q1 := Aside0.mk hb; clear hb)
  go_ret
  exact ⟨rfl, Q1.out⟩
theorem read_1 : Units (F64.read 4607182418800017408) false U1 := ⟨4503599627370496, -52, by decide, by omega, by
  rw [show ((-52 : Int) + 1074).toNat = 1022 by omega, show U1 = pw (52 + 1022) from rfl, pw_add]
  exact congrArg (· * pw 1022) (show pw 52 = 4503599627370496 from rfl)⟩
theorem read_half : Units (F64.read 4602678819172646912) false H1 := ⟨4503599627370496, -53, by decide, by omega, by
  rw [show ((-53 : Int) + 1074).toNat = 1021 by omega, show H1 = pw (52 + 1021) from rfl, pw_add]
  exact congrArg (· * pw 1021) (show pw 52 = 4503599627370496 from rfl)⟩
theorem cmp_gt (x y : Int) : (some (compare x y) == some Ordering.gt) = decide (y < x) := by
  rw [Int.compare_eq_ite_lt]
  by_cases h1 : x < y
  · rw [if_pos h1, decide_eq_false (by omega)]; rfl
  · rw [if_neg h1]
    by_cases h2 : y < x
    · rw [if_pos h2, decide_eq_true h2]; rfl
    · rw [if_neg h2, decide_eq_false h2]; rfl
/-- How what stands behind the point stands to a half. -/
def hlf (s : Bool) (M : Nat) : Int := if Df s M < H1 then -1 else if H1 < Df s M then 1 else 0
/-- The whole number that is chosen, without its sign. -/
def Kz (mode : Nat) (s : Bool) (M : Nat) : Nat := if upw mode (hlf s M) (decide (R .down s M % 2 = 0)) s then (if s then R .down s M - 1 else R .down s M + 1) else R .down s M
theorem R_down_pos {M : Nat} (h : M % U1 ≠ 0) : R .down true M = M / U1 + 1 := by
  have hb : (M % U1 != 0) = true := by simpa using h
  unfold R mor
  simp [hb]
theorem R_down_f (M : Nat) : R .down false M = M / U1 := by unfold R mor; simp
theorem add_one {s : Bool} {r : Nat} (h : r < 16777216) (hs : s = true → 1 ≤ r) : ∃ t, floatBits .add .f64 (IW s r) 4607182418800017408 = some (IW t (if s then r - 1 else r + 1)) ∧ ((if s then r - 1 else r + 1) ≠ 0 → t = s) := by
  obtain ⟨d, h1, h2⟩ := sum_units (IW_units s h) read_1
  have e : floatBits .add .f64 (IW s r) 4607182418800017408 = some (F64.write d) := by
    show ((F64.read (IW s r)).sum (F64.read 4607182418800017408)).map F64.write = _
    rw [h1]; rfl
  rw [e, write_units h2]
  cases s
  · refine ⟨false, ?_, fun _ => rfl⟩
    have hp := U1_pos
    have e1 : sg false (r * U1) + sg false U1 = (((r + 1) * U1 : Nat) : Int) := by
      unfold sg; simp only [Bool.false_eq_true, if_false]; rw [Nat.add_mul, Nat.one_mul]; omega
    rw [e1, Int.natAbs_natCast]
    have es : (if (((r + 1) * U1 : Nat) : Int) = 0 then false && false else decide ((((r + 1) * U1 : Nat) : Int) < 0)) = false := by
      split
      · rfl
      · exact decide_eq_false (by omega)
    rw [es]
    rfl
  · have hr := hs rfl
    obtain ⟨k, rfl⟩ : ∃ k, r = k + 1 := ⟨r - 1, by omega⟩
    have hp := U1_pos
    have e1 : sg true ((k + 1) * U1) + sg false U1 = -((k * U1 : Nat) : Int) := by
      unfold sg; simp only [Bool.false_eq_true, if_false, if_true]; rw [Nat.add_mul, Nat.one_mul]; omega
    rw [e1, Int.natAbs_neg, Int.natAbs_natCast]
    refine ⟨_, rfl, fun hk => ?_⟩
    have hk0 : k ≠ 0 := hk
    have : 0 < k * U1 := Nat.mul_pos (by omega) hp
    rw [if_neg (by omega)]
    exact decide_eq_true (by omega)
theorem mod_zero {t : Bool} {m r : Nat} (h1 : m < 2) (h2 : m % 2 = r % 2) : (FloatKind.f64.format.order (IW t m) 0 == some Ordering.eq) = decide (r % 2 = 0) := by
  rw [order_eq (IW_units t (show m < 16777216 by omega)) read_0]
  have hp := U1_pos
  by_cases h : m = 0
  · subst h
    have e : sg t (0 * U1) = sg false 0 := by unfold sg; cases t <;> simp
    rw [decide_eq_true e, decide_eq_true (by omega)]
  · have hm : m = 1 := by omega
    subst hm
    have e : ¬ sg t (1 * U1) = sg false 0 := by
      unfold sg
      rw [Nat.one_mul]
      cases t <;> simp <;> omega
    rw [decide_eq_false e, decide_eq_false (by omega)]
set_option maxHeartbeats 8000000 in
set_option maxRecDepth 100000 in
theorem rf_part (mode : Nat) (hm : mode < 10) {s : Bool} {M : Nat} (hg : Good M) (h : M % U1 ≠ 0) : ∃ t, (Kz mode s M ≠ 0 → t = s) ∧ ∀ w, Calls Try.prog 9 #[.float .f64 (W F64 s M), .int .i64 (mode : Int)] w fun e w' => e = .returned (.float .f64 (IW t (Kz mode s M))) ∧ Below w.heap.size w w' := by
  have hx := k64 s hg
  have hM : M ≠ 0 := by rintro rfl; exact h (Nat.zero_mod _)
  have hr := R_lt .down s hg h
  have hr1 : s = true → 1 ≤ R .down s M := by rintro rfl; rw [R_down_pos h]; exact Nat.le_add_left 1 _
  have hl := k64 s (R_good .down s hg)
  have QF := Aside0.mk (fun w => flr_is (W F64 s M) (units_fin hx).2 w)
  rw [whl_is .down hx] at QF
  have c1 := order_eq hl hx
  have hne : ¬ sg s (R .down s M * U1) = sg s M := by
    have h1 := less_fl s h
    have h2 := Df_bd s h
    omega
  rw [decide_eq_false hne] at c1
  have hD : Dz s M = Df s M := if_neg h
  have c2 := fun w => run_float_arith (P := Try.prog) (w := w) .sub 29 .f64 _ _ _ (sub_any F64 hx hl)
  rw [hD] at c2
  obtain ⟨X, x1, x2, x3, x4⟩ := part64 s hg h
  have c3 := order_lt x1 read_half
  have c4 : (FloatKind.f64.format.order (W F64 false (Df s M)) 4602678819172646912 == some Ordering.gt) = decide (H1 < Df s M) := by
    rw [order_sl x1 read_half, cmp_gt]
    have : (sg false H1 < sg false X) ↔ (H1 < Df s M) := by
      rw [← x4]; unfold sg; simp only [Bool.false_eq_true, if_false]; omega
    rw [Bool.eq_iff_iff]; simp only [decide_eq_true_iff]; exact this
  have c3' : (FloatKind.f64.format.order (W F64 false (Df s M)) 4602678819172646912 == some Ordering.lt) = decide (Df s M < H1) := by
    rw [c3]; rw [Bool.eq_iff_iff]; simp only [decide_eq_true_iff]; exact x3
  clear c3
  have c8 : (FloatKind.f64.format.order (W F64 s M) 0 == some Ordering.lt) = s := by
    rw [order_sl hx read_0, cmp_lt]
    cases s
    · exact decide_eq_false (by unfold sg; simp)
    · exact decide_eq_true (by unfold sg; simp; omega)
  have QM := Aside0.mk (fun w => Mod_is s _ hr w)
  have QZ := Aside0.mk (fun t m h1 h2 => mod_zero (t := t) (m := m) (r := R .down s M) h1 h2)
  obtain ⟨t, c9, ht⟩ := add_one hr hr1
  have c9' := fun w => run_float_arith (P := Try.prog) (w := w) .add 29 .f64 _ _ _ c9
  clear c9
  have hKd : Kz mode s M = if upw mode (hlf s M) (decide (R .down s M % 2 = 0)) s then (if s then R .down s M - 1 else R .down s M + 1) else R .down s M := rfl
  have hhl : hlf s M = if Df s M < H1 then -1 else if H1 < Df s M then 1 else 0 := rfl
  rw [hKd]
  generalize (if s then R .down s M - 1 else R .down s M + 1) = k1 at ht c9' ⊢
  have eIW : W F64 s (R .down s M * U1) = IW s (R .down s M) := rfl
  rw [eIW] at QF c1 c2
  clear hg hx hM hr hr1 hl hne hD x1 x2 x3 x4 hKd eIW h
  generalize R .down s M = r at QF c1 c2 QM QZ c9' ⊢
  generalize W F64 false (Df s M) = d64 at c2 c3' c4
  generalize hlf s M = hf at hhl ⊢
  have hcase : (hf = -1 ∧ decide (Df s M < H1) = true) ∨ (hf = 1 ∧ decide (Df s M < H1) = false ∧ decide (H1 < Df s M) = true) ∨ (hf = 0 ∧ decide (Df s M < H1) = false ∧ decide (H1 < Df s M) = false) := by
    rcases Nat.lt_trichotomy (Df s M) H1 with h | h | h
    · left; rw [hhl, if_pos h]; exact ⟨rfl, decide_eq_true h⟩
    · right; right; rw [hhl, if_neg (by omega), if_neg (by omega)]; exact ⟨rfl, decide_eq_false (by omega), decide_eq_false (by omega)⟩
    · right; left; rw [hhl, if_neg (by omega), if_pos h]; exact ⟨rfl, decide_eq_false (by omega), decide_eq_true h⟩
  clear hhl
  generalize decide (Df s M < H1) = b1 at c3' hcase
  generalize decide (H1 < Df s M) = b2 at c4 hcase
  generalize W F64 s M = x at QF c1 c2 c8 ⊢
  have QU := Aside0.mk (fun w => upw_is mode hm hf (by rcases hcase with h | h | h; exact .inl h.1; exact .inr (.inr h.1); exact .inr (.inl h.1)) (decide (r % 2 = 0)) s w)
  generalize decide (r % 2 = 0) = ev at QU QZ ⊢
  generalize upw mode hf ev s = ub at QU ⊢
  have Qt := Aside0.mk ht
  clear ht hm
  suffices core : ∀ w, Calls Try.prog 9 #[.float .f64 x, .int .i64 (mode : Int)] w fun e w' => e = .returned (.float .f64 (if ub then IW t k1 else IW s r)) ∧ Below w.heap.size w w' from by
    cases ub
    · simp only [Bool.false_eq_true, if_false] at core ⊢
      exact ⟨s, fun _ => rfl, core⟩
    · simp only [if_true] at core ⊢
      exact ⟨t, Qt.out, core⟩
  intro w
  clear Qt
  generalize IW t k1 = lw1 at c9' ⊢
  generalize IW s r = l64 at QF c1 c2 QM c9' ⊢
  rcases hcase with ⟨rfl, rfl⟩ | ⟨rfl, rfl, rfl⟩ | ⟨rfl, rfl, rfl⟩ <;> cases ub
  all_goals
    go_enter Try.func9, Try.ntmps9
    go_wp2_with (first | (go_at_call 13; with_reducible refine Calls.mono (QF.out _) ?_; rintro e w1 ⟨rfl, hb⟩; have Q1 := Aside0.mk hb; clear hb) | (go_at_call 15; with_reducible refine Calls.mono (QM.out _) ?_; rintro e w2 ⟨tt, m, rfl, h1, h2, hb⟩; have c7 := QZ.out tt m h1 h2; have Q2 := Aside0.mk (Q1.out.trans (hb.mono Q1.out.size)); clear h1 h2 hb; generalize IW tt m = mm at c7 ⊢) | (go_at_call 14; with_reducible refine Calls.mono (QU.out _) ?_; rintro e w3 ⟨rfl, hb⟩; have Q3 := Aside0.mk (Q2.out.trans (hb.mono Q2.out.size)); clear hb))
    go_ret
    exact ⟨rfl, Q3.out⟩
end Go.Proofs.Ytmiafomaglijgaa.QR
