/- Abs, IsInf, IsNaN, Signbit. -/
import Derived.Test.YtmiafomaglijgaaL7
import Derived.Laws.BitsAllLaws
namespace Go.Proofs.Ytmiafomaglijgaa.QR
open Ieee Go.Proofs.Ytmiafomaglijgaa.Fl Go.RowKit Go.Proofs.YtmiafomaglijgaaW.PrintWords Go.Proofs.YtmiafomaglijgaaW.PrintLast Go.Proofs.YtmiafomaglijgaaW.PrintMore
set_option linter.unusedVariables false
set_option linter.unusedSimpArgs false
theorem clear_sign (x : Nat) (hx : x < 18446744073709551616) : Go.bits .andNot .u64 (x : Int) 9223372036854775808 = ((x % 9223372036854775808 : Nat) : Int) := by
  rw [u64_andNot (x : Int) 9223372036854775808 (by omega) (by omega) (by omega) (by omega)]
  congr 1
  show x &&& (18446744073709551615 - 9223372036854775808) = _
  exact Nat.and_two_pow_sub_one_eq_mod x 63
set_option maxHeartbeats 8000000 in
set_option maxRecDepth 100000 in
theorem abs_is (x : Nat) (hx : x < 18446744073709551616) (w : World) : Calls Try.prog 12 #[.float .f64 x] w fun e w' => e = .returned (.float .f64 (x % 9223372036854775808)) ∧ Below w.heap.size w w' := by
  have h1 := f64_bits x
  have h2 := clear_sign x hx
  have h3 := f64_of ((x % 9223372036854775808 : Nat) : Int)
  rw [Int.toNat_natCast] at h3
  generalize x % 9223372036854775808 = y at h2 h3 ⊢
  clear hx
  go_enter Try.func12, Try.ntmps12
  go_wp2
  go_ret
  exact ⟨rfl, Below.refl _ _⟩
theorem sw64 : F64.signWeight = 9223372036854775808 := by decide
/-- The greatest number. -/
theorem read_max : F64.read 9218868437227405311 = .number false 9007199254740991 971 := by decide
theorem inf_or (x : Nat) (hn : (F64.read x).isNaN = false) : (F64.read (x % 9223372036854775808)).order (F64.read 9218868437227405311) = some (if (F64.read x).isInfinity then .gt else (F64.read (x % 9223372036854775808)).order (F64.read 9218868437227405311) |>.getD .eq) ∧ ((F64.read x).isInfinity = false → ¬ (F64.read (x % 9223372036854775808)).order (F64.read 9218868437227405311) = some .gt) := by
  rw [read_max]
  unfold Format.read at hn ⊢
  rw [sw64] at hn ⊢
  simp only [Nat.mod_mod] at hn ⊢
  have hs : (x % 9223372036854775808 / 9223372036854775808 % 2 == 1) = false := by
    rw [Nat.div_eq_of_lt (Nat.mod_lt _ (by omega))]; rfl
  rw [hs]
  generalize (x / 9223372036854775808 % 2 == 1) = s at hn ⊢
  generalize x % 9223372036854775808 = rung at hn ⊢
  obtain ⟨p45, hp45⟩ : ∃ p45, p45 = pw 2045 := ⟨_, rfl⟩
  have hmax : Units (.number false 9007199254740991 971) false (9007199254740991 * p45) := ⟨_, _, rfl, by omega, by rw [hp45, show ((971 : Int) + 1074).toNat = 2045 by omega]⟩
  by_cases h1 : rung < F64.binade
  · rw [if_pos h1, if_pos h1]
    have hu : Units (.number false rung F64.leastPlace) false (rung * pw 0) := ⟨_, _, rfl, by rw [lp64]; omega, by rw [lp64]; rfl⟩
    have hle : rung * pw 0 ≤ 9007199254740991 * p45 := by
      rw [bin64] at h1
      exact Nat.mul_le_mul (by omega) (by rw [hp45]; exact pw_le (by omega))
    rw [order_units hu hmax]
    unfold sg
    simp only [Bool.false_eq_true, if_false]
    generalize rung * pw 0 = a at hle ⊢
    generalize 9007199254740991 * p45 = b at hle ⊢
    refine ⟨by simp [Datum.isInfinity], fun _ h => ?_⟩
    have h2 := Option.some.inj h
    rw [Int.compare_eq_gt] at h2
    omega
  · rw [if_neg h1] at hn ⊢
    rw [if_neg h1]
    by_cases h3 : rung < F64.infRung
    · rw [if_pos h3, if_pos h3]
      have hb0 : 0 < F64.binade := Nat.two_pow_pos _
      have hj2 : rung / F64.binade < 2047 := by
        rw [Nat.div_lt_iff_lt_mul hb0]
        rw [inf64] at h3; rw [bin64]; exact h3
      have hr : rung % F64.binade < 4503599627370496 := by have := Nat.mod_lt rung hb0; rw [bin64] at this ⊢; exact this
      generalize rung / F64.binade = j at hj2 ⊢
      generalize rung % F64.binade = r at hr ⊢
      have hu : Units (.number false (F64.binade + r) (F64.leastPlace + ((j - 1 : Nat) : Int))) false ((F64.binade + r) * pw (j - 1)) := ⟨_, _, rfl, by rw [lp64]; omega, by rw [lp64]; congr 2; omega⟩
      have hle : (F64.binade + r) * pw (j - 1) ≤ 9007199254740991 * p45 := by
        rw [bin64]
        exact Nat.mul_le_mul (by omega) (by rw [hp45]; exact pw_le (by omega))
      rw [order_units hu hmax]
      unfold sg
      simp only [Bool.false_eq_true, if_false]
      generalize (F64.binade + r) * pw (j - 1) = a at hle ⊢
      generalize 9007199254740991 * p45 = b at hle ⊢
      refine ⟨by simp [Datum.isInfinity], fun _ h => ?_⟩
      have h2 := Option.some.inj h
      rw [Int.compare_eq_gt] at h2
      omega
    · rw [if_neg h3] at hn ⊢
      rw [if_neg h3]
      by_cases h4 : rung = F64.infRung
      · rw [if_pos h4, if_pos h4]
        exact ⟨rfl, fun h => by cases h⟩
      · rw [if_neg h4] at hn; cases hn
theorem isinf_bit (x : Nat) (hn : (F64.read x).isNaN = false) : ((F64.read (x % 9223372036854775808)).order (F64.read 9218868437227405311) == some .gt) = (F64.read x).isInfinity := by
  obtain ⟨h1, h2⟩ := inf_or x hn
  cases h : (F64.read x).isInfinity with
  | true => rw [h1, h]; rfl
  | false =>
    have h3 := h2 h
    generalize (F64.read (x % 9223372036854775808)).order (F64.read 9218868437227405311) = o at h3 ⊢
    cases o with
    | none => rfl
    | some v => cases v <;> first | rfl | exact absurd rfl h3
set_option maxHeartbeats 8000000 in
set_option maxRecDepth 100000 in
theorem isinf_is (x : Nat) (hx : x < 18446744073709551616) (hn : (F64.read x).isNaN = false) (w : World) : Calls Try.prog 7 #[.float .f64 x, .int .i64 0] w fun e w' => e = .returned (.bool (F64.read x).isInfinity) ∧ Below w.heap.size w w' := by
  have QA := Aside0.mk (fun w => abs_is x hx w)
  have h1 := isinf_bit x hn
  generalize (F64.read x).isInfinity = b at h1 ⊢
  generalize x % 9223372036854775808 = y at QA h1
  have h2 : (FloatKind.f64.format.order y 9218868437227405311 == some Ordering.gt) = b := h1
  clear hx hn h1
  go_enter Try.func7, Try.ntmps7
  go_wp2_with (go_at_call 12; with_reducible refine Calls.mono (QA.out _) ?_; rintro e w1 ⟨rfl, hb⟩; have Q1 := Aside0.mk hb; clear hb)
  go_ret
  exact ⟨rfl, Q1.out⟩
end Go.Proofs.Ytmiafomaglijgaa.QR
