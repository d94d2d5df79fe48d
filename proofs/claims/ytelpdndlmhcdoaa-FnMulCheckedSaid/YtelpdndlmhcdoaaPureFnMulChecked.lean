/- FnMulChecked: a product of 64 bits is told with whether it fits. The law returns true for every two int64. -/
import Derived.Test.YtelpdndlmhcdoaaWd5
import Derived.OpenShut
namespace Go.Proofs.Ytelpdndlmhcdoaa.Pure
open Go.RowKit Go.Proofs.Ytelpdndlmhcdoaa.QAll Go.Proofs.Ytelpdndlmhcdoaa.Wide Go.Proofs.YtelpdndlmhcdoaaW.PrintWords Go.Proofs.YtelpdndlmhcdoaaW.PrintLast Go.Proofs.YtelpdndlmhcdoaaW.PrintMore

theorem sign_prod {a b : Int} (ha : a ≠ 0) (hb : b ≠ 0) : (0 < a * b ↔ (a < 0 ↔ b < 0)) := by
  rcases Int.lt_or_gt_of_ne ha with h | h <;> rcases Int.lt_or_gt_of_ne hb with k | k
  · have := Int.mul_pos_of_neg_of_neg h k; omega
  · have := Int.mul_neg_of_neg_of_pos h k; omega
  · have := Int.mul_neg_of_pos_of_neg h k; omega
  · have := Int.mul_pos h k; omega
theorem wrap_near (x : Int) : ∃ k : Int, wrap64 x = x - 18446744073709551616 * k ∧ -9223372036854775808 ≤ wrap64 x ∧ wrap64 x < 9223372036854775808 := by
  refine ⟨(x + 9223372036854775808) / 18446744073709551616, ?_, ?_, ?_⟩ <;> unfold wrap64 <;> omega
theorem small_prod {a b : Int} (ha : -2147483648 ≤ a) (ha' : a ≤ 2147483647) (hb : -2147483648 ≤ b) (hb' : b ≤ 2147483647) : -9223372036854775808 ≤ a * b ∧ a * b < 9223372036854775808 := by
  have h : (a * b).natAbs ≤ 2147483648 * 2147483648 := by
    rw [Int.natAbs_mul]
    exact Nat.mul_le_mul (by omega) (by omega)
  have hs : (a * b).natAbs ≠ 9223372036854775808 := by omega
  omega
theorem mul64_is {a b : Int} (ha : -9223372036854775808 ≤ a) (ha' : a < 9223372036854775808) (hb : -9223372036854775808 ≤ b) (hb' : b < 9223372036854775808) :
    ((mul64 a b).2 = true ↔ (-9223372036854775808 ≤ a * b ∧ a * b < 9223372036854775808)) ∧ ((mul64 a b).2 = true → (mul64 a b).1 = a * b) := by
  have fit : -9223372036854775808 ≤ a * b ∧ a * b < 9223372036854775808 → wrap64 (a * b) = a * b := fun h => w64 h.1 h.2
  unfold mul64
  by_cases h0 : a = 0 ∨ b = 0
  · rw [if_pos h0]
    have hz : a * b = 0 := by rcases h0 with h | h <;> simp [h]
    simp [hz]
  rw [if_neg h0]
  have ha0 : a ≠ 0 := fun h => h0 (.inl h)
  have hb0 : b ≠ 0 := fun h => h0 (.inr h)
  by_cases hs : (decide (0 < wrap64 (a * b)) == !(decide (a < 0) == decide (b < 0))) = true
  · rw [if_pos hs]
    refine ⟨⟨(fun h => by cases h), fun h => ?_⟩, (fun h => by cases h)⟩
    exfalso
    rw [fit h] at hs
    have := sign_prod ha0 hb0
    by_cases h1 : a < 0 <;> by_cases h2 : b < 0 <;> simp [h1, h2] at this hs <;> omega
  rw [if_neg hs]
  by_cases h1 : (-2147483648 ≤ a ∧ a ≤ 2147483647 ∧ -2147483648 ≤ b ∧ b ≤ 2147483647) ∨ a = 1 ∨ b = 1
  · rw [if_pos h1]
    have hf : -9223372036854775808 ≤ a * b ∧ a * b < 9223372036854775808 := by
      rcases h1 with ⟨h1, h2, h3, h4⟩ | rfl | rfl
      · exact small_prod h1 h2 h3 h4
      · omega
      · omega
    exact ⟨⟨fun _ => hf, fun _ => rfl⟩, fun _ => fit hf⟩
  rw [if_neg h1]
  obtain ⟨k, hk, hr0, hr1⟩ := wrap_near (a * b)
  have hdiv := Int.mul_tdiv_add_tmod (wrap64 (a * b)) a
  have hmod : ((wrap64 (a * b)).tmod a).natAbs < a.natAbs := by
    rw [Int.natAbs_tmod]
    exact Nat.mod_lt _ (by omega)
  have hq : ((wrap64 (a * b)).tdiv a).natAbs ≤ (wrap64 (a * b)).natAbs := Int.natAbs_tdiv_le_natAbs _ _
  have main : (wrap64 ((wrap64 (a * b)).tdiv a) == b) = true → -9223372036854775808 ≤ a * b ∧ a * b < 9223372036854775808 := by
    intro h
    have h := beq_iff_eq.1 h
    by_cases hw : (wrap64 (a * b)).tdiv a < 9223372036854775808
    · rw [w64 (by omega) hw] at h
      rw [h] at hdiv
      generalize wrap64 (a * b) = r at *
      omega
    · exfalso
      have hr : wrap64 (a * b) = -9223372036854775808 := by omega
      rw [hr] at hdiv hmod hw hs hk hq h
      have ht : (-9223372036854775808 : Int).tdiv a = 9223372036854775808 := by omega
      rw [ht] at hdiv h
      have hb2 : b = -9223372036854775808 := by rw [← h]; unfold wrap64; omega
      have ha2 : a = -1 := by omega
      subst hb2; subst ha2
      simp at hs
  refine ⟨⟨main, fun hf => ?_⟩, fun h => fit (main h)⟩
  rw [fit hf, Int.mul_tdiv_cancel_left _ ha0, w64 hb hb']
  simp

theorem FnMulChecked : laws_FnMulChecked.Pure := by
  intro a b ha hb
  have hA := bounds_i64 ha
  have hB := bounds_i64 hb
  have H := mul64_is (a := a) (b := b) hA.1 (by omega) hB.1 (by omega)
  have e : mul64 2 3 = (6, true) := by unfold mul64 wrap64; decide
  refine Gives.rounds ?_
  unfold laws_FnMulChecked.f
  refine Gives.bind (WideInt_is hA.1 (by omega)) fun x hx => ?_
  refine Gives.bind (WideInt_is hB.1 (by omega)) fun y hy => ?_
  refine Gives.bind (WideMul_is hx.2.1 hy.2.1 (by omega) (by omega)) fun z hz => ?_
  refine Gives.bind (ToWords_is hz.2.1 (by omega)) fun w hw => ?_
  rw [hz.1, hx.1, hy.1] at hw
  subst hw
  unfold impl_MulChecked.f utils_Mul64.f
  simp only [Option.bind_some, e]
  cases hm : mul64 a b with
  | mk r ok =>
    rw [hm] at H
    simp only at H
    cases ok with
    | true =>
      have hf := H.1.1 rfl
      have hr := H.2 rfl
      refine Gives.congr (f := fun _ => some true) (fun k => ?_) (Gives.now _ rfl)
      rw [decide_eq_true hf]
      have hv : wrap64 (rd [a * b % 18446744073709551616] 0) = r := by
        rw [hr, show rd [a * b % 18446744073709551616] 0 = a * b % 18446744073709551616 from rfl]
        unfold wrap64; omega
      simp [hv]
    | false =>
      have hf : ¬ (-9223372036854775808 ≤ a * b ∧ a * b < 9223372036854775808) := (fun h => by have := H.1.2 h; cases this)
      refine Gives.congr (f := fun _ => some true) (fun k => ?_) (Gives.now _ rfl)
      rw [decide_eq_false hf]
      simp
end Go.Proofs.Ytelpdndlmhcdoaa.Pure
