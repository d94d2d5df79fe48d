/- FnMulInt32: a product of two int32 is told if it fits. The law returns true for every two int32. -/
import Derived.Test.YtelpdndlmhcdoaaWd5
import Derived.Test.YtelpdndlmhcdoaaQAllx8
import Derived.OpenShut
namespace Go.Proofs.Ytelpdndlmhcdoaa.Pure
open Go.RowKit Go.Proofs.Ytelpdndlmhcdoaa.QAll Go.Proofs.Ytelpdndlmhcdoaa.Wide Go.Proofs.YtelpdndlmhcdoaaW.PrintWords Go.Proofs.YtelpdndlmhcdoaaW.PrintLast Go.Proofs.YtelpdndlmhcdoaaW.PrintMore

theorem FnMulInt32 : laws_FnMulInt32.Pure := by
  intro a b ha hb
  have hA := bounds_i32 ha
  have hB := bounds_i32 hb
  have p : (2 : Int) ^ (32 - 1) = 2147483648 := by decide
  have m1 : impl_MulInt32.f a b = some (if (-2147483648) ≤ a * b ∧ a * b ≤ 2147483647 then a * b else 0, decide ((-2147483648) ≤ a * b ∧ a * b ≤ 2147483647)) := by
    unfold impl_MulInt32.f
    rw [if_pos ⟨hA.1, hA.2, hB.1, hB.2⟩]
  have m2 : impl_MulInt32.f 2 3 = some (6, true) := by unfold impl_MulInt32.f; decide
  refine Gives.rounds ?_
  unfold laws_FnMulInt32.f
  rw [w64 (x := a) (by omega) (by omega), w64 (x := b) (by omega) (by omega)]
  refine Gives.bind (bounds_signed 32 (by omega) (by omega)) fun l hl => ?_
  refine Gives.bind (WideInt_is (a := a) (by omega) (by omega)) fun x hx => ?_
  refine Gives.bind (WideInt_is (a := b) (by omega) (by omega)) fun y hy => ?_
  refine Gives.bind (WideMul_is hx.2.1 hy.2.1 (by omega) (by omega)) fun z hz => ?_
  refine Gives.bind (fitted_is (lo := (l.1, l.2.1)) (hi := (l.2.2.1, l.2.2.2)) hz.2.1 hl.2.1 hl.2.2.2.2.1 (by omega)) fun w hw => ?_
  rw [hz.1, hx.1, hy.1, hl.1, hl.2.2.2.1, p] at hw
  subst hw
  rw [m1, m2]
  refine Gives.congr (f := fun _ => some true) (fun k => ?_) (Gives.now _ rfl)
  simp only [Option.bind_some]
  by_cases hf : (-2147483648) ≤ a * b ∧ a * b ≤ 2147483647
  · have h2 : decide (-2147483648 ≤ a * b ∧ a * b ≤ 2147483648 - 1) = true := decide_eq_true (by omega)
    rw [h2, if_pos hf, decide_eq_true hf]
    have hv : wrap32 (a * b % 18446744073709551616) = a * b := by unfold wrap32; omega
    simp [hv]
  · have h2 : decide (-2147483648 ≤ a * b ∧ a * b ≤ 2147483648 - 1) = false := decide_eq_false (by omega)
    rw [h2, if_neg hf, decide_eq_false hf]
    simp
end Go.Proofs.Ytelpdndlmhcdoaa.Pure
