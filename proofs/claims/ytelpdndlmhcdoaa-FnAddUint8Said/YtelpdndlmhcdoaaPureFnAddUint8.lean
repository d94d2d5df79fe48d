/- FnAddUint8: a sum of two uint8 is told if it fits. The law returns true for every two uint8. -/
import Derived.Test.YtelpdndlmhcdoaaWd4
import Derived.Test.YtelpdndlmhcdoaaQAllx14
import Derived.OpenShut
namespace Go.Proofs.Ytelpdndlmhcdoaa.Pure
open Go.RowKit Go.Proofs.Ytelpdndlmhcdoaa.QAll Go.Proofs.Ytelpdndlmhcdoaa.Wide Go.Proofs.YtelpdndlmhcdoaaW.PrintWords Go.Proofs.YtelpdndlmhcdoaaW.PrintLast Go.Proofs.YtelpdndlmhcdoaaW.PrintMore

theorem FnAddUint8 : laws_FnAddUint8.Pure := by
  intro a b ha hb
  have hA := bounds_u8 ha
  have hB := bounds_u8 hb
  have p : (2 : Int) ^ 8 = 256 := by decide
  have m1 : impl_AddUint8.f a b = some (if a + b ≤ 255 then a + b else 0, decide (a + b ≤ 255)) := by
    unfold impl_AddUint8.f
    rw [if_pos ⟨hA.1, hA.2, hB.1, hB.2⟩]
  have m2 : impl_AddUint8.f 2 3 = some (5, true) := by unfold impl_AddUint8.f; decide
  refine Gives.rounds ?_
  unfold laws_FnAddUint8.f
  rw [u64w (x := a) (by omega) (by omega), u64w (x := b) (by omega) (by omega)]
  refine Gives.bind (bounds_unsigned 8 (by omega)) fun l hl => ?_
  refine Gives.bind (WideUint_is (u := a) (by omega) (by omega)) fun x hx => ?_
  refine Gives.bind (WideUint_is (u := b) (by omega) (by omega)) fun y hy => ?_
  refine Gives.bind (WideAdd_is hx.2.1 hy.2.1 (by omega) (by omega)) fun z hz => ?_
  refine Gives.bind (fitted_is (lo := (l.1, l.2.1)) (hi := (l.2.2.1, l.2.2.2)) hz.2.1 hl.2.1 hl.2.2.2.2.1 (by omega)) fun w hw => ?_
  rw [hz.1, hx.1, hy.1, hl.1, hl.2.2.2.1, p] at hw
  subst hw
  rw [m1, m2]
  refine Gives.congr (f := fun _ => some true) (fun k => ?_) (Gives.now _ rfl)
  simp only [Option.bind_some]
  by_cases hf : a + b ≤ 255
  · have h2 : decide (0 ≤ a + b ∧ a + b ≤ 256 - 1) = true := decide_eq_true (by omega)
    rw [h2, if_pos hf, decide_eq_true hf]
    have hv : (a + b) % 18446744073709551616 % 256 = a + b := by omega
    simp [hv]
  · have h2 : decide (0 ≤ a + b ∧ a + b ≤ 256 - 1) = false := decide_eq_false (by omega)
    rw [h2, if_neg hf, decide_eq_false hf]
    simp
end Go.Proofs.Ytelpdndlmhcdoaa.Pure
