/- What impl.RoundInt64To returns: what the kernel gives, and true; the deferred noNumber has nothing to catch. (Where the kernel dies, nothing is said.) -/
import Derived.Test.YtelpdndlmhcdoaaQKx1
import Derived.Test.YtelpdndlmhcdoaaWMore
import Derived.Test.YtelpdndlmhcdoaaProg
import Derived.Defers
import Derived.Recover
import Derived.Laws.Pointers
import Derived.Laws.Panics
import Derived.WalkKit
import Derived.Deep.QuietTactic
import Derived.BigQuiet
import Derived.WideLaws
import Derived.KernelRfl
namespace Go.Proofs.Ytelpdndlmhcdoaa.QR
open Go.RowKit Go.Proofs.YtelpdndlmhcdoaaW.PrintWords Go.Proofs.YtelpdndlmhcdoaaW.PrintLast Go.Proofs.YtelpdndlmhcdoaaW.PrintMore
set_option linter.unusedVariables false
theorem idle38 (p q : Addr) (w : World) :
    CallsD Try.prog 38 #[.pointer (some p), .pointer (some q)] .returning w fun e u' w' => e = .returned (.tuple #[]) ∧ u' = .returning ∧ w' = w := by
  refine callsD_of_wpS Try.func38 rfl fun c₀ cs hu => ?_
  apply wpS_seq
  apply wpS_region
  simp [wpOpsS, go_sem, recoverD, hu, Try.ntmps38, Exit.thenS]
  refine wpS_cond (t := false) (by simp [Act.eval, Array.replicate]) ?_
  simp only [Bool.false_eq_true, if_false]
  refine wpS_of_wp (wp_skip ?_)
  cases c₀
  simp_all [bodyPostS, results, Try.results38]
def impl_RoundInt64To.f (k : Nat) (a0 a1 a2 : Int) (a3 : Bool) : Option (Int × Bool) :=
  (QK.kernels_RoundToMultipleInt64.f k a0 a1 (IntKind.i8.wrap a2) a3).bind fun t => some (t, true)
theorem impl_RoundInt64To.mono : ∀ a0 a1 a2 a3 k, LeO (impl_RoundInt64To.f k a0 a1 a2 a3) (impl_RoundInt64To.f (k + 1) a0 a1 a2 a3) := by
  intro a0 a1 a2 a3 k
  unfold impl_RoundInt64To.f
  exact LeO.bind (QK.kernels_RoundToMultipleInt64.mono _ _ _ _ _) (fun _ => LeO.refl _)
set_option maxHeartbeats 800000 in
set_option maxRecDepth 100000 in
theorem impl_RoundInt64To.calls (k : Nat) (a0 a1 a2 : Int) (a3 : Bool) (r1 : Int) (r2 : Bool) (w : World) (h : impl_RoundInt64To.f k a0 a1 a2 a3 = some (r1, r2)) :
    Calls Try.prog 21 #[.int .i64 a0, .int .i64 a1, .int .i64 a2, .bool a3] w fun e w' => e = .returned (.tuple #[.int .i64 r1, .bool r2]) ∧ Below w.heap.size w w' := by
  unfold impl_RoundInt64To.f at h
  obtain ⟨t, ht, h2⟩ := Option.bind_eq_some_iff.mp h
  clear h
  have h3 := Option.some.inj h2
  simp only [Prod.mk.injEq] at h3
  obtain ⟨rfl, rfl⟩ := h3
  clear h2
  have HT := Aside0.mk ht
  clear ht
  go_enter_defers Try.func21, Try.ntmps21
  go_wp2_with fail
  refine (QK.kernels_RoundToMultipleInt64.calls k a0 a1 (IntKind.i8.wrap a2) a3 t _ HT.out).mono ?_
  rintro e w2 ⟨rfl, ⟨nd, rfl⟩⟩
  go_wp2
  refine leaves_cons (f := 38) (args := #[.pointer (some ⟨w.heap.size, 0, none⟩), .pointer (some ⟨w.heap.size + 1, 0, none⟩)]) (by simp) (by simp [go_sem]) ?_
  refine (idle38 ⟨w.heap.size, 0, none⟩ ⟨w.heap.size + 1, 0, none⟩ _).mono ?_
  rintro e u' w'' ⟨rfl, rfl, rfl⟩
  refine ⟨_, by simp [results, Try.results21, go_sem]; rfl, ?_⟩
  exact ⟨rfl, below_set (below_set (pw_below_drewN (below_alloc (below_alloc (Below.refl _ _) _) _) _) (Nat.le_refl _)) (Nat.le_succ _)⟩
end Go.Proofs.Ytelpdndlmhcdoaa.QR
