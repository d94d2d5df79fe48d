/- exactPart; the reference's rounding. -/
import Derived.Test.YtmiafomaglijgaaL17
namespace Go.Proofs.Ytmiafomaglijgaa.QR
open Ieee Go.Proofs.Ytmiafomaglijgaa.Fl Go.RowKit Go.Proofs.YtmiafomaglijgaaW.PrintWords Go.Proofs.YtmiafomaglijgaaW.PrintLast Go.Proofs.YtmiafomaglijgaaW.PrintMore
set_option linter.unusedVariables false
set_option linter.unusedSimpArgs false
theorem up_run {q r : Nat} (h : floatToFloatBits .f32 q .f64 = some r) (w : World) : (convert 26 29 (.float .f32 q)).run Try.prog w = .ok (.float .f64 r) w :=
  run_convert_float_float (P := Try.prog) (w := w) 26 29 .f32 .f64 q r (by kernel_rfl) (by kernel_rfl) h
theorem down_run {q r : Nat} (h : floatToFloatBits .f64 q .f32 = some r) (w : World) : (convert 29 26 (.float .f64 q)).run Try.prog w = .ok (.float .f32 r) w :=
  run_convert_float_float (P := Try.prog) (w := w) 29 26 .f64 .f32 q r (by kernel_rfl) (by kernel_rfl) h
set_option maxHeartbeats 8000000 in
set_option maxRecDepth 100000 in
theorem ep_is {q : Nat} {s : Bool} {M X Y : Nat} (hq : Units (F32.read q) s M) (hg : Good M) (hX : Units (F32.read (W F32 false (Dz s M))) false X) (hgX : Good X) (hY : Units (F64.read (W F64 false (Dz s M))) false Y) (w : World) : Calls Try.prog 8 #[.float .f32 q] w fun e w' => e = .returned (.bool (decide (X = Y))) ∧ Below w.heap.size w w' := by
  have hx := k64 s hg
  have hl := k64 s (R_good .down s hg)
  have c1 := up_run (widen_is hq hg)
  have QF := Aside0.mk (fun w => flr_is (W F64 s M) (units_fin hx).2 w)
  rw [whl_is .down hx] at QF
  have c2 := down_run (narrow_is hl (R_good .down s hg))
  have c3 := fun w => run_float_arith (P := Try.prog) (w := w) .sub 26 .f32 _ _ _ (sub_any F32 hq (k32 s (R_good .down s hg)))
  have c4 := up_run (widen_is hX hgX)
  have c5 := fun w => run_float_arith (P := Try.prog) (w := w) .sub 29 .f64 _ _ _ (sub_any F64 hx hl)
  have c6 := order_eq (k64 false hgX) hY
  have e6 : (decide (sg false X = sg false Y)) = decide (X = Y) := by
    unfold sg; simp; omega
  rw [e6] at c6
  generalize decide (X = Y) = b at c6 ⊢
  clear hq hg hX hgX hY hx hl e6
  generalize W F64 false (Dz s M) = d64 at c5 c6
  generalize W F32 false (Dz s M) = d32 at c3 c4
  generalize W F64 false X = x64 at c4 c6
  generalize W F64 s M = x at c1 QF c5
  generalize W F64 s (R .down s M * U1) = l64 at QF c2 c5
  generalize W F32 s (R .down s M * U1) = l32 at c2 c3
  go_enter Try.func8, Try.ntmps8
  go_wp2_with (go_at_call 13; with_reducible refine Calls.mono (QF.out _) ?_; rintro e w1 ⟨rfl, hb⟩; have Q1 := Aside0.mk hb; clear hb)
  go_ret
  exact ⟨rfl, Q1.out⟩
end Go.Proofs.Ytmiafomaglijgaa.QR
