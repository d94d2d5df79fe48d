/- The law, where it says something. -/
import Derived.Test.YtmiafomaglijgaaL27
namespace Go.Proofs.Ytmiafomaglijgaa.QR
open Ieee Go.Proofs.Ytmiafomaglijgaa.Fl Go.RowKit Go.Proofs.YtmiafomaglijgaaW.PrintWords Go.Proofs.YtmiafomaglijgaaW.PrintLast Go.Proofs.YtmiafomaglijgaaW.PrintMore
set_option linter.unusedVariables false
set_option linter.unusedSimpArgs false
set_option maxHeartbeats 8000000 in
set_option maxRecDepth 100000 in
theorem law_h1 (v m : Nat) (k : Nat) (hk : k < 10) (c0 : (FloatKind.f32.format.order m 0 == some Ordering.gt) = true) (xm : Nat) (um : floatToFloatBits .f32 m .f64 = some xm) (lm : xm < 18446744073709551616) (nm : (F64.read xm).isNaN = false) (im : (F64.read xm).isInfinity = false) (c1 : (FloatKind.f32.format.order v v != some Ordering.eq) = false) (xv : Nat) (uv : floatToFloatBits .f32 v .f64 = some xv) (lv : xv < 18446744073709551616) (nv : (F64.read xv).isNaN = false) (iv : (F64.read xv).isInfinity = false) (q xq : Nat) (dq : floatBits .quo .f32 v m = some q) (uq : floatToFloatBits .f32 q .f64 = some xq) (lq : xq < 18446744073709551616) (nq : (F64.read xq).isNaN = false) (iq : (F64.read xq).isInfinity = false) (y : Nat) (b : Bool) (hi : ∀ w, Calls Try.prog 4 #[.int .u32 (v : Int), .int .u32 (m : Int), .int .i64 (k : Int)] w fun e w' => e = .returned (.tuple #[.int .u32 (y : Int), .bool b]) ∧ Below w.heap.size w w') (he : ∀ w, Calls Try.prog 8 #[.float .f32 q] w fun e w' => e = .returned (.bool false) ∧ Below w.heap.size w w') (w : World) : Calls Try.prog 3 #[.int .u32 (v : Int), .int .u32 (m : Int), .int .i64 (k : Int)] w fun e w' => e = .returned (.bool true) ∧ Below w.heap.size w w' := by
  have s5 : ∀ w, (callFunc 5 #[.float .f32 1088421888]).run Try.prog w = .ok (.value (.int .u32 1088421888)) w := f32_bits 1088421888
  have t5 : ∀ w, (callFunc 5 #[.float .f32 1084227584]).run Try.prog w = .ok (.value (.int .u32 1084227584)) w := f32_bits 1084227584
  have QA := Aside0.mk (fun w => show Calls Try.prog 4 #[.int .u32 1088421888, .int .u32 1084227584, .int .i64 0] w fun e w' => e = .returned (.tuple #[.int .u32 1084227584, .bool true]) ∧ Below w.heap.size w w' from impl_is 0 (by omega) seven w)
  have s6 : ∀ w, (callFunc 6 #[.int .u32 1084227584]).run Try.prog w = .ok (.value (.float .f32 1084227584)) w := f32_of 1084227584
  have o5 : (FloatKind.f32.format.order 1084227584 1084227584 == some Ordering.eq) = true := order_self32 (by decide)
  have fv := f32_of (v : Int)
  have fm := f32_of (m : Int)
  rw [Int.toNat_natCast] at fv fm
  have Q := Aside0.mk (Below.refl w.heap.size w)
  have h0 : ¬ (k : Int) < 0 := by omega
  have h9 : ¬ 9 < (k : Int) := by omega
  clear hk
  have cm := up_run um
  have QM := Aside0.mk (fun w => isinf_is xm lm nm w)
  rw [im] at QM
  have cv := up_run uv
  have QV := Aside0.mk (fun w => isinf_is xv lv nv w)
  rw [iv] at QV
  have cd := fun w => run_float_arith (P := Try.prog) (w := w) .quo 26 .f32 _ _ _ dq
  have cq := up_run uq
  have QQ := Aside0.mk (fun w => isinf_is xq lq nq w)
  rw [iq] at QQ
  have QI := Aside0.mk hi
  have QE := Aside0.mk he
  clear um lm nm im uv lv nv iv dq uq lq nq iq hi he
  go_enter Try.func3, Try.ntmps3
  go_wp2_with (first | (go_at_call 4; first | (with_reducible refine Calls.mono (QA.out _) ?_; rintro e w1 ⟨rfl, hb⟩; have Q := Aside0.mk (Q.out.trans (hb.mono Q.out.size)); clear hb) | (with_reducible refine Calls.mono (QI.out _) ?_; rintro e w1 ⟨rfl, hb⟩; have Q := Aside0.mk (Q.out.trans (hb.mono Q.out.size)); clear hb)) | (go_at_call 7; first | (with_reducible refine Calls.mono (QM.out _) ?_; rintro e w1 ⟨rfl, hb⟩; have Q := Aside0.mk (Q.out.trans (hb.mono Q.out.size)); clear hb) | (with_reducible refine Calls.mono (QV.out _) ?_; rintro e w1 ⟨rfl, hb⟩; have Q := Aside0.mk (Q.out.trans (hb.mono Q.out.size)); clear hb) | (with_reducible refine Calls.mono (QQ.out _) ?_; rintro e w1 ⟨rfl, hb⟩; have Q := Aside0.mk (Q.out.trans (hb.mono Q.out.size)); clear hb)) | (go_at_call 8; first | (with_reducible refine Calls.mono (QE.out _) ?_; rintro e w1 ⟨rfl, hb⟩; have Q := Aside0.mk (Q.out.trans (hb.mono Q.out.size)); clear hb)))
  go_ret
  exact ⟨rfl, Q.out⟩
set_option maxHeartbeats 8000000 in
set_option maxRecDepth 100000 in
theorem law_h2 (v m : Nat) (k : Nat) (hk : k < 10) (c0 : (FloatKind.f32.format.order m 0 == some Ordering.gt) = true) (xm : Nat) (um : floatToFloatBits .f32 m .f64 = some xm) (lm : xm < 18446744073709551616) (nm : (F64.read xm).isNaN = false) (im : (F64.read xm).isInfinity = false) (c1 : (FloatKind.f32.format.order v v != some Ordering.eq) = false) (xv : Nat) (uv : floatToFloatBits .f32 v .f64 = some xv) (lv : xv < 18446744073709551616) (nv : (F64.read xv).isNaN = false) (iv : (F64.read xv).isInfinity = false) (q xq : Nat) (dq : floatBits .quo .f32 v m = some q) (uq : floatToFloatBits .f32 q .f64 = some xq) (lq : xq < 18446744073709551616) (nq : (F64.read xq).isNaN = false) (iq : (F64.read xq).isInfinity = false) (hi : ∀ w, Calls Try.prog 4 #[.int .u32 (v : Int), .int .u32 (m : Int), .int .i64 (k : Int)] w fun e w' => e = .returned (.tuple #[.int .u32 (v : Int), .bool true]) ∧ Below w.heap.size w w') (he : ∀ w, Calls Try.prog 8 #[.float .f32 q] w fun e w' => e = .returned (.bool true) ∧ Below w.heap.size w w') (z wh : Nat) (hr : ∀ w, Calls Try.prog 9 #[.float .f64 xq, .int .i64 (k : Int)] w fun e w' => e = .returned (.float .f64 z) ∧ Below w.heap.size w w') (uz : floatToFloatBits .f64 z .f32 = some wh) (c2 : (FloatKind.f32.format.order wh q == some Ordering.eq) = true) (w : World) : Calls Try.prog 3 #[.int .u32 (v : Int), .int .u32 (m : Int), .int .i64 (k : Int)] w fun e w' => e = .returned (.bool true) ∧ Below w.heap.size w w' := by
  have s5 : ∀ w, (callFunc 5 #[.float .f32 1088421888]).run Try.prog w = .ok (.value (.int .u32 1088421888)) w := f32_bits 1088421888
  have t5 : ∀ w, (callFunc 5 #[.float .f32 1084227584]).run Try.prog w = .ok (.value (.int .u32 1084227584)) w := f32_bits 1084227584
  have QA := Aside0.mk (fun w => show Calls Try.prog 4 #[.int .u32 1088421888, .int .u32 1084227584, .int .i64 0] w fun e w' => e = .returned (.tuple #[.int .u32 1084227584, .bool true]) ∧ Below w.heap.size w w' from impl_is 0 (by omega) seven w)
  have s6 : ∀ w, (callFunc 6 #[.int .u32 1084227584]).run Try.prog w = .ok (.value (.float .f32 1084227584)) w := f32_of 1084227584
  have o5 : (FloatKind.f32.format.order 1084227584 1084227584 == some Ordering.eq) = true := order_self32 (by decide)
  have fv := f32_of (v : Int)
  have fm := f32_of (m : Int)
  rw [Int.toNat_natCast] at fv fm
  have Q := Aside0.mk (Below.refl w.heap.size w)
  have h0 : ¬ (k : Int) < 0 := by omega
  have h9 : ¬ 9 < (k : Int) := by omega
  clear hk
  have cm := up_run um
  have QM := Aside0.mk (fun w => isinf_is xm lm nm w)
  rw [im] at QM
  have cv := up_run uv
  have QV := Aside0.mk (fun w => isinf_is xv lv nv w)
  rw [iv] at QV
  have cd := fun w => run_float_arith (P := Try.prog) (w := w) .quo 26 .f32 _ _ _ dq
  have cq := up_run uq
  have QQ := Aside0.mk (fun w => isinf_is xq lq nq w)
  rw [iq] at QQ
  have QI := Aside0.mk hi
  have QE := Aside0.mk he
  have QR := Aside0.mk hr
  have cz := down_run uz
  clear um lm nm im uv lv nv iv dq uq lq nq iq hi he hr uz
  go_enter Try.func3, Try.ntmps3
  go_wp2_with (first | (go_at_call 4; first | (with_reducible refine Calls.mono (QA.out _) ?_; rintro e w1 ⟨rfl, hb⟩; have Q := Aside0.mk (Q.out.trans (hb.mono Q.out.size)); clear hb) | (with_reducible refine Calls.mono (QI.out _) ?_; rintro e w1 ⟨rfl, hb⟩; have Q := Aside0.mk (Q.out.trans (hb.mono Q.out.size)); clear hb)) | (go_at_call 7; first | (with_reducible refine Calls.mono (QM.out _) ?_; rintro e w1 ⟨rfl, hb⟩; have Q := Aside0.mk (Q.out.trans (hb.mono Q.out.size)); clear hb) | (with_reducible refine Calls.mono (QV.out _) ?_; rintro e w1 ⟨rfl, hb⟩; have Q := Aside0.mk (Q.out.trans (hb.mono Q.out.size)); clear hb) | (with_reducible refine Calls.mono (QQ.out _) ?_; rintro e w1 ⟨rfl, hb⟩; have Q := Aside0.mk (Q.out.trans (hb.mono Q.out.size)); clear hb)) | (go_at_call 8; first | (with_reducible refine Calls.mono (QE.out _) ?_; rintro e w1 ⟨rfl, hb⟩; have Q := Aside0.mk (Q.out.trans (hb.mono Q.out.size)); clear hb)) | (go_at_call 9; first | (with_reducible refine Calls.mono (QR.out _) ?_; rintro e w1 ⟨rfl, hb⟩; have Q := Aside0.mk (Q.out.trans (hb.mono Q.out.size)); clear hb)))
  go_ret
  exact ⟨rfl, Q.out⟩
set_option maxHeartbeats 8000000 in
set_option maxRecDepth 100000 in
theorem law_h3 (v m : Nat) (k : Nat) (hk : k < 10) (c0 : (FloatKind.f32.format.order m 0 == some Ordering.gt) = true) (xm : Nat) (um : floatToFloatBits .f32 m .f64 = some xm) (lm : xm < 18446744073709551616) (nm : (F64.read xm).isNaN = false) (im : (F64.read xm).isInfinity = false) (c1 : (FloatKind.f32.format.order v v != some Ordering.eq) = false) (xv : Nat) (uv : floatToFloatBits .f32 v .f64 = some xv) (lv : xv < 18446744073709551616) (nv : (F64.read xv).isNaN = false) (iv : (F64.read xv).isInfinity = false) (q xq : Nat) (dq : floatBits .quo .f32 v m = some q) (uq : floatToFloatBits .f32 q .f64 = some xq) (lq : xq < 18446744073709551616) (nq : (F64.read xq).isNaN = false) (iq : (F64.read xq).isInfinity = false) (y : Nat) (hi : ∀ w, Calls Try.prog 4 #[.int .u32 (v : Int), .int .u32 (m : Int), .int .i64 (k : Int)] w fun e w' => e = .returned (.tuple #[.int .u32 (y : Int), .bool true]) ∧ Below w.heap.size w w') (he : ∀ w, Calls Try.prog 8 #[.float .f32 q] w fun e w' => e = .returned (.bool true) ∧ Below w.heap.size w w') (z wh : Nat) (hr : ∀ w, Calls Try.prog 9 #[.float .f64 xq, .int .i64 (k : Int)] w fun e w' => e = .returned (.float .f64 z) ∧ Below w.heap.size w w') (uz : floatToFloatBits .f64 z .f32 = some wh) (c2 : (FloatKind.f32.format.order wh q == some Ordering.eq) = false) (bk xb : Nat) (db : floatBits .mul .f32 wh m = some bk) (ub : floatToFloatBits .f32 bk .f64 = some xb) (lb : xb < 18446744073709551616) (nb : (F64.read xb).isNaN = false) (ib : (F64.read xb).isInfinity = false) (c3 : (FloatKind.f32.format.order y bk == some Ordering.eq) = true) (w : World) : Calls Try.prog 3 #[.int .u32 (v : Int), .int .u32 (m : Int), .int .i64 (k : Int)] w fun e w' => e = .returned (.bool true) ∧ Below w.heap.size w w' := by
  have s5 : ∀ w, (callFunc 5 #[.float .f32 1088421888]).run Try.prog w = .ok (.value (.int .u32 1088421888)) w := f32_bits 1088421888
  have t5 : ∀ w, (callFunc 5 #[.float .f32 1084227584]).run Try.prog w = .ok (.value (.int .u32 1084227584)) w := f32_bits 1084227584
  have QA := Aside0.mk (fun w => show Calls Try.prog 4 #[.int .u32 1088421888, .int .u32 1084227584, .int .i64 0] w fun e w' => e = .returned (.tuple #[.int .u32 1084227584, .bool true]) ∧ Below w.heap.size w w' from impl_is 0 (by omega) seven w)
  have s6 : ∀ w, (callFunc 6 #[.int .u32 1084227584]).run Try.prog w = .ok (.value (.float .f32 1084227584)) w := f32_of 1084227584
  have o5 : (FloatKind.f32.format.order 1084227584 1084227584 == some Ordering.eq) = true := order_self32 (by decide)
  have fv := f32_of (v : Int)
  have fm := f32_of (m : Int)
  rw [Int.toNat_natCast] at fv fm
  have Q := Aside0.mk (Below.refl w.heap.size w)
  have h0 : ¬ (k : Int) < 0 := by omega
  have h9 : ¬ 9 < (k : Int) := by omega
  clear hk
  have cm := up_run um
  have QM := Aside0.mk (fun w => isinf_is xm lm nm w)
  rw [im] at QM
  have cv := up_run uv
  have QV := Aside0.mk (fun w => isinf_is xv lv nv w)
  rw [iv] at QV
  have cd := fun w => run_float_arith (P := Try.prog) (w := w) .quo 26 .f32 _ _ _ dq
  have cq := up_run uq
  have QQ := Aside0.mk (fun w => isinf_is xq lq nq w)
  rw [iq] at QQ
  have QI := Aside0.mk hi
  have QE := Aside0.mk he
  have QR := Aside0.mk hr
  have cz := down_run uz
  have cb := fun w => run_float_arith (P := Try.prog) (w := w) .mul 26 .f32 _ _ _ db
  have cu := up_run ub
  have QB := Aside0.mk (fun w => isinf_is xb lb nb w)
  rw [ib] at QB
  have fy := f32_of (y : Int)
  rw [Int.toNat_natCast] at fy
  clear um lm nm im uv lv nv iv dq uq lq nq iq hi he hr uz db ub lb nb ib
  go_enter Try.func3, Try.ntmps3
  go_wp2_with (first | (go_at_call 4; first | (with_reducible refine Calls.mono (QA.out _) ?_; rintro e w1 ⟨rfl, hb⟩; have Q := Aside0.mk (Q.out.trans (hb.mono Q.out.size)); clear hb) | (with_reducible refine Calls.mono (QI.out _) ?_; rintro e w1 ⟨rfl, hb⟩; have Q := Aside0.mk (Q.out.trans (hb.mono Q.out.size)); clear hb)) | (go_at_call 7; first | (with_reducible refine Calls.mono (QM.out _) ?_; rintro e w1 ⟨rfl, hb⟩; have Q := Aside0.mk (Q.out.trans (hb.mono Q.out.size)); clear hb) | (with_reducible refine Calls.mono (QV.out _) ?_; rintro e w1 ⟨rfl, hb⟩; have Q := Aside0.mk (Q.out.trans (hb.mono Q.out.size)); clear hb) | (with_reducible refine Calls.mono (QQ.out _) ?_; rintro e w1 ⟨rfl, hb⟩; have Q := Aside0.mk (Q.out.trans (hb.mono Q.out.size)); clear hb) | (with_reducible refine Calls.mono (QB.out _) ?_; rintro e w1 ⟨rfl, hb⟩; have Q := Aside0.mk (Q.out.trans (hb.mono Q.out.size)); clear hb)) | (go_at_call 8; first | (with_reducible refine Calls.mono (QE.out _) ?_; rintro e w1 ⟨rfl, hb⟩; have Q := Aside0.mk (Q.out.trans (hb.mono Q.out.size)); clear hb)) | (go_at_call 9; first | (with_reducible refine Calls.mono (QR.out _) ?_; rintro e w1 ⟨rfl, hb⟩; have Q := Aside0.mk (Q.out.trans (hb.mono Q.out.size)); clear hb)))
  go_ret
  exact ⟨rfl, Q.out⟩
set_option maxHeartbeats 8000000 in
set_option maxRecDepth 100000 in
theorem law_h4 (v m : Nat) (k : Nat) (hk : k < 10) (c0 : (FloatKind.f32.format.order m 0 == some Ordering.gt) = true) (xm : Nat) (um : floatToFloatBits .f32 m .f64 = some xm) (lm : xm < 18446744073709551616) (nm : (F64.read xm).isNaN = false) (im : (F64.read xm).isInfinity = false) (c1 : (FloatKind.f32.format.order v v != some Ordering.eq) = false) (xv : Nat) (uv : floatToFloatBits .f32 v .f64 = some xv) (lv : xv < 18446744073709551616) (nv : (F64.read xv).isNaN = false) (iv : (F64.read xv).isInfinity = false) (q xq : Nat) (dq : floatBits .quo .f32 v m = some q) (uq : floatToFloatBits .f32 q .f64 = some xq) (lq : xq < 18446744073709551616) (nq : (F64.read xq).isNaN = false) (iq : (F64.read xq).isInfinity = false) (y : Nat) (hi : ∀ w, Calls Try.prog 4 #[.int .u32 (v : Int), .int .u32 (m : Int), .int .i64 (k : Int)] w fun e w' => e = .returned (.tuple #[.int .u32 (y : Int), .bool false]) ∧ Below w.heap.size w w') (he : ∀ w, Calls Try.prog 8 #[.float .f32 q] w fun e w' => e = .returned (.bool true) ∧ Below w.heap.size w w') (z wh : Nat) (hr : ∀ w, Calls Try.prog 9 #[.float .f64 xq, .int .i64 (k : Int)] w fun e w' => e = .returned (.float .f64 z) ∧ Below w.heap.size w w') (uz : floatToFloatBits .f64 z .f32 = some wh) (c2 : (FloatKind.f32.format.order wh q == some Ordering.eq) = false) (bk xb : Nat) (db : floatBits .mul .f32 wh m = some bk) (ub : floatToFloatBits .f32 bk .f64 = some xb) (lb : xb < 18446744073709551616) (nb : (F64.read xb).isNaN = false) (ib : (F64.read xb).isInfinity = true) (w : World) : Calls Try.prog 3 #[.int .u32 (v : Int), .int .u32 (m : Int), .int .i64 (k : Int)] w fun e w' => e = .returned (.bool true) ∧ Below w.heap.size w w' := by
  have s5 : ∀ w, (callFunc 5 #[.float .f32 1088421888]).run Try.prog w = .ok (.value (.int .u32 1088421888)) w := f32_bits 1088421888
  have t5 : ∀ w, (callFunc 5 #[.float .f32 1084227584]).run Try.prog w = .ok (.value (.int .u32 1084227584)) w := f32_bits 1084227584
  have QA := Aside0.mk (fun w => show Calls Try.prog 4 #[.int .u32 1088421888, .int .u32 1084227584, .int .i64 0] w fun e w' => e = .returned (.tuple #[.int .u32 1084227584, .bool true]) ∧ Below w.heap.size w w' from impl_is 0 (by omega) seven w)
  have s6 : ∀ w, (callFunc 6 #[.int .u32 1084227584]).run Try.prog w = .ok (.value (.float .f32 1084227584)) w := f32_of 1084227584
  have o5 : (FloatKind.f32.format.order 1084227584 1084227584 == some Ordering.eq) = true := order_self32 (by decide)
  have fv := f32_of (v : Int)
  have fm := f32_of (m : Int)
  rw [Int.toNat_natCast] at fv fm
  have Q := Aside0.mk (Below.refl w.heap.size w)
  have h0 : ¬ (k : Int) < 0 := by omega
  have h9 : ¬ 9 < (k : Int) := by omega
  clear hk
  have cm := up_run um
  have QM := Aside0.mk (fun w => isinf_is xm lm nm w)
  rw [im] at QM
  have cv := up_run uv
  have QV := Aside0.mk (fun w => isinf_is xv lv nv w)
  rw [iv] at QV
  have cd := fun w => run_float_arith (P := Try.prog) (w := w) .quo 26 .f32 _ _ _ dq
  have cq := up_run uq
  have QQ := Aside0.mk (fun w => isinf_is xq lq nq w)
  rw [iq] at QQ
  have QI := Aside0.mk hi
  have QE := Aside0.mk he
  have QR := Aside0.mk hr
  have cz := down_run uz
  have cb := fun w => run_float_arith (P := Try.prog) (w := w) .mul 26 .f32 _ _ _ db
  have cu := up_run ub
  have QB := Aside0.mk (fun w => isinf_is xb lb nb w)
  rw [ib] at QB
  clear um lm nm im uv lv nv iv dq uq lq nq iq hi he hr uz db ub lb nb ib
  go_enter Try.func3, Try.ntmps3
  go_wp2_with (first | (go_at_call 4; first | (with_reducible refine Calls.mono (QA.out _) ?_; rintro e w1 ⟨rfl, hb⟩; have Q := Aside0.mk (Q.out.trans (hb.mono Q.out.size)); clear hb) | (with_reducible refine Calls.mono (QI.out _) ?_; rintro e w1 ⟨rfl, hb⟩; have Q := Aside0.mk (Q.out.trans (hb.mono Q.out.size)); clear hb)) | (go_at_call 7; first | (with_reducible refine Calls.mono (QM.out _) ?_; rintro e w1 ⟨rfl, hb⟩; have Q := Aside0.mk (Q.out.trans (hb.mono Q.out.size)); clear hb) | (with_reducible refine Calls.mono (QV.out _) ?_; rintro e w1 ⟨rfl, hb⟩; have Q := Aside0.mk (Q.out.trans (hb.mono Q.out.size)); clear hb) | (with_reducible refine Calls.mono (QQ.out _) ?_; rintro e w1 ⟨rfl, hb⟩; have Q := Aside0.mk (Q.out.trans (hb.mono Q.out.size)); clear hb) | (with_reducible refine Calls.mono (QB.out _) ?_; rintro e w1 ⟨rfl, hb⟩; have Q := Aside0.mk (Q.out.trans (hb.mono Q.out.size)); clear hb)) | (go_at_call 8; first | (with_reducible refine Calls.mono (QE.out _) ?_; rintro e w1 ⟨rfl, hb⟩; have Q := Aside0.mk (Q.out.trans (hb.mono Q.out.size)); clear hb)) | (go_at_call 9; first | (with_reducible refine Calls.mono (QR.out _) ?_; rintro e w1 ⟨rfl, hb⟩; have Q := Aside0.mk (Q.out.trans (hb.mono Q.out.size)); clear hb)))
  go_ret
  exact ⟨rfl, Q.out⟩
end Go.Proofs.Ytmiafomaglijgaa.QR
