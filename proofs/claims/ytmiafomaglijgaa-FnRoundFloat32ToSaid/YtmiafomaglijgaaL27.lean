/- The law, where it says nothing. -/
import Derived.Test.YtmiafomaglijgaaL26
namespace Go.Proofs.Ytmiafomaglijgaa.QR
open Ieee Go.Proofs.Ytmiafomaglijgaa.Fl Go.RowKit Go.Proofs.YtmiafomaglijgaaW.PrintWords Go.Proofs.YtmiafomaglijgaaW.PrintLast Go.Proofs.YtmiafomaglijgaaW.PrintMore
set_option linter.unusedVariables false
set_option linter.unusedSimpArgs false
set_option maxHeartbeats 8000000 in
set_option maxRecDepth 100000 in
theorem law_a (v m : Nat) (mode : Int) (h0 : mode < 0) (w : World) : Calls Try.prog 3 #[.int .u32 (v : Int), .int .u32 (m : Int), .int .i64 mode] w fun e w' => e = .returned (.bool true) ∧ Below w.heap.size w w' := by
  have s5 : ∀ w, (callFunc 5 #[.float .f32 1088421888]).run Try.prog w = .ok (.value (.int .u32 1088421888)) w := f32_bits 1088421888
  have t5 : ∀ w, (callFunc 5 #[.float .f32 1084227584]).run Try.prog w = .ok (.value (.int .u32 1084227584)) w := f32_bits 1084227584
  have QA := Aside0.mk (fun w => show Calls Try.prog 4 #[.int .u32 1088421888, .int .u32 1084227584, .int .i64 0] w fun e w' => e = .returned (.tuple #[.int .u32 1084227584, .bool true]) ∧ Below w.heap.size w w' from impl_is 0 (by omega) seven w)
  have s6 : ∀ w, (callFunc 6 #[.int .u32 1084227584]).run Try.prog w = .ok (.value (.float .f32 1084227584)) w := f32_of 1084227584
  have o5 : (FloatKind.f32.format.order 1084227584 1084227584 == some Ordering.eq) = true := order_self32 (by decide)
  have fv := f32_of (v : Int)
  have fm := f32_of (m : Int)
  rw [Int.toNat_natCast] at fv fm
  have Q := Aside0.mk (Below.refl w.heap.size w)
  go_enter Try.func3, Try.ntmps3
  go_wp2_with (first | (go_at_call 4; first | (with_reducible refine Calls.mono (QA.out _) ?_; rintro e w1 ⟨rfl, hb⟩; have Q := Aside0.mk (Q.out.trans (hb.mono Q.out.size)); clear hb)))
  go_ret
  exact ⟨rfl, Q.out⟩
set_option maxHeartbeats 8000000 in
set_option maxRecDepth 100000 in
theorem law_b (v m : Nat) (mode : Int) (h0 : ¬ mode < 0) (h9 : 9 < mode) (w : World) : Calls Try.prog 3 #[.int .u32 (v : Int), .int .u32 (m : Int), .int .i64 mode] w fun e w' => e = .returned (.bool true) ∧ Below w.heap.size w w' := by
  have s5 : ∀ w, (callFunc 5 #[.float .f32 1088421888]).run Try.prog w = .ok (.value (.int .u32 1088421888)) w := f32_bits 1088421888
  have t5 : ∀ w, (callFunc 5 #[.float .f32 1084227584]).run Try.prog w = .ok (.value (.int .u32 1084227584)) w := f32_bits 1084227584
  have QA := Aside0.mk (fun w => show Calls Try.prog 4 #[.int .u32 1088421888, .int .u32 1084227584, .int .i64 0] w fun e w' => e = .returned (.tuple #[.int .u32 1084227584, .bool true]) ∧ Below w.heap.size w w' from impl_is 0 (by omega) seven w)
  have s6 : ∀ w, (callFunc 6 #[.int .u32 1084227584]).run Try.prog w = .ok (.value (.float .f32 1084227584)) w := f32_of 1084227584
  have o5 : (FloatKind.f32.format.order 1084227584 1084227584 == some Ordering.eq) = true := order_self32 (by decide)
  have fv := f32_of (v : Int)
  have fm := f32_of (m : Int)
  rw [Int.toNat_natCast] at fv fm
  have Q := Aside0.mk (Below.refl w.heap.size w)
  go_enter Try.func3, Try.ntmps3
  go_wp2_with (first | (go_at_call 4; first | (with_reducible refine Calls.mono (QA.out _) ?_; rintro e w1 ⟨rfl, hb⟩; have Q := Aside0.mk (Q.out.trans (hb.mono Q.out.size)); clear hb)))
  go_ret
  exact ⟨rfl, Q.out⟩
set_option maxHeartbeats 8000000 in
set_option maxRecDepth 100000 in
theorem law_c (v m : Nat) (mode : Int) (h0 : ¬ mode < 0) (h9 : ¬ 9 < mode) (c0 : (FloatKind.f32.format.order m 0 == some Ordering.gt) = false) (w : World) : Calls Try.prog 3 #[.int .u32 (v : Int), .int .u32 (m : Int), .int .i64 mode] w fun e w' => e = .returned (.bool true) ∧ Below w.heap.size w w' := by
  have s5 : ∀ w, (callFunc 5 #[.float .f32 1088421888]).run Try.prog w = .ok (.value (.int .u32 1088421888)) w := f32_bits 1088421888
  have t5 : ∀ w, (callFunc 5 #[.float .f32 1084227584]).run Try.prog w = .ok (.value (.int .u32 1084227584)) w := f32_bits 1084227584
  have QA := Aside0.mk (fun w => show Calls Try.prog 4 #[.int .u32 1088421888, .int .u32 1084227584, .int .i64 0] w fun e w' => e = .returned (.tuple #[.int .u32 1084227584, .bool true]) ∧ Below w.heap.size w w' from impl_is 0 (by omega) seven w)
  have s6 : ∀ w, (callFunc 6 #[.int .u32 1084227584]).run Try.prog w = .ok (.value (.float .f32 1084227584)) w := f32_of 1084227584
  have o5 : (FloatKind.f32.format.order 1084227584 1084227584 == some Ordering.eq) = true := order_self32 (by decide)
  have fv := f32_of (v : Int)
  have fm := f32_of (m : Int)
  rw [Int.toNat_natCast] at fv fm
  have Q := Aside0.mk (Below.refl w.heap.size w)
  go_enter Try.func3, Try.ntmps3
  go_wp2_with (first | (go_at_call 4; first | (with_reducible refine Calls.mono (QA.out _) ?_; rintro e w1 ⟨rfl, hb⟩; have Q := Aside0.mk (Q.out.trans (hb.mono Q.out.size)); clear hb)))
  go_ret
  exact ⟨rfl, Q.out⟩
set_option maxHeartbeats 8000000 in
set_option maxRecDepth 100000 in
theorem law_d (v m : Nat) (mode : Int) (h0 : ¬ mode < 0) (h9 : ¬ 9 < mode) (c0 : (FloatKind.f32.format.order m 0 == some Ordering.gt) = true) (xm : Nat) (um : floatToFloatBits .f32 m .f64 = some xm) (lm : xm < 18446744073709551616) (nm : (F64.read xm).isNaN = false) (im : (F64.read xm).isInfinity = true) (w : World) : Calls Try.prog 3 #[.int .u32 (v : Int), .int .u32 (m : Int), .int .i64 mode] w fun e w' => e = .returned (.bool true) ∧ Below w.heap.size w w' := by
  have s5 : ∀ w, (callFunc 5 #[.float .f32 1088421888]).run Try.prog w = .ok (.value (.int .u32 1088421888)) w := f32_bits 1088421888
  have t5 : ∀ w, (callFunc 5 #[.float .f32 1084227584]).run Try.prog w = .ok (.value (.int .u32 1084227584)) w := f32_bits 1084227584
  have QA := Aside0.mk (fun w => show Calls Try.prog 4 #[.int .u32 1088421888, .int .u32 1084227584, .int .i64 0] w fun e w' => e = .returned (.tuple #[.int .u32 1084227584, .bool true]) ∧ Below w.heap.size w w' from impl_is 0 (by omega) seven w)
  have s6 : ∀ w, (callFunc 6 #[.int .u32 1084227584]).run Try.prog w = .ok (.value (.float .f32 1084227584)) w := f32_of 1084227584
  have o5 : (FloatKind.f32.format.order 1084227584 1084227584 == some Ordering.eq) = true := order_self32 (by decide)
  have fv := f32_of (v : Int)
  have fm := f32_of (m : Int)
  rw [Int.toNat_natCast] at fv fm
  have Q := Aside0.mk (Below.refl w.heap.size w)
  have cm := up_run um
  have QM := Aside0.mk (fun w => isinf_is xm lm nm w)
  rw [im] at QM
  clear um lm nm im
  go_enter Try.func3, Try.ntmps3
  go_wp2_with (first | (go_at_call 4; first | (with_reducible refine Calls.mono (QA.out _) ?_; rintro e w1 ⟨rfl, hb⟩; have Q := Aside0.mk (Q.out.trans (hb.mono Q.out.size)); clear hb)) | (go_at_call 7; first | (with_reducible refine Calls.mono (QM.out _) ?_; rintro e w1 ⟨rfl, hb⟩; have Q := Aside0.mk (Q.out.trans (hb.mono Q.out.size)); clear hb)))
  go_ret
  exact ⟨rfl, Q.out⟩
set_option maxHeartbeats 8000000 in
set_option maxRecDepth 100000 in
theorem law_e (v m : Nat) (mode : Int) (h0 : ¬ mode < 0) (h9 : ¬ 9 < mode) (c0 : (FloatKind.f32.format.order m 0 == some Ordering.gt) = true) (xm : Nat) (um : floatToFloatBits .f32 m .f64 = some xm) (lm : xm < 18446744073709551616) (nm : (F64.read xm).isNaN = false) (im : (F64.read xm).isInfinity = false) (c1 : (FloatKind.f32.format.order v v != some Ordering.eq) = true) (w : World) : Calls Try.prog 3 #[.int .u32 (v : Int), .int .u32 (m : Int), .int .i64 mode] w fun e w' => e = .returned (.bool true) ∧ Below w.heap.size w w' := by
  have s5 : ∀ w, (callFunc 5 #[.float .f32 1088421888]).run Try.prog w = .ok (.value (.int .u32 1088421888)) w := f32_bits 1088421888
  have t5 : ∀ w, (callFunc 5 #[.float .f32 1084227584]).run Try.prog w = .ok (.value (.int .u32 1084227584)) w := f32_bits 1084227584
  have QA := Aside0.mk (fun w => show Calls Try.prog 4 #[.int .u32 1088421888, .int .u32 1084227584, .int .i64 0] w fun e w' => e = .returned (.tuple #[.int .u32 1084227584, .bool true]) ∧ Below w.heap.size w w' from impl_is 0 (by omega) seven w)
  have s6 : ∀ w, (callFunc 6 #[.int .u32 1084227584]).run Try.prog w = .ok (.value (.float .f32 1084227584)) w := f32_of 1084227584
  have o5 : (FloatKind.f32.format.order 1084227584 1084227584 == some Ordering.eq) = true := order_self32 (by decide)
  have fv := f32_of (v : Int)
  have fm := f32_of (m : Int)
  rw [Int.toNat_natCast] at fv fm
  have Q := Aside0.mk (Below.refl w.heap.size w)
  have cm := up_run um
  have QM := Aside0.mk (fun w => isinf_is xm lm nm w)
  rw [im] at QM
  clear um lm nm im
  go_enter Try.func3, Try.ntmps3
  go_wp2_with (first | (go_at_call 4; first | (with_reducible refine Calls.mono (QA.out _) ?_; rintro e w1 ⟨rfl, hb⟩; have Q := Aside0.mk (Q.out.trans (hb.mono Q.out.size)); clear hb)) | (go_at_call 7; first | (with_reducible refine Calls.mono (QM.out _) ?_; rintro e w1 ⟨rfl, hb⟩; have Q := Aside0.mk (Q.out.trans (hb.mono Q.out.size)); clear hb)))
  go_ret
  exact ⟨rfl, Q.out⟩
set_option maxHeartbeats 8000000 in
set_option maxRecDepth 100000 in
theorem law_f (v m : Nat) (mode : Int) (h0 : ¬ mode < 0) (h9 : ¬ 9 < mode) (c0 : (FloatKind.f32.format.order m 0 == some Ordering.gt) = true) (xm : Nat) (um : floatToFloatBits .f32 m .f64 = some xm) (lm : xm < 18446744073709551616) (nm : (F64.read xm).isNaN = false) (im : (F64.read xm).isInfinity = false) (c1 : (FloatKind.f32.format.order v v != some Ordering.eq) = false) (xv : Nat) (uv : floatToFloatBits .f32 v .f64 = some xv) (lv : xv < 18446744073709551616) (nv : (F64.read xv).isNaN = false) (iv : (F64.read xv).isInfinity = true) (w : World) : Calls Try.prog 3 #[.int .u32 (v : Int), .int .u32 (m : Int), .int .i64 mode] w fun e w' => e = .returned (.bool true) ∧ Below w.heap.size w w' := by
  have s5 : ∀ w, (callFunc 5 #[.float .f32 1088421888]).run Try.prog w = .ok (.value (.int .u32 1088421888)) w := f32_bits 1088421888
  have t5 : ∀ w, (callFunc 5 #[.float .f32 1084227584]).run Try.prog w = .ok (.value (.int .u32 1084227584)) w := f32_bits 1084227584
  have QA := Aside0.mk (fun w => show Calls Try.prog 4 #[.int .u32 1088421888, .int .u32 1084227584, .int .i64 0] w fun e w' => e = .returned (.tuple #[.int .u32 1084227584, .bool true]) ∧ Below w.heap.size w w' from impl_is 0 (by omega) seven w)
  have s6 : ∀ w, (callFunc 6 #[.int .u32 1084227584]).run Try.prog w = .ok (.value (.float .f32 1084227584)) w := f32_of 1084227584
  have o5 : (FloatKind.f32.format.order 1084227584 1084227584 == some Ordering.eq) = true := order_self32 (by decide)
  have fv := f32_of (v : Int)
  have fm := f32_of (m : Int)
  rw [Int.toNat_natCast] at fv fm
  have Q := Aside0.mk (Below.refl w.heap.size w)
  have cm := up_run um
  have QM := Aside0.mk (fun w => isinf_is xm lm nm w)
  rw [im] at QM
  have cv := up_run uv
  have QV := Aside0.mk (fun w => isinf_is xv lv nv w)
  rw [iv] at QV
  clear um lm nm im uv lv nv iv
  go_enter Try.func3, Try.ntmps3
  go_wp2_with (first | (go_at_call 4; first | (with_reducible refine Calls.mono (QA.out _) ?_; rintro e w1 ⟨rfl, hb⟩; have Q := Aside0.mk (Q.out.trans (hb.mono Q.out.size)); clear hb)) | (go_at_call 7; first | (with_reducible refine Calls.mono (QM.out _) ?_; rintro e w1 ⟨rfl, hb⟩; have Q := Aside0.mk (Q.out.trans (hb.mono Q.out.size)); clear hb) | (with_reducible refine Calls.mono (QV.out _) ?_; rintro e w1 ⟨rfl, hb⟩; have Q := Aside0.mk (Q.out.trans (hb.mono Q.out.size)); clear hb)))
  go_ret
  exact ⟨rfl, Q.out⟩
set_option maxHeartbeats 8000000 in
set_option maxRecDepth 100000 in
theorem law_g (v m : Nat) (mode : Int) (h0 : ¬ mode < 0) (h9 : ¬ 9 < mode) (c0 : (FloatKind.f32.format.order m 0 == some Ordering.gt) = true) (xm : Nat) (um : floatToFloatBits .f32 m .f64 = some xm) (lm : xm < 18446744073709551616) (nm : (F64.read xm).isNaN = false) (im : (F64.read xm).isInfinity = false) (c1 : (FloatKind.f32.format.order v v != some Ordering.eq) = false) (xv : Nat) (uv : floatToFloatBits .f32 v .f64 = some xv) (lv : xv < 18446744073709551616) (nv : (F64.read xv).isNaN = false) (iv : (F64.read xv).isInfinity = false) (q xq : Nat) (dq : floatBits .quo .f32 v m = some q) (uq : floatToFloatBits .f32 q .f64 = some xq) (lq : xq < 18446744073709551616) (nq : (F64.read xq).isNaN = false) (iq : (F64.read xq).isInfinity = true) (w : World) : Calls Try.prog 3 #[.int .u32 (v : Int), .int .u32 (m : Int), .int .i64 mode] w fun e w' => e = .returned (.bool true) ∧ Below w.heap.size w w' := by
  have s5 : ∀ w, (callFunc 5 #[.float .f32 1088421888]).run Try.prog w = .ok (.value (.int .u32 1088421888)) w := f32_bits 1088421888
  have t5 : ∀ w, (callFunc 5 #[.float .f32 1084227584]).run Try.prog w = .ok (.value (.int .u32 1084227584)) w := f32_bits 1084227584
  have QA := Aside0.mk (fun w => show Calls Try.prog 4 #[.int .u32 1088421888, .int .u32 1084227584, .int .i64 0] w fun e w' => e = .returned (.tuple #[.int .u32 1084227584, .bool true]) ∧ Below w.heap.size w w' from impl_is 0 (by omega) seven w)
  have s6 : ∀ w, (callFunc 6 #[.int .u32 1084227584]).run Try.prog w = .ok (.value (.float .f32 1084227584)) w := f32_of 1084227584
  have o5 : (FloatKind.f32.format.order 1084227584 1084227584 == some Ordering.eq) = true := order_self32 (by decide)
  have fv := f32_of (v : Int)
  have fm := f32_of (m : Int)
  rw [Int.toNat_natCast] at fv fm
  have Q := Aside0.mk (Below.refl w.heap.size w)
  have cm := up_run um
  have QM := Aside0.mk (fun w => isinf_is xm lm nm w)
  rw [im] at QM
  have cv := up_run uv
  have QV := Aside0.mk (fun w => isinf_is xv lv nv w)
  rw [iv] at QV
  have cd := fun w => run_float_arith (P := Try.prog) (w := w) .quo 26 .f32 _ _ _ dq
  have cq := up_run uq
  have QQ := Aside0.mk (fun w => isinf_is xq lq nq w)
  rw [iq] at QQ
  clear um lm nm im uv lv nv iv dq uq lq nq iq
  go_enter Try.func3, Try.ntmps3
  go_wp2_with (first | (go_at_call 4; first | (with_reducible refine Calls.mono (QA.out _) ?_; rintro e w1 ⟨rfl, hb⟩; have Q := Aside0.mk (Q.out.trans (hb.mono Q.out.size)); clear hb)) | (go_at_call 7; first | (with_reducible refine Calls.mono (QM.out _) ?_; rintro e w1 ⟨rfl, hb⟩; have Q := Aside0.mk (Q.out.trans (hb.mono Q.out.size)); clear hb) | (with_reducible refine Calls.mono (QV.out _) ?_; rintro e w1 ⟨rfl, hb⟩; have Q := Aside0.mk (Q.out.trans (hb.mono Q.out.size)); clear hb) | (with_reducible refine Calls.mono (QQ.out _) ?_; rintro e w1 ⟨rfl, hb⟩; have Q := Aside0.mk (Q.out.trans (hb.mono Q.out.size)); clear hb)))
  go_ret
  exact ⟨rfl, Q.out⟩
end Go.Proofs.Ytmiafomaglijgaa.QR
