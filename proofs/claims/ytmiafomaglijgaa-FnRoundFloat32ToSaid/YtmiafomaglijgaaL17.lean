/- The reference's choice between two whole numbers; Mod; Signbit. -/
import Derived.Test.YtmiafomaglijgaaL16
namespace Go.Proofs.Ytmiafomaglijgaa.QR
open Ieee Go.Proofs.Ytmiafomaglijgaa.Fl Go.RowKit Go.Proofs.YtmiafomaglijgaaW.PrintWords Go.Proofs.YtmiafomaglijgaaW.PrintLast Go.Proofs.YtmiafomaglijgaaW.PrintMore
set_option linter.unusedVariables false
set_option linter.unusedSimpArgs false
/-- Which of two whole numbers, the upper one or not. -/
def upw (mode : Nat) (half : Int) (even neg : Bool) : Bool := match mode with
  | 0 => false
  | 1 => true
  | 2 => neg
  | 3 => !neg
  | 4 => decide (0 < half)
  | 5 => if half = 0 then true else decide (0 < half)
  | 6 => if half = 0 then neg else decide (0 < half)
  | 7 => if half = 0 then !neg else decide (0 < half)
  | 8 => if half = 0 then !even else decide (0 < half)
  | _ => if half = 0 then even else decide (0 < half)
set_option maxHeartbeats 8000000 in
set_option maxRecDepth 100000 in
theorem upw_is (mode : Nat) (hm : mode < 10) (half : Int) (hh : half = -1 ∨ half = 0 ∨ half = 1) (even neg : Bool) (w : World) : Calls Try.prog 14 #[.int .i64 (mode : Int), .int .i64 half, .bool even, .bool neg] w fun e w' => e = .returned (.bool (upw mode half even neg)) ∧ Below w.heap.size w w' := by
  have hc : mode = 0 ∨ mode = 1 ∨ mode = 2 ∨ mode = 3 ∨ mode = 4 ∨ mode = 5 ∨ mode = 6 ∨ mode = 7 ∨ mode = 8 ∨ mode = 9 := by omega
  rcases hc with rfl | rfl | rfl | rfl | rfl | rfl | rfl | rfl | rfl | rfl <;> rcases hh with rfl | rfl | rfl <;> clear hm <;> (go_enter Try.func14, Try.ntmps14; go_wp2; go_ret; exact ⟨rfl, Below.refl _ _⟩)
set_option maxHeartbeats 8000000 in
set_option maxRecDepth 100000 in
theorem Mod_is (s : Bool) (n : Nat) (h : n < 16777216) (w : World) : Calls Try.prog 15 #[.float .f64 (IW s n), .float .f64 4611686018427387904] w fun e w' => ∃ t m, e = .returned (.float .f64 (IW t m)) ∧ m < 2 ∧ m % 2 = n % 2 ∧ Below w.heap.size w w' := by
  have Q := Aside0.mk (fun w => mod_is s n h w)
  clear h
  generalize IW s n = x at Q ⊢
  go_enter Try.func15, Try.ntmps15
  go_wp2_with (go_at_call 23; with_reducible refine Calls.mono (Q.out _) ?_; rintro e w1 ⟨t, m, rfl, h1, h2, hb⟩; have Q1 := Aside0.mk (And.intro h1 (And.intro h2 hb)); clear h1 h2 hb)
  go_ret
  exact ⟨t, m, rfl, Q1.out.1, Q1.out.2.1, Q1.out.2.2⟩
set_option maxHeartbeats 8000000 in
set_option maxRecDepth 100000 in
theorem sgn_is (s : Bool) (rung : Nat) (h : rung < 9223372036854775808) (w : World) : Calls Try.prog 30 #[.float .f64 (F64.word s rung)] w fun e w' => e = .returned (.bool s) ∧ Below w.heap.size w w' := by
  have h1 := f64_bits (F64.word s rung)
  have hx : IntKind.i64.wrap ((F64.word s rung : Nat) : Int) = if s then (rung : Int) - 9223372036854775808 else rung := by
    rw [word_eq]
    cases s <;> simp [IntKind.wrap, IntKind.signed, IntKind.bits] <;> omega
  have hd : decide ((if s then (rung : Int) - 9223372036854775808 else rung) < 0) = s := by
    cases s <;> simp <;> omega
  generalize (if s then (rung : Int) - 9223372036854775808 else rung) = y at hx hd
  generalize F64.word s rung = x at h1 hx ⊢
  clear h
  go_enter Try.func30, Try.ntmps30
  go_wp2
  go_ret
  exact ⟨by first | rfl | rw [hd], Below.refl _ _⟩
end Go.Proofs.Ytmiafomaglijgaa.QR
