/- Frexp and Ldexp of whole numbers. -/
import Derived.Test.YtmiafomaglijgaaL12
namespace Go.Proofs.Ytmiafomaglijgaa.QR
open Ieee Go.Proofs.Ytmiafomaglijgaa.Fl Go.RowKit Go.Proofs.YtmiafomaglijgaaW.PrintWords Go.Proofs.YtmiafomaglijgaaW.PrintLast Go.Proofs.YtmiafomaglijgaaW.PrintMore
set_option linter.unusedVariables false
set_option linter.unusedSimpArgs false
theorem frac_bits (x : Nat) (h : x < 9223372036854775808) : Go.bits .andNot .u64 (x : Int) 9218868437227405312 = ((x % 4503599627370496 : Nat) : Int) := by
  rw [u64_andNot (x : Int) 9218868437227405312 (by omega) (by omega) (by omega) (by omega)]
  congr 1
  rw [Int.toNat_natCast]
  have e1 : x = x &&& 9223372036854775807 := by
    have h1 := Nat.and_two_pow_sub_one_eq_mod x 63
    rw [show (2 : Nat) ^ 63 - 1 = 9223372036854775807 from rfl, show (2 : Nat) ^ 63 = 9223372036854775808 from rfl, Nat.mod_eq_of_lt h] at h1
    exact h1.symm
  have h2 := Nat.and_two_pow_sub_one_eq_mod x 52
  rw [show (2 : Nat) ^ 52 - 1 = 4503599627370495 from rfl, show (2 : Nat) ^ 52 = 4503599627370496 from rfl] at h2
  rw [← h2]
  conv => lhs; rw [e1]
  rw [Nat.and_assoc]
  congr 1
theorem put_bits (r a : Nat) (h : r < 4503599627370496) (ha : a < 2048) : Go.bits .or .u64 (r : Int) ((a * 4503599627370496 : Nat) : Int) = ((a * 4503599627370496 + r : Nat) : Int) := by
  rw [u64_or (r : Int) _ (by omega) (by omega) (by omega) (by omega)]
  congr 1
  rw [Int.toNat_natCast, Int.toNat_natCast, Nat.or_comm]
  have h1 := Nat.two_pow_add_eq_or_of_lt (i := 52) (b := r) h a
  rw [Nat.mul_comm] at h1
  exact h1.symm
set_option maxHeartbeats 8000000 in
set_option maxRecDepth 100000 in
theorem isnan_is (x : Nat) (b : Bool) (h : (FloatKind.f64.format.order x x != some Ordering.eq) = b) (w : World) : Calls Try.prog 38 #[.float .f64 x] w fun e w' => e = .returned (.bool b) ∧ Below w.heap.size w w' := by
  go_enter Try.func38, Try.ntmps38
  go_wp2
  go_ret
  exact ⟨rfl, Below.refl _ _⟩
set_option maxHeartbeats 8000000 in
set_option maxRecDepth 100000 in
theorem frx_is (n k : Nat) (hn : n ≠ 0) (h : n < 16777216) (hk : IW false n = F64.word false ((n.log2 + 1022) * 4503599627370496 + k)) (hk1 : 4503599627370496 ≤ k) (hk2 : k < 9007199254740992) (hl : n.log2 < 24) (w : World) : Calls Try.prog 51 #[.float .f64 (IW false n)] w fun e w' => e = .returned (.tuple #[.float .f64 (1021 * 4503599627370496 + k), .int .i64 ((n.log2 + 1 : Nat) : Int)]) ∧ Below w.heap.size w w' := by
  have hu := IW_units false h
  have hlt : (n.log2 + 1022) * 4503599627370496 + k < 9223372036854775808 := by omega
  have hm := word_mod _ hlt
  have hx : IW false n < 18446744073709551616 := by rw [hk, hm.1]; omega
  have hx2 : IW false n < 9223372036854775808 := by rw [hk, hm.1]; omega
  have hmod : IW false n % 4503599627370496 = k - 4503599627370496 := by rw [hk, hm.1]; omega
  have b1 : Go.bits .and .u64 (((IW false n : Nat) : Int) / 4503599627370496) 2047 = ((n.log2 + 1023 : Nat) : Int) := by
    rw [hk, e_bits false _ hlt]
    congr 1
    omega
  have b2 := frac_bits (IW false n) hx2
  have b3 := put_bits (k - 4503599627370496) 1022 (by omega) (by omega)
  rw [hmod] at b2
  have o0 : (FloatKind.f64.format.order (IW false n) 0 == some Ordering.eq) = false := by
    rw [order_eq hu read_0, decide_eq_false]
    unfold sg
    simp only [Bool.false_eq_true, if_false]
    have : 1 * U1 ≤ n * U1 := Nat.mul_le_mul_right _ (by omega)
    have := U1_pos
    omega
  have QI := Aside0.mk (fun w => isinf_is (IW false n) hx (units_fin hu).2 w)
  rw [(units_fin hu).1] at QI
  have on : (FloatKind.f64.format.order (IW false n) (IW false n) != some Ordering.eq) = false := by
    have := order_eq hu hu
    rw [decide_eq_true rfl] at this
    simp only [bne, this]
    rfl
  have QN := Aside0.mk (fun w => nrm_is n hn h w)
  have QK := Aside0.mk (fun w => isnan_is (IW false n) false on w)
  have c1 := f64_bits (IW false n)
  have c2 := f64_of ((1022 * 4503599627370496 + (k - 4503599627370496) : Nat) : Int)
  rw [Int.toNat_natCast] at c2
  rw [show 1022 * 4503599627370496 + (k - 4503599627370496) = 1021 * 4503599627370496 + k by omega] at b3 c2
  rw [show (((1022 * 4503599627370496 : Nat)) : Int) = 4602678819172646912 from rfl] at b3
  generalize 1021 * 4503599627370496 + k = y at b3 c2 ⊢
  generalize k - 4503599627370496 = r at b2 b3
  generalize IW false n = x at *
  obtain ⟨a, ha⟩ : ∃ a, a = n.log2 + 1023 := ⟨_, rfl⟩
  rw [← ha] at b1
  rw [show ((n.log2 + 1 : Nat) : Int) = (a : Int) - 1023 + 1 by omega]
  have ha1 : (a : Int) ≤ 2000 := by omega
  have Qa := Aside0.mk ha
  clear hu hlt hm hx hx2 hmod hk hk1 hk2 hl hn h ha
  go_enter Try.func51, Try.ntmps51
  clear on
  go_wp2_with (first | (go_at_call 7; with_reducible refine Calls.mono (QI.out _) ?_; rintro e w1 ⟨rfl, hb⟩; have Q1 := Aside0.mk hb; clear hb) | (go_at_call 38; with_reducible refine Calls.mono (QK.out _) ?_; rintro e w2 ⟨rfl, hb⟩; have Q2 := Aside0.mk (Q1.out.trans (hb.mono Q1.out.size)); clear hb) | (go_at_call 54; with_reducible refine Calls.mono (QN.out _) ?_; rintro e w3 ⟨rfl, hb⟩; have Q3 := Aside0.mk (Q2.out.trans (hb.mono Q2.out.size)); clear hb))
  refine bodyPost_ret (v := .tuple #[.float .f64 y, .int .i64 ((a : Int) - 1023 + 1)]) (by simp [results, Try.results51, go_sem]) rfl ?_
  exact ⟨rfl, Q3.out⟩
end Go.Proofs.Ytmiafomaglijgaa.QR
