/- The words of 64 bits of numbers that can be held; the nearest whole number. -/
import Derived.Test.YtmiafomaglijgaaL8
namespace Go.Proofs.Ytmiafomaglijgaa.QR
open Ieee Go.Proofs.Ytmiafomaglijgaa.Fl Go.RowKit Go.Proofs.YtmiafomaglijgaaW.PrintWords Go.Proofs.YtmiafomaglijgaaW.PrintLast Go.Proofs.YtmiafomaglijgaaW.PrintMore
set_option linter.unusedVariables false
set_option linter.unusedSimpArgs false
theorem W64_small (s : Bool) {k c : Nat} (h1 : 4503599627370496 ≤ k) (h2 : k < 9007199254740992) (hc : c ≤ 1901) : W F64 s (k * pw c) = F64.word s (c * 4503599627370496 + k) := by
  have hk : k ≠ 0 := by omega
  have hlk : k.log2 = 52 := log2_is hk h1 h2
  have hl := log2_mul hk c
  rw [hlk] at hl
  have hM : k * pw c ≠ 0 := Nat.mul_ne_zero hk (Nat.ne_of_gt (pw_pos c))
  have hcc : cc F64 0 (k * pw c) = c := by unfold cc; rw [hl]; show max (52 + c - 52) 0 = c; omega
  have h := W_rung F64 0 lp64 s (k * pw c) hM k (by rw [hcc]) (by rw [hcc, bin64, inf64]; have := Nat.mul_le_mul_right 4503599627370496 hc; omega)
  rw [h, hcc, bin64, Nat.sub_zero]
theorem W64_word (s : Bool) {k c : Nat} (h1 : 4503599627370496 ≤ k) (h2 : k ≤ 9007199254740992) (hc : c ≤ 1900) : W F64 s (k * pw c) = F64.word s (c * 4503599627370496 + k) := by
  by_cases h : k < 9007199254740992
  · exact W64_small s h1 h (by omega)
  · have hk : k = 9007199254740992 := by omega
    subst hk
    have e : 9007199254740992 * pw c = 4503599627370496 * pw (c + 1) := by rw [pw_succ]; omega
    rw [e, W64_small s (Nat.le_refl _) (by omega) (by omega)]
    rw [show (c + 1) * 4503599627370496 + 4503599627370496 = c * 4503599627370496 + 9007199254740992 by omega]
theorem W64_zero (s : Bool) : W F64 s 0 = F64.word s 0 := by unfold W Format.nearest; simp
/-- Numbers that 64 bits hold: so many times a power of two. -/
theorem rep_parts {M : Nat} (hr : Rep F32 925 M) (h : 52 ≤ M.log2) (hM : M ≠ 0) : ∃ k c, M = k * pw c ∧ c = M.log2 - 52 ∧ 4503599627370496 ≤ k ∧ k < 9007199254740992 := by
  obtain ⟨k, hk⟩ := rep_up hr
  have hcc : cc F64 0 M = M.log2 - 52 := by unfold cc; show max (M.log2 - 52) 0 = M.log2 - 52; omega
  rw [hcc] at hk
  obtain ⟨b1, b2⟩ := log2_bd hM
  refine ⟨k, M.log2 - 52, by rw [Nat.mul_comm]; exact hk, rfl, ?_, ?_⟩
  · have e : pw M.log2 = pw 52 * pw (M.log2 - 52) := by rw [← pw_add]; congr 1; omega
    rw [e] at b1
    have h1 : pw 52 * pw (M.log2 - 52) ≤ k * pw (M.log2 - 52) := by rw [Nat.mul_comm k, ← hk]; exact b1
    exact Nat.le_of_mul_le_mul_right h1 (pw_pos _)
  · have e : pw (M.log2 + 1) = pw 53 * pw (M.log2 - 52) := by rw [← pw_add]; congr 1; omega
    rw [e] at b2
    have h1 : k * pw (M.log2 - 52) < pw 53 * pw (M.log2 - 52) := by rw [Nat.mul_comm k, ← hk]; exact b2
    exact Nat.lt_of_mul_lt_mul_right h1
theorem e_bits (s : Bool) (rung : Nat) (h : rung < 9223372036854775808) : Go.bits .and .u64 (((F64.word s rung : Nat) : Int) / 4503599627370496) 2047 = ((rung / 4503599627370496 : Nat) : Int) := by
  have hw : F64.word s rung = (if s then 9223372036854775808 else 0) + rung := by
    unfold Format.word
    rw [sw64]
    cases s <;> simp
  rw [hw]
  generalize hx : (if s then 9223372036854775808 else 0) + rung = x
  have hx2 : x < 18446744073709551616 := by rw [← hx]; split <;> omega
  rw [show ((x : Nat) : Int) / 4503599627370496 = ((x / 4503599627370496 : Nat) : Int) by omega]
  rw [u64_and _ 2047 (by omega) (by omega) (by omega) (by omega)]
  congr 1
  show x / 4503599627370496 &&& 2047 = _
  rw [show x / 4503599627370496 &&& 2047 = x / 4503599627370496 % 2048 from Nat.and_two_pow_sub_one_eq_mod _ 11]
  rw [← hx]
  split <;> omega
theorem u64in (n : Nat) (h : n < 18446744073709551616) : IntKind.u64.wrap (n : Int) = (n : Int) := by
  simp [IntKind.wrap, IntKind.signed, IntKind.bits]
  omega
theorem clear_low (y t : Nat) (hy : y < 2 ^ 64) (ht : t ≤ 64) : y &&& (2 ^ 64 - 2 ^ t) = 2 ^ t * (y / 2 ^ t) := by
  have e : (2 ^ 64 - 2 ^ t : Nat) = 2 ^ t * (2 ^ (64 - t) - 1) := by
    rw [Nat.mul_sub, ← Nat.pow_add, Nat.mul_one, show t + (64 - t) = 64 by omega]
  rw [e]
  apply Nat.eq_of_testBit_eq
  intro i
  rw [Nat.testBit_and, Nat.testBit_two_pow_mul, Nat.testBit_two_pow_mul, Nat.testBit_two_pow_sub_one, Nat.testBit_div_two_pow]
  by_cases h1 : t ≤ i
  · rw [show i - t + t = i by omega]
    by_cases h2 : i < 64
    · simp [h1, show i - t < 64 - t by omega]
    · have h3 : y.testBit i = false := Nat.testBit_lt_two_pow (Nat.lt_of_lt_of_le hy (Nat.pow_le_pow_right (by omega) (by omega)))
      simp [h3]
  · simp [h1]
theorem mask_is (E : Nat) (hE : E ≤ 51) : (4503599627370495 : Nat) / 2 ^ E = 2 ^ (52 - E) - 1 := by
  have h : (2 : Nat) ^ 52 = 2 ^ (52 - E) * 2 ^ E := by rw [← Nat.pow_add]; congr 1; omega
  have h2 : (0 : Nat) < 2 ^ E := Nat.two_pow_pos _
  rw [show (4503599627370495 : Nat) = 2 ^ 52 - 1 from rfl, h]
  have h3 : (1 : Nat) ≤ 2 ^ (52 - E) := Nat.two_pow_pos _
  obtain ⟨a, ha⟩ : ∃ a, (2 : Nat) ^ (52 - E) = a + 1 := ⟨2 ^ (52 - E) - 1, by omega⟩
  rw [ha, Nat.add_sub_cancel, Nat.add_mul, Nat.one_mul]
  rw [show a * 2 ^ E + 2 ^ E - 1 = (2 ^ E - 1) + 2 ^ E * a by rw [Nat.mul_comm]; omega, Nat.add_mul_div_left _ _ h2, Nat.div_eq_of_lt (by omega), Nat.zero_add]
theorem half_sh (E : Nat) (hE : E ≤ 51) : (2251799813685248 : Nat) / 2 ^ E = 2 ^ (51 - E) := by
  have h : (2 : Nat) ^ 51 = 2 ^ (51 - E) * 2 ^ E := by rw [← Nat.pow_add]; congr 1; omega
  rw [show (2251799813685248 : Nat) = 2 ^ 51 from rfl, h, Nat.mul_div_cancel _ (Nat.two_pow_pos _)]
/-- The word of the nearest whole number; of a half the one farther from zero. -/
def rndw (s : Bool) (rung : Nat) : Nat :=
  if rung / 4503599627370496 < 1022 then F64.word s 0 else if rung / 4503599627370496 = 1022 then F64.word s (1023 * 4503599627370496) else F64.word s (2 ^ (52 - (rung / 4503599627370496 - 1023)) * ((rung + 2 ^ (51 - (rung / 4503599627370496 - 1023))) / 2 ^ (52 - (rung / 4503599627370496 - 1023))))
theorem word_eq (s : Bool) (rung : Nat) : F64.word s rung = (if s then 9223372036854775808 else 0) + rung := by
  unfold Format.word
  rw [sw64]
  cases s <;> simp
theorem rnd_bits (s : Bool) (rung E : Nat) (h : rung < 9218868437227405312) (hE : E ≤ 51) : Go.bits .andNot .u64 (IntKind.u64.wrap (((F64.word s rung : Nat) : Int) + 2251799813685248 / 2 ^ E)) (4503599627370495 / 2 ^ E) = ((F64.word s (2 ^ (52 - E) * ((rung + 2 ^ (51 - E)) / 2 ^ (52 - E))) : Nat) : Int) := by
  have p1 : (2 : Nat) ^ (51 - E) ≤ 2 ^ 51 := Nat.pow_le_pow_right (by omega) (by omega)
  have p2 : (2 : Nat) ^ (52 - E) ≤ 2 ^ 52 := Nat.pow_le_pow_right (by omega) (by omega)
  have p3 : (1 : Nat) ≤ 2 ^ (52 - E) := Nat.two_pow_pos _
  have e1 : (2251799813685248 : Int) / 2 ^ E = ((2 ^ (51 - E) : Nat) : Int) := by
    rw [← half_sh E hE]; simp
  have e2 : (4503599627370495 : Int) / 2 ^ E = ((2 ^ (52 - E) - 1 : Nat) : Int) := by
    rw [← mask_is E hE]; simp
  rw [e1, e2, word_eq, word_eq]
  have hS : ∃ q, (if s then 9223372036854775808 else 0 : Nat) = 2 ^ (52 - E) * q := by
    cases s
    · exact ⟨0, rfl⟩
    · refine ⟨2 ^ (63 - (52 - E)), ?_⟩
      rw [← Nat.pow_add, show 52 - E + (63 - (52 - E)) = 63 by omega]
      rfl
  have hS2 : (if s then 9223372036854775808 else 0 : Nat) ≤ 9223372036854775808 := by split <;> omega
  obtain ⟨q, hq⟩ := hS
  generalize (if s then 9223372036854775808 else 0 : Nat) = S at hq hS2 ⊢
  clear e1 e2
  have q1 : (2 : Nat) ^ 51 = 2251799813685248 := rfl
  have q2 : (2 : Nat) ^ 52 = 4503599627370496 := rfl
  have q4 : (2 : Nat) ^ 64 = 18446744073709551616 := rfl
  have hcl := fun y hy => clear_low y (52 - E) hy (by omega)
  rw [q1] at p1
  rw [q2] at p2
  rw [q4] at hcl
  generalize (2 : Nat) ^ (51 - E) = P at p1 ⊢
  generalize (2 : Nat) ^ (52 - E) = T at p2 p3 hq hcl ⊢
  have hlt : S + rung + P < 18446744073709551616 := by omega
  have ew : IntKind.u64.wrap (((S + rung : Nat) : Int) + (P : Int)) = ((S + rung + P : Nat) : Int) := by
    rw [show ((S + rung : Nat) : Int) + (P : Int) = ((S + rung + P : Nat) : Int) by omega]
    exact u64in _ hlt
  have hA := u64_andNot ((S + rung + P : Nat) : Int) ((T - 1 : Nat) : Int) (by omega) (by omega) (by omega) (by omega)
  rw [ew, hA]
  congr 1
  rw [Int.toNat_natCast, Int.toNat_natCast, show 18446744073709551615 - (T - 1) = 18446744073709551616 - T by omega, hcl _ hlt, hq, Nat.add_assoc, Nat.mul_add_div (by omega), Nat.mul_add]
end Go.Proofs.Ytmiafomaglijgaa.QR
