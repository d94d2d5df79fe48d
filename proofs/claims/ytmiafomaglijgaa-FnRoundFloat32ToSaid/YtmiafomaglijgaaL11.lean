/- Round of a number that can be held by 32 bits, and is no whole one: the nearest whole number. -/
import Derived.Test.YtmiafomaglijgaaL10
namespace Go.Proofs.Ytmiafomaglijgaa.QR
open Ieee Go.Proofs.Ytmiafomaglijgaa.Fl Go.RowKit Go.Proofs.YtmiafomaglijgaaW.PrintWords Go.Proofs.YtmiafomaglijgaaW.PrintLast Go.Proofs.YtmiafomaglijgaaW.PrintMore
set_option linter.unusedVariables false
set_option linter.unusedSimpArgs false
theorem log_ge {M : Nat} (hr : Rep F32 925 M) (hM : M ≠ 0) : 925 ≤ M.log2 := by
  refine le_log2 hM ?_
  refine Nat.le_trans (pw_le ?_) (Nat.le_of_dvd (by omega) hr)
  unfold cc
  exact Nat.le_max_right _ _
theorem rnd_M (s : Bool) {M : Nat} (hr : Rep F32 925 M) (h : M % U1 ≠ 0) : ∃ rung, W F64 s M = F64.word s rung ∧ rung < 9218868437227405312 ∧ rung / 4503599627370496 < 1075 ∧ rndw s rung = W F64 s ((M + H1) / U1 * U1) := by
  have hM : M ≠ 0 := by rintro rfl; exact h (Nat.zero_mod _)
  obtain ⟨hlt, hcc⟩ := part_small hr h
  have hl1 := log_ge hr hM
  have hl2 : M.log2 < 1097 := log2_lt hM hlt
  obtain ⟨k, c, hk, hc, hk1, hk2⟩ := rep_parts hr (by omega) hM
  have hdiv : (c * 4503599627370496 + k) / 4503599627370496 = c + 1 := by omega
  refine ⟨c * 4503599627370496 + k, ?_, by omega, by omega, ?_⟩
  · rw [hk]; exact W64_word s hk1 (by omega) (by omega)
  unfold rndw
  rw [hdiv]
  have hU : U1 = 2 * H1 := U1_two
  have hH := H1_pos
  obtain ⟨b1, b2⟩ := log2_bd hM
  by_cases h1 : c + 1 < 1022
  · rw [if_pos h1]
    have h2 : M < H1 := Nat.lt_of_lt_of_le b2 (pw_le (by omega))
    rw [Nat.div_eq_of_lt (by omega), Nat.zero_mul, W64_zero]
  · rw [if_neg h1]
    by_cases h2 : c + 1 = 1022
    · rw [if_pos h2]
      have h3 : H1 ≤ M := Nat.le_trans (pw_le (show 1073 ≤ M.log2 by omega)) b1
      have h4 : M < U1 := Nat.lt_of_lt_of_le b2 (pw_le (by omega))
      have h5 : (M + H1) / U1 = 1 := by
        rw [Nat.div_eq_iff (by omega)]
        omega
      have e : 1 * U1 = 4503599627370496 * pw 1022 := by
        rw [Nat.one_mul, show U1 = pw (52 + 1022) from rfl, pw_add, show pw 52 = 4503599627370496 from rfl]
      rw [h5, e, W64_word s (Nat.le_refl _) (by omega) (by omega)]
    · rw [if_neg h2]
      obtain ⟨E, hE⟩ : ∃ E, c + 1 - 1023 = E := ⟨_, rfl⟩
      rw [hE]
      have hEc : c = 1022 + E := by omega
      have hE2 : E ≤ 22 := by omega
      have eT : (2 : Nat) ^ (52 - E) = pw (52 - E) := rfl
      have eP : (2 : Nat) ^ (51 - E) = pw (51 - E) := rfl
      have hTP : pw (52 - E) = 2 * pw (51 - E) := by rw [show 52 - E = 51 - E + 1 by omega, pw_succ, Nat.mul_comm]
      have hP := pw_pos (51 - E)
      have eU : U1 = pw (52 - E) * pw c := by rw [← pw_add, show 52 - E + c = 1074 by omega]; rfl
      have eH : H1 = pw (51 - E) * pw c := by rw [← pw_add, show 51 - E + c = 1073 by omega]; rfl
      have e52 : 4503599627370496 = pw (52 - E) * pw E := by rw [← pw_add, show 52 - E + E = 52 by omega]; rfl
      have hn : (M + H1) / U1 = (k + pw (51 - E)) / pw (52 - E) := by
        rw [hk, eH, eU, ← Nat.add_mul, Nat.mul_div_mul_right _ _ (pw_pos c)]
      rw [eT, eP, hn, eU, ← Nat.mul_assoc, Nat.mul_comm ((k + pw (51 - E)) / pw (52 - E))]
      generalize pw (51 - E) = P at hTP hP hn ⊢
      generalize pw (52 - E) = T at hTP e52 hn ⊢
      have e1 : T * ((c * 4503599627370496 + k + P) / T) = c * 4503599627370496 + T * ((k + P) / T) := by
        have : c * 4503599627370496 = T * (c * pw E) := by
          rw [e52, ← Nat.mul_assoc, ← Nat.mul_assoc, Nat.mul_comm c T]
        rw [this, Nat.add_assoc, Nat.mul_add_div (by omega), Nat.mul_add]
      rw [e1]
      have hlo : 4503599627370496 ≤ T * ((k + P) / T) := by
        have h5 : pw E ≤ (k + P) / T := by
          rw [Nat.le_div_iff_mul_le (by omega), Nat.mul_comm, ← e52]
          omega
        have h6 := Nat.mul_le_mul_left T h5
        rw [← e52] at h6
        exact h6
      have hhi : T * ((k + P) / T) ≤ 9007199254740992 := by
        have h5 : (k + P) / T < 2 * pw E + 1 := by
          rw [Nat.div_lt_iff_lt_mul (by omega), Nat.add_mul, Nat.one_mul, Nat.mul_assoc, Nat.mul_comm (pw E), ← e52]
          omega
        have h6 := Nat.mul_le_mul_left T (Nat.le_of_lt_succ h5)
        rw [Nat.mul_left_comm, ← e52] at h6
        omega
      exact (W64_word s hlo hhi (by omega)).symm
end Go.Proofs.Ytmiafomaglijgaa.QR
