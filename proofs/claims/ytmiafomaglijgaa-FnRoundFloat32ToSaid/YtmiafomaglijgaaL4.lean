/- What any number that is written reads as: it is rounded to a whole number of its last place. Which numbers can be held. -/
import Derived.Test.YtmiafomaglijgaaL3
namespace Go.Proofs.Ytmiafomaglijgaa.Fl
open Ieee
set_option linter.unusedVariables false
set_option linter.unusedSimpArgs false
/-- The digits that are kept of M. -/
def kp (f : Format) (lu : Nat) (s : Bool) (M : Nat) : Nat := Toward.even.cut s M (cc f lu M)
theorem kp_le (f : Format) (lu : Nat) (s : Bool) (M : Nat) (hM : M ≠ 0) : kp f lu s M ≤ 2 * f.binade := by
  obtain ⟨b1, b2⟩ := log2_bd hM
  have h1 : M / pw (cc f lu M) < pw (f.fractionBits + 1) := by
    rw [Nat.div_lt_iff_lt_mul (pw_pos _), ← pw_add]
    exact Nat.lt_of_lt_of_le b2 (pw_le (by unfold cc; omega))
  unfold kp
  rw [cut_plain]
  have h2 : (mor Toward.even s (pw (cc f lu M)) (M / pw (cc f lu M)) (M % pw (cc f lu M))).toNat ≤ 1 := Bool.toNat_le _
  rw [pw_succ] at h1
  show _ ≤ 2 * pw f.fractionBits
  omega
theorem kp_ge (f : Format) (lu : Nat) (s : Bool) (M : Nat) (hM : M ≠ 0) (h : lu < cc f lu M) : f.binade ≤ kp f lu s M := by
  obtain ⟨b1, b2⟩ := log2_bd hM
  have hcm : cc f lu M = M.log2 - f.fractionBits := by unfold cc at h ⊢; omega
  have h1 : f.binade ≤ M / pw (cc f lu M) := by
    rw [Nat.le_div_iff_mul_le (pw_pos _)]
    show pw f.fractionBits * _ ≤ _
    rw [← pw_add]
    exact Nat.le_trans (pw_le (by omega)) b1
  unfold kp
  rw [cut_plain]
  omega
theorem W_word (f : Format) (lu : Nat) (hlp : f.leastPlace = (lu : Int) - 1074) (s : Bool) (M : Nat) (hM : M ≠ 0) (hfin : (cc f lu M - lu) * f.binade + kp f lu s M < f.infRung) : W f s M = f.word s ((cc f lu M - lu) * f.binade + kp f lu s M) := by
  unfold W Format.nearest
  rw [if_neg hM, hlp]
  have e : max (-1074 + (M.log2 : Int) - f.fractionBits) ((lu : Int) - 1074) = (cc f lu M : Int) - 1074 := by unfold cc; omega
  simp only [e]
  rw [show (-1074 - ((cc f lu M : Int) - 1074)).toNat = 0 by omega, show ((cc f lu M : Int) - 1074 - -1074).toNat = cc f lu M by omega, show ((cc f lu M : Int) - 1074 - ((lu : Int) - 1074)).toNat = cc f lu M - lu by omega, shl_pw, pw_zero, Nat.mul_one, Nat.min_eq_left (by show _ + kp f lu s M ≤ _; omega)]
  rfl
/-- What is written reads as so many of its last places as were kept. -/
theorem read_kp (f : Format) (lu : Nat) (hlp : f.leastPlace = (lu : Int) - 1074) (s : Bool) (M : Nat) (hM : M ≠ 0) (hfin : (cc f lu M - lu) * f.binade + kp f lu s M < f.infRung) : Units (f.read (W f s M)) s (kp f lu s M * pw (cc f lu M)) := by
  rw [W_word f lu hlp s M hM hfin, read_word f s _ hfin]
  have hk2 := kp_le f lu s M hM
  have hk1 := kp_ge f lu s M hM
  have hlc : lu ≤ cc f lu M := by unfold cc; omega
  generalize kp f lu s M = k at hk1 hk2 hfin ⊢
  generalize cc f lu M = c at hk1 hfin hlc ⊢
  have hb0 : 0 < f.binade := pw_pos _
  obtain ⟨d, rfl⟩ : ∃ d, c = lu + d := ⟨c - lu, by omega⟩
  rw [Nat.add_sub_cancel_left] at hfin ⊢
  by_cases h0 : k < f.binade
  · have hd : d = 0 := by
      rcases Nat.eq_zero_or_pos d with h | h
      · exact h
      · have := hk1 (by omega); omega
    subst hd
    rw [Nat.zero_mul, Nat.zero_add, if_pos h0]
    exact ⟨k, f.leastPlace, rfl, by omega, by rw [hlp]; congr 2; omega⟩
  · have hge : ¬ d * f.binade + k < f.binade := by omega
    rw [if_neg hge]
    by_cases h1 : k < 2 * f.binade
    · obtain ⟨r, rfl⟩ : ∃ r, k = f.binade + r := ⟨k - f.binade, by omega⟩
      have e0 : d * f.binade + (f.binade + r) = r + f.binade * (d + 1) := by rw [Nat.mul_add, Nat.mul_comm d]; omega
      rw [e0, Nat.add_mul_mod_self_left, Nat.add_mul_div_left _ _ hb0, Nat.mod_eq_of_lt (by omega), Nat.div_eq_of_lt (by omega)]
      exact ⟨f.binade + r, _, rfl, by rw [hlp]; omega, by rw [hlp]; congr 2; omega⟩
    · have h2 : k = 2 * f.binade := by omega
      subst h2
      have e0 : d * f.binade + 2 * f.binade = 0 + f.binade * (d + 2) := by rw [Nat.mul_add, Nat.mul_comm d]; omega
      rw [e0, Nat.add_mul_mod_self_left, Nat.add_mul_div_left _ _ hb0, Nat.zero_mod, Nat.zero_div, Nat.add_zero]
      refine ⟨f.binade, _, rfl, by rw [hlp]; omega, ?_⟩
      rw [hlp, show ((lu : Int) - 1074 + ((0 + (d + 2) - 1 : Nat) : Int) + 1074).toNat = lu + d + 1 by omega, pw_succ]
      rw [Nat.mul_comm 2 f.binade, Nat.mul_assoc, Nat.mul_comm 2]
/-- The number can be held: it is a multiple of its last place. -/
def Rep (f : Format) (lu M : Nat) : Prop := pw (cc f lu M) ∣ M
theorem kp_rep {f : Format} {lu : Nat} {s : Bool} {M : Nat} (h : Rep f lu M) : kp f lu s M * pw (cc f lu M) = M := by
  obtain ⟨k, hk⟩ := h
  have h1 := cut_exact' Toward.even s k (cc f lu M)
  rw [Nat.mul_comm k, ← hk] at h1
  unfold kp
  rw [h1, Nat.mul_comm]
  exact hk.symm
/-- Both formats. -/
abbrev F32 : Format := single
abbrev F64 : Format := double
theorem lp32 : F32.leastPlace = ((925 : Nat) : Int) - 1074 := by decide
theorem lp64 : F64.leastPlace = ((0 : Nat) : Int) - 1074 := by decide
theorem inf32 : F32.infRung = 255 * 8388608 := by decide
theorem inf64 : F64.infRung = 2047 * 4503599627370496 := by decide
theorem bin32 : F32.binade = 8388608 := by decide
theorem bin64 : F64.binade = 4503599627370496 := by decide
/-- No number below 2^128 is too great for 64 bits. -/
theorem fin64 (s : Bool) {M : Nat} (hM : M ≠ 0) (h : M.log2 ≤ 2000) : (cc F64 0 M - 0) * F64.binade + kp F64 0 s M < F64.infRung := by
  have h1 := kp_le F64 0 s M hM
  rw [bin64] at h1 ⊢
  rw [inf64]
  have h2 : cc F64 0 M ≤ 1948 := by unfold cc; show max (M.log2 - 52) 0 ≤ 1948; omega
  have h3 : (cc F64 0 M - 0) * 4503599627370496 ≤ 1948 * 4503599627370496 := Nat.mul_le_mul_right _ (by omega)
  omega
theorem fin32 (s : Bool) {M : Nat} (hM : M ≠ 0) (h : M.log2 ≤ 1200) : (cc F32 925 M - 925) * F32.binade + kp F32 925 s M < F32.infRung := by
  have h1 := kp_le F32 925 s M hM
  rw [bin32] at h1 ⊢
  rw [inf32]
  have h2 : cc F32 925 M ≤ 1177 := by unfold cc; show max (M.log2 - 23) 925 ≤ 1177; omega
  have h3 : (cc F32 925 M - 925) * 8388608 ≤ 252 * 8388608 := Nat.mul_le_mul_right _ (by omega)
  omega
theorem hold64 {s : Bool} {M : Nat} (hM : M ≠ 0) (h : M.log2 ≤ 2000) (hr : Rep F64 0 M) : Units (F64.read (W F64 s M)) s M := by
  have h1 := read_kp F64 0 lp64 s M hM (fin64 s hM h)
  rwa [kp_rep hr] at h1
theorem hold32 {s : Bool} {M : Nat} (hM : M ≠ 0) (h : M.log2 ≤ 1200) (hr : Rep F32 925 M) : Units (F32.read (W F32 s M)) s M := by
  have h1 := read_kp F32 925 lp32 s M hM (fin32 s hM h)
  rwa [kp_rep hr] at h1
/-- What 32 bits hold 64 bits hold. -/
theorem rep_up {M : Nat} (h : Rep F32 925 M) : Rep F64 0 M := by
  refine Nat.dvd_trans (pw_dvd ?_) h
  unfold cc
  show max (M.log2 - 52) 0 ≤ max (M.log2 - 23) 925
  omega
theorem read_zero (f : Format) (lu : Nat) (hlp : f.leastPlace = (lu : Int) - 1074) (s : Bool) (hi : 0 < f.infRung) : Units (f.read (W f s 0)) s 0 := by
  have e : W f s 0 = f.word s 0 := by unfold W Format.nearest; simp
  rw [e, read_word f s 0 hi, if_pos (show 0 < f.binade from pw_pos _)]
  exact ⟨0, f.leastPlace, rfl, by omega, by simp⟩
end Go.Proofs.Ytmiafomaglijgaa.Fl
