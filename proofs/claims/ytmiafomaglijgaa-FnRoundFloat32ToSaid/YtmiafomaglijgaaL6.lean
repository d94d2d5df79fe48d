/- A number of 32 bits that is no whole one: its whole part, what stands behind its point, and how that stands to a half. -/
import Derived.Test.YtmiafomaglijgaaL5
namespace Go.Proofs.Ytmiafomaglijgaa.Fl
open Ieee
set_option linter.unusedVariables false
set_option linter.unusedSimpArgs false
/-- A half, in units. -/
def H1 : Nat := pw 1073
theorem U1_two : U1 = 2 * H1 := by unfold U1 H1; rw [show 1074 = 1073 + 1 from rfl, pw_succ, Nat.mul_comm]
theorem H1_pos : 0 < H1 := pw_pos _
theorem U1_pos : 0 < U1 := pw_pos _
/-- The whole number below (or at) it. -/
def fl (s : Bool) (M : Nat) : Int := sg s (R .down s M)
/-- What stands behind its point. -/
def Df (s : Bool) (M : Nat) : Nat := if s then U1 - M % U1 else M % U1
theorem fl_false (M : Nat) : fl false M = ((M / U1 : Nat) : Int) := by
  unfold fl sg R mor; simp
theorem fl_true {M : Nat} (h : M % U1 ≠ 0) : fl true M = -((M / U1 + 1 : Nat) : Int) := by
  unfold fl sg R mor
  have : (M % U1 != 0) = true := by simpa using h
  simp [this]
theorem R_whole (way : Toward) (s : Bool) {M : Nat} (h : M % U1 = 0) : R way s M = M / U1 ∧ R way s M * U1 = M := by
  have e : R way s M = M / U1 := by
    unfold R
    rw [h, mor_zero _ _ _ _ U1_pos]
    rfl
  refine ⟨e, ?_⟩
  rw [e]
  have := Nat.div_add_mod M U1
  rw [h, Nat.add_zero, Nat.mul_comm] at this
  exact this
/-- The number less its whole part. -/
theorem less_fl (s : Bool) {M : Nat} (h : M % U1 ≠ 0) : sg s M - sg s (R .down s M * U1) = (Df s M : Int) := by
  have h1 := Nat.div_add_mod M U1
  have h2 := Nat.mod_lt M U1_pos
  have hb : (M % U1 != 0) = true := by simpa using h
  cases s
  · have e : R .down false M = M / U1 := by unfold R mor; simp
    rw [e]
    unfold sg Df
    simp only [if_neg (show ¬ false = true by decide)]
    rw [Nat.mul_comm U1] at h1
    omega
  · have e : R .down true M = M / U1 + 1 := by unfold R mor; simp [hb]
    rw [e]
    unfold sg Df
    simp only [if_true]
    rw [Nat.mul_comm U1] at h1
    rw [Nat.add_mul, Nat.one_mul]
    omega
theorem Df_bd (s : Bool) {M : Nat} (h : M % U1 ≠ 0) : 0 < Df s M ∧ Df s M < U1 := by
  have h2 := Nat.mod_lt M U1_pos
  unfold Df
  cases s <;> simp <;> omega
/-- A number that is no whole one is below 2^23. -/
theorem part_small {M : Nat} (hr : Rep F32 925 M) (h : M % U1 ≠ 0) : M < pw 1097 ∧ cc F32 925 M < 1074 := by
  have hM : M ≠ 0 := by rintro rfl; exact h (Nat.zero_mod _)
  have hc : cc F32 925 M < 1074 := by
    rcases Nat.lt_or_ge (cc F32 925 M) 1074 with h1 | h1
    · exact h1
    · exact absurd (Nat.mod_eq_zero_of_dvd (Nat.dvd_trans (pw_dvd h1) hr)) h
  refine ⟨?_, hc⟩
  have hl : M.log2 < 1097 := by
    unfold cc at hc
    have : max (M.log2 - 23) 925 < 1074 := hc
    omega
  exact lt_of_log2 hM hl
theorem div_small {M : Nat} (h : M < pw 1097) : M / U1 < pw 23 := by
  rw [Nat.div_lt_iff_lt_mul U1_pos]
  have : pw 23 * U1 = pw 1097 := by unfold U1; rw [← pw_add]
  rw [this]
  exact h
theorem R_small (way : Toward) (s : Bool) {M : Nat} (h : M < pw 1097) : R way s M < pw 24 := by
  have h1 := div_small h
  unfold R
  have h2 := Bool.toNat_le (mor way s U1 (M / U1) (M % U1))
  rw [show pw 23 = 8388608 from rfl] at h1
  rw [show pw 24 = 16777216 from rfl]
  omega
/-- What is behind the point either can be held by 64 bits, or is above three quarters. -/
theorem Df_rep (s : Bool) {M : Nat} (hr : Rep F32 925 M) (h : M % U1 ≠ 0) : Rep F64 0 (Df s M) ∨ 3 * U1 < 4 * Df s M := by
  have hM : M ≠ 0 := by rintro rfl; exact h (Nat.zero_mod _)
  obtain ⟨hlt, hc⟩ := part_small hr h
  obtain ⟨hd0, hd1⟩ := Df_bd s h
  have hcu : pw (cc F32 925 M) ∣ U1 := pw_dvd (by omega)
  have hmod : pw (cc F32 925 M) ∣ M % U1 := (Nat.dvd_mod_iff hcu).2 hr
  have hdd : pw (cc F32 925 M) ∣ Df s M := by
    unfold Df
    cases s
    · exact hmod
    · exact Nat.dvd_sub hcu hmod
  have hDl : (Df s M).log2 < 1074 := log2_lt (by omega) hd1
  have key : (Df s M).log2 ≤ cc F32 925 M + 52 → Rep F64 0 (Df s M) := fun hle => by
    refine Nat.dvd_trans (pw_dvd ?_) hdd
    unfold cc
    show max ((Df s M).log2 - 52) 0 ≤ max (M.log2 - 23) 925
    have : cc F32 925 M = max (M.log2 - 23) 925 := rfl
    omega
  have hcc : cc F32 925 M = max (M.log2 - 23) 925 := rfl
  cases s
  · left
    refine key ?_
    have hle : Df false M ≤ M := Nat.mod_le _ _
    have : (Df false M).log2 ≤ M.log2 := by
      refine le_log2 hM ?_
      exact Nat.le_trans (Nat.log2_self_le (by omega)) hle
    omega
  · rcases Nat.lt_or_ge M.log2 1044 with h1 | h1
    · right
      have h2 : M < pw 1044 := lt_of_log2 hM h1
      have h3 : 4 * pw 1044 ≤ U1 := by
        unfold U1
        rw [show (4 : Nat) = pw 2 from rfl, ← pw_add]
        exact pw_le (by omega)
      have h4 : M % U1 ≤ M := Nat.mod_le _ _
      unfold Df
      simp only [if_true]
      omega
    · left
      exact key (by omega)
end Go.Proofs.Ytmiafomaglijgaa.Fl
