/- What words of 32 bits read as; what stands in 32 bits stands in 64, and the other way. -/
import Derived.Test.YtmiafomaglijgaaL4
namespace Go.Proofs.Ytmiafomaglijgaa.Fl
open Ieee
set_option linter.unusedVariables false
set_option linter.unusedSimpArgs false
/-- A finite word of 32 bits. -/
def Fin32 (w : Nat) (s : Bool) (M : Nat) : Prop := Units (F32.read w) s M ∧ (M ≠ 0 → Rep F32 925 M ∧ M.log2 ≤ 1201)
theorem word32 (w : Nat) (h : (F32.read w).isInfinity = false) (h2 : (F32.read w).isNaN = false) : ∃ s M, Fin32 w s M := by
  unfold Fin32
  unfold Format.read at h h2 ⊢
  simp only at h h2 ⊢
  generalize (w / F32.signWeight % 2 == 1) = s at h h2 ⊢
  generalize w % F32.signWeight = rung at h h2 ⊢
  by_cases h1 : rung < F32.binade
  · rw [if_pos h1]
    refine ⟨s, rung * pw 925, ⟨rung, F32.leastPlace, rfl, by rw [lp32]; omega, by rw [lp32]; rfl⟩, fun hM => ?_⟩
    have hr : rung ≠ 0 := by rintro rfl; exact hM (Nat.zero_mul _)
    have hl : (rung * pw 925).log2 = rung.log2 + 925 := log2_mul hr 925
    have hlt : rung.log2 < 23 := log2_lt hr (by rw [bin32] at h1; exact h1)
    refine ⟨?_, by omega⟩
    unfold Rep
    have : cc F32 925 (rung * pw 925) = 925 := by unfold cc; rw [hl]; show max (rung.log2 + 925 - 23) 925 = 925; omega
    rw [this]
    exact Nat.dvd_mul_left _ _
  · rw [if_neg h1] at h h2 ⊢
    by_cases h3 : rung < F32.infRung
    · rw [if_pos h3]
      have hb0 : 0 < F32.binade := pw_pos _
      obtain ⟨j, hj⟩ : ∃ j, rung / F32.binade = j + 1 := by
        refine ⟨rung / F32.binade - 1, ?_⟩
        have : 1 ≤ rung / F32.binade := by rw [Nat.le_div_iff_mul_le hb0]; omega
        omega
      have hj2 : j + 1 < 255 := by
        rw [← hj, Nat.div_lt_iff_lt_mul hb0]
        rw [inf32] at h3; rw [bin32]; exact h3
      rw [hj]
      obtain ⟨r, hr⟩ : ∃ r, r = rung % F32.binade := ⟨_, rfl⟩
      have hr2 : r < 8388608 := by rw [hr]; have := Nat.mod_lt rung hb0; rw [bin32] at this ⊢; exact this
      rw [← hr]
      have hp : (F32.leastPlace + ((j + 1 - 1 : Nat) : Int) + 1074).toNat = 925 + j := by rw [lp32]; omega
      refine ⟨s, (F32.binade + r) * pw (925 + j), ⟨F32.binade + r, _, rfl, by rw [lp32]; omega, by rw [hp]⟩, fun _ => ?_⟩
      rw [bin32]
      have hm : (8388608 + r) ≠ 0 := by omega
      have hl : (8388608 + r).log2 = 23 := by
        rw [Nat.log2_eq_iff hm]; constructor <;> omega
      have hl2 := log2_mul hm (925 + j)
      rw [hl] at hl2
      refine ⟨?_, by omega⟩
      unfold Rep
      have : cc F32 925 ((8388608 + r) * pw (925 + j)) = 925 + j := by unfold cc; rw [hl2]; show max (23 + (925 + j) - 23) 925 = 925 + j; omega
      rw [this]
      exact Nat.dvd_mul_left _ _
    · rw [if_neg h3] at h h2
      by_cases h4 : rung = F32.infRung
      · rw [if_pos h4] at h; cases h
      · rw [if_neg h4] at h2; cases h2
theorem kp_rep_lt {M : Nat} (s : Bool) (hM : M ≠ 0) (h : Rep F32 925 M) : kp F32 925 s M < 2 * F32.binade := by
  have h1 := kp_rep (s := s) h
  obtain ⟨b1, b2⟩ := log2_bd hM
  have h2 : kp F32 925 s M * pw (cc F32 925 M) < pw 24 * pw (cc F32 925 M) := by
    rw [h1, ← pw_add]
    refine Nat.lt_of_lt_of_le b2 (pw_le ?_)
    unfold cc
    show M.log2 + 1 ≤ 24 + max (M.log2 - 23) 925
    omega
  have h3 := Nat.lt_of_mul_lt_mul_right h2
  rw [show pw 24 = 16777216 from rfl] at h3
  rw [bin32]
  omega
theorem keep32 {s : Bool} {M : Nat} (h : M ≠ 0 → Rep F32 925 M ∧ M.log2 ≤ 1201) : Fin32 (W F32 s M) s M := by
  by_cases hM : M = 0
  · subst hM
    exact ⟨read_zero F32 925 lp32 s (by decide), fun h => absurd rfl h⟩
  · obtain ⟨hr, hl⟩ := h hM
    have hk := kp_rep_lt s hM hr
    have hfin : (cc F32 925 M - 925) * F32.binade + kp F32 925 s M < F32.infRung := by
      rw [bin32] at hk ⊢
      rw [inf32]
      have h2 : cc F32 925 M ≤ 1178 := by unfold cc; show max (M.log2 - 23) 925 ≤ 1178; omega
      have h3 : (cc F32 925 M - 925) * 8388608 ≤ 253 * 8388608 := Nat.mul_le_mul_right _ (by omega)
      omega
    have h1 := read_kp F32 925 lp32 s M hM hfin
    rw [kp_rep hr] at h1
    exact ⟨h1, fun _ => ⟨hr, hl⟩⟩
/-- 64 bits hold it. -/
def Fin64 (w : Nat) (s : Bool) (M : Nat) : Prop := Units (F64.read w) s M
theorem keep64 {s : Bool} {M : Nat} (h : M ≠ 0 → Rep F32 925 M ∧ M.log2 ≤ 1201) : Fin64 (W F64 s M) s M := by
  by_cases hM : M = 0
  · subst hM
    exact read_zero F64 0 lp64 s (by decide)
  · obtain ⟨hr, hl⟩ := h hM
    exact hold64 hM (by omega) (rep_up hr)
theorem units_fin {d : Datum} {s : Bool} {M : Nat} (h : Units d s M) : d.isInfinity = false ∧ d.isNaN = false := by
  obtain ⟨m, i, rfl, _, _⟩ := h
  exact ⟨rfl, rfl⟩
/-- A small whole number can be held by 32 bits. -/
theorem rep_int {n : Nat} (hn : n ≠ 0) (h : n < pw 24) : Rep F32 925 (n * U1) ∧ (n * U1).log2 ≤ 1201 := by
  have hl : (n * U1).log2 = n.log2 + 1074 := log2_mul hn 1074
  have hlt := log2_lt hn h
  refine ⟨?_, by omega⟩
  unfold Rep
  have : cc F32 925 (n * U1) ≤ 1074 := by unfold cc; rw [hl]; show max (n.log2 + 1074 - 23) 925 ≤ 1074; omega
  exact Nat.dvd_trans (pw_dvd this) (Nat.dvd_mul_left _ _)
end Go.Proofs.Ytmiafomaglijgaa.Fl
