/- What a word of a number that can be held reads as; what finite words read as. -/
import Derived.Test.YtmiafomaglijgaaL1
namespace Go.Proofs.Ytmiafomaglijgaa.Fl
open Ieee
set_option linter.unusedVariables false
theorem read_word (f : Format) (s : Bool) (rung : Nat) (h : rung < f.infRung) : f.read (f.word s rung) = if rung < f.binade then .number s rung f.leastPlace else .number s (f.binade + rung % f.binade) (f.leastPlace + (rung / f.binade - 1 : Nat)) := by
  have hs := Format.infRung_lt f
  have h1 : f.word s rung % f.signWeight = rung := by
    unfold Format.word
    cases s
    · rw [if_neg (by decide)]; exact Nat.mod_eq_of_lt (by omega)
    · rw [if_pos rfl, Nat.add_mod_left]; exact Nat.mod_eq_of_lt (by omega)
  have h2 : (f.word s rung / f.signWeight % 2 == 1) = s := by
    unfold Format.word
    cases s
    · rw [if_neg (by decide), Nat.div_eq_of_lt (by omega)]; rfl
    · rw [if_pos rfl, Nat.add_div_left _ (by omega), Nat.div_eq_of_lt (by omega)]; rfl
  unfold Format.read
  simp only [h1, h2]
  by_cases h3 : rung < f.binade
  · rw [if_pos h3, if_pos h3]
  · rw [if_neg h3, if_neg h3, if_pos h]
/-- The word of M units of 2^-1074. -/
def W (f : Format) (s : Bool) (M : Nat) : Nat := f.nearest s M (-1074)
theorem W_of (f : Format) (s : Bool) (m : Nat) (i : Int) (hi : -1074 ≤ i) : f.nearest s m i = W f s (m * pw (i + 1074).toNat) := by
  have h := nearest_scale' f s m (i + 1074).toNat i
  rw [show i - ((i + 1074).toNat : Int) = -1074 by omega] at h
  exact h.symm
/-- Where the last digit of M stands, in units: the format's least place is lu units up. -/
def cc (f : Format) (lu M : Nat) : Nat := max (M.log2 - f.fractionBits) lu
theorem W_rung (f : Format) (lu : Nat) (hlp : f.leastPlace = (lu : Int) - 1074) (s : Bool) (M : Nat) (hM : M ≠ 0) (k : Nat) (hk : M = k * pw (cc f lu M)) (hfin : (cc f lu M - lu) * f.binade + k < f.infRung) : W f s M = f.word s ((cc f lu M - lu) * f.binade + k) := by
  unfold W Format.nearest
  rw [if_neg hM, hlp]
  have e : max (-1074 + (M.log2 : Int) - f.fractionBits) ((lu : Int) - 1074) = (cc f lu M : Int) - 1074 := by unfold cc; omega
  simp only [e]
  rw [show (-1074 - ((cc f lu M : Int) - 1074)).toNat = 0 by omega, show ((cc f lu M : Int) - 1074 - -1074).toNat = cc f lu M by omega, show ((cc f lu M : Int) - 1074 - ((lu : Int) - 1074)).toNat = cc f lu M - lu by omega, shl_pw, pw_zero, Nat.mul_one]
  have h := cut_exact' Toward.even s k (cc f lu M)
  rw [← hk] at h
  rw [h, Nat.min_eq_left (by omega)]
theorem read_W (f : Format) (lu : Nat) (hlp : f.leastPlace = (lu : Int) - 1074) (s : Bool) (M : Nat) (hM : M ≠ 0) (k : Nat) (hk : M = k * pw (cc f lu M)) (hfin : (cc f lu M - lu) * f.binade + k < f.infRung) : f.read (W f s M) = .number s k ((cc f lu M : Int) - 1074) := by
  rw [W_rung f lu hlp s M hM k hk hfin, read_word f s _ hfin]
  obtain ⟨b1, b2⟩ := log2_bd hM
  have hb : f.binade = pw f.fractionBits := rfl
  have hb0 : 0 < f.binade := by rw [hb]; exact pw_pos _
  have hk2 : k < 2 * f.binade := by
    have h1 : k * pw (cc f lu M) < pw (f.fractionBits + 1) * pw (cc f lu M) := by
      rw [← hk, ← pw_add]
      exact Nat.lt_of_lt_of_le b2 (pw_le (by unfold cc; omega))
    have h2 := Nat.lt_of_mul_lt_mul_right h1
    rw [hb]; rw [pw_succ] at h2; omega
  by_cases hc : cc f lu M = lu
  · rw [hc, Nat.sub_self, Nat.zero_mul, Nat.zero_add, hlp]
    by_cases h3 : k < f.binade
    · rw [if_pos h3]
    · rw [if_neg h3]
      have e1 : k / f.binade = 1 := by
        rw [Nat.div_eq_iff hb0]; omega
      have e2 : f.binade + k % f.binade = k := by
        have := Nat.div_add_mod k f.binade
        rw [e1, Nat.mul_one] at this
        exact this
      rw [e1, e2]
      congr 1
      omega
  · have hgt : lu < cc f lu M := by unfold cc at hc ⊢; omega
    have hcm : cc f lu M = M.log2 - f.fractionBits := by unfold cc at hc hgt ⊢; omega
    have hk1 : f.binade ≤ k := by
      have h1 : pw f.fractionBits * pw (cc f lu M) ≤ k * pw (cc f lu M) := by
        rw [← hk, ← pw_add]
        exact Nat.le_trans (pw_le (by omega)) b1
      rw [hb]
      exact Nat.le_of_mul_le_mul_right h1 (pw_pos _)
    obtain ⟨d, hd⟩ : ∃ d, cc f lu M - lu = d + 1 := ⟨cc f lu M - lu - 1, by omega⟩
    rw [hd]
    have hge : f.binade ≤ (d + 1) * f.binade := Nat.le_mul_of_pos_left _ (by omega)
    rw [if_neg (by omega)]
    obtain ⟨r, hr⟩ : ∃ r, k = f.binade + r := ⟨k - f.binade, by omega⟩
    have e0 : (d + 1) * f.binade + k = r + f.binade * (d + 2) := by rw [hr, Nat.mul_comm f.binade, Nat.add_mul, Nat.add_mul]; omega
    rw [e0, Nat.add_mul_mod_self_left, Nat.add_mul_div_left _ _ hb0, Nat.mod_eq_of_lt (by omega), Nat.div_eq_of_lt (by omega), ← hr, hlp]
    congr 1
    omega
end Go.Proofs.Ytmiafomaglijgaa.Fl
