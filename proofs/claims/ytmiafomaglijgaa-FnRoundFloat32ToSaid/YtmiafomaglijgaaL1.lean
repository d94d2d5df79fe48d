/- Binary floating point over exact whole numbers: a finite word stands for a sign and a number of units of 2^-1074; what is written is read again where it can be held. -/
import Ieee.Arith
import Derived.Laws.FloatBits
namespace Go.Proofs.Ytmiafomaglijgaa.Fl
open Ieee
set_option linter.unusedVariables false
/-- What is left over makes one more, or not. -/
def mor (way : Toward) (neg : Bool) (gap low rest : Nat) : Bool := match way with
  | .even => decide (gap < 2 * rest) || (gap == 2 * rest && low % 2 == 1)
  | .down => neg && rest != 0
  | .up => !neg && rest != 0
  | .zero => false
theorem cut_eq (way : Toward) (neg : Bool) (n d : Nat) : way.cut neg n d = n / (1 <<< min d (n.log2 + 2)) + (mor way neg (1 <<< min d (n.log2 + 2)) (n / (1 <<< min d (n.log2 + 2))) (n % (1 <<< min d (n.log2 + 2)))).toNat := by
  cases way <;> rfl
theorem mor_zero (way : Toward) (neg : Bool) (gap low : Nat) (h : 0 < gap) : mor way neg gap low 0 = false := by
  have h1 : ¬ gap < 0 := by omega
  have h2 : ¬ gap = 0 := by omega
  cases way <;> simp [mor, h1, h2]
/-- n is cut at a place that it is a multiple of: nothing is lost. -/
theorem cut_exact (way : Toward) (neg : Bool) (k d : Nat) : way.cut neg (k * 2 ^ d) d = k := by
  by_cases hk : k = 0
  · subst hk
    rw [cut_eq, Nat.zero_mul, Nat.zero_div, Nat.zero_mod, mor_zero _ _ _ _ (by rw [Nat.shiftLeft_eq, Nat.one_mul]; exact Nat.two_pow_pos _)]
    rfl
  · have hp : 0 < 2 ^ d := Nat.two_pow_pos d
    have hl : d ≤ (k * 2 ^ d).log2 := by
      rw [Nat.le_log2 (by exact Nat.mul_ne_zero hk (by omega))]
      exact Nat.le_mul_of_pos_left _ (by omega)
    rw [cut_eq, Nat.min_eq_left (by omega), Nat.shiftLeft_eq, Nat.one_mul, Nat.mul_div_cancel _ hp, Nat.mul_mod_left, mor_zero _ _ _ _ hp]
    rfl
/-- A scaled number is cut as the number is. -/
theorem cut_scale (way : Toward) (neg : Bool) (n d t : Nat) (hn : n ≠ 0) : way.cut neg (n * 2 ^ t) (d + t) = way.cut neg n d := by
  have hp : 0 < 2 ^ t := Nat.two_pow_pos t
  have hl : (n * 2 ^ t).log2 = n.log2 + t := by
    rw [Nat.log2_eq_iff (Nat.mul_ne_zero hn (by omega))]
    have h1 := Nat.log2_self_le hn
    have h2 : n < 2 ^ (n.log2 + 1) := (Nat.log2_lt hn).1 (Nat.lt_succ_self _)
    rw [Nat.pow_add]
    refine ⟨Nat.mul_le_mul_right _ h1, ?_⟩
    rw [show n.log2 + t + 1 = n.log2 + 1 + t by omega, Nat.pow_add]
    exact Nat.mul_lt_mul_of_pos_right h2 hp
  rw [cut_eq, cut_eq, hl, show min (d + t) (n.log2 + t + 2) = min d (n.log2 + 2) + t by omega]
  generalize min d (n.log2 + 2) = g
  rw [Nat.shiftLeft_eq, Nat.shiftLeft_eq, Nat.one_mul, Nat.one_mul, Nat.pow_add, Nat.mul_div_mul_right _ _ hp, Nat.mul_mod_mul_right]
  have e1 : decide (2 ^ g * 2 ^ t < 2 * (n % 2 ^ g * 2 ^ t)) = decide (2 ^ g < 2 * (n % 2 ^ g)) := by
    rw [← Nat.mul_assoc]
    congr 1
    exact propext ⟨fun h => Nat.lt_of_mul_lt_mul_right h, fun h => Nat.mul_lt_mul_of_pos_right h hp⟩
  have e2 : (2 ^ g * 2 ^ t == 2 * (n % 2 ^ g * 2 ^ t)) = (2 ^ g == 2 * (n % 2 ^ g)) := by
    rw [← Nat.mul_assoc, Bool.eq_iff_iff]
    simp only [beq_iff_eq]
    exact ⟨fun h => Nat.eq_of_mul_eq_mul_right hp h, fun h => congrArg (· * 2 ^ t) h⟩
  have e3 : (n % 2 ^ g * 2 ^ t != 0) = (n % 2 ^ g != 0) := by
    rw [Bool.eq_iff_iff]
    simp only [bne_iff_ne, ne_eq, Nat.mul_eq_zero, not_or]
    exact ⟨fun h => h.1, fun h => ⟨h, by omega⟩⟩
  congr 2
  cases way <;> simp only [mor, e1, e2, e3]
/-- The word nearest to a scaled number is the number's own. -/
theorem nearest_scale (f : Format) (s : Bool) (m t : Nat) (i : Int) : f.nearest s (m * 2 ^ t) (i - t) = f.nearest s m i := by
  by_cases hm : m = 0
  · subst hm; rw [Nat.zero_mul]; unfold Format.nearest; simp
  have hp : 0 < 2 ^ t := Nat.two_pow_pos t
  have hl : (m * 2 ^ t).log2 = m.log2 + t := by
    rw [Nat.log2_eq_iff (Nat.mul_ne_zero hm (by omega))]
    have h1 := Nat.log2_self_le hm
    have h2 : m < 2 ^ (m.log2 + 1) := (Nat.log2_lt hm).1 (Nat.lt_succ_self _)
    rw [Nat.pow_add]
    refine ⟨Nat.mul_le_mul_right _ h1, ?_⟩
    rw [show m.log2 + t + 1 = m.log2 + 1 + t by omega, Nat.pow_add]
    exact Nat.mul_lt_mul_of_pos_right h2 hp
  unfold Format.nearest
  rw [if_neg hm, if_neg (Nat.mul_ne_zero hm (by omega)), hl]
  have e : (i - t + ((m.log2 + t : Nat) : Int) - f.fractionBits) = i + m.log2 - f.fractionBits := by omega
  simp only [e]
  generalize max (i + (m.log2 : Int) - f.fractionBits) f.leastPlace = last
  have key : Toward.even.cut s ((m * 2 ^ t) <<< (i - t - last).toNat) (last - (i - t)).toNat = Toward.even.cut s (m <<< (i - last).toNat) (last - i).toNat := by
    rw [Nat.shiftLeft_eq, Nat.shiftLeft_eq]
    rcases Int.lt_or_le i last with h | h
    · rw [show (i - t - last).toNat = 0 by omega, show (i - last).toNat = 0 by omega, show (last - (i - t)).toNat = (last - i).toNat + t by omega, Nat.pow_zero, Nat.mul_one, Nat.mul_one]
      exact cut_scale _ _ _ _ _ hm
    · rw [show (last - i).toNat = 0 by omega]
      have h0 := cut_exact Toward.even s (m * 2 ^ (i - last).toNat) 0
      rw [Nat.pow_zero, Nat.mul_one] at h0
      rw [h0]
      rcases Int.lt_or_le (i - t) last with h2 | h2
      · rw [show (i - t - last).toNat = 0 by omega, Nat.pow_zero, Nat.mul_one]
        have h1 := cut_exact Toward.even s (m * 2 ^ (i - last).toNat) (last - (i - t)).toNat
        rw [Nat.mul_assoc, ← Nat.pow_add, show (i - last).toNat + (last - (i - t)).toNat = t by omega] at h1
        exact h1
      · rw [show (last - (i - t)).toNat = 0 by omega]
        have h1 := cut_exact Toward.even s (m * 2 ^ t * 2 ^ (i - t - last).toNat) 0
        rw [Nat.pow_zero, Nat.mul_one] at h1
        rw [h1, Nat.mul_assoc, ← Nat.pow_add, show t + (i - t - last).toNat = (i - last).toNat by omega]
  rw [key]
/-- A power of two, its name alone: no place where it is used lays it open. -/
def pw (n : Nat) : Nat := 2 ^ n
theorem pw_eq (n : Nat) : pw n = 2 ^ n := rfl
theorem pw_pos (n : Nat) : 0 < pw n := Nat.two_pow_pos n
theorem pw_add (a b : Nat) : pw (a + b) = pw a * pw b := Nat.pow_add 2 a b
theorem pw_le {a b : Nat} (h : a ≤ b) : pw a ≤ pw b := Nat.pow_le_pow_right (by omega) h
theorem pw_dvd {a b : Nat} (h : a ≤ b) : pw a ∣ pw b := Nat.pow_dvd_pow 2 h
theorem pw_succ (a : Nat) : pw (a + 1) = pw a * 2 := Nat.pow_succ ..
theorem pw_zero : pw 0 = 1 := rfl
theorem shl_pw (n d : Nat) : n <<< d = n * pw d := Nat.shiftLeft_eq n d
theorem log2_bd {n : Nat} (h : n ≠ 0) : pw n.log2 ≤ n ∧ n < pw (n.log2 + 1) := ⟨Nat.log2_self_le h, (Nat.log2_lt h).1 (Nat.lt_succ_self _)⟩
theorem log2_lt {n t : Nat} (hn : n ≠ 0) (h : n < pw t) : n.log2 < t := (Nat.log2_lt hn).2 h
theorem lt_of_log2 {n t : Nat} (hn : n ≠ 0) (h : n.log2 < t) : n < pw t := (Nat.log2_lt hn).1 h
theorem le_log2 {n t : Nat} (hn : n ≠ 0) (h : pw t ≤ n) : t ≤ n.log2 := (Nat.le_log2 hn).2 h
theorem log2_is {n t : Nat} (hn : n ≠ 0) (h1 : pw t ≤ n) (h2 : n < pw (t + 1)) : n.log2 = t := (Nat.log2_eq_iff hn).2 ⟨h1, h2⟩
theorem log2_mul {n : Nat} (hn : n ≠ 0) (t : Nat) : (n * pw t).log2 = n.log2 + t := by
  obtain ⟨h1, h2⟩ := log2_bd hn
  refine log2_is (Nat.mul_ne_zero hn (Nat.ne_of_gt (pw_pos t))) ?_ ?_
  · rw [pw_add]; exact Nat.mul_le_mul_right _ h1
  · rw [show n.log2 + t + 1 = n.log2 + 1 + t by omega, pw_add]; exact Nat.mul_lt_mul_of_pos_right h2 (pw_pos t)
theorem cut_exact' (way : Toward) (neg : Bool) (k d : Nat) : way.cut neg (k * pw d) d = k := cut_exact way neg k d
theorem cut_scale' (way : Toward) (neg : Bool) (n d t : Nat) (hn : n ≠ 0) : way.cut neg (n * pw t) (d + t) = way.cut neg n d := cut_scale way neg n d t hn
theorem nearest_scale' (f : Format) (s : Bool) (m t : Nat) (i : Int) : f.nearest s (m * pw t) (i - t) = f.nearest s m i := nearest_scale f s m t i
end Go.Proofs.Ytmiafomaglijgaa.Fl
