/- Data as signs with numbers of units; sums, orders, whole parts of them; what any word reads as. -/
import Derived.Test.YtmiafomaglijgaaL2
namespace Go.Proofs.Ytmiafomaglijgaa.Fl
open Ieee
set_option linter.unusedVariables false
set_option linter.unusedSimpArgs false
/-- The datum is the number of sign s and of M units of 2^-1074. -/
def Units (d : Datum) (s : Bool) (M : Nat) : Prop := ∃ m i, d = .number s m i ∧ -1074 ≤ i ∧ M = m * pw (i + 1074).toNat
def sg (s : Bool) (M : Nat) : Int := if s then -(M : Int) else M
theorem write_units {f : Format} {d : Datum} {s : Bool} {M : Nat} (h : Units d s M) : f.write d = W f s M := by
  obtain ⟨m, i, rfl, hi, rfl⟩ := h
  exact W_of f s m i hi
theorem Units.opp {d : Datum} {s : Bool} {M : Nat} (h : Units d s M) : Units d.opposite (!s) M := by
  obtain ⟨m, i, rfl, hi, rfl⟩ := h
  exact ⟨m, i, rfl, hi, rfl⟩
theorem signed_scale (s : Bool) (m a b : Nat) : signed s m a * ((pw b : Nat) : Int) = signed s m (a + b) := by
  unfold signed
  rw [shl_pw, shl_pw, pw_add, ← Nat.mul_assoc]
  cases s
  · simp
  · simp [Int.neg_mul]
theorem signed_units (s : Bool) (m a : Nat) : signed s m a = sg s (m * pw a) := by
  unfold signed sg
  rw [shl_pw]
theorem sum_units {a b : Datum} {s t : Bool} {M N : Nat} (ha : Units a s M) (hb : Units b t N) : ∃ d, a.sum b = some d ∧ Units d (if sg s M + sg t N = 0 then s && t else decide (sg s M + sg t N < 0)) (sg s M + sg t N).natAbs := by
  obtain ⟨m, i, rfl, hi, rfl⟩ := ha
  obtain ⟨n, j, rfl, hj, rfl⟩ := hb
  obtain ⟨base, hbase⟩ : ∃ base, base = min i j := ⟨_, rfl⟩
  have hb0 : -1074 ≤ base := by omega
  have e1 : signed s m (i - base).toNat * ((pw (base + 1074).toNat : Nat) : Int) = sg s (m * pw (i + 1074).toNat) := by
    rw [signed_scale, signed_units, show (i - base).toNat + (base + 1074).toNat = (i + 1074).toNat by omega]
  have e2 : signed t n (j - base).toNat * ((pw (base + 1074).toNat : Nat) : Int) = sg t (n * pw (j + 1074).toNat) := by
    rw [signed_scale, signed_units, show (j - base).toNat + (base + 1074).toNat = (j + 1074).toNat by omega]
  rw [← e1, ← e2, ← Int.add_mul]
  obtain ⟨tot, htot⟩ : ∃ tot, tot = signed s m (i - base).toNat + signed t n (j - base).toNat := ⟨_, rfl⟩
  rw [← htot]
  have hp : (0 : Int) < ((pw (base + 1074).toNat : Nat) : Int) := Int.natCast_pos.2 (pw_pos _)
  refine ⟨.number (if tot = 0 then s && t else decide (tot < 0)) tot.natAbs base, ?_, tot.natAbs, base, ?_, hb0, ?_⟩
  · unfold Datum.sum
    simp only [← hbase, ← htot]
  · congr 1
    by_cases h0 : tot = 0
    · rw [h0]; simp
    · rw [if_neg h0, if_neg (by intro h; rcases Int.mul_eq_zero.1 h with h | h <;> omega)]
      congr 1
      apply propext
      constructor
      · intro h; exact Int.mul_neg_of_neg_of_pos h hp
      · intro h
        rcases Int.lt_or_le tot 0 with h1 | h1
        · exact h1
        · have := Int.mul_nonneg h1 (Int.le_of_lt hp); omega
  · rw [Int.natAbs_mul]
    congr 1
theorem order_units {a b : Datum} {s t : Bool} {M N : Nat} (ha : Units a s M) (hb : Units b t N) : a.order b = some (compare (sg s M) (sg t N)) := by
  obtain ⟨m, i, rfl, hi, rfl⟩ := ha
  obtain ⟨n, j, rfl, hj, rfl⟩ := hb
  obtain ⟨base, hbase⟩ : ∃ base, base = min i j := ⟨_, rfl⟩
  have hb0 : -1074 ≤ base := by omega
  have e1 : signed s m (i - base).toNat * ((pw (base + 1074).toNat : Nat) : Int) = sg s (m * pw (i + 1074).toNat) := by
    rw [signed_scale, signed_units, show (i - base).toNat + (base + 1074).toNat = (i + 1074).toNat by omega]
  have e2 : signed t n (j - base).toNat * ((pw (base + 1074).toNat : Nat) : Int) = sg t (n * pw (j + 1074).toNat) := by
    rw [signed_scale, signed_units, show (j - base).toNat + (base + 1074).toNat = (j + 1074).toNat by omega]
  have hp : (0 : Int) < ((pw (base + 1074).toNat : Nat) : Int) := Int.natCast_pos.2 (pw_pos _)
  unfold Datum.order
  simp only [← hbase]
  rw [← e1, ← e2]
  congr 1
  generalize signed s m (i - base).toNat = x
  generalize signed t n (j - base).toNat = y
  generalize ((pw (base + 1074).toNat : Nat) : Int) = p at hp
  rw [Int.compare_eq_ite_lt, Int.compare_eq_ite_lt]
  have h1 : (x < y) ↔ (x * p < y * p) := ⟨fun h => Int.mul_lt_mul_of_pos_right h hp, fun h => Int.lt_of_mul_lt_mul_right h (Int.le_of_lt hp)⟩
  have h2 : (y < x) ↔ (y * p < x * p) := ⟨fun h => Int.mul_lt_mul_of_pos_right h hp, fun h => Int.lt_of_mul_lt_mul_right h (Int.le_of_lt hp)⟩
  simp only [h1, h2]
/-- One, in units. -/
def U1 : Nat := pw 1074
theorem U1_eq : U1 = pw 1074 := rfl
/-- The whole number that is made of M units. -/
def R (way : Toward) (s : Bool) (M : Nat) : Nat := M / U1 + (mor way s U1 (M / U1) (M % U1)).toNat
theorem cut_plain (way : Toward) (s : Bool) (n d : Nat) : way.cut s n d = n / pw d + (mor way s (pw d) (n / pw d) (n % pw d)).toNat := by
  by_cases hn : n = 0
  · subst hn
    rw [cut_eq, Nat.zero_div, Nat.zero_div, Nat.zero_mod, Nat.zero_mod, mor_zero _ _ _ _ (pw_pos _), mor_zero _ _ _ _ (by rw [shl_pw, Nat.one_mul]; exact pw_pos _)]
  obtain ⟨b1, b2⟩ := log2_bd hn
  rw [cut_eq, shl_pw, Nat.one_mul]
  by_cases hd : d ≤ n.log2 + 2
  · rw [Nat.min_eq_left hd]
  · rw [Nat.min_eq_right (by omega)]
    have h4 : 2 * n < pw (n.log2 + 2) := by rw [show n.log2 + 2 = n.log2 + 1 + 1 by omega, pw_succ]; omega
    have h5 : pw (n.log2 + 2) ≤ pw d := pw_le (by omega)
    rw [Nat.div_eq_of_lt (by omega), Nat.div_eq_of_lt (by omega), Nat.mod_eq_of_lt (by omega), Nat.mod_eq_of_lt (by omega)]
    have e1 : ¬ pw (n.log2 + 2) < 2 * n := by omega
    have e2 : ¬ pw (n.log2 + 2) = 2 * n := by omega
    have e3 : ¬ pw d < 2 * n := by omega
    have e4 : ¬ pw d = 2 * n := by omega
    cases way <;> simp [mor, e1, e2, e3, e4]
theorem integral_units {d : Datum} {s : Bool} {M : Nat} (way : Toward) (h : Units d s M) : Units (d.integral way) s (R way s M * U1) := by
  obtain ⟨m, i, rfl, hi, rfl⟩ := h
  refine ⟨way.cut s (m <<< i.toNat) (-i).toNat, 0, rfl, by omega, ?_⟩
  have e : way.cut s (m <<< i.toNat) (-i).toNat = R way s (m * pw (i + 1074).toNat) := by
    unfold R
    rw [U1_eq, ← cut_plain, shl_pw]
    by_cases hm : m = 0
    · subst hm
      rw [Nat.zero_mul, Nat.zero_mul, cut_plain, cut_plain, Nat.zero_div, Nat.zero_div, Nat.zero_mod, Nat.zero_mod, mor_zero _ _ _ _ (pw_pos _), mor_zero _ _ _ _ (pw_pos _)]
    · rcases Int.lt_or_le 0 i with h1 | h1
      · have a1 := cut_exact' way s (m * pw i.toNat) 0
        rw [pw_zero, Nat.mul_one] at a1
        have a2 := cut_exact' way s (m * pw i.toNat) 1074
        rw [show (-i).toNat = 0 by omega, a1, show (i + 1074).toNat = i.toNat + 1074 by omega, pw_add, ← Nat.mul_assoc, a2]
      · have a1 := cut_scale' way s m (-i).toNat (i + 1074).toNat hm
        rw [show i.toNat = 0 by omega, pw_zero, Nat.mul_one, ← a1, show (-i).toNat + (i + 1074).toNat = 1074 by omega]
  rw [e]
  rfl
end Go.Proofs.Ytmiafomaglijgaa.Fl
