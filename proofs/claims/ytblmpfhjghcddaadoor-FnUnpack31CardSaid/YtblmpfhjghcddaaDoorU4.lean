/- The number of m bits that begins at a bit of bytes (the lowest first), and what shifts and remainders of the words of four bytes have of it. -/
import Derived.Test.YtblmpfhjghcddaaDoorU3
namespace Go.Proofs.YtblmpfhjghcddaaDoor.QU
open Go.RowKit
def bitD (D : Nat → Int) (t : Nat) : Int := D (t / 8) / 2 ^ (t % 8) % 2
def numD (D : Nat → Int) (s : Nat) : Nat → Int
  | 0 => 0
  | m + 1 => numD D s m + bitD D (s + m) * 2 ^ m
theorem bitD_bd (D : Nat → Int) (t : Nat) : 0 ≤ bitD D t ∧ bitD D t ≤ 1 := by unfold bitD; omega
theorem numD_bd (D : Nat → Int) (s m : Nat) : 0 ≤ numD D s m ∧ numD D s m < 2 ^ m := by
  induction m with
  | zero => simp [numD]
  | succ m ih =>
    have hb := bitD_bd D (s + m)
    have hp : (0 : Int) < 2 ^ m := Int.pow_pos (by omega)
    simp only [numD, Int.pow_succ]
    have h : bitD D (s + m) = 0 ∨ bitD D (s + m) = 1 := by omega
    rcases h with h | h <;> rw [h] <;> omega
theorem numD_add (D : Nat → Int) (s a b : Nat) : numD D s (a + b) = numD D s a + numD D (s + a) b * 2 ^ a := by
  induction b with
  | zero => simp [numD]
  | succ b ih =>
    rw [← Nat.add_assoc]
    simp only [numD]
    rw [ih, Int.add_mul, Int.mul_assoc, ← Int.pow_add, Nat.add_comm b a, show s + (a + b) = s + a + b by omega]
    omega
theorem mod_succ (V : Int) (m : Nat) : V % 2 ^ (m + 1) = V % 2 ^ m + V / 2 ^ m % 2 * 2 ^ m := by
  have hp : (0 : Int) < 2 ^ m := Int.pow_pos (by omega)
  have h1 := Int.mul_ediv_add_emod V (2 ^ m)
  have h2 := Int.mul_ediv_add_emod (V / 2 ^ m) 2
  have h3 := Int.emod_nonneg V (Int.ne_of_gt hp)
  have h4 := Int.emod_lt_of_pos V hp
  have e : V = 2 ^ (m + 1) * (V / 2 ^ m / 2) + (V % 2 ^ m + V / 2 ^ m % 2 * 2 ^ m) := by
    rw [Int.pow_succ, Int.mul_assoc]
    have : 2 ^ m * (2 * (V / 2 ^ m / 2)) + V / 2 ^ m % 2 * 2 ^ m = 2 ^ m * (V / 2 ^ m) := by
      rw [Int.mul_comm (V / 2 ^ m % 2), ← Int.mul_add, h2]
    omega
  have hx : V / 2 ^ m % 2 = 0 ∨ V / 2 ^ m % 2 = 1 := by omega
  have hlt : 0 ≤ V % 2 ^ m + V / 2 ^ m % 2 * 2 ^ m ∧ V % 2 ^ m + V / 2 ^ m % 2 * 2 ^ m < 2 ^ (m + 1) := by
    rw [Int.pow_succ]
    rcases hx with h | h <;> rw [h] <;> omega
  generalize V % 2 ^ m + V / 2 ^ m % 2 * 2 ^ m = R at e hlt ⊢
  rw [e, Int.add_comm, Int.add_mul_emod_self_left]
  exact Int.emod_eq_of_lt hlt.1 hlt.2
theorem le4_bit {D : Nat → Int} {t : Nat} (h : ∀ k, k < 4 → 0 ≤ D (t + k) ∧ D (t + k) < 256) (s : Nat) (hs : s < 32) : le4 (D t) (D (t + 1)) (D (t + 2)) (D (t + 3)) / 2 ^ s % 2 = bitD D (8 * t + s) := by
  have h0 := h 0 (by omega)
  have h1 := h 1 (by omega)
  have h2 := h 2 (by omega)
  have h3 := h 3 (by omega)
  simp only [Nat.add_zero] at h0
  unfold bitD
  rw [show (8 * t + s) / 8 = t + s / 8 by omega, show (8 * t + s) % 8 = s % 8 by omega]
  have key : ∀ s : Fin 32, le4 (D t) (D (t + 1)) (D (t + 2)) (D (t + 3)) / 2 ^ s.val % 2 = D (t + s.val / 8) / 2 ^ (s.val % 8) % 2 := by
    intro s
    unfold le4
    obtain ⟨s, hs⟩ := s
    have hc : s = 0 ∨ s = 1 ∨ s = 2 ∨ s = 3 ∨ s = 4 ∨ s = 5 ∨ s = 6 ∨ s = 7 ∨ s = 8 ∨ s = 9 ∨ s = 10 ∨ s = 11 ∨ s = 12 ∨ s = 13 ∨ s = 14 ∨ s = 15 ∨ s = 16 ∨ s = 17 ∨ s = 18 ∨ s = 19 ∨ s = 20 ∨ s = 21 ∨ s = 22 ∨ s = 23 ∨ s = 24 ∨ s = 25 ∨ s = 26 ∨ s = 27 ∨ s = 28 ∨ s = 29 ∨ s = 30 ∨ s = 31 := by omega
    rcases hc with h | h | h | h | h | h | h | h | h | h | h | h | h | h | h | h | h | h | h | h | h | h | h | h | h | h | h | h | h | h | h | h <;> (subst h; simp; omega)
  exact key ⟨s, hs⟩
/-- A piece of a word. -/
theorem piece {D : Nat → Int} {t : Nat} (h : ∀ k, k < 4 → 0 ≤ D (t + k) ∧ D (t + k) < 256) (s m : Nat) (hs : s + m ≤ 32) : le4 (D t) (D (t + 1)) (D (t + 2)) (D (t + 3)) / 2 ^ s % 2 ^ m = numD D (8 * t + s) m := by
  induction m with
  | zero => simp [numD, Int.emod_one]
  | succ m ih =>
    rw [mod_succ, ih (by omega), Int.ediv_ediv_of_nonneg (Int.le_of_lt (Int.pow_pos (by omega))), ← Int.pow_add, le4_bit h (s + m) (by omega)]
    simp only [numD, Nat.add_assoc]
theorem le4_bd {D : Nat → Int} {t : Nat} (h : ∀ k, k < 4 → 0 ≤ D (t + k) ∧ D (t + k) < 256) : 0 ≤ le4 (D t) (D (t + 1)) (D (t + 2)) (D (t + 3)) ∧ le4 (D t) (D (t + 1)) (D (t + 2)) (D (t + 3)) < 4294967296 := by
  have h0 := h 0 (by omega)
  have h1 := h 1 (by omega)
  have h2 := h 2 (by omega)
  have h3 := h 3 (by omega)
  simp only [Nat.add_zero] at h0
  unfold le4
  omega
theorem or_pieces (x y : Int) (a b : Nat) (hab : a + b ≤ 32) (hx : 0 ≤ x ∧ x < 2 ^ a) (hy : 0 ≤ y ∧ y < 2 ^ b) : Go.bits .or .u32 x (y * 2 ^ a % 4294967296) = x + y * 2 ^ a := by
  have hp : (0 : Int) < 2 ^ a := Int.pow_pos (by omega)
  have h1 : (2 : Int) ^ a * 2 ^ b ≤ 2 ^ 32 := by
    rw [← Int.pow_add]
    exact_mod_cast Nat.pow_le_pow_right (by omega : 0 < 2) hab
  have h2 : y * 2 ^ a + 2 ^ a ≤ 2 ^ a * 2 ^ b := by
    have : (y + 1) * 2 ^ a ≤ 2 ^ b * 2 ^ a := Int.mul_le_mul_of_nonneg_right (by omega) (Int.le_of_lt hp)
    rw [Int.mul_comm (2 ^ a)]
    rw [Int.add_mul] at this
    omega
  have h3 : 0 ≤ y * 2 ^ a := Int.mul_nonneg hy.1 (Int.le_of_lt hp)
  have h4 : (2 : Int) ^ 32 = 4294967296 := by decide
  have h5 : (2 : Int) ^ a ≤ 2 ^ 32 := by exact_mod_cast Nat.pow_le_pow_right (by omega : 0 < 2) (show a ≤ 32 by omega)
  rw [Int.emod_eq_of_lt h3 (by omega)]
  exact bits_join_low .u32 32 (by decide) wraps_u32 a _ _ (by first | omega | (show a ≤ 32; omega)) (by omega) (by omega) (by omega) (Int.mul_emod_left _ _) (by omega)
section
variable {D : Nat → Int} {t n : Nat} {V : Int}
theorem four (h : ∀ k, k < n → 0 ≤ D k ∧ D k < 256) (hn : t + 4 ≤ n) : ∀ k, k < 4 → 0 ≤ D (t + k) ∧ D (t + k) < 256 := fun k hk => h _ (by omega)
theorem pc_mid (hV : V = le4 (D t) (D (t + 1)) (D (t + 2)) (D (t + 3))) (h : ∀ k, k < n → 0 ≤ D k ∧ D k < 256) (hn : t + 4 ≤ n) (s m : Nat) (S M : Int) (hS : S = 2 ^ s) (hM : M = 2 ^ m) (hs : s + m ≤ 32) : (V / S).tmod M = numD D (8 * t + s) m := by
  have h4 := four h hn
  have hb := le4_bd h4
  have hp : (0 : Int) < 2 ^ s := Int.pow_pos (by omega)
  subst hV hS hM
  rw [Int.tmod_eq_emod_of_nonneg (Int.ediv_nonneg hb.1 (Int.le_of_lt hp))]
  exact piece h4 s m hs
theorem pc_first (hV : V = le4 (D t) (D (t + 1)) (D (t + 2)) (D (t + 3))) (h : ∀ k, k < n → 0 ≤ D k ∧ D k < 256) (hn : t + 4 ≤ n) (m : Nat) (M : Int) (hM : M = 2 ^ m) (hs : m ≤ 32) : V.tmod M = numD D (8 * t) m := by
  have e := pc_mid hV h hn 0 m 1 M (by decide) hM (by omega)
  simpa using e
theorem pc_last (hV : V = le4 (D t) (D (t + 1)) (D (t + 2)) (D (t + 3))) (h : ∀ k, k < n → 0 ≤ D k ∧ D k < 256) (hn : t + 4 ≤ n) (s m : Nat) (S : Int) (hS : S = 2 ^ s) (hs : s + m = 32) : V / S = numD D (8 * t + s) m := by
  have h4 := four h hn
  have hb := le4_bd h4
  have hp : (0 : Int) < 2 ^ s := Int.pow_pos (by omega)
  have e := piece h4 s m (by omega)
  rw [← hV] at e hb
  subst hS
  rw [← e]
  refine (Int.emod_eq_of_lt (Int.ediv_nonneg hb.1 (Int.le_of_lt hp)) ?_).symm
  refine Int.ediv_lt_of_lt_mul hp ?_
  rw [← Int.pow_add, show m + s = 32 by omega]
  exact hb.2
theorem pc_two {y V2 : Int} (hV : V = le4 (D t) (D (t + 1)) (D (t + 2)) (D (t + 3))) (hV2 : V2 = le4 (D (t + 4)) (D (t + 4 + 1)) (D (t + 4 + 2)) (D (t + 4 + 3))) (h : ∀ k, k < n → 0 ≤ D k ∧ D k < 256) (hn : t + 8 ≤ n) (s a b : Nat) (S M P : Int) (hS : S = 2 ^ s) (hM : M = 2 ^ b) (hP : P = 2 ^ a) (hs : s + a = 32) (hab : a + b ≤ 32) (hy : y = V / S) :
    Go.bits .or .u32 y (V2.tmod M * P % 4294967296) = numD D (8 * t + s) (a + b) := by
  have e1 := pc_last hV h (by omega) s a S hS hs
  have e2 := pc_first (t := t + 4) hV2 h (by omega) b M hM (by omega)
  rw [hy, e1, e2, hP, or_pieces _ _ a b hab (numD_bd _ _ _) (numD_bd _ _ _), numD_add, show 8 * t + s + a = 8 * (t + 4) by omega]
theorem pc_rem (hV : V = le4 (D t) (D (t + 1)) (D (t + 2)) (D (t + 3))) (h : ∀ k, k < n → 0 ≤ D k ∧ D k < 256) (hn : t + 4 ≤ n) (s a m : Nat) (S M : Int) (hS : S = 2 ^ s) (hM : M = 2 ^ m) (hs : s + a = 32) (ham : a ≤ m) : (V / S).tmod M = V / S := by
  have e1 := pc_last hV h hn s a S hS hs
  have hb := numD_bd D (8 * t + s) a
  rw [← e1] at hb
  rw [Int.tmod_eq_emod_of_nonneg hb.1]
  have hle : (2 : Int) ^ a ≤ 2 ^ m := by exact_mod_cast Nat.pow_le_pow_right (by omega : 0 < 2) ham
  exact Int.emod_eq_of_lt hb.1 (by rw [hM]; omega)
end
end Go.Proofs.YtblmpfhjghcddaaDoor.QU
