/- Whole numbers as words of 64 bits; normalize, Frexp of them. -/
import Derived.Test.YtmiafomaglijgaaL11
namespace Go.Proofs.Ytmiafomaglijgaa.QR
open Ieee Go.Proofs.Ytmiafomaglijgaa.Fl Go.RowKit Go.Proofs.YtmiafomaglijgaaW.PrintWords Go.Proofs.YtmiafomaglijgaaW.PrintLast Go.Proofs.YtmiafomaglijgaaW.PrintMore
set_option linter.unusedVariables false
set_option linter.unusedSimpArgs false
/-- A whole number's word. -/
def IW (s : Bool) (n : Nat) : Nat := W F64 s (n * U1)
theorem IW_units (s : Bool) {n : Nat} (h : n < 16777216) : Units (F64.read (IW s n)) s (n * U1) := by
  by_cases hn : n = 0
  · subst hn
    unfold IW
    rw [Nat.zero_mul]
    exact read_zero F64 0 lp64 s (by decide)
  · have h1 := rep_int hn h
    exact hold64 (Nat.mul_ne_zero hn (Nat.ne_of_gt U1_pos)) (by omega) (rep_up h1.1)
/-- Its digits: so many times a power of two. -/
theorem IW_word (s : Bool) {n : Nat} (hn : n ≠ 0) (h : n < 16777216) : ∃ k, IW s n = F64.word s ((n.log2 + 1022) * 4503599627370496 + k) ∧ 4503599627370496 ≤ k ∧ k < 9007199254740992 ∧ n.log2 < 24 := by
  have hl : n.log2 < 24 := log2_lt hn h
  obtain ⟨b1, b2⟩ := log2_bd hn
  have e : n * U1 = (n * pw (52 - n.log2)) * pw (n.log2 + 1022) := by
    rw [Nat.mul_assoc, ← pw_add, show 52 - n.log2 + (n.log2 + 1022) = 1074 by omega]
    rfl
  have e52 : pw n.log2 * pw (52 - n.log2) = 4503599627370496 := by rw [← pw_add, show n.log2 + (52 - n.log2) = 52 by omega]; rfl
  have e53 : pw (n.log2 + 1) * pw (52 - n.log2) = 9007199254740992 := by rw [← pw_add, show n.log2 + 1 + (52 - n.log2) = 53 by omega]; rfl
  have h1 : 4503599627370496 ≤ n * pw (52 - n.log2) := by rw [← e52]; exact Nat.mul_le_mul_right _ b1
  have h2 : n * pw (52 - n.log2) < 9007199254740992 := by rw [← e53]; exact Nat.mul_lt_mul_of_pos_right b2 (pw_pos _)
  refine ⟨n * pw (52 - n.log2), ?_, h1, h2, hl⟩
  unfold IW
  rw [e]
  exact W64_word s h1 (by omega) (by omega)
theorem read_0 : Units (F64.read 0) false 0 := ⟨0, -1074, by decide, by omega, by rw [Nat.zero_mul]⟩
theorem read_2 : Units (F64.read 4611686018427387904) false (2 * U1) := ⟨4503599627370496, -51, by decide, by omega, by
  rw [show ((-51 : Int) + 1074).toNat = 1023 by omega, show U1 = pw (51 + 1023) from rfl, pw_add, ← Nat.mul_assoc, show 2 * pw 51 = 4503599627370496 from rfl]⟩
theorem read_sn : Units (F64.read 4503599627370496) false (4503599627370496 * pw 0) := ⟨4503599627370496, -1074, by decide, by omega, rfl⟩
theorem IW_2 : IW false 2 = 4611686018427387904 := by
  obtain ⟨k, h1, _⟩ : ∃ k, 2 * U1 = 4503599627370496 * pw 1023 ∧ k = 0 := ⟨0, by rw [show U1 = pw (51 + 1023) from rfl, pw_add, ← Nat.mul_assoc, show 2 * pw 51 = 4503599627370496 from rfl], rfl⟩
  unfold IW
  rw [h1, W64_word false (Nat.le_refl _) (by omega) (by omega), word_eq]
  rfl
theorem read_nan {d : Datum} {s : Bool} {M : Nat} (h : Units d s M) : d.isNaN = false := (units_fin h).2
theorem word_mod (rung : Nat) (h : rung < 9223372036854775808) : F64.word false rung = rung ∧ F64.word false rung % 9223372036854775808 = rung := by
  have e : F64.word false rung = rung := by rw [word_eq]; simp
  rw [e]
  exact ⟨rfl, Nat.mod_eq_of_lt h⟩
theorem order_lt {a b : Nat} {M N : Nat} (ha : Units (F64.read a) false M) (hb : Units (F64.read b) false N) : (FloatKind.f64.format.order a b == some Ordering.lt) = decide (M < N) := by
  have h := order_units ha hb
  have e : FloatKind.f64.format.order a b = (F64.read a).order (F64.read b) := rfl
  rw [e, h]
  unfold sg
  simp only [Bool.false_eq_true, if_false]
  rw [Int.compare_eq_ite_lt]
  by_cases h1 : M < N
  · rw [if_pos (by omega), decide_eq_true h1]; rfl
  · rw [if_neg (by omega), decide_eq_false h1]
    split <;> rfl
theorem order_eq {a b : Nat} {s t : Bool} {M N : Nat} (ha : Units (F64.read a) s M) (hb : Units (F64.read b) t N) : (FloatKind.f64.format.order a b == some Ordering.eq) = decide (sg s M = sg t N) := by
  have h := order_units ha hb
  have e : FloatKind.f64.format.order a b = (F64.read a).order (F64.read b) := rfl
  rw [e, h, Int.compare_eq_ite_lt]
  by_cases h1 : sg s M = sg t N
  · rw [if_neg (by omega), if_neg (by omega), decide_eq_true h1]; rfl
  · rw [decide_eq_false h1]
    split
    · rfl
    · rw [if_pos (by omega)]; rfl
set_option maxHeartbeats 8000000 in
set_option maxRecDepth 100000 in
theorem nrm_is (n : Nat) (hn : n ≠ 0) (h : n < 16777216) (w : World) : Calls Try.prog 54 #[.float .f64 (IW false n)] w fun e w' => e = .returned (.tuple #[.float .f64 (IW false n), .int .i64 0]) ∧ Below w.heap.size w w' := by
  obtain ⟨k, hk, hk1, hk2, hl⟩ := IW_word false hn h
  have hu := IW_units false h
  have hlt : (n.log2 + 1022) * 4503599627370496 + k < 9223372036854775808 := by omega
  have hm := word_mod _ hlt
  have hx : IW false n < 18446744073709551616 := by rw [hk, hm.1]; omega
  have hm2 : IW false n % 9223372036854775808 = IW false n := by rw [hk, hm.2, hm.1]
  have QA := Aside0.mk (fun w => abs_is (IW false n) hx w)
  rw [hm2] at QA
  have ho : (FloatKind.f64.format.order (IW false n) 4503599627370496 == some Ordering.lt) = false := by
    rw [order_lt hu read_sn, decide_eq_false]
    have h1 : 4503599627370496 * pw 0 ≤ 1 * U1 := by
      rw [Nat.one_mul, show (4503599627370496 : Nat) = pw 52 from rfl, ← pw_add]
      exact pw_le (by omega)
    have h2 : 1 * U1 ≤ n * U1 := Nat.mul_le_mul_right _ (by omega)
    omega
  generalize IW false n = x at QA ho ⊢
  clear hk hu hlt hm hx hm2 hk1 hk2 hl hn h
  go_enter Try.func54, Try.ntmps54
  go_wp2_with (go_at_call 12; with_reducible refine Calls.mono (QA.out _) ?_; rintro e w1 ⟨rfl, hb⟩; have Q1 := Aside0.mk hb; clear hb)
  refine bodyPost_ret (v := .tuple #[.float .f64 x, .int .i64 0]) (by simp [results, Try.results54, go_sem]) rfl ?_
  exact ⟨rfl, Q1.out⟩
end Go.Proofs.Ytmiafomaglijgaa.QR
