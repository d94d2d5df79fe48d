/- Round: the walk; what it gives of a number that can be held by 32 bits. -/
import Derived.Test.YtmiafomaglijgaaL9
namespace Go.Proofs.Ytmiafomaglijgaa.QR
open Ieee Go.Proofs.Ytmiafomaglijgaa.Fl Go.RowKit Go.Proofs.YtmiafomaglijgaaW.PrintWords Go.Proofs.YtmiafomaglijgaaW.PrintLast Go.Proofs.YtmiafomaglijgaaW.PrintMore
set_option linter.unusedVariables false
set_option linter.unusedSimpArgs false
theorem sign_bits (s : Bool) (rung : Nat) (h : rung < 9223372036854775808) : Go.bits .and .u64 ((F64.word s rung : Nat) : Int) 9223372036854775808 = ((F64.word s 0 : Nat) : Int) := by
  rw [word_eq, word_eq]
  have hS2 : (if s then 9223372036854775808 else 0 : Nat) ≤ 9223372036854775808 := by split <;> omega
  rw [u64_and _ 9223372036854775808 (by omega) (by omega) (by omega) (by omega)]
  congr 1
  rw [Int.toNat_natCast]
  show ((if s then 9223372036854775808 else 0) + rung) &&& 2 ^ 63 = _
  have h0 : rung.testBit 63 = false := Nat.testBit_lt_two_pow h
  apply Nat.eq_of_testBit_eq
  intro i
  rw [Nat.testBit_and, Nat.testBit_two_pow]
  by_cases hi : 63 = i
  · subst hi
    cases s
    · simp only [Bool.false_eq_true, if_false, Nat.zero_add, h0]; rfl
    · simp only [if_true]
      rw [show 9223372036854775808 + rung = 2 ^ 63 + rung from rfl, Nat.testBit_two_pow_add_eq, h0]
      rfl
  · rw [decide_eq_false hi, Bool.and_false]
    cases s
    · simp
    · simp only [if_true, Nat.add_zero]
      rw [show 9223372036854775808 = 2 ^ 63 from rfl, Nat.testBit_two_pow, decide_eq_false hi]
theorem one_bits (s : Bool) : Go.bits .or .u64 ((F64.word s 0 : Nat) : Int) 4607182418800017408 = ((F64.word s (1023 * 4503599627370496) : Nat) : Int) := by
  cases s <;> decide
set_option maxHeartbeats 8000000 in
set_option maxRecDepth 100000 in
theorem rnd_is (s : Bool) (rung : Nat) (h : rung < 9218868437227405312) (hr : rung / 4503599627370496 < 1075) (w : World) : Calls Try.prog 39 #[.float .f64 (F64.word s rung)] w fun e w' => e = .returned (.float .f64 (rndw s rung)) ∧ Below w.heap.size w w' := by
  have h1 := f64_bits (F64.word s rung)
  have h2 := e_bits s rung (by omega)
  have h3 := f64_of
  have h4 := sign_bits s rung (by omega)
  have h5 := one_bits s
  have h6 := fun E hE => rnd_bits s rung E h hE
  unfold rndw
  obtain ⟨e, he⟩ : ∃ e, e = rung / 4503599627370496 := ⟨_, rfl⟩
  rw [← he] at h2 hr ⊢
  rcases Nat.lt_or_ge e 1023 with hlt | hge
  · have he1 : (e : Int) < 1023 := by omega
    have z0 := f64_of ((F64.word s 0 : Nat) : Int)
    have z1 := f64_of ((F64.word s (1023 * 4503599627370496) : Nat) : Int)
    rw [Int.toNat_natCast] at z0 z1
    by_cases h22 : e = 1022
    · have hb : ((e : Int) == 1022) = true := by simp; omega
      have hb2 : (e : Int) = 1022 := by omega
      rw [if_neg (by omega), if_pos h22]
      generalize F64.word s (1023 * 4503599627370496) = y1 at h5 z1 ⊢
      generalize F64.word s 0 = y0 at h4 h5 z0
      generalize F64.word s rung = x at h1 h2 h4 ⊢
      clear h6 he h hr hlt h3 h22
      go_enter Try.func39, Try.ntmps39
      go_wp2
      go_ret
      exact ⟨rfl, Below.refl _ _⟩
    · have hb : ((e : Int) == 1022) = false := by simp; omega
      have hb2 : ¬ (e : Int) = 1022 := by omega
      rw [if_pos (by omega)]
      generalize F64.word s 0 = y0 at h4 z0 ⊢
      generalize F64.word s rung = x at h1 h2 h4 ⊢
      clear h6 he h hr hlt h3 h22 h5 z1
      go_enter Try.func39, Try.ntmps39
      go_wp2
      go_ret
      exact ⟨rfl, Below.refl _ _⟩
  · have he1 : ¬ (e : Int) < 1023 := by omega
    have he2 : (e : Int) < 1075 := by omega
    rw [if_neg (by omega), if_neg (by omega)]
    have h7 := h6 (e - 1023) (by omega)
    generalize F64.word s (2 ^ (52 - (e - 1023)) * ((rung + 2 ^ (51 - (e - 1023))) / 2 ^ (52 - (e - 1023)))) = y at h7 ⊢
    have z0 := f64_of ((y : Nat) : Int)
    rw [Int.toNat_natCast] at z0
    generalize F64.word s rung = x at h1 h2 h7 ⊢
    clear h6 he h hr hge h3 h4 h5
    go_enter Try.func39, Try.ntmps39
    go_wp2
    go_ret
    exact ⟨rfl, Below.refl _ _⟩
end Go.Proofs.Ytmiafomaglijgaa.QR
