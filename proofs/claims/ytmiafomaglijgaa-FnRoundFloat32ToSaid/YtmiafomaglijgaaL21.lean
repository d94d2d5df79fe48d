/- Both ways to the whole number are one; what getFloatRoundImpl hands back; Round. -/
import Derived.Test.YtmiafomaglijgaaL20
import Derived.Laws.EntriesVeiled
namespace Go.Proofs.Ytmiafomaglijgaa.QR
open Ieee Go.Proofs.Ytmiafomaglijgaa.Fl Go.RowKit Go.Proofs.YtmiafomaglijgaaW.PrintWords Go.Proofs.YtmiafomaglijgaaW.PrintLast Go.Proofs.YtmiafomaglijgaaW.PrintMore
set_option linter.unusedVariables false
set_option linter.unusedSimpArgs false
/-- The function of a mode. -/
def fno : Nat → Nat
  | 0 => 24 | 1 => 25 | 2 => 27 | 3 => 29 | 4 => 31 | 5 => 32 | 6 => 33 | 7 => 34 | 8 => 35 | _ => 37
/-- What it makes of a number. -/
def Kf (mode : Nat) (s : Bool) (M : Nat) : Nat := match mode with
  | 0 | 4 => R .down s M
  | 1 | 5 => R .up s M
  | 2 | 6 => R .zero s M
  | 3 | 7 => if s then R .down s M else R .up s M
  | 8 => R .even s M
  | _ => 2 * (M / U1 / 2) + 1
theorem modes {mode : Nat} (h : mode < 10) : mode = 0 ∨ mode = 1 ∨ mode = 2 ∨ mode = 3 ∨ mode = 4 ∨ mode = 5 ∨ mode = 6 ∨ mode = 7 ∨ mode = 8 ∨ mode = 9 := by omega
theorem cf_fno (mode : Nat) (h : mode < 10) (args : Array Value) (w : World) : (callFunc (fno mode) args).run Try.prog w = .ok (.enter (fno mode) args) w := by
  rcases modes h with rfl | rfl | rfl | rfl | rfl | rfl | rfl | rfl | rfl | rfl
  · show (callFunc 24 args).run Try.prog w = _; simp [callFunc, Try.func24, go_sem]; rfl
  · show (callFunc 25 args).run Try.prog w = _; simp [callFunc, Try.func25, go_sem]; rfl
  · show (callFunc 27 args).run Try.prog w = _; simp [callFunc, Try.func27, go_sem]; rfl
  · show (callFunc 29 args).run Try.prog w = _; simp [callFunc, Try.func29, go_sem]; rfl
  · show (callFunc 31 args).run Try.prog w = _; simp [callFunc, Try.func31, go_sem]; rfl
  · show (callFunc 32 args).run Try.prog w = _; simp [callFunc, Try.func32, go_sem]; rfl
  · show (callFunc 33 args).run Try.prog w = _; simp [callFunc, Try.func33, go_sem]; rfl
  · show (callFunc 34 args).run Try.prog w = _; simp [callFunc, Try.func34, go_sem]; rfl
  · show (callFunc 35 args).run Try.prog w = _; simp [callFunc, Try.func35, go_sem]; rfl
  · show (callFunc 37 args).run Try.prog w = _; simp [callFunc, Try.func37, go_sem]; rfl
theorem fn_is (mode : Nat) (hm : mode < 10) {q : Nat} {s : Bool} {M : Nat} (hq : Units (F32.read q) s M) (hg : Good M) (h : M % U1 ≠ 0) (w : World) : Calls Try.prog (fno mode) #[.float .f32 q] w fun e w' => e = .returned (.float .f32 (W F32 s (Kf mode s M * U1))) ∧ Below w.heap.size w w' := by
  rcases modes hm with rfl | rfl | rfl | rfl | rfl | rfl | rfl | rfl | rfl | rfl
  · exact cl24 hq hg w
  · exact cl25 hq hg w
  · exact cl27 hq hg w
  · exact cl29 hq hg h w
  · exact cl31 hq hg w
  · exact cl32 hq hg w
  · exact cl33 hq hg w
  · exact cl34 hq hg h w
  · exact cl35 hq hg w
  · exact cl37 hq hg h w
set_option maxHeartbeats 8000000 in
set_option maxRecDepth 100000 in
theorem get_is (mode : Nat) (hm : mode < 10) (w : World) : Calls Try.prog 16 #[.int .i8 (mode : Int)] w fun e w' => e = .returned (.func (.func (fno mode)) #[] #[]) ∧ Below w.heap.size w w' := by
  rcases modes hm with rfl | rfl | rfl | rfl | rfl | rfl | rfl | rfl | rfl | rfl <;> clear hm <;> (go_enter Try.func16, Try.ntmps16; go_wp2; go_ret; exact ⟨rfl, Below.refl _ _⟩)
/-- What Round makes of it. -/
def Kr (M : Nat) : Nat := (M + H1) / U1
theorem Kr_lt {M : Nat} (hg : Good M) (h : M % U1 ≠ 0) : Kr M < 16777216 := by
  have hM : M ≠ 0 := by rintro rfl; exact h (Nat.zero_mod _)
  have hlt := div_small (part_small (hg hM).1 h).1
  rw [show pw 23 = 8388608 from rfl] at hlt
  have h1 := U1_two
  have h2 : Kr M ≤ M / U1 + 1 := by
    unfold Kr
    have h3 : (M + H1) / U1 ≤ (M + U1) / U1 := Nat.div_le_div_right (by omega)
    rw [Nat.add_div_right _ U1_pos] at h3
    exact h3
  generalize M / U1 = n at hlt h2
  omega
theorem Rnd_is {s : Bool} {M : Nat} (hg : Good M) (h : M % U1 ≠ 0) (w : World) : Calls Try.prog 39 #[.float .f64 (W F64 s M)] w fun e w' => e = .returned (.float .f64 (W F64 s (Kr M * U1))) ∧ Below w.heap.size w w' := by
  have hM : M ≠ 0 := by rintro rfl; exact h (Nat.zero_mod _)
  obtain ⟨rung, r1, r2, r3, r4⟩ := rnd_M s (hg hM).1 h
  have Q := rnd_is s rung r2 r3 w
  rw [← r1, r4] at Q
  exact Q
theorem odd_lt {n : Nat} (h : n < 8388608) : 2 * (n / 2) + 1 < 16777216 := by omega
theorem Kf_lt (mode : Nat) (hm : mode < 10) {s : Bool} {M : Nat} (hg : Good M) (h : M % U1 ≠ 0) : Kf mode s M < 16777216 := by
  have hM : M ≠ 0 := by rintro rfl; exact h (Nat.zero_mod _)
  have hlt := div_small (part_small (hg hM).1 h).1
  rw [show pw 23 = 8388608 from rfl] at hlt
  have h1 := R_lt .down s hg h
  have h2 := R_lt .up s hg h
  have h3 := R_lt .zero s hg h
  have h4 := R_lt .even s hg h
  have h5 : (if s then R .down s M else R .up s M) < 16777216 := by
    cases s
    · simp only [Bool.false_eq_true, if_false]; exact h2
    · simp only [if_true]; exact h1
  rcases modes hm with rfl | rfl | rfl | rfl | rfl | rfl | rfl | rfl | rfl | rfl <;> unfold Kf
  · exact h1
  · exact h2
  · exact h3
  · exact h5
  · exact h1
  · exact h2
  · exact h3
  · exact h5
  · exact h4
  · exact odd_lt hlt
/-- The whole number that the program comes to, without its sign. -/
def Ki (mode : Nat) (s : Bool) (M : Nat) : Nat := if 4 ≤ mode ∧ M % U1 ≠ H1 then Kr M else Kf mode s M
theorem Ki_lt (mode : Nat) (hm : mode < 10) {s : Bool} {M : Nat} (hg : Good M) (h : M % U1 ≠ 0) : Ki mode s M < 16777216 := by
  unfold Ki
  split
  · exact Kr_lt hg h
  · exact Kf_lt mode hm hg h
theorem hlf_is (s : Bool) {M : Nat} (h : M % U1 ≠ 0) : hlf s M = if s then (if M % U1 < H1 then 1 else if H1 < M % U1 then -1 else 0) else (if M % U1 < H1 then -1 else if H1 < M % U1 then 1 else 0) := by
  have e1 := U1_two
  have e4 := Nat.mod_lt M U1_pos
  unfold hlf Df
  generalize M % U1 = r at h e4
  cases s
  · simp only [Bool.false_eq_true, if_false]
  · simp only [if_true]
    rcases Nat.lt_trichotomy r H1 with h1 | h1 | h1
    · rw [if_neg (by omega), if_pos (by omega), if_pos h1]
    · rw [if_neg (by omega), if_neg (by omega), if_neg (by omega), if_neg (by omega)]
    · rw [if_pos (by omega), if_neg (by omega), if_pos h1]
theorem Kr_is (M : Nat) : Kr M = M / U1 + (decide (H1 ≤ M % U1)).toNat := by
  have e1 := U1_two
  have e3 := Nat.div_add_mod M U1
  have e4 := Nat.mod_lt M U1_pos
  have e5 := U1_pos
  unfold Kr
  generalize M / U1 = n at e3 ⊢
  generalize M % U1 = r at e3 e4 ⊢
  by_cases h : H1 ≤ r
  · rw [decide_eq_true h]
    have : M + H1 = (r + H1 - U1) + U1 * (n + 1) := by rw [Nat.mul_add]; omega
    rw [this, Nat.add_mul_div_left _ _ e5, Nat.div_eq_of_lt (by omega)]
    show 0 + (n + 1) = n + 1
    omega
  · rw [decide_eq_false h]
    have : M + H1 = (r + H1) + U1 * n := by omega
    rw [this, Nat.add_mul_div_left _ _ e5, Nat.div_eq_of_lt (by omega)]
    show 0 + n = n + 0
    omega
theorem K_eq (mode : Nat) (hm : mode < 10) (s : Bool) {M : Nat} (h : M % U1 ≠ 0) : Ki mode s M = Kz mode s M := by
  have hb : (M % U1 != 0) = true := by simpa using h
  have e1 := U1_two
  have hd : R .down s M = M / U1 + s.toNat := by
    unfold R mor; rw [hb]; simp only [Bool.and_true]
  have hu : R .up s M = M / U1 + (!s).toNat := by
    unfold R mor; rw [hb]; simp only [Bool.and_true]
  have hz : R .zero s M = M / U1 := by unfold R mor; rfl
  have hev : M % U1 = H1 → R .even s M = M / U1 + M / U1 % 2 := fun ht => by
    unfold R mor
    rw [ht]
    have : decide (U1 < 2 * H1) = false := decide_eq_false (by omega)
    simp only [this, Bool.false_or]
    rw [show (U1 == 2 * H1) = true from beq_iff_eq.2 e1, Bool.true_and]
    generalize M / U1 = n
    rcases Nat.mod_two_eq_zero_or_one n with h | h <;> rw [h] <;> rfl
  unfold Ki Kz Kf
  rw [hlf_is s h, Kr_is, hd, hu, hz]
  generalize R .even s M = ev at hev
  generalize M / U1 = n at hev ⊢
  generalize M % U1 = r at h hev ⊢
  clear hd hu hz hb e1
  generalize H1 = H at hev ⊢
  rcases Nat.lt_trichotomy r H with h1 | h1 | h1
  · have g1 : r ≠ H := by omega
    have g2 : ¬ H ≤ r := by omega
    rcases modes hm with rfl | rfl | rfl | rfl | rfl | rfl | rfl | rfl | rfl | rfl <;> cases s <;> simp [upw, h1, g1, g2]
  · have g1 : ¬ r < H := by omega
    have g2 : ¬ H < r := by omega
    have g3 := hev h1
    subst g3
    subst h1
    clear hev
    rcases Nat.mod_two_eq_zero_or_one n with g4 | g4
    · have g5 : (n + 1) % 2 = 1 := by omega
      rcases modes hm with rfl | rfl | rfl | rfl | rfl | rfl | rfl | rfl | rfl | rfl <;> cases s <;> simp [upw, g4, g5] <;> omega
    · have g5 : (n + 1) % 2 = 0 := by omega
      rcases modes hm with rfl | rfl | rfl | rfl | rfl | rfl | rfl | rfl | rfl | rfl <;> cases s <;> simp [upw, g4, g5] <;> omega
  · have g0 : ¬ r < H := by omega
    have g1 : r ≠ H := by omega
    have g2 : H ≤ r := by omega
    rcases modes hm with rfl | rfl | rfl | rfl | rfl | rfl | rfl | rfl | rfl | rfl <;> cases s <;> simp [upw, h1, g0, g1, g2]
end Go.Proofs.Ytmiafomaglijgaa.QR
