/- Quotients and products of words of 32 bits; the seven and the five. -/
import Derived.Test.YtmiafomaglijgaaL25
namespace Go.Proofs.Ytmiafomaglijgaa.QR
open Ieee Go.Proofs.Ytmiafomaglijgaa.Fl Go.RowKit Go.Proofs.YtmiafomaglijgaaW.PrintWords Go.Proofs.YtmiafomaglijgaaW.PrintLast Go.Proofs.YtmiafomaglijgaaW.PrintMore
set_option linter.unusedVariables false
set_option linter.unusedSimpArgs false
theorem word_num (s : Bool) (r : Nat) (h : r ≤ F32.infRung) : (F32.read (F32.word s r)).isNaN = false := by
  rcases Nat.lt_or_ge r F32.infRung with h1 | h1
  · rw [read_word F32 s r h1]
    split <;> rfl
  · have : r = F32.infRung := by omega
    subst this
    cases s <;> decide
theorem write_num (s : Bool) (m : Nat) (i : Int) : (F32.read (F32.write (.number s m i))).isNaN = false := by
  show (F32.read (F32.nearest s m i)).isNaN = false
  unfold Format.nearest
  split
  · exact word_num s 0 (Nat.zero_le _)
  · exact word_num s _ (Nat.min_le_right _ _)
theorem div_some {v m : Nat} {sv sm : Bool} {Mv Mm : Nat} (hv : Units (F32.read v) sv Mv) (hm : Units (F32.read m) sm Mm) (h0 : Mm ≠ 0) : ∃ q, floatBits .quo .f32 v m = some q ∧ (F32.read q).isNaN = false := by
  obtain ⟨a, i, ha, _, _⟩ := hv
  obtain ⟨b, j, hb, _, hM⟩ := hm
  have hb0 : b ≠ 0 := by rintro rfl; exact h0 (by rw [hM, Nat.zero_mul])
  show ∃ q, ((F32.read v).quotient 25 (F32.read m)).map F32.write = some q ∧ _
  rw [ha, hb]
  unfold Datum.quotient
  simp only [if_neg hb0]
  exact ⟨_, rfl, write_num _ _ _⟩
theorem mul_some {a b : Nat} {s t : Bool} {M N : Nat} (ha : Units (F32.read a) s M) (hb : Units (F32.read b) t N) : ∃ p, floatBits .mul .f32 a b = some p ∧ (F32.read p).isNaN = false ∧ (M = 0 → ∃ u, Units (F32.read p) u 0) := by
  obtain ⟨m, i, h1, hi, hM⟩ := ha
  obtain ⟨n, j, h2, _, _⟩ := hb
  show ∃ p, ((F32.read a).product (F32.read b)).map F32.write = some p ∧ _
  rw [h1, h2]
  refine ⟨_, rfl, write_num _ _ _, fun h0 => ⟨s ^^ t, ?_⟩⟩
  have hm : m = 0 := by
    rcases Nat.eq_zero_or_pos m with h | h
    · exact h
    · rw [hM] at h0
      exact absurd h0 (Nat.ne_of_gt (Nat.mul_pos h (pw_pos _)))
  subst hm
  show Units (F32.read (F32.nearest (s ^^ t) (0 * n) (i + j))) _ 0
  rw [Nat.zero_mul]
  have e : F32.nearest (s ^^ t) 0 (i + j) = W F32 (s ^^ t) 0 := by unfold W Format.nearest; simp
  rw [e]
  exact read_zero F32 925 lp32 _ (by decide)
theorem order_self32 {x : Nat} (h : (F32.read x).isNaN = false) : (FloatKind.f32.format.order x x == some Ordering.eq) = true := by
  have key : ∀ d : Datum, d.isNaN = false → d.order d = some .eq := by
    intro d hd
    cases d with
    | nan s t => cases hd
    | infinity s => cases s <;> rfl
    | number s m i => unfold Datum.order; simp
  have e : FloatKind.f32.format.order x x = (F32.read x).order (F32.read x) := rfl
  rw [e, key _ h]
  rfl
/-- What the program and the law multiply by the multiple: the same, or zeros. -/
theorem backs {m : Nat} {s t : Bool} {K N : Nat} (hK : K < 16777216) (ht : K ≠ 0 → t = s) (hm : Units (F32.read m) false N) : ∃ pr bk, floatBits .mul .f32 (W F32 s (K * U1)) m = some pr ∧ floatBits .mul .f32 (W F32 t (K * U1)) m = some bk ∧ (F32.read pr).isNaN = false ∧ (F32.read bk).isNaN = false ∧ (F32.read pr).isInfinity = (F32.read bk).isInfinity ∧ (FloatKind.f32.format.order pr bk == some Ordering.eq) = true := by
  obtain ⟨pr, p1, p2, p3⟩ := mul_some (k32 s (good_int hK)) hm
  by_cases h0 : K = 0
  · obtain ⟨bk, b1, b2, b3⟩ := mul_some (k32 t (good_int hK)) hm
    obtain ⟨u, hu⟩ := p3 (by rw [h0, Nat.zero_mul])
    obtain ⟨u', hu'⟩ := b3 (by rw [h0, Nat.zero_mul])
    refine ⟨pr, bk, p1, b1, p2, b2, by rw [(units_fin hu).1, (units_fin hu').1], ?_⟩
    rw [order_eq32 hu hu']
    exact decide_eq_true (by unfold sg; cases u <;> cases u' <;> simp)
  · rw [ht h0]
    exact ⟨pr, pr, p1, p1, p2, p2, rfl, order_self32 p2⟩
theorem Kf_0 (s : Bool) (M : Nat) : Kf 0 s M = R .down s M := rfl
/-- Seven, rounded down to a multiple of five. -/
theorem seven : CallOK 0 1088421888 1084227584 1084227584 true := by
  have hv : Units (F32.read 1088421888) false (14680064 * pw 1053) := ⟨14680064, -21, by decide, by omega, by rw [show ((-21 : Int) + 1074).toNat = 1053 by omega]⟩
  have hq : Units (F32.read 1068708659) false (11744051 * pw 1051) := ⟨11744051, -23, by decide, by omega, by rw [show ((-23 : Int) + 1074).toNat = 1051 by omega]⟩
  have gd : ∀ k c, k ≠ 0 → k < 16777216 → 925 ≤ c → c ≤ 1178 → Good (k * pw c) := fun k c hk hk2 h1 h2 h0 => by
    have hl : (k * pw c).log2 = k.log2 + c := log2_mul hk c
    have h24 : k.log2 < 24 := log2_lt hk (by rw [show pw 24 = 16777216 from rfl]; exact hk2)
    refine ⟨?_, by omega⟩
    unfold Rep
    have : cc F32 925 (k * pw c) ≤ c := by unfold cc; rw [hl]; show max (k.log2 + c - 23) 925 ≤ c; omega
    exact Nat.dvd_trans (pw_dvd this) (Nat.dvd_mul_left _ _)
  have eU : U1 = 8388608 * pw 1051 := by unfold U1; rw [show 1074 = 23 + 1051 from rfl, pw_add]; exact congrArg (· * pw 1051) (show pw 23 = 8388608 from rfl)
  have eH : H1 = 4194304 * pw 1051 := by unfold H1; rw [show 1073 = 22 + 1051 from rfl, pw_add]; exact congrArg (· * pw 1051) (show pw 22 = 4194304 from rfl)
  have hp := pw_pos 1051
  have eM : (11744051 * pw 1051) % U1 = 3355443 * pw 1051 := by rw [eU, Nat.mul_mod_mul_right]
  have eQ : (11744051 * pw 1051) / U1 = 1 := by rw [eU, Nat.mul_div_mul_right _ _ hp]
  have eD : Df false (11744051 * pw 1051) = 3355443 * pw 1051 := by unfold Df; rw [eM]; simp
  have gq := gd 11744051 1051 (by omega) (by omega) (by omega) (by omega)
  have gD := gd 3355443 1051 (by omega) (by omega) (by omega) (by omega)
  have gv := gd 14680064 1053 (by omega) (by omega) (by omega) (by omega)
  have e1 : W F32 false (1 * U1) = 1065353216 := by
    have h : Units (.number false 8388608 (-23)) false (1 * U1) := ⟨8388608, -23, rfl, by omega, by rw [Nat.one_mul, show ((-23 : Int) + 1074).toNat = 1051 by omega]; exact eU⟩
    rw [← write_units (f := F32) h]
    decide
  have h := ok_part 0 (by omega) (v := 1088421888) (m := 1084227584) (q := 1068708659) (pr := 1084227584) (xp := 4617315517961601024) (X := 3355443 * pw 1051) hv gv hq gq (by decide)
    (by rw [eM]; exact Nat.mul_ne_zero (by omega) (Nat.ne_of_gt hp)) (by rw [eD]; exact k32 false gD) (Nat.mul_ne_zero (by omega) (Nat.ne_of_gt hp)) (K := 1) (by rw [if_neg (by omega), Kf_0, R_down_f, eQ]) (by rw [e1]; decide) (by decide) (by omega) (by decide)
  rw [show (F64.read 4617315517961601024).isInfinity = false by decide] at h
  exact h
end Go.Proofs.Ytmiafomaglijgaa.QR
