/- Numbers of 32 bits in 64 and back; what Floor and its kin make of them; a number less its whole part. -/
import Derived.Test.YtmiafomaglijgaaL15
namespace Go.Proofs.Ytmiafomaglijgaa.QR
open Ieee Go.Proofs.Ytmiafomaglijgaa.Fl Go.RowKit Go.Proofs.YtmiafomaglijgaaW.PrintWords Go.Proofs.YtmiafomaglijgaaW.PrintLast Go.Proofs.YtmiafomaglijgaaW.PrintMore
set_option linter.unusedVariables false
set_option linter.unusedSimpArgs false
/-- 32 bits hold so many units. -/
def Good (M : Nat) : Prop := M ≠ 0 → Rep F32 925 M ∧ M.log2 ≤ 1201
theorem good_int {n : Nat} (h : n < 16777216) : Good (n * U1) := by
  intro h0
  have hn : n ≠ 0 := by rintro rfl; exact h0 (Nat.zero_mul _)
  exact rep_int hn (by rw [show pw 24 = 16777216 from rfl]; exact h)
theorem R_lt (way : Toward) (s : Bool) {M : Nat} (hg : Good M) (h : M % U1 ≠ 0) : R way s M < 16777216 := by
  have hM : M ≠ 0 := by rintro rfl; exact h (Nat.zero_mod _)
  have := R_small way s (part_small (hg hM).1 h).1
  rwa [show pw 24 = 16777216 from rfl] at this
theorem R_good (way : Toward) (s : Bool) {M : Nat} (hg : Good M) : Good (R way s M * U1) := by
  by_cases h : M % U1 = 0
  · rw [(R_whole way s h).2]; exact hg
  · exact good_int (R_lt way s hg h)
theorem k32 (s : Bool) {M : Nat} (hg : Good M) : Units (F32.read (W F32 s M)) s M := (keep32 hg).1
theorem k64 (s : Bool) {M : Nat} (hg : Good M) : Units (F64.read (W F64 s M)) s M := keep64 hg
/-- A finite number of one kind made one of the other. -/
theorem widen_is {q : Nat} {s : Bool} {M : Nat} (h : Units (F32.read q) s M) (hg : Good M) : floatToFloatBits .f32 q .f64 = some (W F64 s M) := by
  have hw := write_units (f := F64) h
  obtain ⟨m, i, he, _, _⟩ := h
  rw [he] at hw
  unfold floatToFloatBits
  rw [if_neg (by decide), show FloatKind.f32.decode q = F32.read q from rfl, he]
  show (if (F64.read (F64.write (.number s m i))).isInfinity then none else some (F64.write (.number s m i))) = _
  rw [hw, (units_fin (k64 s hg)).1]
  rfl
theorem narrow_is {x : Nat} {s : Bool} {M : Nat} (h : Units (F64.read x) s M) (hg : Good M) : floatToFloatBits .f64 x .f32 = some (W F32 s M) := by
  have hw := write_units (f := F32) h
  obtain ⟨m, i, he, _, _⟩ := h
  rw [he] at hw
  unfold floatToFloatBits
  rw [if_neg (by decide), show FloatKind.f64.decode x = F64.read x from rfl, he]
  show (if (F32.read (F32.write (.number s m i))).isInfinity then none else some (F32.write (.number s m i))) = _
  rw [hw, (units_fin (k32 s hg)).1]
  rfl
theorem W64_lt (s : Bool) (M : Nat) : W F64 s M < 18446744073709551616 := by
  have h := F64.write_lt (.number s M (-1074))
  exact h
/-- Any number but a NaN. -/
theorem widen_any {q : Nat} (hn : (F32.read q).isNaN = false) : ∃ r, floatToFloatBits .f32 q .f64 = some r ∧ r < 18446744073709551616 ∧ (F64.read r).isNaN = false ∧ (F64.read r).isInfinity = (F32.read q).isInfinity := by
  cases hi : (F32.read q).isInfinity with
  | false =>
    obtain ⟨s, M, h1, h2⟩ := word32 q hi hn
    exact ⟨_, widen_is h1 h2, W64_lt _ _, (units_fin (k64 s h2)).2, (units_fin (k64 s h2)).1⟩
  | true =>
    have key : ∀ d : Datum, d.isInfinity = true → F32.read q = d → ∃ r, floatToFloatBits .f32 q .f64 = some r ∧ r < 18446744073709551616 ∧ (F64.read r).isNaN = false ∧ (F64.read r).isInfinity = true := by
      intro d hd he
      cases d with
      | nan s t => cases hd
      | number s m i => cases hd
      | infinity s =>
        refine ⟨F64.write (.infinity s), ?_, ?_, ?_, ?_⟩
        · unfold floatToFloatBits
          rw [if_neg (by decide), show FloatKind.f32.decode q = F32.read q from rfl, he]
          rfl
        · cases s <;> decide
        · cases s <;> decide
        · cases s <;> decide
    exact key _ hi rfl
theorem whl_is (way : Toward) {x : Nat} {s : Bool} {M : Nat} (h : Units (F64.read x) s M) : whl way x = W F64 s (R way s M * U1) := write_units (integral_units way h)
/-- What stands behind the point, or nothing. -/
def Dz (s : Bool) (M : Nat) : Nat := if M % U1 = 0 then 0 else Df s M
theorem less_z (s : Bool) (M : Nat) : sg s M + sg (!s) (R .down s M * U1) = (Dz s M : Int) := by
  have e : sg (!s) (R .down s M * U1) = - sg s (R .down s M * U1) := by
    unfold sg
    cases s <;> simp
  rw [e]
  unfold Dz
  by_cases h : M % U1 = 0
  · rw [if_pos h, (R_whole .down s h).2]
    omega
  · rw [if_neg h, ← less_fl s h]
    omega
theorem sub_any (f : Format) {a b : Nat} {s : Bool} {M : Nat} (ha : Units (f.read a) s M) (hb : Units (f.read b) s (R .down s M * U1)) : f.sub a b = some (W f false (Dz s M)) := by
  obtain ⟨d, h1, h2⟩ := sum_units ha hb.opp
  show ((f.read a).sum (f.read b).opposite).map f.write = _
  rw [h1]
  show some (f.write d) = _
  rw [write_units h2, less_z, Int.natAbs_natCast]
  have es : (if ((Dz s M : Nat) : Int) = 0 then s && !s else decide (((Dz s M : Nat) : Int) < 0)) = false := by
    split
    · cases s <;> rfl
    · exact decide_eq_false (by omega)
  rw [es]
theorem Dz_lt (s : Bool) (M : Nat) : Dz s M < U1 := by
  unfold Dz
  have := U1_pos
  split
  · exact this
  · rename_i h; exact (Df_bd s h).2
/-- What 32 bits make of a small number. -/
theorem small32 {D : Nat} (h : D < U1) : ∃ X, Units (F32.read (W F32 false D)) false X ∧ Good X := by
  have hfin : (F32.read (W F32 false D)).isInfinity = false ∧ (F32.read (W F32 false D)).isNaN = false := by
    by_cases hD : D = 0
    · subst hD
      exact units_fin (read_zero F32 925 lp32 false (by decide))
    · exact units_fin (read_kp F32 925 lp32 false D hD (fin32 false hD (by have : D.log2 < 1074 := log2_lt hD h; omega)))
  obtain ⟨s, X, h1, h2⟩ := word32 _ hfin.1 hfin.2
  by_cases hD : D = 0
  · subst hD
    exact ⟨0, read_zero F32 925 lp32 false (by decide), fun h => absurd rfl h⟩
  · have hk := read_kp F32 925 lp32 false D hD (fin32 false hD (by have : D.log2 < 1074 := log2_lt hD h; omega))
    have hs : s = false ∧ X = kp F32 925 false D * pw (cc F32 925 D) := by
      obtain ⟨m, i, e1, _, e2⟩ := h1
      obtain ⟨m', i', e3, _, e4⟩ := hk
      rw [e3] at e1
      cases e1
      exact ⟨rfl, by rw [e2, e4]⟩
    obtain ⟨rfl, _⟩ := hs
    exact ⟨X, h1, h2⟩
/-- What 64 bits make of what stands behind the point: it stands to a half as that does. -/
theorem part64 (s : Bool) {M : Nat} (hg : Good M) (h : M % U1 ≠ 0) : ∃ X, Units (F64.read (W F64 false (Df s M))) false X ∧ X ≠ 0 ∧ (X < H1 ↔ Df s M < H1) ∧ (H1 < X ↔ H1 < Df s M) := by
  have hM : M ≠ 0 := by rintro rfl; exact h (Nat.zero_mod _)
  obtain ⟨hd0, hd1⟩ := Df_bd s h
  have hl : (Df s M).log2 < 1074 := log2_lt (by omega) hd1
  rcases Df_rep s (hg hM).1 h with hr | hr
  · exact ⟨_, hold64 (by omega) (by omega) hr, by omega, Iff.rfl, Iff.rfl⟩
  · have hD0 : Df s M ≠ 0 := by omega
    have hk := read_kp F64 0 lp64 false (Df s M) hD0 (fin64 false hD0 (by omega))
    have h1 : kp F64 0 false (Df s M) * pw (cc F64 0 (Df s M)) ≥ Df s M / pw (cc F64 0 (Df s M)) * pw (cc F64 0 (Df s M)) := by
      refine Nat.mul_le_mul_right _ ?_
      unfold kp
      rw [cut_plain]
      exact Nat.le_add_right _ _
    have h2 := Nat.div_add_mod (Df s M) (pw (cc F64 0 (Df s M)))
    have h3 := Nat.mod_lt (Df s M) (pw_pos (cc F64 0 (Df s M)))
    have h4 : pw (cc F64 0 (Df s M)) ≤ pw 1021 := by
      refine pw_le ?_
      unfold cc
      show max ((Df s M).log2 - 52) 0 ≤ 1021
      omega
    rw [Nat.mul_comm] at h2
    have e1 : U1 = 9007199254740992 * pw 1021 := by unfold U1; rw [show 1074 = 53 + 1021 from rfl, pw_add]; exact congrArg (· * pw 1021) (show pw 53 = 9007199254740992 from rfl)
    have e2 := U1_two
    have e3 := pw_pos 1021
    generalize kp F64 0 false (Df s M) * pw (cc F64 0 (Df s M)) = X at hk h1
    generalize Df s M / pw (cc F64 0 (Df s M)) * pw (cc F64 0 (Df s M)) = Y at h1 h2
    generalize Df s M % pw (cc F64 0 (Df s M)) = Z at h2 h3
    generalize pw (cc F64 0 (Df s M)) = c at h3 h4
    generalize pw 1021 = p at h4 e1 e3
    refine ⟨X, hk, by omega, ⟨fun _ => by omega, fun _ => by omega⟩, ⟨fun _ => by omega, fun _ => by omega⟩⟩
end Go.Proofs.Ytmiafomaglijgaa.QR
