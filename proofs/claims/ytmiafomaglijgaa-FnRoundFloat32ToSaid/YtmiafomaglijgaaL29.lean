/- The law of the rounding of floats of 32 bits: case by case. -/
import Derived.Test.YtmiafomaglijgaaL28
namespace Go.Proofs.Ytmiafomaglijgaa.QR
open Ieee Go.Proofs.Ytmiafomaglijgaa.Fl Go.RowKit Go.Proofs.YtmiafomaglijgaaW.PrintWords Go.Proofs.YtmiafomaglijgaaW.PrintLast Go.Proofs.YtmiafomaglijgaaW.PrintMore
set_option linter.unusedVariables false
set_option linter.unusedSimpArgs false
theorem nan32_order {x y : Nat} (h : (F32.read x).isNaN = true) : FloatKind.f32.format.order x y = none := by
  show (F32.read x).order (F32.read y) = none
  generalize F32.read x = d at h
  cases d <;> first | rfl | (exfalso; simp [Datum.isNaN] at h)
theorem nan32_no {x y : Nat} (h : (FloatKind.f32.format.order x y == some Ordering.gt) = true) : (F32.read x).isNaN = false := by
  cases hx : (F32.read x).isNaN
  · rfl
  · rw [nan32_order hx] at h
    simp at h
theorem nan32_self {x : Nat} (h : (FloatKind.f32.format.order x x != some Ordering.eq) = false) : (F32.read x).isNaN = false := by
  cases hx : (F32.read x).isNaN
  · rfl
  · rw [nan32_order hx] at h
    simp at h
theorem whole_ne {t s : Bool} {K M : Nat} (h : M % U1 ≠ 0) : decide (sg t (K * U1) = sg s M) = false := by
  refine decide_eq_false fun he => h ?_
  have : K * U1 = M := by
    unfold sg at he
    cases t <;> cases s <;> simp at he <;> omega
  rw [← this]
  exact Nat.mul_mod_left _ _
theorem Df_iff (s : Bool) {M X : Nat} (h : M % U1 ≠ 0) (h1 : X < H1 ↔ Df s M < H1) (h2 : H1 < X ↔ H1 < Df s M) : X = H1 ↔ M % U1 = H1 := by
  have e1 := U1_two
  have e4 := Nat.mod_lt M U1_pos
  have e2 : Df s M = if s then U1 - M % U1 else M % U1 := by unfold Df; rfl
  generalize M % U1 = r at h e4 e2 ⊢
  cases s
  · simp only [Bool.false_eq_true, if_false] at e2
    omega
  · simp only [if_true] at e2
    omega
theorem law_is (v m : Nat) (mode : Int) (w : World) : Calls Try.prog 3 #[.int .u32 (v : Int), .int .u32 (m : Int), .int .i64 mode] w fun e w' => e = .returned (.bool true) ∧ Below w.heap.size w w' := by
  by_cases h0 : mode < 0
  · exact law_a v m mode h0 w
  by_cases h9 : 9 < mode
  · exact law_b v m mode h0 h9 w
  cases c0 : (FloatKind.f32.format.order m 0 == some Ordering.gt)
  · exact law_c v m mode h0 h9 c0 w
  obtain ⟨xm, um, lm, nm, im⟩ := widen_any (nan32_no c0)
  cases jm : (F32.read m).isInfinity
  case true => exact law_d v m mode h0 h9 c0 xm um lm nm (im.trans jm) w
  rw [jm] at im
  cases c1 : (FloatKind.f32.format.order v v != some Ordering.eq)
  case true => exact law_e v m mode h0 h9 c0 xm um lm nm im c1 w
  obtain ⟨xv, uv, lv, nv, iv⟩ := widen_any (nan32_self c1)
  cases jv : (F32.read v).isInfinity
  case true => exact law_f v m mode h0 h9 c0 xm um lm nm im c1 xv uv lv nv (iv.trans jv) w
  rw [jv] at iv
  obtain ⟨sm, Mm, hm32⟩ := word32 m jm (nan32_no c0)
  obtain ⟨sv, Mv, hv32⟩ := word32 v jv (nan32_self c1)
  obtain ⟨hm, gm⟩ := hm32
  obtain ⟨hv, gv⟩ := hv32
  have hpos : 0 < sg sm Mm := by
    have h := order_units hm read32_0
    have h2 : (some (compare (sg sm Mm) (sg false 0)) == some Ordering.gt) = true := by rw [← h]; exact c0
    rw [cmp_gt] at h2
    have := of_decide_eq_true h2
    unfold sg at this ⊢
    simpa using this
  have hsm : sm = false := by
    cases sm
    · rfl
    · unfold sg at hpos; simp at hpos; omega
  subst hsm
  have hMm : Mm ≠ 0 := by rintro rfl; unfold sg at hpos; simp at hpos
  obtain ⟨q, dq, nq⟩ := div_some hv hm hMm
  obtain ⟨xq, uq, lq, nxq, iq⟩ := widen_any nq
  cases jq : (F32.read q).isInfinity
  case true => exact law_g v m mode h0 h9 c0 xm um lm nm im c1 xv uv lv nv iv q xq dq uq lq nxq (iq.trans jq) w
  rw [jq] at iq
  obtain ⟨s, M, hq32⟩ := word32 q jq nq
  obtain ⟨hq, gq⟩ := hq32
  obtain ⟨k, rfl⟩ : ∃ k : Nat, mode = (k : Int) := ⟨mode.toNat, by omega⟩
  have hk : k < 10 := by omega
  have exq : xq = W F64 s M := by
    have := widen_is hq gq
    rw [uq] at this
    exact Option.some.inj this
  subst exq
  by_cases hw : M % U1 = 0
  · have hD : Dz s M = 0 := if_pos hw
    have hY : Units (F64.read (W F64 false (Dz s M))) false 0 := by rw [hD]; exact read_zero F64 0 lp64 false (by decide)
    have hX : Units (F32.read (W F32 false (Dz s M))) false 0 := by rw [hD]; exact read_zero F32 925 lp32 false (by decide)
    have gX : Good 0 := fun h => absurd rfl h
    have hi := impl_is k hk (ok_whole k hv gv hq gq dq hX rfl)
    have he := ep_is hq gq hX gX hY
    rw [decide_eq_true rfl] at he
    have c2 := order_eq32 (k32 s gq) hq
    rw [decide_eq_true rfl] at c2
    exact law_h2 v m k hk c0 xm um lm nm im c1 xv uv lv nv iv q _ dq uq lq nxq iq hi he _ _ (fun w => rf_whole k gq hw w) (narrow_is (k64 s gq) gq) c2 w
  · have hD : Dz s M = Df s M := if_neg hw
    obtain ⟨X, hX, gX⟩ := small32 (Dz_lt s M)
    obtain ⟨Y, hY, hY0, hY1, hY2⟩ := part64 s gq hw
    rw [← hD] at hY
    have he := ep_is hq gq hX gX hY
    by_cases hXY : X = Y
    · rw [decide_eq_true hXY] at he
      have hX0 : X ≠ 0 := by rw [hXY]; exact hY0
      have hXH : X = H1 ↔ M % U1 = H1 := by rw [hXY]; exact Df_iff s hw hY1 hY2
      have hK : Kz k s M = if 4 ≤ k ∧ X ≠ H1 then Kr M else Kf k s M := by
        rw [← K_eq k hk s hw]
        unfold Ki
        simp only [ne_eq, hXH]
      have hlt : Kz k s M < 16777216 := by rw [← K_eq k hk s hw]; exact Ki_lt k hk gq hw
      obtain ⟨t, ht, hr⟩ := rf_part k hk (s := s) gq hw
      rw [hD] at hX
      have uz := narrow_is (IW_units t hlt) (good_int hlt)
      have c2 := order_eq32 (k32 t (good_int hlt)) hq
      rw [whole_ne hw] at c2
      obtain ⟨pr, bk, p1, b1, p2, b2, hinf, c3⟩ := backs hlt ht hm
      obtain ⟨xp, xp1, xp2, xp3, xp4⟩ := widen_any p2
      obtain ⟨xb, xb1, xb2, xb3, xb4⟩ := widen_any b2
      have hi := impl_is k hk (ok_part k hk hv gv hq gq dq hw hX hX0 hK p1 xp1 xp2 xp3)
      cases hb : (F64.read xb).isInfinity
      · have hp : (F64.read xp).isInfinity = false := by rw [xp4, hinf, ← xb4]; exact hb
        rw [hp] at hi
        simp only [Bool.false_eq_true, if_false, Bool.not_false] at hi
        exact law_h3 v m k hk c0 xm um lm nm im c1 xv uv lv nv iv q _ dq uq lq nxq iq pr hi he _ _ hr uz c2 bk xb b1 xb1 xb2 xb3 hb c3 w
      · have hp : (F64.read xp).isInfinity = true := by rw [xp4, hinf, ← xb4]; exact hb
        rw [hp] at hi
        simp only [if_true, Bool.not_true] at hi
        exact law_h4 v m k hk c0 xm um lm nm im c1 xv uv lv nv iv q _ dq uq lq nxq iq v hi he _ _ hr uz c2 bk xb b1 xb1 xb2 xb3 hb w
    · rw [decide_eq_false hXY] at he
      rw [hD] at hX
      by_cases hX0 : X = 0
      · rw [← hD] at hX
        have hi := impl_is k hk (ok_whole k hv gv hq gq dq hX hX0)
        exact law_h1 v m k hk c0 xm um lm nm im c1 xv uv lv nv iv q _ dq uq lq nxq iq v true hi he w
      · have hlt : (if 4 ≤ k ∧ X ≠ H1 then Kr M else Kf k s M) < 16777216 := by
          split
          · exact Kr_lt gq hw
          · exact Kf_lt k hk gq hw
        obtain ⟨pr, p1, p2, _⟩ := mul_some (k32 s (good_int hlt)) hm
        obtain ⟨xp, xp1, xp2, xp3, xp4⟩ := widen_any p2
        have hi := impl_is k hk (ok_part k hk hv gv hq gq dq hw hX hX0 rfl p1 xp1 xp2 xp3)
        exact law_h1 v m k hk c0 xm um lm nm im c1 xv uv lv nv iv q _ dq uq lq nxq iq _ _ hi he w
end Go.Proofs.Ytmiafomaglijgaa.QR
