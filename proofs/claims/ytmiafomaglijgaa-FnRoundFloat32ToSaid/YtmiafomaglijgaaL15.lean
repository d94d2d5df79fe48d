/- Mod of a whole number by two. -/
import Derived.Test.YtmiafomaglijgaaL14
namespace Go.Proofs.Ytmiafomaglijgaa.QR
open Ieee Go.Proofs.Ytmiafomaglijgaa.Fl Go.RowKit Go.Proofs.YtmiafomaglijgaaW.PrintWords Go.Proofs.YtmiafomaglijgaaW.PrintLast Go.Proofs.YtmiafomaglijgaaW.PrintMore
set_option linter.unusedVariables false
set_option linter.unusedSimpArgs false
theorem flip_word (s : Bool) (rung : Nat) (h : rung < 9223372036854775808) : Op.negFloat .f64 (F64.word s rung) = F64.word (!s) rung := by
  have key : rung ^^^ 2 ^ 63 = 2 ^ 63 + rung := by
    apply Nat.eq_of_testBit_eq
    intro i
    have hb : ∀ j, 63 ≤ j → rung.testBit j = false := fun j hj => Nat.testBit_lt_two_pow (Nat.lt_of_lt_of_le h (Nat.pow_le_pow_right (n := 2) (by omega) hj))
    rw [Nat.testBit_xor, Nat.testBit_two_pow]
    rcases Nat.lt_trichotomy i 63 with h1 | h1 | h1
    · rw [Nat.testBit_two_pow_add_gt h1, decide_eq_false (by omega), Bool.xor_false]
    · subst h1
      rw [Nat.testBit_two_pow_add_eq, hb 63 (by omega)]
      rfl
    · rw [hb i (by omega), decide_eq_false (by omega), Nat.testBit_lt_two_pow (show 2 ^ 63 + rung < 2 ^ i from Nat.lt_of_lt_of_le (by show 2 ^ 63 + rung < 2 ^ 64; omega) (Nat.pow_le_pow_right (by omega) (by omega)))]
      rfl
  show F64.word s rung ^^^ 2 ^ 63 = _
  rw [word_eq, word_eq]
  cases s
  · simp only [Bool.false_eq_true, if_false, Nat.zero_add, Bool.not_false, if_true]
    exact key
  · simp only [if_true, Bool.not_true, Bool.false_eq_true, if_false, Nat.zero_add]
    rw [show 9223372036854775808 + rung = 2 ^ 63 + rung from rfl, ← key, Nat.xor_assoc, Nat.xor_self, Nat.xor_zero]
theorem IW_rung (n : Nat) (h : n < 16777216) : ∃ rung, rung < 9218868437227405312 ∧ ∀ s, IW s n = F64.word s rung := by
  by_cases hn : n = 0
  · subst hn
    refine ⟨0, by omega, fun s => ?_⟩
    unfold IW
    rw [Nat.zero_mul]
    exact W64_zero s
  · obtain ⟨k, h1, h2, h3, h4⟩ := IW_word false hn h
    refine ⟨(n.log2 + 1022) * 4503599627370496 + k, by omega, fun s => ?_⟩
    obtain ⟨k2, g1, g2, g3, g4⟩ := IW_word s hn h
    obtain ⟨k3, f1, f2, f3, f4⟩ := IW_word false hn h
    have e : ∀ s, ∃ k, IW s n = F64.word s ((n.log2 + 1022) * 4503599627370496 + k) ∧ k = n * pw (52 - n.log2) := fun s => by
      obtain ⟨b1, b2⟩ := log2_bd hn
      have e : n * U1 = (n * pw (52 - n.log2)) * pw (n.log2 + 1022) := by
        rw [Nat.mul_assoc, ← pw_add, show 52 - n.log2 + (n.log2 + 1022) = 1074 by omega]
        rfl
      have e52 : pw n.log2 * pw (52 - n.log2) = 4503599627370496 := by rw [← pw_add, show n.log2 + (52 - n.log2) = 52 by omega]; rfl
      have e53 : pw (n.log2 + 1) * pw (52 - n.log2) = 9007199254740992 := by rw [← pw_add, show n.log2 + 1 + (52 - n.log2) = 53 by omega]; rfl
      have h1 : 4503599627370496 ≤ n * pw (52 - n.log2) := by rw [← e52]; exact Nat.mul_le_mul_right _ b1
      have h2 : n * pw (52 - n.log2) < 9007199254740992 := by rw [← e53]; exact Nat.mul_lt_mul_of_pos_right b2 (pw_pos _)
      refine ⟨_, ?_, rfl⟩
      unfold IW
      rw [e]
      exact W64_word s h1 (by omega) (by omega)
    obtain ⟨ka, a1, a2⟩ := e s
    obtain ⟨kb, c1, c2⟩ := e false
    have hw : ∀ r, F64.word false r = r := fun r => by rw [word_eq]; simp
    rw [c1, hw, hw] at h1
    have : kb = k := by omega
    rw [a1, a2, ← c2, this]
theorem flip_IW (s : Bool) {n : Nat} (h : n < 16777216) : Op.negFloat .f64 (IW s n) = IW (!s) n := by
  obtain ⟨rung, h1, h2⟩ := IW_rung n h
  rw [h2, h2]
  exact flip_word s rung (by omega)
theorem run_neg (x : Nat) (w : World) : (Op.unary .neg (.float .f64 x)).run Try.prog w = .ok (.float .f64 (Op.negFloat .f64 x)) w := rfl
theorem order_sl {a b : Nat} {s t : Bool} {M N : Nat} (ha : Units (F64.read a) s M) (hb : Units (F64.read b) t N) : FloatKind.f64.format.order a b = some (compare (sg s M) (sg t N)) := order_units ha hb
theorem cmp_lt (x y : Int) : (some (compare x y) == some Ordering.lt) = decide (x < y) := by
  rw [Int.compare_eq_ite_lt]
  by_cases h1 : x < y
  · rw [if_pos h1, decide_eq_true h1]; rfl
  · rw [if_neg h1, decide_eq_false h1]; split <;> rfl
theorem cmp_ge (x y : Int) : (some (compare x y) == some Ordering.gt || some (compare x y) == some Ordering.eq) = decide (y ≤ x) := by
  rw [Int.compare_eq_ite_lt]
  by_cases h1 : x < y
  · rw [if_pos h1, decide_eq_false (by omega)]; rfl
  · rw [if_neg h1, decide_eq_true (by omega)]; split <;> rfl
/-- A whole number less the power of two of its first digit. -/
theorem sub_top {m : Nat} (h : m < 16777216) (hm : m ≠ 0) : floatBits .sub .f64 (IW false m) ((m.log2 + 1023) * 4503599627370496) = some (IW false (m - pw m.log2)) := by
  have hl : m.log2 < 24 := log2_lt hm h
  obtain ⟨b1, b2⟩ := log2_bd hm
  rw [← word_pow m.log2 hl]
  obtain ⟨d, h1, h2⟩ := sum_units (IW_units false h) (Units.opp (IW_units false (show pw m.log2 < 16777216 by omega)))
  show ((F64.read (IW false m)).sum (F64.read (IW false (pw m.log2))).opposite).map F64.write = _
  rw [h1]
  show some (F64.write d) = _
  rw [write_units h2]
  have e : sg false (m * U1) + sg (!false) (pw m.log2 * U1) = (((m - pw m.log2) * U1 : Nat) : Int) := by
    unfold sg
    simp only [Bool.not_false, Bool.false_eq_true, if_false, if_true]
    rw [Nat.sub_mul]
    have := Nat.mul_le_mul_right U1 b1
    omega
  rw [e, Int.natAbs_natCast]
  have es : (if (((m - pw m.log2) * U1 : Nat) : Int) = 0 then false && !false else decide ((((m - pw m.log2) * U1 : Nat) : Int) < 0)) = false := by
    split
    · rfl
    · exact decide_eq_false (by omega)
  rw [es]
  rfl
theorem top_units (k : Nat) (h1 : 4503599627370496 ≤ k) (h2 : k < 9007199254740992) : Units (F64.read (1021 * 4503599627370496 + k)) false (k * pw 1021) := by
  have hw := W64_small false h1 h2 (show 1021 ≤ 1901 by omega)
  rw [(word_mod (1021 * 4503599627370496 + k) (by omega)).1] at hw
  rw [← hw]
  have hk : k ≠ 0 := by omega
  have hlk : k.log2 = 52 := log2_is hk h1 h2
  have hl := log2_mul hk 1021
  rw [hlk] at hl
  refine hold64 (Nat.mul_ne_zero hk (Nat.ne_of_gt (pw_pos _))) (by omega) ?_
  unfold Rep
  have hcc : cc F64 0 (k * pw 1021) = 1021 := by unfold cc; rw [hl]; show max (52 + 1021 - 52) 0 = 1021; omega
  rw [hcc]
  exact Nat.dvd_mul_left _ _
theorem half_ge (k : Nat) (h1 : 4503599627370496 ≤ k) (h2 : k < 9007199254740992) : (FloatKind.f64.format.order (1021 * 4503599627370496 + k) 4602678819172646912 == some Ordering.lt) = false := by
  have hb := top_units 4503599627370496 (Nat.le_refl _) (by omega)
  rw [show 1021 * 4503599627370496 + 4503599627370496 = 4602678819172646912 from rfl] at hb
  rw [order_lt (top_units k h1 h2) hb, decide_eq_false]
  have := Nat.mul_le_mul_right (pw 1021) h1
  omega
theorem two_le (t : Bool) (m : Nat) (hm : m < 16777216) : (FloatKind.f64.format.order (IW t m) 4611686018427387904 == some Ordering.gt || FloatKind.f64.format.order (IW t m) 4611686018427387904 == some Ordering.eq) = decide (((2 * U1 : Nat) : Int) ≤ sg t (m * U1)) := by
  rw [order_sl (IW_units t hm) read_2, cmp_ge]
  rfl
theorem two_no (t : Bool) (m : Nat) (h : m < 2) : (FloatKind.f64.format.order (IW t m) 4611686018427387904 == some Ordering.gt || FloatKind.f64.format.order (IW t m) 4611686018427387904 == some Ordering.eq) = false := by
  rw [two_le t m (by omega), decide_eq_false]
  have := U1_pos
  have h1 : m * U1 ≤ 1 * U1 := Nat.mul_le_mul_right _ (by omega)
  unfold sg
  split <;> omega
theorem two_yes (m : Nat) (hm : m < 16777216) (h : 2 ≤ m) : (FloatKind.f64.format.order (IW false m) 4611686018427387904 == some Ordering.gt || FloatKind.f64.format.order (IW false m) 4611686018427387904 == some Ordering.eq) = true := by
  rw [two_le false m hm, decide_eq_true]
  have h1 : 2 * U1 ≤ m * U1 := Nat.mul_le_mul_right _ h
  unfold sg
  simp only [Bool.false_eq_true, if_false]
  omega
set_option maxHeartbeats 8000000 in
set_option maxRecDepth 100000 in
theorem mod_is (s : Bool) (n : Nat) (h : n < 16777216) (w : World) : Calls Try.prog 23 #[.float .f64 (IW s n), .float .f64 4611686018427387904] w fun e w' => ∃ t m, e = .returned (.float .f64 (IW t m)) ∧ m < 2 ∧ m % 2 = n % 2 ∧ Below w.heap.size w w' := by
  have hu := IW_units s h
  obtain ⟨rung, hr1, hr2⟩ := IW_rung n h
  have hx : IW s n < 18446744073709551616 := by rw [hr2, word_eq]; split <;> omega
  have hu2 := read_2
  have o0 : (FloatKind.f64.format.order 4611686018427387904 0 == some Ordering.eq) = false := by
    rw [order_eq hu2 read_0, decide_eq_false]
    unfold sg
    simp only [Bool.false_eq_true, if_false]
    have := U1_pos
    omega
  have QI := Aside0.mk (fun w => isinf_is (IW s n) hx (units_fin hu).2 w)
  rw [(units_fin hu).1] at QI
  have on : (FloatKind.f64.format.order (IW s n) (IW s n) != some Ordering.eq) = false := by
    have := order_eq hu hu
    rw [decide_eq_true rfl] at this
    simp only [bne, this]
    rfl
  have on2 : (FloatKind.f64.format.order 4611686018427387904 4611686018427387904 != some Ordering.eq) = false := by
    have := order_eq hu2 hu2
    rw [decide_eq_true rfl] at this
    simp only [bne, this]
    rfl
  have QK := Aside0.mk (fun w => isnan_is (IW s n) false on w)
  have QK2 := Aside0.mk (fun w => isnan_is 4611686018427387904 false on2 w)
  have QA := Aside0.mk (fun w => abs_is 4611686018427387904 (by omega) w)
  rw [show 4611686018427387904 % 9223372036854775808 = 4611686018427387904 from rfl] at QA
  have QF := Aside0.mk (fun w => Frx_is 2 4503599627370496 (by omega) (by omega) (by rw [IW_2, word_eq]; rfl) (by omega) (by omega) (by decide) w)
  rw [IW_2, show 1021 * 4503599627370496 + 4503599627370496 = 4602678819172646912 from rfl] at QF
  have QF2 : Aside0 (∀ w, Calls Try.prog 43 #[.float .f64 4611686018427387904] w fun e w' => e = .returned (.tuple #[.float .f64 4602678819172646912, .int .i64 2]) ∧ Below w.heap.size w w') := ⟨QF.out⟩
  have hneg := run_neg (IW s n)
  rw [flip_IW s h] at hneg
  have olt : (FloatKind.f64.format.order (IW s n) 0 == some Ordering.lt) = decide (sg s (n * U1) < 0) := by
    rw [order_sl hu read_0, cmp_lt]
    rfl
  obtain ⟨r0, hr0⟩ : ∃ r0, r0 = if sg s (n * U1) < 0 then IW (!s) n else IW s n := ⟨_, rfl⟩
  have hst : ∃ t, r0 = IW t n ∧ (t = true → n = 0) := by
    rw [hr0]
    unfold sg
    cases s
    · simp only [Bool.false_eq_true, if_false]
      rw [if_neg (by omega)]
      exact ⟨false, rfl, fun h => by cases h⟩
    · simp only [if_true]
      by_cases hn : n = 0
      · subst hn
        rw [Nat.zero_mul, if_neg (by omega)]
        exact ⟨true, rfl, fun _ => rfl⟩
      · have : 1 * U1 ≤ n * U1 := Nat.mul_le_mul_right _ (by omega)
        have := U1_pos
        rw [if_pos (by omega)]
        exact ⟨false, rfl, fun h => by cases h⟩
  have Qst := Aside0.mk (And.intro hst h)
  have Qx := Aside0.mk (show r0 = if sg s (n * U1) < 0 then IW (!s) n else IW s n from hr0)
  clear on on2 hu hu2 hr1 hr2 hx hst h QF
  have Qn := Aside0.mk olt
  clear hr0
  go_enter Try.func23, Try.ntmps23
  go_upto_region 5 with (first | (go_at_call 7; with_reducible refine Calls.mono (QI.out _) ?_; rintro e w1 ⟨rfl, hb⟩; have Q1 := Aside0.mk hb; clear hb) | (go_at_call 38; (first | with_reducible refine Calls.mono (QK.out _) ?_ | with_reducible refine Calls.mono (QK2.out _) ?_); rintro e w2 ⟨rfl, hb⟩; first | (have Q3 := Aside0.mk (Q2.out.trans (hb.mono Q2.out.size)); clear hb) | (have Q2 := Aside0.mk (Q1.out.trans (hb.mono Q1.out.size)); clear hb)) | (go_at_call 12; with_reducible refine Calls.mono (QA.out _) ?_; rintro e w4 ⟨rfl, hb⟩; have Q4 := Aside0.mk (Q3.out.trans (hb.mono Q3.out.size)); clear hb) | (go_at_call 43; with_reducible refine Calls.mono (QF2.out _) ?_; rintro e w5 ⟨rfl, hb⟩; have Q5 := Aside0.mk (Q4.out.trans (hb.mono Q4.out.size)); clear hb))
  clear QI QK QK2 QA QF2 o0 Q1 Q2 Q3 Q4
  obtain ⟨b, hb⟩ : ∃ b, b = decide (sg s (n * U1) < 0) := ⟨_, rfl⟩
  rw [← hb] at olt
  have Qb := Aside0.mk hb
  obtain ⟨y, hy⟩ : ∃ y, y = IW (!s) n := ⟨_, rfl⟩
  rw [← hy] at hneg
  obtain ⟨x, hx⟩ : ∃ x, x = IW s n := ⟨_, rfl⟩
  rw [← hx] at hneg olt ⊢
  have Qr : Aside0 (r0 = if b = true then y else x) := ⟨by rw [Qx.out, Qb.out, hy, hx]; simp⟩
  clear hb hy hx Qx Qn Qb
  have key : ∀ (A : Act) (W : World), True := fun _ _ => trivial
  cases b
  · have Qr2 : r0 = x := by rw [Qr.out]; rfl
    subst Qr2
    obtain ⟨⟨t0, ht0, ht1⟩, hn⟩ := Qst.out
    have Q0 := Aside0.mk (And.intro ht0 (And.intro ht1 hn))
    clear ht0 ht1 hn Qst Qr hneg key
    go_wp2_with fail
    go_loopg [7] n (fun kq v7 w' => ∃ t, v7 = .float .f64 (IW t kq) ∧ Aside0 ((t = true → kq = 0) ∧ kq % 2 = n % 2 ∧ kq ≤ n) ∧ Aside0 (Below w.heap.size w w'))
    case atStart => exact ⟨t0, by rw [Q0.out.1], ⟨Q0.out.2.1, rfl, Nat.le_refl _⟩, Q5⟩
    case round =>
      obtain ⟨t, rfl, HA, HB⟩ := hrel
      rcases Nat.lt_or_ge gk 2 with h2 | h2
      · have hge := two_no t gk h2
        go_wp2
        go_ret
        exact ⟨t, gk, rfl, h2, HA.out.2.1, HB.out⟩
      · have htf : t = false := by
          cases t
          · rfl
          · have := HA.out.1 rfl; omega
        subst htf
        have hm : gk < 16777216 := by have := HA.out; have := Q0.out; omega
        have hm0 : gk ≠ 0 := by omega
        have hge := two_yes gk hm h2
        obtain ⟨k, hk, hk1, hk2, hl⟩ := IW_word false hm0 hm
        have hhf := half_ge k hk1 hk2
        have QF := Aside0.mk (fun w => Frx_is gk k hm0 hm hk hk1 hk2 hl w)
        obtain ⟨b1, b2⟩ := log2_bd hm0
        have hl1 : 1 ≤ gk.log2 := le_log2 hm0 h2
        have hsub := fun w => run_float_arith (P := Try.prog) (w := w) .sub 29 .f64 _ _ _ (sub_top hm hm0)
        have QL := Aside0.mk (fun w => Ldx_is gk.log2 hl1 hl w)
        rw [show ((gk.log2 - 1 : Nat) : Int) = ((gk.log2 + 1 : Nat) : Int) - 2 by omega] at QL
        have hpos := pw_pos gk.log2
        have hpar : pw gk.log2 = 2 * pw (gk.log2 - 1) := by
          rw [show gk.log2 = gk.log2 - 1 + 1 by omega, pw_succ, Nat.mul_comm]
          rfl
        have Qm := Aside0.mk (show 0 < pw gk.log2 ∧ pw gk.log2 ≤ gk ∧ pw gk.log2 = 2 * pw (gk.log2 - 1) from ⟨hpos, b1, hpar⟩)
        have hz : ((gk.log2 + 1 : Nat) : Int) ≤ 24 := by omega
        have hz1 : (2 : Int) ≤ ((gk.log2 + 1 : Nat) : Int) := by omega
        have Qg := Aside0.mk (show 2 ≤ gk from h2)
        clear hm hm0 hk hk1 hk2 hl b1 b2 hl1 hpos hpar h2
        generalize pw gk.log2 = p at hsub Qm
        generalize (gk.log2 + 1023) * 4503599627370496 = y2 at hsub QL
        generalize 1021 * 4503599627370496 + k = fr at hhf QF
        generalize gk.log2 + 1 = z at QF QL hz hz1
        go_wp2_with (first | (go_at_call 43; with_reducible refine Calls.mono (QF.out _) ?_; rintro e w6 ⟨rfl, hb⟩; have Q6 := Aside0.mk (HB.out.trans (hb.mono HB.out.size)); clear hb) | (go_at_call 44; with_reducible refine Calls.mono (QL.out _) ?_; rintro e w7 ⟨rfl, hb⟩; have Q7 := Aside0.mk (Q6.out.trans (hb.mono Q6.out.size)); clear hb))
        go_roundg (gk - p)
        case rel =>
          refine ⟨false, rfl, ⟨⟨fun h => absurd h (by decide), ?_, ?_⟩⟩, Q7⟩
          · have := Qm.out; have := HA.out; omega
          · have := HA.out; omega
        · have := Qm.out; omega
  · have Qr2 : r0 = y := by rw [Qr.out]; rfl
    subst Qr2
    obtain ⟨⟨t0, ht0, ht1⟩, hn⟩ := Qst.out
    have Q0 := Aside0.mk (And.intro ht0 (And.intro ht1 hn))
    clear ht0 ht1 hn Qst Qr key
    go_wp2_with fail
    go_loopg [7] n (fun kq v7 w' => ∃ t, v7 = .float .f64 (IW t kq) ∧ Aside0 ((t = true → kq = 0) ∧ kq % 2 = n % 2 ∧ kq ≤ n) ∧ Aside0 (Below w.heap.size w w'))
    case atStart => exact ⟨t0, by rw [Q0.out.1], ⟨Q0.out.2.1, rfl, Nat.le_refl _⟩, Q5⟩
    case round =>
      obtain ⟨t, rfl, HA, HB⟩ := hrel
      rcases Nat.lt_or_ge gk 2 with h2 | h2
      · have hge := two_no t gk h2
        have hng := run_neg (IW t gk)
        rw [flip_IW t (show gk < 16777216 by omega)] at hng
        go_wp2
        go_ret
        exact ⟨!t, gk, rfl, h2, HA.out.2.1, HB.out⟩
      · have htf : t = false := by
          cases t
          · rfl
          · have := HA.out.1 rfl; omega
        subst htf
        have hm : gk < 16777216 := by have := HA.out; have := Q0.out; omega
        have hm0 : gk ≠ 0 := by omega
        have hge := two_yes gk hm h2
        obtain ⟨k, hk, hk1, hk2, hl⟩ := IW_word false hm0 hm
        have hhf := half_ge k hk1 hk2
        have QF := Aside0.mk (fun w => Frx_is gk k hm0 hm hk hk1 hk2 hl w)
        obtain ⟨b1, b2⟩ := log2_bd hm0
        have hl1 : 1 ≤ gk.log2 := le_log2 hm0 h2
        have hsub := fun w => run_float_arith (P := Try.prog) (w := w) .sub 29 .f64 _ _ _ (sub_top hm hm0)
        have QL := Aside0.mk (fun w => Ldx_is gk.log2 hl1 hl w)
        rw [show ((gk.log2 - 1 : Nat) : Int) = ((gk.log2 + 1 : Nat) : Int) - 2 by omega] at QL
        have hpos := pw_pos gk.log2
        have hpar : pw gk.log2 = 2 * pw (gk.log2 - 1) := by
          rw [show gk.log2 = gk.log2 - 1 + 1 by omega, pw_succ, Nat.mul_comm]
          rfl
        have Qm := Aside0.mk (show 0 < pw gk.log2 ∧ pw gk.log2 ≤ gk ∧ pw gk.log2 = 2 * pw (gk.log2 - 1) from ⟨hpos, b1, hpar⟩)
        have hz : ((gk.log2 + 1 : Nat) : Int) ≤ 24 := by omega
        have hz1 : (2 : Int) ≤ ((gk.log2 + 1 : Nat) : Int) := by omega
        have Qg := Aside0.mk (show 2 ≤ gk from h2)
        clear hm hm0 hk hk1 hk2 hl b1 b2 hl1 hpos hpar h2
        generalize pw gk.log2 = p at hsub Qm
        generalize (gk.log2 + 1023) * 4503599627370496 = y2 at hsub QL
        generalize 1021 * 4503599627370496 + k = fr at hhf QF
        generalize gk.log2 + 1 = z at QF QL hz hz1
        go_wp2_with (first | (go_at_call 43; with_reducible refine Calls.mono (QF.out _) ?_; rintro e w6 ⟨rfl, hb⟩; have Q6 := Aside0.mk (HB.out.trans (hb.mono HB.out.size)); clear hb) | (go_at_call 44; with_reducible refine Calls.mono (QL.out _) ?_; rintro e w7 ⟨rfl, hb⟩; have Q7 := Aside0.mk (Q6.out.trans (hb.mono Q6.out.size)); clear hb))
        go_roundg (gk - p)
        case rel =>
          refine ⟨false, rfl, ⟨⟨fun h => absurd h (by decide), ?_, ?_⟩⟩, Q7⟩
          · have := Qm.out; have := HA.out; omega
          · have := HA.out; omega
        · have := Qm.out; omega
end Go.Proofs.Ytmiafomaglijgaa.QR
