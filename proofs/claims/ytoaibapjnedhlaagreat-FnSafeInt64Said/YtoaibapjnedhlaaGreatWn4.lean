/- The reference's exact integers, third part: quotients with their rests, products, the words of an integer, whether it lies between two bounds. -/
import Derived.Test.YtoaibapjnedhlaaGreatWn3
import Derived.Test.YtoaibapjnedhlaaGreatQAllx17
namespace Go.Proofs.YtoaibapjnedhlaaGreat.Wn
open Go.RowKit Go.Proofs.YtoaibapjnedhlaaGreat.QAll Go.Proofs.YtoaibapjnedhlaaGreatW.PrintWords Go.Proofs.YtoaibapjnedhlaaGreatW.PrintLast Go.Proofs.YtoaibapjnedhlaaGreatW.PrintMore

/-! ### quotients -/
/-- What stands at m bits left. -/
structure DivAt (a b q r : List Int) (m : Nat) : Prop where
  ql : q.length = a.length
  qd : Dig q
  rd : Dig r
  rn : Nrm r
  rb : val r < val b
  rl : r.length ≤ b.length
  inv : ∃ Q : Int, val q = Q * 2 ^ m ∧ val a / 2 ^ m = Q * val b + val r
theorem DivAt.len {a b q r : List Int} {m : Nat} (h : DivAt a b q r m) (_hb : Dig b) : r.length ≤ b.length := h.rl
theorem div_end {V Q b r : Int} (hb : 0 < b) (h : V = Q * b + r) (h0 : 0 ≤ r) (h1 : r < b) : V / b = Q ∧ V % b = r := by
  have hc := Int.mul_comm Q b
  exact (Int.ediv_emod_unique hb).2 ⟨by omega, h0, h1⟩
theorem magDiv_ok (a b : List Int) (ha : Dig a) (hb : Dig b) (nb : Nrm b) (hla : a.length ≤ 10000) (hlb : b.length ≤ 10000) (hpos : 0 < val b) (m : Nat) : ∀ (q r : List Int), m ≤ 32 * a.length → DivAt a b q r m →
    Gives (fun k => spec_magDiv.l0 k a b q r ((m : Int) - 1)) (fun x => val x.1 = val a / val b ∧ Dig x.1 ∧ Nrm x.1 ∧ x.1.length ≤ a.length ∧ val x.2 = val a % val b ∧ Dig x.2 ∧ Nrm x.2 ∧ x.2.length ≤ b.length) := by
  induction m with
  | zero =>
    intro q r _ h
    obtain ⟨Q, h1, h2⟩ := h.inv
    simp at h1 h2
    have he := div_end hpos h2 (val_nonneg h.rd) h.rb
    refine Gives.step (fun k => by simp only [spec_magDiv.l0]; rw [if_neg (by omega)]) ?_
    refine Gives.bind (trim_is (by have := h.ql; omega) h.qd) fun t ht => Gives.now _ ?_
    exact ⟨by simp only; rw [ht.1, h1, he.1], ht.2.1, ht.2.2.1, by have := h.ql; simp only; omega, he.2.symm, h.rd, h.rn, h.rl⟩
  | succ i ih =>
    intro q r hm h
    have hil : i / 32 < a.length := by omega
    have e0 : ((i + 1 : Nat) : Int) - 1 = (i : Int) := by omega
    have e1 : wrap64 (Int.tdiv (i : Int) 32) = ((i / 32 : Nat) : Int) := by
      rw [Int.tdiv_eq_ediv_of_nonneg (by omega), w64 (by omega) (by omega)]; omega
    have e2 : Int.tmod (i : Int) 32 = ((i % 32 : Nat) : Int) := by
      rw [Int.tmod_eq_emod_of_nonneg (by omega)]; omega
    have e3 : wrap64 ((i : Int) - 1) = (i : Int) - 1 := w64 (by omega) (by omega)
    have hql := h.ql
    have hrd : rd a ((i / 32 : Nat) : Int) = dg a (i / 32) := by simp [dg]; omega
    have hrq : rd q ((i / 32 : Nat) : Int) = dg q (i / 32) := by simp [dg]; omega
    have hbit := shr_bit ha i
    have hmore := more_bit (val a) i
    obtain ⟨Q, h1, h2⟩ := h.inv
    have hr0 := val_nonneg h.rd
    have hrb := h.rb
    -- what follows, out of the doubled rest
    have rest : ∀ (s : List Int) (c : Int), Dig s → s.length ≤ 10002 → c = val a / 2 ^ i % 2 → val s = val r + val r + c → 0 ≤ c → c ≤ 1 →
        Gives (fun k => spec_magDiv.j1 k a b q s (i : Int)) (fun x => val x.1 = val a / val b ∧ Dig x.1 ∧ Nrm x.1 ∧ x.1.length ≤ a.length ∧ val x.2 = val a % val b ∧ Dig x.2 ∧ Nrm x.2 ∧ x.2.length ≤ b.length) := by
      intro s c hs hsl hc hv c0 c1
      refine Gives.step (fun k => by simp only [spec_magDiv.j1]; rfl) ?_
      refine Gives.bind (trim_is (by omega) hs) fun t ht => ?_
      refine Gives.bind (magCmp_is ht.2.1 hb ht.2.2.1 nb (by omega)) fun z hz => ?_
      have hQ2 : (2 * Q) * val b = 2 * (Q * val b) := Int.mul_assoc 2 Q (val b)
      have hQ3 : (2 * Q + 1) * val b = 2 * (Q * val b) + val b := by rw [Int.add_mul, hQ2, Int.one_mul]
      have hp : (2 : Int) ^ (i + 1) = 2 ^ i * 2 := Int.pow_succ 2 i
      have hq2 : Q * 2 ^ (i + 1) = (2 * Q) * 2 ^ i := by rw [hp, Int.mul_comm (2 ^ i) 2, ← Int.mul_assoc, Int.mul_comm Q 2]
      by_cases hge : z ≥ 0
      · refine Gives.congr (fun k => if_pos hge) ?_
        refine Gives.bind (magSub_is ht.2.1 hb nb (by omega) (by omega)) fun u hu => ?_
        have hz2 : val q % 2 ^ (i + 1) = 0 := by rw [h1]; exact Int.mul_emod_left _ _
        have hor := or_bit h.qd i hz2
        have hdq := dg_bd h.qd (i / 32)
        obtain ⟨hs1, _⟩ := small_pow (i % 32) (Nat.mod_lt _ (by omega))
        refine Gives.congr (fun k => by rw [e1, if_pos (by omega), if_pos (by omega), e2, if_pos (by omega), hrq, hor.1, e3, Int.toNat_natCast]) ?_
        have hul : u.length ≤ b.length := by
          refine len_bd hu.2.1 hu.2.2.1 (Int.lt_of_lt_of_le ?_ (Int.le_of_lt (val_lt hb)))
          rw [hu.1, ht.1]; omega
        refine ih _ u (by omega) ⟨by simp [hql], h.qd.set _ (by omega) hor.2, hu.2.1, hu.2.2.1, by rw [hu.1, ht.1]; omega, hul, 2 * Q + 1, ?_, ?_⟩
        · rw [val_set _ _ _ (by omega), hrq, h1, hq2, Int.add_mul, Int.one_mul]
          have : dg q (i / 32) + 2 ^ (i % 32) - dg q (i / 32) = 2 ^ (i % 32) := by omega
          rw [this, ← two32 i]
        · rw [hu.1, ht.1, hQ3]; omega
      · refine Gives.congr (fun k => if_neg hge) ?_
        rw [e3]
        have htl : t.length ≤ b.length := by
          refine len_bd ht.2.1 ht.2.2.1 (Int.lt_of_lt_of_le ?_ (Int.le_of_lt (val_lt hb)))
          omega
        refine ih q t (by omega) ⟨hql, h.qd, ht.2.1, ht.2.2.1, by omega, htl, 2 * Q, by rw [h1, hq2], ?_⟩
        rw [ht.1, hQ2]; omega
    rw [e0]
    refine Gives.step (fun k => by simp only [spec_magDiv.l0]; rw [if_pos (by omega)]) ?_
    refine Gives.bind (magAdd_is h.rd h.rd (by have := h.rl; omega) (by have := h.rl; omega)) fun t ht => ?_
    have htl := h.rl
    by_cases hb1 : val a / 2 ^ i % 2 = 1
    · refine Gives.congr (fun k => by rw [e1, if_pos (by omega), if_pos (by omega), e2, if_pos (by omega), hrd, hbit, if_pos hb1]) ?_
      have d1 : Dig [1] := fun x hx => by simp at hx; omega
      refine Gives.bind (magAdd_is ht.2.1 d1 (by omega) (by simp)) fun s hs => ?_
      refine rest s 1 hs.2.1 (by have := hs.2.2; simp at this; omega) hb1.symm ?_ (by omega) (by omega)
      rw [hs.1, ht.1]; simp [val]
    · refine Gives.congr (fun k => by rw [e1, if_pos (by omega), if_pos (by omega), e2, if_pos (by omega), hrd, hbit, if_neg hb1]) ?_
      exact rest t 0 ht.2.1 (by omega) (by omega) (by rw [ht.1]; omega) (by omega) (by omega)
theorem val_zeros (n : Nat) : val (List.replicate n 0) = 0 := by
  have := val_rep n []
  simpa [val] using this
theorem magDiv_is {a b : List Int} (ha : Dig a) (hb : Dig b) (nb : Nrm b) (hla : a.length ≤ 10000) (hlb : b.length ≤ 10000) (hpos : 0 < val b) :
    Gives (fun k => spec_magDiv.f k a b) (fun x => val x.1 = val a / val b ∧ Dig x.1 ∧ Nrm x.1 ∧ x.1.length ≤ a.length ∧ val x.2 = val a % val b ∧ Dig x.2 ∧ Nrm x.2 ∧ x.2.length ≤ b.length) := by
  unfold spec_magDiv.f
  have e : wrap64 (wrap64 (32 * (a.length : Int)) - 1) = ((32 * a.length : Nat) : Int) - 1 := by
    rw [w64 (x := 32 * (a.length : Int)) (by omega) (by omega), w64 (by omega) (by omega)]; omega
  refine Gives.congr (fun k => by rw [if_pos (by omega), if_pos (by omega), e, Int.toNat_natCast]) ?_
  refine magDiv_ok a b ha hb nb hla hlb hpos (32 * a.length) _ [] (Nat.le_refl _) ⟨by simp, Dig.rep _, Dig.nil, fun h => absurd rfl h, hpos, by simp, 0, by rw [val_zeros]; simp, ?_⟩
  have h1 := val_lt ha
  rw [← pow2_32] at h1
  rw [Int.ediv_eq_zero_of_lt (val_nonneg ha) h1]
  simp [val]
theorem WideDiv_is {a b : Bool × List Int} (ha : Wf a) (hb : Wf b) (hla : a.2.length ≤ 10000) (hlb : b.2.length ≤ 10000) (hpos : 0 < val b.2) :
    Gives (fun k => spec_WideDiv.f k a.1 a.2 b.1 b.2) (fun r => num (r.1, r.2.1) = (if (a.1 != b.1) = true then -(val a.2 / val b.2) else val a.2 / val b.2) ∧ Wf (r.1, r.2.1) ∧ r.2.1.length ≤ a.2.length ∧ num (r.2.2.1, r.2.2.2) = (if a.1 = true then -(val a.2 % val b.2) else val a.2 % val b.2) ∧ Wf (r.2.2.1, r.2.2.2) ∧ r.2.2.2.length ≤ b.2.length) := by
  unfold spec_WideDiv.f
  refine Gives.bind (magDiv_is ha.dig hb.dig hb.nrm hla hlb hpos) fun x hx => ?_
  refine Gives.bind (wide_is (a.1 != b.1) (by omega) hx.2.1) fun y hy => ?_
  refine Gives.bind (wide_is a.1 (by omega) hx.2.2.2.2.2.1) fun z hz => Gives.now _ ?_
  refine ⟨?_, hy.2.1, by simp only; omega, ?_, hz.2.1, by simp only; omega⟩
  · rw [show ((y.1, y.2) : Bool × List Int) = y from rfl, hy.1, hx.1]
  · rw [show ((z.1, z.2) : Bool × List Int) = z from rfl, hz.1, hx.2.2.2.2.1]

/-! ### the words of an integer -/
theorem or_comm64 (x y : Int) : Go.bits .or .u64 x y = Go.bits .or .u64 y x := by
  simp only [Go.bits, BitVec.or_comm]
theorem or_high {x y : Int} (hx0 : 0 ≤ x) (hx : x < 4294967296) (hy0 : 0 ≤ y) (hy : y < 4294967296) : Go.bits .or .u64 x (y * 4294967296) = x + y * 4294967296 := by
  rw [or_comm64, bits_join .u64 64 (by decide) (fun n h0 h1 => u64w h0 (by omega)) 32 _ _ (by omega) (by omega) (by omega) (by omega) (by omega) (by omega)]
  omega
theorem or_zero {y : Int} (hy0 : 0 ≤ y) (hy : y < 4294967296) : Go.bits .or .u64 0 y = y := by
  rw [bits_join .u64 64 (by decide) (fun n h0 h1 => u64w h0 (by omega)) 32 _ _ (by omega) (by omega) (by omega) (by omega) (by omega) (by omega)]
  omega
theorem shl0 {y : Int} (hy0 : 0 ≤ y) (hy : y < 4294967296) : shl .u64 (IntKind.u64.wrap y) 0 = y := by
  rw [u64w hy0 (by omega)]
  unfold shl
  rw [show y * 2 ^ min (Int.toNat 0) IntKind.u64.bits = y from by simp]
  exact u64w hy0 (by omega)
theorem shl32 {y : Int} (hy0 : 0 ≤ y) (hy : y < 4294967296) : shl .u64 (IntKind.u64.wrap y) 32 = y * 4294967296 := by
  rw [u64w hy0 (by omega)]
  unfold shl
  rw [show y * 2 ^ min (Int.toNat 32) IntKind.u64.bits = y * 4294967296 from by simp [IntKind.bits]]
  exact u64w (by omega) (by omega)
theorem words_ok {l : List Int} (hd : Dig l) (hl : l.length ≤ 100000) (x s : Bool) : Gives (fun k => spec_ToWords.j1 k 1 x s l) (fun r => r = ([val l % 18446744073709551616], x)) := by
  have h0 := dg_bd hd 0
  have h1 := dg_bd hd 1
  have v0 := val_drop l 0
  have v1 := val_drop l 1
  rw [List.drop_zero, Nat.zero_add] at v0
  have hv : val l % 18446744073709551616 = dg l 0 + dg l 1 * 4294967296 := by omega
  have last : ∀ o : Int, Gives (fun k => spec_ToWords.l0 k x [o] 1 1 s l) (fun r => r = ([o], x)) := fun o =>
    Gives.step (fun k => by simp only [spec_ToWords.l0]; rw [if_neg (by omega)]) (Gives.now _ rfl)
  have third : ∀ o : Int, Gives (fun k => spec_ToWords.l1 k x [o] 0 2 1 0 s l) (fun r => r = ([o], x)) := fun o =>
    Gives.step (fun k => by simp only [spec_ToWords.l1]; rw [if_neg (by omega), show wrap64 ((0 : Int) + 1) = 1 from by unfold wrap64; omega]) (last o)
  have second : Gives (fun k => spec_ToWords.l1 k x [dg l 0] 0 1 1 0 s l) (fun r => r = ([dg l 0 + dg l 1 * 4294967296], x)) := by
    have w1 : wrap64 (wrap64 (2 * 0) + 1) = 1 := by unfold wrap64; omega
    have w2 : wrap64 ((1 : Int) + 1) = 2 := by unfold wrap64; omega
    have w3 : wrap64 ((32 : Int) * 1) = 32 := by unfold wrap64; omega
    by_cases h : (1 : Int) < (l.length : Int)
    · have hr : rd l 1 = dg l 1 := by unfold dg; rw [if_pos (by omega)]; rfl
      refine Gives.step (f := fun k => spec_ToWords.l1 k x [dg l 0 + dg l 1 * 4294967296] 0 2 1 0 s l) (fun k => ?_) (third _)
      simp only [spec_ToWords.l1]
      rw [if_pos (by omega), w1, if_pos h, if_pos (by omega), if_pos (by simp), if_pos (by omega), w3, if_pos (by omega), hr, shl32 h1.1 h1.2, show rd [dg l 0] 0 = dg l 0 from rfl, or_high h0.1 h0.2 h1.1 h1.2, w2]
      rfl
    · have hz : dg l 1 = 0 := by unfold dg; rw [if_neg (by omega)]
      rw [hz]
      refine Gives.step (f := fun k => spec_ToWords.l1 k x [dg l 0 + 0 * 4294967296] 0 2 1 0 s l) (fun k => ?_) (third _)
      simp only [spec_ToWords.l1]
      rw [if_pos (by omega), w1, if_neg h, w2]
      simp
  have first : Gives (fun k => spec_ToWords.l1 k x [0] 0 0 1 0 s l) (fun r => r = ([dg l 0 + dg l 1 * 4294967296], x)) := by
    have w1 : wrap64 (wrap64 (2 * 0) + 0) = 0 := by unfold wrap64; omega
    have w2 : wrap64 ((0 : Int) + 1) = 1 := by unfold wrap64; omega
    have w3 : wrap64 ((32 : Int) * 0) = 0 := by unfold wrap64; omega
    by_cases h : (0 : Int) < (l.length : Int)
    · have hr : rd l 0 = dg l 0 := by unfold dg; rw [if_pos (by omega)]; rfl
      refine Gives.step (f := fun k => spec_ToWords.l1 k x [dg l 0] 0 1 1 0 s l) (fun k => ?_) second
      simp only [spec_ToWords.l1]
      rw [if_pos (by omega), w1, if_pos h, if_pos (by omega), if_pos (by simp), if_pos (by omega), w3, if_pos (by omega), hr, shl0 h0.1 h0.2, show rd [0] 0 = 0 from rfl, or_zero h0.1 h0.2, w2]
      rfl
    · have hz : dg l 0 = 0 := by unfold dg; rw [if_neg (by omega)]
      rw [hz] at second ⊢
      refine Gives.step (f := fun k => spec_ToWords.l1 k x [0] 0 1 1 0 s l) (fun k => ?_) second
      simp only [spec_ToWords.l1]
      rw [if_pos (by omega), w1, if_neg h, w2]
  rw [hv]
  refine Gives.step (f := fun k => spec_ToWords.l0 k x [0] 1 0 s l) (fun k => ?_) (Gives.step (f := fun k => spec_ToWords.l1 k x [0] 0 0 1 0 s l) (fun k => ?_) first)
  · simp only [spec_ToWords.j1]
    rw [if_pos (by omega), if_pos (by simp)]
    rfl
  · simp only [spec_ToWords.l0]
    rw [if_pos (by omega)]
theorem ToWords_is {a : Bool × List Int} (ha : Wf a) (hla : a.2.length ≤ 1000) : Gives (fun k => spec_ToWords.f k a.1 a.2 1) (fun r => r = ([num a % 18446744073709551616], decide (-9223372036854775808 ≤ num a ∧ num a < 9223372036854775808))) := by
  have c0 : wrap64 (wrap64 (64 * 1) - 1) = ((63 : Nat) : Int) := by unfold wrap64; omega
  have c1 : wrap64 (64 * 1) = ((64 : Nat) : Int) := by unfold wrap64; omega
  have p63 : (2 : Int) ^ 63 = 9223372036854775808 := by decide
  have p64 : (2 : Int) ^ 64 = 18446744073709551616 := by decide
  have tail : ∀ x : Bool, Gives (fun k => spec_ToWords.j0 k 1 x a.1 a.2) (fun r => r = ([num a % 18446744073709551616], x)) := by
    intro x
    have hn := ha.neg_lt
    have hv := val_nonneg ha.dig
    have hnum : num a = if a.1 = true then -val a.2 else val a.2 := rfl
    by_cases hs : a.1 = true
    · rw [if_pos hs] at hnum
      refine Gives.step (fun k => by simp only [spec_ToWords.j0]; rw [if_pos hs, c1]) ?_
      refine Gives.bind (Two_is 64 (by omega)) fun b hb => ?_
      have hbn : b.1 = false := by
        have := hb.2.1.neg_lt
        rw [hb.1, p64] at this
        simpa using this
      have hbv : val b.2 = 18446744073709551616 := by
        have := hb.1
        unfold num at this
        rw [hbn, p64] at this
        simpa using this
      refine Gives.bind (WideDiv_is ha hb.2.1 (by omega) (by omega) (by omega)) fun y hy => ?_
      refine Gives.bind (Two_is 64 (by omega)) fun c hc => ?_
      refine Gives.bind (WideAdd_is (a := (y.2.2.1, y.2.2.2)) hy.2.2.2.2.1 hc.2.1 (by have := hy.2.2.2.2.2; simp only; omega) (by omega)) fun z hz => ?_
      have hzn : num z = 18446744073709551616 - val a.2 % 18446744073709551616 := by
        rw [hz.1, hy.2.2.2.1, if_pos hs, hc.1, p64, hbv]; omega
      have hzs : ¬ z.1 = true := fun h => by have := hz.2.1.neg_lt.1 h; omega
      have hzv : val z.2 = num z := by unfold num; rw [if_neg hzs]
      refine (words_ok hz.2.1.dig (by have := hz.2.2; have := hy.2.2.2.2.2; simp only at *; omega) x z.1).mono fun r hr => ?_
      rw [hr, hzv, hzn, hnum]
      have : (18446744073709551616 - val a.2 % 18446744073709551616) % 18446744073709551616 = -val a.2 % 18446744073709551616 := by omega
      rw [this]
    · rw [if_neg hs] at hnum
      refine Gives.step (fun k => by simp only [spec_ToWords.j0]; rw [if_neg hs]) ?_
      rw [hnum]
      exact words_ok ha.dig (by omega) x a.1
  unfold spec_ToWords.f
  rw [c0]
  refine Gives.bind (Two_is 63 (by omega)) fun b hb => ?_
  refine Gives.bind (WideCmp_is ha hb.2.1 (by omega)) fun t ht => ?_
  rw [hb.1, p63] at ht
  by_cases h : t < 0
  · refine Gives.congr (fun k => if_pos h) ?_
    refine Gives.bind (Negated_is hb.2.1 (by omega)) fun c hc => ?_
    refine Gives.bind (WideCmp_is ha hc.2.1 (by omega)) fun u hu => ?_
    rw [hc.1, hb.1, p63] at hu
    refine (tail _).mono fun r hr => ?_
    rw [hr]
    have : decide (u ≥ 0) = decide (-9223372036854775808 ≤ num a ∧ num a < 9223372036854775808) := by
      unfold Cmp at ht hu
      rw [decide_eq_decide]
      omega
    rw [this]
  · refine Gives.congr (fun k => if_neg h) ?_
    refine (tail _).mono fun r hr => ?_
    rw [hr]
    have : decide (-9223372036854775808 ≤ num a ∧ num a < 9223372036854775808) = false := by
      unfold Cmp at ht
      rw [decide_eq_false_iff_not]
      omega
    rw [this]
theorem fitted_is {a lo hi : Bool × List Int} (ha : Wf a) (hlo : Wf lo) (hhi : Wf hi) (hla : a.2.length ≤ 1000) : Gives (fun k => laws_fitted.f k a.1 a.2 lo.1 lo.2 hi.1 hi.2) (fun r => r = (num a % 18446744073709551616, decide (num lo ≤ num a ∧ num a ≤ num hi))) := by
  unfold laws_fitted.f
  refine Gives.bind (ToWords_is ha hla) fun w hw => ?_
  subst hw
  refine Gives.congr (fun k => if_pos (by simp)) ?_
  refine Gives.bind (WideCmp_is ha hlo (by omega)) fun t ht => ?_
  by_cases h : t ≥ 0
  · refine Gives.congr (fun k => if_pos h) ?_
    refine Gives.bind (WideCmp_is ha hhi (by omega)) fun u hu => Gives.now _ ?_
    have : decide (u ≤ 0) = decide (num lo ≤ num a ∧ num a ≤ num hi) := by
      unfold Cmp at ht hu
      rw [decide_eq_decide]
      omega
    rw [this]; rfl
  · refine Gives.congr (fun k => if_neg h) (Gives.now _ ?_)
    have : decide (num lo ≤ num a ∧ num a ≤ num hi) = false := by
      unfold Cmp at ht
      rw [decide_eq_false_iff_not]
      omega
    rw [this]; rfl
end Go.Proofs.YtoaibapjnedhlaaGreat.Wn
