/- The reference's exact integers, second part: differences, products, quotients with their rests, the words of an integer, the bounds of a width, for digits of base 2^32. -/
import Derived.Test.YtoaibapjnedhlaaGreatWn2
import Derived.Laws.BitsLemmas
namespace Go.Proofs.YtoaibapjnedhlaaGreat.Wn
open Go.RowKit Go.Proofs.YtoaibapjnedhlaaGreat.QAll Go.Proofs.YtoaibapjnedhlaaGreatW.PrintWords Go.Proofs.YtoaibapjnedhlaaGreatW.PrintLast Go.Proofs.YtoaibapjnedhlaaGreatW.PrintMore

theorem val_take_succ (l : List Int) (i : Nat) : val (l.take (i + 1)) = val (l.take i) + 4294967296 ^ i * dg l i := by
  by_cases h : i < l.length
  · rw [List.take_add_one, List.getElem?_eq_getElem h, Option.toList_some, val_snoc, List.length_take, Nat.min_eq_left (by omega)]
    simp [dg, h, rd_get h]
  · rw [List.take_of_length_le (by omega), List.take_of_length_le (by omega)]
    simp [dg, h]
theorem rd_mid (pre l : List Int) (i : Nat) (hp : pre.length = i) (hi : i < l.length) : rd (pre ++ l.drop i) (i : Int) = dg l i := by
  rw [rd_get (by simp; omega), List.getElem_append_right (by omega)]
  simp [dg, hi, rd_get hi, hp]
theorem set_mid (pre l : List Int) (i : Nat) (x : Int) (hp : pre.length = i) (hi : i < l.length) : (pre ++ l.drop i).set i x = (pre ++ [x]) ++ l.drop (i + 1) := by
  rw [List.set_append_right _ _ (by omega), hp, Nat.sub_self, List.drop_eq_getElem_cons hi, List.set_cons_zero, List.append_assoc]
  rfl
theorem magSub_ok (a b : List Int) (ha : Dig a) (hb : Dig b) (hla : a.length ≤ 1000000) (hlb : b.length ≤ a.length) (hge : val b ≤ val a) (d : Nat) : ∀ (i : Nat) (pre : List Int) (w : Int), i + d = a.length → pre.length = i → Dig pre → 0 ≤ w → w ≤ 1 →
    val pre = val (a.take i) - val (b.take i) + 4294967296 ^ i * w →
    Gives (fun k => spec_magSub.l0 k b (pre ++ a.drop i) w (a.length : Int) (i : Int)) (fun r => val r = val a - val b ∧ Dig r ∧ Nrm r ∧ r.length ≤ a.length) := by
  induction d with
  | zero =>
    intro i pre w hi hp hd hw0 hw1 hv
    obtain rfl : i = a.length := by omega
    have e1 : a.drop a.length = [] := List.drop_eq_nil_of_le (Nat.le_refl _)
    rw [List.take_of_length_le (Nat.le_refl _), List.take_of_length_le hlb] at hv
    have hlt := val_lt hd
    rw [hp] at hlt
    have hw : w = 0 := by
      refine Classical.byContradiction fun hc => ?_
      obtain rfl : w = 1 := by omega
      omega
    subst hw
    rw [e1, List.append_nil]
    refine Gives.step (fun k => by simp only [spec_magSub.l0]; rw [if_neg (by omega)]) ?_
    refine Gives.bind (trim_is (by omega) hd) fun r hr => Gives.now _ ?_
    exact ⟨by rw [hr.1, hv]; simp, hr.2.1, hr.2.2.1, by omega⟩
  | succ d ih =>
    intro i pre w hi hp hd hw0 hw1 hv
    have hA := dg_bd ha i
    have hB := dg_bd hb i
    have hia : i < a.length := by clear hv ih hge; omega
    have hw : wrap64 ((i : Int) + 1) = ((i + 1 : Nat) : Int) := by clear hv ih hge; rw [w64 (by omega) (by omega)]; omega
    have hlen : (pre ++ a.drop i).length = a.length := by clear hv ih hge; simp; omega
    have hrd := rd_mid pre a i hp hia
    have hvs : ∀ (x w' : Int), x - 4294967296 * w' = dg a i - w - dg b i → val (pre ++ [x]) = val (a.take (i + 1)) - val (b.take (i + 1)) + 4294967296 ^ (i + 1) * w' := by
      intro x w' hx
      rw [val_snoc, hp, hv, val_take_succ, val_take_succ, Int.pow_succ]
      have hx2 : x = dg a i - w - dg b i + 4294967296 * w' := by omega
      have e : ∀ p : Int, p * x = p * dg a i - p * w - p * dg b i + p * 4294967296 * w' := fun p => by
        rw [hx2, Int.mul_add, Int.mul_sub, Int.mul_sub, Int.mul_assoc]
      have := e (4294967296 ^ i)
      omega
    have go : ∀ (x w' : Int), 0 ≤ x → x < 4294967296 → 0 ≤ w' → w' ≤ 1 → x - 4294967296 * w' = dg a i - w - dg b i →
        Gives (fun k => spec_magSub.l0 k b ((pre ++ a.drop i).set i x) w' (a.length : Int) ((i + 1 : Nat) : Int)) (fun r => val r = val a - val b ∧ Dig r ∧ Nrm r ∧ r.length ≤ a.length) := by
      intro x w' h0 h1 h2 h3 hx
      rw [set_mid pre a i x hp hia]
      exact ih (i + 1) _ w' (by clear hv ih; omega) (by simp [hp]) (hd.snoc h0 h1) h2 h3 (hvs x w' hx)
    clear hv hvs ih hge
    generalize pre ++ a.drop i = o at hlen hrd go ⊢
    by_cases h1 : (i : Int) < (b.length : Int)
    · have hbr : rd b (i : Int) = dg b i := by simp [dg]; omega
      by_cases h2 : dg a i - w - dg b i < 0
      · refine Gives.step (f := fun k => spec_magSub.l0 k b (o.set i ((dg a i - w - dg b i + 4294967296) % 4294967296)) 1 (a.length : Int) ((i + 1 : Nat) : Int)) (fun k => ?_) (go _ 1 (by omega) (by omega) (by omega) (by omega) (by omega))
        simp only [spec_magSub.l0]
        rw [if_pos (by omega), if_pos (by omega), if_pos (by omega), if_pos h1, hrd, hbr, w64 (x := dg a i) (by omega) (by omega), w64 (x := dg b i) (by omega) (by omega), w64 (x := dg a i - w) (by omega) (by omega), w64 (x := dg a i - w - dg b i) (by omega) (by omega), if_pos h2, w64 (by omega) (by omega), hw, Int.toNat_natCast]
      · refine Gives.step (f := fun k => spec_magSub.l0 k b (o.set i ((dg a i - w - dg b i) % 4294967296)) 0 (a.length : Int) ((i + 1 : Nat) : Int)) (fun k => ?_) (go _ 0 (by omega) (by omega) (by omega) (by omega) (by omega))
        simp only [spec_magSub.l0]
        rw [if_pos (by omega), if_pos (by omega), if_pos (by omega), if_pos h1, hrd, hbr, w64 (x := dg a i) (by omega) (by omega), w64 (x := dg b i) (by omega) (by omega), w64 (x := dg a i - w) (by omega) (by omega), w64 (x := dg a i - w - dg b i) (by omega) (by omega), if_neg h2, hw, Int.toNat_natCast]
    · have hbr : dg b i = 0 := by simp [dg]; omega
      by_cases h2 : dg a i - w < 0
      · refine Gives.step (f := fun k => spec_magSub.l0 k b (o.set i ((dg a i - w + 4294967296) % 4294967296)) 1 (a.length : Int) ((i + 1 : Nat) : Int)) (fun k => ?_) (go _ 1 (by omega) (by omega) (by omega) (by omega) (by omega))
        simp only [spec_magSub.l0]
        rw [if_pos (by omega), if_pos (by omega), if_pos (by omega), if_neg h1, hrd, w64 (x := dg a i) (by omega) (by omega), w64 (x := dg a i - w) (by omega) (by omega), if_pos h2, w64 (by omega) (by omega), hw, Int.toNat_natCast]
      · refine Gives.step (f := fun k => spec_magSub.l0 k b (o.set i ((dg a i - w) % 4294967296)) 0 (a.length : Int) ((i + 1 : Nat) : Int)) (fun k => ?_) (go _ 0 (by omega) (by omega) (by omega) (by omega) (by omega))
        simp only [spec_magSub.l0]
        rw [if_pos (by omega), if_pos (by omega), if_pos (by omega), if_neg h1, hrd, w64 (x := dg a i) (by omega) (by omega), w64 (x := dg a i - w) (by omega) (by omega), if_neg h2, hw, Int.toNat_natCast]
theorem magSub_is {a b : List Int} (ha : Dig a) (hb : Dig b) (nb : Nrm b) (hla : a.length ≤ 1000000) (hge : val b ≤ val a) : Gives (fun k => spec_magSub.f k a b) (fun r => val r = val a - val b ∧ Dig r ∧ Nrm r ∧ r.length ≤ a.length) := by
  have hlb : b.length ≤ a.length := len_bd hb nb (Int.lt_of_le_of_lt hge (val_lt ha))
  unfold spec_magSub.f
  refine Gives.congr (fun k => by rw [Option.bind_some, if_pos (by simp; omega), Option.bind_some, List.nil_append]) ?_
  exact magSub_ok a b ha hb hla hlb hge a.length 0 [] 0 (by omega) rfl Dig.nil (by omega) (by omega) (by simp [val])

/-! ### signed sums and differences -/
theorem WideAdd_is {a b : Bool × List Int} (ha : Wf a) (hb : Wf b) (hla : a.2.length ≤ 100000) (hlb : b.2.length ≤ 100000) : Gives (fun k => spec_WideAdd.f k a.1 a.2 b.1 b.2) (fun r => num r = num a + num b ∧ Wf r ∧ r.2.length ≤ max a.2.length b.2.length + 1) := by
  have pA : num a = if a.1 = true then -val a.2 else val a.2 := rfl
  have pB : num b = if b.1 = true then -val b.2 else val b.2 := rfl
  unfold spec_WideAdd.f
  by_cases hs : (a.1 == b.1) = true
  · refine Gives.congr (fun k => if_pos hs) ?_
    refine Gives.bind (magAdd_is ha.dig hb.dig (by omega) (by omega)) fun t ht => ?_
    refine (bind_pair (wide_is a.1 (by omega) ht.2.1)).mono fun r hr => ⟨?_, hr.2.1, by omega⟩
    have e : a.1 = b.1 := by simpa using hs
    rw [hr.1, pA, pB, ← e, ht.1]
    split <;> omega
  · refine Gives.congr (fun k => if_neg hs) ?_
    have e : a.1 = !b.1 := by
      cases h1 : a.1 <;> cases h2 : b.1 <;> simp_all
    refine Gives.bind (magCmp_is ha.dig hb.dig ha.nrm hb.nrm (by omega)) fun t ht => ?_
    by_cases h : t ≥ 0
    · refine Gives.congr (fun k => if_pos h) ?_
      refine Gives.bind (magSub_is ha.dig hb.dig hb.nrm (by omega) (by omega)) fun t ht => ?_
      refine (bind_pair (wide_is a.1 (by omega) ht.2.1)).mono fun r hr => ⟨?_, hr.2.1, by omega⟩
      rw [hr.1, pA, pB, ht.1, e]
      cases b.1 <;> simp <;> omega
    · refine Gives.congr (fun k => if_neg h) ?_
      refine Gives.bind (magSub_is hb.dig ha.dig ha.nrm (by omega) (by omega)) fun t ht => ?_
      refine (bind_pair (wide_is b.1 (by omega) ht.2.1)).mono fun r hr => ⟨?_, hr.2.1, by omega⟩
      rw [hr.1, pA, pB, ht.1, e]
      cases b.1 <;> simp <;> omega
theorem WideSub_is {a b : Bool × List Int} (ha : Wf a) (hb : Wf b) (hla : a.2.length ≤ 100000) (hlb : b.2.length ≤ 100000) : Gives (fun k => spec_WideSub.f k a.1 a.2 b.1 b.2) (fun r => num r = num a - num b ∧ Wf r ∧ r.2.length ≤ max a.2.length b.2.length + 1) := by
  unfold spec_WideSub.f
  refine Gives.bind (Negated_is hb (by omega)) fun t ht => ?_
  refine (bind_pair (WideAdd_is ha ht.2.1 hla (by omega))).mono fun r hr => ⟨?_, hr.2.1, by omega⟩
  rw [hr.1, ht.1]; omega
theorem pow2_32 (m : Nat) : (2 : Int) ^ (32 * m) = 4294967296 ^ m := by
  rw [Int.pow_mul]
  rfl
theorem pow2_le {m n : Nat} (h : m ≤ n) : (2 : Int) ^ m ≤ 2 ^ n := by
  obtain ⟨d, rfl⟩ := Nat.exists_eq_add_of_le h
  rw [Int.pow_add]
  have h1 : (0 : Int) < 2 ^ m := Int.pow_pos (by omega)
  have h2 : (0 : Int) < 2 ^ d := Int.pow_pos (by omega)
  have : (2 : Int) ^ m * 1 ≤ 2 ^ m * 2 ^ d := Int.mul_le_mul_of_nonneg_left (by omega) (by omega)
  omega
theorem bounds_signed (n : Nat) (h0 : 1 ≤ n) (h1 : n ≤ 1000) : Gives (fun k => laws_bounds.f k (n : Int) true) (fun r => num (r.1, r.2.1) = -2 ^ (n - 1) ∧ Wf (r.1, r.2.1) ∧ r.2.1.length ≤ 100 ∧ num (r.2.2.1, r.2.2.2) = 2 ^ (n - 1) - 1 ∧ Wf (r.2.2.1, r.2.2.2) ∧ r.2.2.2.length ≤ 100) := by
  have hw : wrap64 ((n : Int) - 1) = ((n - 1 : Nat) : Int) := by rw [w64 (by omega) (by omega)]; omega
  unfold laws_bounds.f
  rw [hw]
  refine Gives.congr (fun k => if_pos rfl) ?_
  refine Gives.bind (Two_is (n - 1) (by omega)) fun a ha => ?_
  refine Gives.bind (Negated_is ha.2.1 (by omega)) fun b hb => ?_
  refine Gives.bind (Two_is (n - 1) (by omega)) fun c hc => ?_
  refine Gives.bind (WideInt_is (a := 1) (by omega) (by omega)) fun d hd => ?_
  refine Gives.bind (WideSub_is hc.2.1 hd.2.1 (by omega) (by omega)) fun e he => Gives.now _ ?_
  exact ⟨by rw [show ((b.1, b.2) : Bool × List Int) = b from rfl, hb.1, ha.1], hb.2.1, by simp only; omega, by rw [show ((e.1, e.2) : Bool × List Int) = e from rfl, he.1, hc.1, hd.1], he.2.1, by simp only; omega⟩
theorem bounds_unsigned (n : Nat) (h1 : n ≤ 1000) : Gives (fun k => laws_bounds.f k (n : Int) false) (fun r => num (r.1, r.2.1) = 0 ∧ Wf (r.1, r.2.1) ∧ r.2.1.length ≤ 100 ∧ num (r.2.2.1, r.2.2.2) = 2 ^ n - 1 ∧ Wf (r.2.2.1, r.2.2.2) ∧ r.2.2.2.length ≤ 100) := by
  unfold laws_bounds.f
  refine Gives.congr (fun k => if_neg (by simp)) ?_
  refine Gives.bind (Two_is n (by omega)) fun c hc => ?_
  refine Gives.bind (WideInt_is (a := 1) (by omega) (by omega)) fun d hd => ?_
  refine Gives.bind (WideSub_is hc.2.1 hd.2.1 (by omega) (by omega)) fun e he => Gives.now _ ?_
  exact ⟨rfl, ⟨Dig.nil, fun h => absurd rfl h, by simp⟩, by simp, by rw [show ((e.1, e.2) : Bool × List Int) = e from rfl, he.1, hc.1, hd.1], he.2.1, by simp only; omega⟩

/-! ### quotients, bit by bit -/
theorem val_set (l : List Int) (j : Nat) (v : Int) (h : j < l.length) : val (l.set j v) = val l + 4294967296 ^ j * (v - rd l (j : Int)) := by
  induction l generalizing j with
  | nil => simp at h
  | cons x r ih =>
    cases j with
    | zero => simp [val, rd]; omega
    | succ j =>
      have := ih j (by simpa using h)
      have e : rd (x :: r) ((j + 1 : Nat) : Int) = rd r (j : Int) := by simp [rd]
      rw [List.set_cons_succ, val, this, e, val, Int.pow_succ]
      generalize (4294967296 : Int) ^ j = p
      grind
theorem digit_is {l : List Int} (hd : Dig l) (j : Nat) : val l / 4294967296 ^ j % 4294967296 = dg l j := by
  have hb := dg_bd hd j
  have h1 := val_lt (hd.take j)
  have h2 := val_nonneg (hd.take j)
  have hp := pow_pos' j
  have e : val l = val (l.take j) + 4294967296 ^ j * val (l.drop j) := by
    by_cases h : j ≤ l.length
    · exact val_take_drop l j h
    · rw [List.take_of_length_le (by omega), List.drop_eq_nil_of_le (by omega)]; simp [val]
  have hlt : val (l.take j) < 4294967296 ^ j := Int.lt_of_lt_of_le h1 (pow_mono (by simp; omega))
  rw [e, Int.add_mul_ediv_left _ _ (by omega), Int.ediv_eq_zero_of_lt h2 hlt, val_drop l j]
  omega
theorem two32 (i : Nat) : (2 : Int) ^ i = 4294967296 ^ (i / 32) * 2 ^ (i % 32) := by
  rw [← pow2_32, ← Int.pow_add, Nat.div_add_mod]
theorem small_pow (j : Nat) (h : j < 32) : (1 : Int) ≤ 2 ^ j ∧ (2 : Int) ^ j * 2 ≤ 4294967296 := by
  have hh : ∀ j : Fin 32, (1 : Int) ≤ 2 ^ j.val ∧ (2 : Int) ^ j.val * 2 ≤ 4294967296 := by decide
  exact hh ⟨j, h⟩
theorem bit_is {l : List Int} (hd : Dig l) (i : Nat) : dg l (i / 32) / 2 ^ (i % 32) % 2 = val l / 2 ^ i % 2 := by
  have hb := dg_bd hd (i / 32)
  obtain ⟨hs, hs2⟩ := small_pow (i % 32) (Nat.mod_lt _ (by omega))
  have hB : (4294967296 : Int) = 2 ^ (i % 32) * (2 * 2 ^ (31 - i % 32)) := by
    have hh : ∀ j : Fin 32, (4294967296 : Int) = 2 ^ j.val * (2 * 2 ^ (31 - j.val)) := by decide
    exact hh ⟨i % 32, Nat.mod_lt _ (by omega)⟩
  rw [two32 i, ← Int.ediv_ediv_of_nonneg (Int.le_of_lt (pow_pos' _)), ← digit_is hd]
  generalize val l / 4294967296 ^ (i / 32) = M
  have e : M = M % 4294967296 + 2 ^ (i % 32) * (2 * (2 ^ (31 - i % 32) * (M / 4294967296))) := by
    have h := Int.emod_add_mul_ediv M 4294967296
    have h2 : 4294967296 * (M / 4294967296) = 2 ^ (i % 32) * (2 * (2 ^ (31 - i % 32) * (M / 4294967296))) := by
      rw [← Int.mul_assoc 2, ← Int.mul_assoc, ← hB]
    omega
  have e2 : M / 2 ^ (i % 32) = M % 4294967296 / 2 ^ (i % 32) + 2 * (2 ^ (31 - i % 32) * (M / 4294967296)) := by
    conv => lhs; rw [e]
    exact Int.add_mul_ediv_left _ _ (by omega)
  omega
/-- One more bit of a number, from above. -/
theorem more_bit (n : Int) (i : Nat) : n / 2 ^ i = 2 * (n / 2 ^ (i + 1)) + n / 2 ^ i % 2 := by
  have h1 : (0 : Int) < 2 ^ i := Int.pow_pos (by omega)
  have : n / 2 ^ (i + 1) = n / 2 ^ i / 2 := by rw [Int.pow_succ, Int.ediv_ediv_of_nonneg (by omega)]
  omega
theorem shr_bit {l : List Int} (hd : Dig l) (i : Nat) : Go.bits .and .u32 (shr .u32 (dg l (i / 32)) ((i % 32 : Nat) : Int)) 1 = val l / 2 ^ i % 2 := by
  have hb := dg_bd hd (i / 32)
  obtain ⟨hs, hs2⟩ := small_pow (i % 32) (Nat.mod_lt _ (by omega))
  have e : shr .u32 (dg l (i / 32)) ((i % 32 : Nat) : Int) = dg l (i / 32) / 2 ^ (i % 32) := by
    unfold shr
    rw [Int.toNat_natCast, Nat.min_eq_left (by simp [IntKind.bits]; omega)]
  rw [e, ← bit_is hd]
  have h0 : 0 ≤ dg l (i / 32) / 2 ^ (i % 32) := Int.ediv_nonneg hb.1 (by omega)
  have h1 : dg l (i / 32) / 2 ^ (i % 32) < 2 ^ 32 := by
    have := Int.ediv_le_self (2 ^ (i % 32)) hb.1
    omega
  exact bits_mask .u32 32 (by decide) (fun n h0 h1 => by rw [IntKind.wrap_u32]; omega) 1 (by decide) _ h0 h1
theorem or_bit {l : List Int} (hd : Dig l) (i : Nat) (h : val l % 2 ^ (i + 1) = 0) : Go.bits .or .u32 (dg l (i / 32)) (shl .u32 1 ((i % 32 : Nat) : Int)) = dg l (i / 32) + 2 ^ (i % 32) ∧ dg l (i / 32) + 2 ^ (i % 32) < 4294967296 := by
  have hb := dg_bd hd (i / 32)
  obtain ⟨hs, hs2⟩ := small_pow (i % 32) (Nat.mod_lt _ (by omega))
  have e : shl .u32 1 ((i % 32 : Nat) : Int) = 2 ^ (i % 32) := by
    have hh : ∀ j : Fin 32, shl .u32 1 ((j.val : Nat) : Int) = 2 ^ j.val := by decide
    exact hh ⟨i % 32, Nat.mod_lt _ (by omega)⟩
  have hz : dg l (i / 32) % 2 ^ (i % 32 + 1) = 0 := by
    obtain ⟨q, hq⟩ := Int.dvd_of_emod_eq_zero h
    have hB : (4294967296 : Int) = 2 ^ (i % 32 + 1) * 2 ^ (31 - i % 32) := by
      have hh : ∀ j : Fin 32, (4294967296 : Int) = 2 ^ (j.val + 1) * 2 ^ (31 - j.val) := by decide
      exact hh ⟨i % 32, Nat.mod_lt _ (by omega)⟩
    have hdig := digit_is hd (i / 32)
    have e1 : val l / 4294967296 ^ (i / 32) = 2 ^ (i % 32 + 1) * q := by
      rw [hq, Int.pow_succ, two32 i, Int.mul_assoc, Int.mul_assoc, ← Int.mul_assoc (2 ^ (i % 32)), ← Int.pow_succ]
      exact Int.mul_ediv_cancel_left _ (by have := pow_pos' (i / 32); omega)
    rw [e1] at hdig
    have h2 : 2 ^ (i % 32 + 1) * q % 4294967296 = 2 ^ (i % 32 + 1) * (q % 2 ^ (31 - i % 32)) := by
      conv => lhs; rw [hB]
      exact Int.mul_emod_mul_of_pos _ _ (Int.pow_pos (by omega))
    rw [← hdig, h2]
    exact Int.mul_emod_right _ _
  have hlt : dg l (i / 32) + 2 ^ (i % 32) < 4294967296 := by
    obtain ⟨q, hq⟩ := Int.dvd_of_emod_eq_zero hz
    have hB : (4294967296 : Int) = 2 ^ (i % 32 + 1) * 2 ^ (31 - i % 32) := by
      have hh : ∀ j : Fin 32, (4294967296 : Int) = 2 ^ (j.val + 1) * 2 ^ (31 - j.val) := by decide
      exact hh ⟨i % 32, Nat.mod_lt _ (by omega)⟩
    have hp : (0 : Int) < 2 ^ (i % 32 + 1) := Int.pow_pos (by omega)
    have hq2 : q < 2 ^ (31 - i % 32) := by
      refine Classical.byContradiction fun hc => ?_
      have := Int.mul_le_mul_of_nonneg_left (show (2 : Int) ^ (31 - i % 32) ≤ q by omega) (Int.le_of_lt hp)
      omega
    have h3 := Int.mul_le_mul_of_nonneg_left (show q + 1 ≤ 2 ^ (31 - i % 32) by omega) (Int.le_of_lt hp)
    rw [Int.mul_add, Int.mul_one, ← hq, ← hB, Int.pow_succ] at h3
    omega
  rw [e]
  refine ⟨bits_join .u32 32 (by decide) (fun n h0 h1 => by rw [IntKind.wrap_u32]; omega) (i % 32 + 1) _ _ hb.1 hz (by omega) (by omega) ?_ (by omega), hlt⟩
  rw [Int.pow_succ]; omega
end Go.Proofs.YtoaibapjnedhlaaGreat.Wn
