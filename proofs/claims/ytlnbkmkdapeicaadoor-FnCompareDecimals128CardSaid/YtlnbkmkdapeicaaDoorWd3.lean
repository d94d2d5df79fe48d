/- The reference's exact integers, second part: differences, products, quotients with their rests, the words of an integer, the bounds of a width, for digits of base 2^32. -/
import Derived.Test.YtlnbkmkdapeicaaDoorWd2
import Derived.Laws.BitsLemmas
namespace Go.Proofs.YtlnbkmkdapeicaaDoor.Wide
open Go.RowKit Go.Proofs.YtlnbkmkdapeicaaDoor.QT Go.Proofs.YtlnbkmkdapeicaaDoorW.PrintWords Go.Proofs.YtlnbkmkdapeicaaDoorW.PrintLast Go.Proofs.YtlnbkmkdapeicaaDoorW.PrintMore

theorem val_take_succ (l : List Int) (i : Nat) : val (l.take (i + 1)) = val (l.take i) + 4294967296 ^ i * dg l i := by
  by_cases h : i < l.length
  · rw [List.take_add_one, List.getElem?_eq_getElem h, Option.toList_some, val_snoc, List.length_take, Nat.min_eq_left (by omega)]
    simp [dg, h, rd_get h]
  · rw [List.take_of_length_le (by omega), List.take_of_length_le (by omega)]
    simp [dg, h]
theorem rd_mid (pre l : List Int) (i : Nat) (hp : pre.length = i) (hi : i < l.length) : rd (pre ++ l.drop i) (i : Int) = dg l i := by
  rw [rd_get (by simp; omega), List.getElem_append_right (by omega)]
  simp [dg, hi, rd_get hi, hp]
theorem set_mid (pre l : List Int) (i : Nat) (x : Int) (hp : pre.length = i) (hi : i < l.length) : (pre ++ l.drop i).set i x = (pre ++ [x]) ++ l.drop (i + 1) := by
  rw [List.set_append_right _ _ (by omega), hp, Nat.sub_self, List.drop_eq_getElem_cons hi, List.set_cons_zero, List.append_assoc]
  rfl
theorem magSub_ok (a b : List Int) (ha : Dig a) (hb : Dig b) (hla : a.length ≤ 1000000) (hlb : b.length ≤ a.length) (hge : val b ≤ val a) (d : Nat) : ∀ (i : Nat) (pre : List Int) (w : Int), i + d = a.length → pre.length = i → Dig pre → 0 ≤ w → w ≤ 1 →
    val pre = val (a.take i) - val (b.take i) + 4294967296 ^ i * w →
    Gives (fun k => spec_magSub.l0 k b (pre ++ a.drop i) w (a.length : Int) (i : Int)) (fun r => val r = val a - val b ∧ Dig r ∧ Nrm r ∧ r.length ≤ a.length) := by
  induction d with
  | zero =>
    intro i pre w hi hp hd hw0 hw1 hv
    obtain rfl : i = a.length := by omega
    have e1 : a.drop a.length = [] := List.drop_eq_nil_of_le (Nat.le_refl _)
    rw [List.take_of_length_le (Nat.le_refl _), List.take_of_length_le hlb] at hv
    have hlt := val_lt hd
    rw [hp] at hlt
    have hw : w = 0 := by
      refine Classical.byContradiction fun hc => ?_
      obtain rfl : w = 1 := by omega
      omega
    subst hw
    rw [e1, List.append_nil]
    refine Gives.step (fun k => by simp only [spec_magSub.l0]; rw [if_neg (by omega)]) ?_
    refine Gives.bind (trim_is (by omega) hd) fun r hr => Gives.now _ ?_
    exact ⟨by rw [hr.1, hv]; simp, hr.2.1, hr.2.2.1, by omega⟩
  | succ d ih =>
    intro i pre w hi hp hd hw0 hw1 hv
    have hA := dg_bd ha i
    have hB := dg_bd hb i
    have hia : i < a.length := by clear hv ih hge; omega
    have hw : wrap64 ((i : Int) + 1) = ((i + 1 : Nat) : Int) := by clear hv ih hge; rw [w64 (by omega) (by omega)]; omega
    have hlen : (pre ++ a.drop i).length = a.length := by clear hv ih hge; simp; omega
    have hrd := rd_mid pre a i hp hia
    have hvs : ∀ (x w' : Int), x - 4294967296 * w' = dg a i - w - dg b i → val (pre ++ [x]) = val (a.take (i + 1)) - val (b.take (i + 1)) + 4294967296 ^ (i + 1) * w' := by
      intro x w' hx
      rw [val_snoc, hp, hv, val_take_succ, val_take_succ, Int.pow_succ]
      have hx2 : x = dg a i - w - dg b i + 4294967296 * w' := by omega
      have e : ∀ p : Int, p * x = p * dg a i - p * w - p * dg b i + p * 4294967296 * w' := fun p => by
        rw [hx2, Int.mul_add, Int.mul_sub, Int.mul_sub, Int.mul_assoc]
      have := e (4294967296 ^ i)
      omega
    have go : ∀ (x w' : Int), 0 ≤ x → x < 4294967296 → 0 ≤ w' → w' ≤ 1 → x - 4294967296 * w' = dg a i - w - dg b i →
        Gives (fun k => spec_magSub.l0 k b ((pre ++ a.drop i).set i x) w' (a.length : Int) ((i + 1 : Nat) : Int)) (fun r => val r = val a - val b ∧ Dig r ∧ Nrm r ∧ r.length ≤ a.length) := by
      intro x w' h0 h1 h2 h3 hx
      rw [set_mid pre a i x hp hia]
      exact ih (i + 1) _ w' (by clear hv ih; omega) (by simp [hp]) (hd.snoc h0 h1) h2 h3 (hvs x w' hx)
    clear hv hvs ih hge
    generalize pre ++ a.drop i = o at hlen hrd go ⊢
    by_cases h1 : (i : Int) < (b.length : Int)
    · have hbr : rd b (i : Int) = dg b i := by simp [dg]; omega
      by_cases h2 : dg a i - w - dg b i < 0
      · refine Gives.step (f := fun k => spec_magSub.l0 k b (o.set i ((dg a i - w - dg b i + 4294967296) % 4294967296)) 1 (a.length : Int) ((i + 1 : Nat) : Int)) (fun k => ?_) (go _ 1 (by omega) (by omega) (by omega) (by omega) (by omega))
        simp only [spec_magSub.l0]
        rw [if_pos (by omega), if_pos (by omega), if_pos (by omega), if_pos h1, hrd, hbr, w64 (x := dg a i) (by omega) (by omega), w64 (x := dg b i) (by omega) (by omega), w64 (x := dg a i - w) (by omega) (by omega), w64 (x := dg a i - w - dg b i) (by omega) (by omega), if_pos h2, w64 (by omega) (by omega), hw, Int.toNat_natCast]
      · refine Gives.step (f := fun k => spec_magSub.l0 k b (o.set i ((dg a i - w - dg b i) % 4294967296)) 0 (a.length : Int) ((i + 1 : Nat) : Int)) (fun k => ?_) (go _ 0 (by omega) (by omega) (by omega) (by omega) (by omega))
        simp only [spec_magSub.l0]
        rw [if_pos (by omega), if_pos (by omega), if_pos (by omega), if_pos h1, hrd, hbr, w64 (x := dg a i) (by omega) (by omega), w64 (x := dg b i) (by omega) (by omega), w64 (x := dg a i - w) (by omega) (by omega), w64 (x := dg a i - w - dg b i) (by omega) (by omega), if_neg h2, hw, Int.toNat_natCast]
    · have hbr : dg b i = 0 := by simp [dg]; omega
      by_cases h2 : dg a i - w < 0
      · refine Gives.step (f := fun k => spec_magSub.l0 k b (o.set i ((dg a i - w + 4294967296) % 4294967296)) 1 (a.length : Int) ((i + 1 : Nat) : Int)) (fun k => ?_) (go _ 1 (by omega) (by omega) (by omega) (by omega) (by omega))
        simp only [spec_magSub.l0]
        rw [if_pos (by omega), if_pos (by omega), if_pos (by omega), if_neg h1, hrd, w64 (x := dg a i) (by omega) (by omega), w64 (x := dg a i - w) (by omega) (by omega), if_pos h2, w64 (by omega) (by omega), hw, Int.toNat_natCast]
      · refine Gives.step (f := fun k => spec_magSub.l0 k b (o.set i ((dg a i - w) % 4294967296)) 0 (a.length : Int) ((i + 1 : Nat) : Int)) (fun k => ?_) (go _ 0 (by omega) (by omega) (by omega) (by omega) (by omega))
        simp only [spec_magSub.l0]
        rw [if_pos (by omega), if_pos (by omega), if_pos (by omega), if_neg h1, hrd, w64 (x := dg a i) (by omega) (by omega), w64 (x := dg a i - w) (by omega) (by omega), if_neg h2, hw, Int.toNat_natCast]
theorem magSub_is {a b : List Int} (ha : Dig a) (hb : Dig b) (nb : Nrm b) (hla : a.length ≤ 1000000) (hge : val b ≤ val a) : Gives (fun k => spec_magSub.f k a b) (fun r => val r = val a - val b ∧ Dig r ∧ Nrm r ∧ r.length ≤ a.length) := by
  have hlb : b.length ≤ a.length := len_bd hb nb (Int.lt_of_le_of_lt hge (val_lt ha))
  unfold spec_magSub.f
  refine Gives.congr (fun k => by rw [Option.bind_some, if_pos (by simp; omega), Option.bind_some, List.nil_append]) ?_
  exact magSub_ok a b ha hb hla hlb hge a.length 0 [] 0 (by omega) rfl Dig.nil (by omega) (by omega) (by simp [val])

/-! ### signed sums and differences -/
theorem WideAdd_is {a b : Bool × List Int} (ha : Wf a) (hb : Wf b) (hla : a.2.length ≤ 100000) (hlb : b.2.length ≤ 100000) : Gives (fun k => spec_WideAdd.f k a.1 a.2 b.1 b.2) (fun r => num r = num a + num b ∧ Wf r ∧ r.2.length ≤ max a.2.length b.2.length + 1) := by
  have pA : num a = if a.1 = true then -val a.2 else val a.2 := rfl
  have pB : num b = if b.1 = true then -val b.2 else val b.2 := rfl
  unfold spec_WideAdd.f
  by_cases hs : (a.1 == b.1) = true
  · refine Gives.congr (fun k => if_pos hs) ?_
    refine Gives.bind (magAdd_is ha.dig hb.dig (by omega) (by omega)) fun t ht => ?_
    refine (bind_pair (wide_is a.1 (by omega) ht.2.1)).mono fun r hr => ⟨?_, hr.2.1, by omega⟩
    have e : a.1 = b.1 := by simpa using hs
    rw [hr.1, pA, pB, ← e, ht.1]
    split <;> omega
  · refine Gives.congr (fun k => if_neg hs) ?_
    have e : a.1 = !b.1 := by
      cases h1 : a.1 <;> cases h2 : b.1 <;> simp_all
    refine Gives.bind (magCmp_is ha.dig hb.dig ha.nrm hb.nrm (by omega)) fun t ht => ?_
    by_cases h : t ≥ 0
    · refine Gives.congr (fun k => if_pos h) ?_
      refine Gives.bind (magSub_is ha.dig hb.dig hb.nrm (by omega) (by omega)) fun t ht => ?_
      refine (bind_pair (wide_is a.1 (by omega) ht.2.1)).mono fun r hr => ⟨?_, hr.2.1, by omega⟩
      rw [hr.1, pA, pB, ht.1, e]
      cases b.1 <;> simp <;> omega
    · refine Gives.congr (fun k => if_neg h) ?_
      refine Gives.bind (magSub_is hb.dig ha.dig ha.nrm (by omega) (by omega)) fun t ht => ?_
      refine (bind_pair (wide_is b.1 (by omega) ht.2.1)).mono fun r hr => ⟨?_, hr.2.1, by omega⟩
      rw [hr.1, pA, pB, ht.1, e]
      cases b.1 <;> simp <;> omega
theorem WideSub_is {a b : Bool × List Int} (ha : Wf a) (hb : Wf b) (hla : a.2.length ≤ 100000) (hlb : b.2.length ≤ 100000) : Gives (fun k => spec_WideSub.f k a.1 a.2 b.1 b.2) (fun r => num r = num a - num b ∧ Wf r ∧ r.2.length ≤ max a.2.length b.2.length + 1) := by
  unfold spec_WideSub.f
  refine Gives.bind (Negated_is hb (by omega)) fun t ht => ?_
  refine (bind_pair (WideAdd_is ha ht.2.1 hla (by omega))).mono fun r hr => ⟨?_, hr.2.1, by omega⟩
  rw [hr.1, ht.1]; omega
end Go.Proofs.YtlnbkmkdapeicaaDoor.Wide
