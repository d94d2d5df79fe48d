/- The reference's exact integers, sixth part: a quotient that is rounded in a mode. -/
import Derived.Test.YtelpdndlmhcdoaaWr4
import Derived.Test.YtelpdndlmhcdoaaQRx1
import Derived.Test.YtelpdndlmhcdoaaQRx2
import Derived.Test.YtelpdndlmhcdoaaQRx3
import Derived.Test.YtelpdndlmhcdoaaQRx4
import Derived.Test.YtelpdndlmhcdoaaQRx5
import Derived.Test.YtelpdndlmhcdoaaQRx6
import Derived.Test.YtelpdndlmhcdoaaQRx7
import Derived.Test.YtelpdndlmhcdoaaQRx8
namespace Go.Proofs.Ytelpdndlmhcdoaa.Wr
open Go.RowKit Go.Proofs.Ytelpdndlmhcdoaa.QR Go.Proofs.YtelpdndlmhcdoaaW.PrintWords Go.Proofs.YtelpdndlmhcdoaaW.PrintLast Go.Proofs.YtelpdndlmhcdoaaW.PrintMore
def hlf (x b : Int) : Int := if x < b then -1 else if x = b then 0 else 1
def upw (m h : Int) (e n : Bool) : Bool := (spec_upper.f m h e n).getD false
theorem upw_some (m h : Int) (e n : Bool) : spec_upper.f m h e n = some (upw m h e n) := by
  unfold upw spec_upper.f
  repeat' (first | rfl | split)
theorem upw_0 (h : Int) (e n : Bool) : upw 0 h e n = false := rfl
theorem upw_1 (h : Int) (e n : Bool) : upw 1 h e n = true := rfl
theorem upw_4 (h : Int) (e n : Bool) : upw 4 h e n = decide (0 < h) := by
  unfold upw spec_upper.f
  by_cases hh : h = 0
  · subst hh; rfl
  · simp [hh]
theorem upw_5 (h : Int) (e n : Bool) : upw 5 h e n = decide (0 ≤ h) := by
  unfold upw spec_upper.f
  by_cases hh : h = 0
  · subst hh; rfl
  · simp [hh]; omega
theorem upw_8 (h : Int) (e n : Bool) : upw 8 h e n = if h = 0 then !e else decide (0 < h) := by
  unfold upw spec_upper.f
  by_cases hh : h = 0
  · subst hh; rfl
  · simp [hh]
theorem hlf_pos (x b : Int) : 0 < hlf x b ↔ b < x := by unfold hlf; split <;> (try split) <;> omega
theorem hlf_nn (x b : Int) : 0 ≤ hlf x b ↔ b ≤ x := by unfold hlf; split <;> (try split) <;> omega
theorem hlf_z (x b : Int) : hlf x b = 0 ↔ x = b := by unfold hlf; split <;> (try split) <;> omega
/-- The quotient of two integers, the second above zero, rounded in a mode. -/
def rnd (a b m : Int) : Int := if a % b = 0 then a / b else if upw m (hlf (2 * (a % b)) b) (decide (a / b % 2 = 0)) (decide (a < 0)) = true then a / b + 1 else a / b
theorem Sign_is {a : Bool × List Int} (ha : Wf a) : spec_Wide_Sign.f a.1 a.2 = some (if num a < 0 then -1 else if num a = 0 then 0 else 1) := by
  unfold spec_Wide_Sign.f
  by_cases h : a.1 = true
  · rw [if_pos h, if_pos (ha.neg_lt.1 h)]
  · rw [if_neg h, if_neg (fun hc => h (ha.neg_lt.2 hc))]
    have e : num a = val a.2 := if_neg h
    have z := val_zero ha.dig ha.nrm
    by_cases h0 : a.2 = []
    · rw [if_pos (by rw [h0]; rfl), if_pos (by rw [e]; exact z.2 h0)]
    · rw [if_neg (fun hc => h0 (List.eq_nil_of_length_eq_zero (by omega))), if_neg (by rw [e]; exact fun hc => h0 (z.1 hc))]
theorem and_one {x : Int} (h0 : 0 ≤ x) (h1 : x < 4294967296) : Go.bits .and .u32 x 1 = x % 2 :=
  bits_mask .u32 32 (by decide) (fun n h0 h1 => by rw [IntKind.wrap_u32]; omega) 1 (by decide) x h0 h1
theorem even_is {a : Bool × List Int} (ha : Wf a) (hne : 0 < a.2.length) : (Go.bits .and .u32 (rd a.2 0) 1 == 0) = decide (num a % 2 = 0) := by
  have hb : 0 ≤ rd a.2 0 ∧ rd a.2 0 < 4294967296 := rd_bd ha.dig hne
  have h1 := bit_is ha.dig 0
  have h2 : dg a.2 0 = rd a.2 (0 : Int) := by unfold dg; rw [if_pos hne]; rfl
  rw [and_one hb.1 hb.2]
  simp only [Nat.zero_div, Nat.zero_mod, Int.pow_zero, Int.ediv_one, h2] at h1
  rw [h1]
  have e : val a.2 % 2 = 0 ↔ num a % 2 = 0 := by unfold num; split <;> omega
  rw [Bool.eq_iff_iff]
  simp [e]
theorem divs {v b : Int} (hb : 0 < b) : v = v.tdiv b * b + v.tmod b ∧ -b < v.tmod b ∧ v.tmod b < b ∧ (0 ≤ v → 0 ≤ v.tmod b) ∧ (v ≤ 0 → v.tmod b ≤ 0) := by
  have h1 := Int.tdiv_mul_add_tmod v b
  have h2 := Int.tmod_lt_of_pos v hb
  have h3 := Int.tmod_lt_of_pos (-v) hb
  rw [Int.neg_tmod] at h3
  refine ⟨h1.symm, by omega, h2, fun h => Int.tmod_nonneg _ h, fun h => ?_⟩
  have := Int.tmod_nonneg b (a := -v) (by omega)
  rw [Int.neg_tmod] at this
  omega
theorem floor_pos {v b : Int} (hb : 0 < b) (hr : 0 ≤ v.tmod b) : v / b = v.tdiv b ∧ v % b = v.tmod b := by
  have h := divs (v := v) hb
  exact div_end hb (by omega) hr h.2.2.1
theorem floor_neg {v b : Int} (hb : 0 < b) (hr : v.tmod b < 0) : v / b = v.tdiv b - 1 ∧ v % b = v.tmod b + b := by
  have h := divs (v := v) hb
  refine div_end hb ?_ (by omega) (by omega)
  rw [Int.sub_mul]; omega
theorem RoundWide_is {a b : Bool × List Int} (ha : Wf a) (hb : Wf b) (hla : a.2.length ≤ 100) (hlb : b.2.length ≤ 100) (hpos : 0 < num b) (m : Int) :
    Gives (fun k => spec_RoundWide.f k a.1 a.2 b.1 b.2 m) (fun r => num r = rnd (num a) (num b) m ∧ Wf r ∧ r.2.length ≤ 102) := by
  have nb : ¬ b.1 = true := fun h => by have := hb.neg_lt.1 h; omega
  have eb : num b = val b.2 := if_neg nb
  have na := ha.neg_lt
  have aa := ha.abs
  have av := val_nonneg ha.dig
  unfold spec_RoundWide.f
  refine Gives.bind (WideDiv_is ha hb (by omega) (by omega) (by omega)) fun d hd => ?_
  have hq : num (d.1, d.2.1) = (num a).tdiv (num b) := by
    rw [hd.1, eb]
    by_cases h : a.1 = true
    · have : num a = -val a.2 := if_pos h
      rw [this, Int.neg_tdiv, Int.tdiv_eq_ediv_of_nonneg av, if_pos (by rw [h]; simpa using nb)]
    · have : num a = val a.2 := if_neg h
      rw [this, Int.tdiv_eq_ediv_of_nonneg av, if_neg (by rw [Bool.eq_false_iff.2 h, Bool.eq_false_iff.2 nb]; decide)]
  have hr : num (d.2.2.1, d.2.2.2) = (num a).tmod (num b) := by
    rw [hd.2.2.2.1, eb]
    by_cases h : a.1 = true
    · have : num a = -val a.2 := if_pos h
      rw [this, Int.neg_tmod, Int.tmod_eq_emod_of_nonneg av, if_pos h]
    · have : num a = val a.2 := if_neg h
      rw [this, Int.tmod_eq_emod_of_nonneg av, if_neg h]
  have hwq := hd.2.1
  have hwr := hd.2.2.2.2.1
  have sg := Sign_is hwr
  have hl1 := hd.2.2.1
  have hl2 := hd.2.2.2.2.2
  refine Gives.congr (fun k => by rw [sg, Option.bind_some]) ?_
  have tail : ∀ lo re : Bool × List Int, Wf lo → Wf re → lo.2.length ≤ 101 → re.2.length ≤ 101 → num lo = num a / num b → num re = num a % num b → num a % num b ≠ 0 →
      Gives (fun k => spec_RoundWide.j0 k m a.1 a.2 b.1 b.2 lo.1 lo.2 re.1 re.2) (fun r => num r = rnd (num a) (num b) m ∧ Wf r ∧ r.2.length ≤ 102) := by
    intro lo re hlo hre l1 l2 n1 n2 hne
    refine Gives.step (fun k => by simp only [spec_RoundWide.j0]; rfl) ?_
    refine Gives.bind (WideAdd_is hre hre (by omega) (by omega)) fun t ht => ?_
    refine Gives.bind (WideCmp_is ht.2.1 hb (by omega)) fun c hc => ?_
    have hh : c = hlf (2 * (num a % num b)) (num b) := by
      rw [ht.1, n2] at hc
      unfold Cmp at hc
      unfold hlf
      split <;> (try split) <;> omega
    have low : Gives (fun k => spec_RoundWide.j1 k m c (decide (num lo % 2 = 0)) a.1 a.2 lo.1 lo.2) (fun r => num r = rnd (num a) (num b) m ∧ Wf r ∧ r.2.length ≤ 102) := by
      have ea : a.1 = decide (num a < 0) := by rw [Bool.eq_iff_iff, na]; simp
      refine Gives.step (fun k => by simp only [spec_RoundWide.j1]; rfl) ?_
      refine Gives.congr (fun k => by rw [upw_some, Option.bind_some]) ?_
      unfold rnd
      rw [if_neg hne, ← n1, ← hh, ← ea]
      by_cases hu : upw m c (decide (num lo % 2 = 0)) a.1 = true
      · rw [if_pos hu]
        refine Gives.congr (fun k => if_pos hu) ?_
        refine Gives.bind (WideInt_is (a := 1) (by omega) (by omega)) fun o ho => ?_
        refine (bind_pair (WideAdd_is hlo ho.2.1 (by omega) (by omega))).mono fun r hr => ⟨?_, hr.2.1, by omega⟩
        rw [hr.1, ho.1]
      · rw [if_neg hu]
        refine Gives.congr (fun k => if_neg hu) (Gives.now _ ⟨rfl, hlo, by simp only; omega⟩)
    by_cases h0 : lo.2.length = 0
    · have z : num lo = 0 := by
        have := List.eq_nil_of_length_eq_zero h0
        unfold num
        rw [this]; split <;> rfl
      refine Gives.congr (fun k => if_pos (by omega)) ?_
      rw [z] at low
      exact low
    · refine Gives.congr (fun k => by rw [if_neg (by omega), if_pos (by omega), even_is hlo (by omega)]) low
  rw [hr]
  by_cases h0 : (num a).tmod (num b) = 0
  · have f := floor_pos (v := num a) hpos (by omega)
    refine Gives.congr (fun k => if_pos (by rw [if_neg (by omega), if_pos h0])) (Gives.now _ ⟨?_, hwq, by simp only; omega⟩)
    rw [hq]
    unfold rnd
    rw [if_pos (by rw [f.2]; exact h0), f.1]
  · by_cases h1 : (num a).tmod (num b) < 0
    · have f := floor_neg (v := num a) hpos h1
      refine Gives.congr (fun k => if_neg (by rw [if_pos h1]; omega)) ?_
      refine Gives.congr (fun k => if_pos (by rw [if_pos h1]; omega)) ?_
      refine Gives.bind (WideInt_is (a := 1) (by omega) (by omega)) fun o ho => ?_
      refine Gives.bind (WideSub_is hwq ho.2.1 (by simp only; omega) (by omega)) fun lo hlo => ?_
      refine Gives.bind (WideAdd_is hwr hb (by omega) (by omega)) fun re hre => ?_
      have := divs (v := num a) hpos
      refine tail lo re hlo.2.1 hre.2.1 (by have := hlo.2.2; simp only at this; omega) (by have := hre.2.2; omega) (by rw [hlo.1, hq, ho.1, f.1]) (by rw [hre.1, hr, f.2]) (by rw [f.2]; omega)
    · have f := floor_pos (v := num a) hpos (by omega)
      refine Gives.congr (fun k => if_neg (by rw [if_neg h1, if_neg h0]; omega)) ?_
      refine Gives.congr (fun k => if_neg (by rw [if_neg h1, if_neg h0]; omega)) ?_
      exact tail (d.1, d.2.1) (d.2.2.1, d.2.2.2) hwq hwr (by simp only; omega) (by simp only; omega) (by rw [hq, f.1]) (by rw [hr, f.2]) (by rw [f.2]; exact h0)
end Go.Proofs.Ytelpdndlmhcdoaa.Wr
