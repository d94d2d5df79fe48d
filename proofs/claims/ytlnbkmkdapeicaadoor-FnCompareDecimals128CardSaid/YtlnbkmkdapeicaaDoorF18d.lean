/- The reference compares decimals of two words as the integers that they are. -/
import Derived.Test.YtlnbkmkdapeicaaDoorWd3
import Derived.Test.YtlnbkmkdapeicaaDoorF8a
namespace Go.Proofs.YtlnbkmkdapeicaaDoor.QR
open Go.RowKit Go.Proofs.YtlnbkmkdapeicaaDoor.Wide Go.Proofs.YtlnbkmkdapeicaaDoorW.PrintWords Go.Proofs.YtlnbkmkdapeicaaDoorW.PrintLast Go.Proofs.YtlnbkmkdapeicaaDoorW.PrintMore
set_option linter.unusedVariables false
set_option linter.unusedSimpArgs false
/-- Four digits of two words. -/
def dg4 (lo hi : Int) : List Int := [lo % 4294967296, (lo / 4294967296) % 4294967296, hi % 4294967296, (hi / 4294967296) % 4294967296]
theorem dg4_dig (lo hi : Int) : Dig (dg4 lo hi) := by
  intro x hx
  simp [dg4] at hx
  rcases hx with rfl | rfl | rfl | rfl <;> omega
theorem dg4_val {lo hi : Int} (h0 : 0 ≤ lo ∧ lo < 18446744073709551616) (h1 : 0 ≤ hi ∧ hi < 18446744073709551616) : val (dg4 lo hi) = lo + 18446744073709551616 * hi := by
  simp only [val, dg4]
  omega
theorem words_is {lo hi : Int} (h0 : 0 ≤ lo ∧ lo < 18446744073709551616) (h1 : 0 ≤ hi ∧ hi < 18446744073709551616) :
    Gives (fun k => QT.spec_FromWords.f k [lo, hi]) (fun r => num r = lo + 18446744073709551616 * IntKind.i64.wrap hi ∧ Wf r ∧ r.2.length ≤ 10) := by
  have hw : IntKind.i64.wrap hi = if hi < 9223372036854775808 then hi else hi - 18446744073709551616 := by
    rw [IntKind.wrap_i64]
    split <;> omega
  unfold QT.spec_FromWords.f
  refine Gives.step (f := fun k => QT.spec_FromWords.l0 k [lo, hi] [lo % 4294967296, (lo / 4294967296) % 4294967296] [lo, hi] 2 1) (fun k => by simp [QT.spec_FromWords.l0, rd, wrap64]) ?_
  refine Gives.step (f := fun k => QT.spec_FromWords.l0 k [lo, hi] (dg4 lo hi) [lo, hi] 2 2) (fun k => by simp [QT.spec_FromWords.l0, rd, wrap64, dg4]) ?_
  refine Gives.step (f := fun k => (QT.spec_wide.f k false (dg4 lo hi)).bind fun bt => QT.spec_FromWords.j1 k [lo, hi] (hi / 9223372036854775808 == 1) bt.1 bt.2) (fun k => by simp [QT.spec_FromWords.l0, rd, wrap64]) ?_
  refine Gives.bind (wide_is false (by simp [dg4]) (dg4_dig lo hi)) fun a ha => ?_
  obtain ⟨hn, hf, hl⟩ := ha
  rw [if_neg (by decide), dg4_val h0 h1] at hn
  have hl4 : a.2.length ≤ 4 := hl
  by_cases hs : hi < 9223372036854775808
  · have e : (hi / 9223372036854775808 == 1) = false := by simp; omega
    rw [e]
    refine Gives.step (f := fun _ => some (a.1, a.2)) (fun k => by simp [QT.spec_FromWords.j1]) ?_
    refine Gives.now _ ⟨?_, hf, Nat.le_trans hl4 (by decide)⟩
    rw [hw, if_pos hs]
    exact hn
  · have e : (hi / 9223372036854775808 == 1) = true := by simp; omega
    rw [e]
    refine Gives.step (f := fun k => (QT.spec_Two.f k ((128 : Nat) : Int)).bind fun bt229 => ((QT.spec_WideSub.f k a.1 a.2 bt229.1 bt229.2).bind fun bt233 => (some (bt233.1, bt233.2)))) (fun k => by simp [QT.spec_FromWords.j1, wrap64]) ?_
    refine Gives.bind (Two_is 128 (by omega)) fun b hb => ?_
    obtain ⟨hb1, hb2, hb3⟩ := hb
    refine (bind_pair (WideSub_is hf hb2 (by omega) (by omega))).mono fun r hr => ?_
    obtain ⟨r1, r2, r3⟩ := hr
    refine ⟨?_, r2, by omega⟩
    rw [r1, hn, hb1, hw, if_neg hs]
    omega
/-- The integer that a decimal is. -/
def numD (x : Dc) : Int := x.1 + 18446744073709551616 * x.2
/-- The order of decimals. -/
def ordD (a b : Dc) : Int := if ltD a b then -1 else if ltD b a then 1 else 0
theorem ltD_num {a b : Dc} (ha : 0 ≤ a.1 ∧ a.1 < 18446744073709551616) (hb : 0 ≤ b.1 ∧ b.1 < 18446744073709551616) : ltD a b = decide (numD a < numD b) := by
  unfold ltD numD
  congr 1
  apply propext
  omega
theorem ordD_is {a b : Dc} (ha : 0 ≤ a.1 ∧ a.1 < 18446744073709551616) (hb : 0 ≤ b.1 ∧ b.1 < 18446744073709551616) {r : Int} (h : Cmp (numD a) (numD b) r) : r = ordD a b := by
  unfold ordD
  rw [ltD_num ha hb, ltD_num hb ha]
  rcases h with ⟨h1, rfl⟩ | ⟨h1, rfl⟩ | ⟨h1, rfl⟩
  · simp [h1]
  · simp [h1]
  · have h2 : ¬ numD a < numD b := by omega
    simp [h1, h2]
/-- What a row of two words reads as. -/
theorem from_is {r : List Int} (hl : r.length = 2) (hr : ∀ x ∈ r, 0 ≤ x ∧ x < 18446744073709551616) : ∃ k b m, QT.spec_FromWords.f k r = some (b, m) ∧ num (b, m) = numD (rd r 0, IntKind.i64.wrap (rd r 1)) ∧ Wf (b, m) ∧ m.length ≤ 10 := by
  obtain ⟨lo, hi, rfl⟩ : ∃ lo hi, r = [lo, hi] := by
    match r, hl with
    | [lo, hi], _ => exact ⟨lo, hi, rfl⟩
  obtain ⟨K, ⟨b, m⟩, h1, h2, h3, h4⟩ := words_is (hr lo (by simp)) (hr hi (by simp))
  exact ⟨K, b, m, h1 K (Nat.le_refl _), h2, h3, h4⟩
theorem wcmp_is {b1 b2 : Bool} {m1 m2 : List Int} {x y : Dc} (hx : 0 ≤ x.1 ∧ x.1 < 18446744073709551616) (hy : 0 ≤ y.1 ∧ y.1 < 18446744073709551616) (h1 : num (b1, m1) = numD x) (w1 : Wf (b1, m1)) (l1 : m1.length ≤ 10) (h2 : num (b2, m2) = numD y) (w2 : Wf (b2, m2)) : ∃ k, QT.spec_WideCmp.f k b1 m1 b2 m2 = some (ordD x y) := by
  obtain ⟨K, r, e1, e2⟩ := WideCmp_is w1 w2 (by show m1.length ≤ 1000000; omega)
  refine ⟨K, ?_⟩
  rw [h1, h2] at e2
  rw [← ordD_is hx hy e2]
  exact e1 K (Nat.le_refl _)
/-- All rows fit. -/
theorem fits_is (l : List (List Int)) (hl : l.length ≤ 2147483647) (hr : ∀ r ∈ l, r.length ≤ 2147483647) : ∃ k, QT.laws_zzFits1.f k l = some true := by
  have key : ∀ d i : Nat, i + d = l.length → Gives (fun k => QT.laws_zzFits1.l0 k l (l.length : Int) (i : Int)) (fun r => r = true) := by
    intro d
    induction d with
    | zero =>
      intro i hi
      refine Gives.step (f := fun _ => some true) (fun k => by unfold QT.laws_zzFits1.l0; rw [if_neg (by omega)]) (Gives.now _ rfl)
    | succ d ih =>
      intro i hi
      have hm : QT.rd_L5 l (i : Int) ∈ l := by
        unfold QT.rd_L5
        rw [Int.toNat_natCast, List.getD_eq_getElem?_getD, List.getElem?_eq_getElem (by omega)]
        exact List.getElem_mem _
      have h2 := hr _ hm
      refine Gives.step (f := fun k => QT.laws_zzFits1.l0 k l (l.length : Int) ((i + 1 : Nat) : Int)) (fun k => ?_) (ih (i + 1) (by omega))
      rw [QT.laws_zzFits1.l0, if_pos (by omega), if_pos (by omega), if_pos (by omega), if_neg (by omega), show wrap64 ((i : Int) + 1) = ((i + 1 : Nat) : Int) by unfold wrap64; omega]
  unfold QT.laws_zzFits1.f
  obtain ⟨K, r, e1, rfl⟩ := key l.length 0 (by omega)
  exact ⟨K, (if_neg (by omega)).trans (e1 K (Nat.le_refl _))⟩
end Go.Proofs.YtlnbkmkdapeicaaDoor.QR
