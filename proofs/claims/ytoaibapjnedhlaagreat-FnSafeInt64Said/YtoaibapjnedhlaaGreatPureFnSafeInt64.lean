/- FnSafeInt64: the least and the greatest int64 that an integer type of eight has as well. The law returns true for every width and sign. -/
import Derived.Test.YtoaibapjnedhlaaGreatWn4
import Derived.Test.YtoaibapjnedhlaaGreatQAllx22
import Derived.OpenShut
namespace Go.Proofs.YtoaibapjnedhlaaGreat.Pure
open Go.RowKit Go.Proofs.YtoaibapjnedhlaaGreat.QAll Go.Proofs.YtoaibapjnedhlaaGreat.Wn Go.Proofs.YtoaibapjnedhlaaGreatW.PrintWords Go.Proofs.YtoaibapjnedhlaaGreatW.PrintLast Go.Proofs.YtoaibapjnedhlaaGreatW.PrintMore
theorem greater_is {a b : Bool × List Int} (ha : Wf a) (hb : Wf b) (hla : a.2.length ≤ 100) (hlb : b.2.length ≤ 100) : Gives (fun k => laws_greater.f k a.1 a.2 b.1 b.2) (fun r => num r = max (num a) (num b) ∧ Wf r ∧ r.2.length ≤ 100) := by
  unfold laws_greater.f
  refine Gives.bind (WideCmp_is ha hb (by omega)) fun t ht => ?_
  unfold Cmp at ht
  by_cases h : t ≥ 0
  · exact Gives.congr (fun k => if_pos h) (Gives.now _ ⟨by show num a = _; omega, ha, hla⟩)
  · exact Gives.congr (fun k => if_neg h) (Gives.now _ ⟨by show num b = _; omega, hb, hlb⟩)
theorem smaller_is {a b : Bool × List Int} (ha : Wf a) (hb : Wf b) (hla : a.2.length ≤ 100) (hlb : b.2.length ≤ 100) : Gives (fun k => laws_smaller.f k a.1 a.2 b.1 b.2) (fun r => num r = min (num a) (num b) ∧ Wf r ∧ r.2.length ≤ 100) := by
  unfold laws_smaller.f
  refine Gives.bind (WideCmp_is ha hb (by omega)) fun t ht => ?_
  unfold Cmp at ht
  by_cases h : t ≤ 0
  · exact Gives.congr (fun k => if_pos h) (Gives.now _ ⟨by show num a = _; omega, ha, hla⟩)
  · exact Gives.congr (fun k => if_neg h) (Gives.now _ ⟨by show num b = _; omega, hb, hlb⟩)
theorem fit {x : Int} (h0 : -9223372036854775808 ≤ x) (h1 : x ≤ 9223372036854775808 - 1) : wrap64 (x % 18446744073709551616) = x := by unfold wrap64; omega
theorem one {n : Int} {s : Bool} {lo hi : Int} {F L : Bool × List Int} (hF : Wf F) (hL : Wf L) (lF : F.2.length ≤ 100) (lL : L.2.length ≤ 100) (nF : num F = -9223372036854775808) (nL : num L = 9223372036854775808 - 1)
    (hb : Gives (fun k => laws_bounds.f k n s) (fun r => num (r.1, r.2.1) = lo ∧ Wf (r.1, r.2.1) ∧ r.2.1.length ≤ 100 ∧ num (r.2.2.1, r.2.2.2) = hi ∧ Wf (r.2.2.1, r.2.2.2) ∧ r.2.2.2.length ≤ 100))
    (hi1 : impl_SafeInt64.f n s = some (max lo (-9223372036854775808), min hi (9223372036854775808 - 1), true)) (hlo : lo ≤ 0) (hhi : 0 ≤ hi) :
    Gives (fun k => laws_FnSafeInt64.j1 k n s true false F.1 F.2 L.1 L.2) (fun a => a = true) := by
  refine Gives.step (fun k => by simp only [laws_FnSafeInt64.j1]; rw [if_neg (by simp)]) ?_
  refine Gives.bind hb fun b hb => ?_
  refine Gives.bind (greater_is (a := (b.1, b.2.1)) hb.2.1 hF hb.2.2.1 lF) fun g hg => ?_
  refine Gives.bind (fitted_is hg.2.1 hF hL (by omega)) fun x hx => ?_
  refine Gives.bind (smaller_is (a := (b.2.2.1, b.2.2.2)) hb.2.2.2.2.1 hL hb.2.2.2.2.2 lL) fun h hh => ?_
  refine Gives.bind (fitted_is hh.2.1 hF hL (by omega)) fun y hy => ?_
  refine Gives.congr (fun k => by rw [hi1, Option.bind_some]) ?_
  rw [hg.1, hb.1, nF] at hx
  rw [hh.1, hb.2.2.2.1, nL] at hy
  subst hx
  subst hy
  refine Gives.congr (f := fun _ => some true) (fun k => ?_) (Gives.now _ rfl)
  simp only [if_true]
  rw [fit (x := max lo (-9223372036854775808)) (by omega) (by omega), fit (x := min hi (9223372036854775808 - 1)) (by omega) (by omega), if_pos rfl, if_pos rfl]
theorem FnSafeInt64 : laws_FnSafeInt64.Pure := by
  intro n s hn
  refine Gives.rounds ?_
  unfold laws_FnSafeInt64.f
  have i0 : impl_SafeInt64.f 64 true = some (-9223372036854775808, 9223372036854775808 - 1, true) := by decide
  refine Gives.congr (fun k => by rw [i0, Option.bind_some]) ?_
  refine Gives.bind (bounds_signed 64 (by omega) (by omega)) fun l hl => ?_
  have p : (2 : Int) ^ (64 - 1) = 9223372036854775808 := by decide
  rw [p] at hl
  refine Gives.bind (fitted_is (a := (l.1, l.2.1)) (lo := (l.1, l.2.1)) (hi := (l.2.2.1, l.2.2.2)) hl.2.1 hl.2.1 hl.2.2.2.2.1 (by have := hl.2.2.1; simp only; omega)) fun x hx => ?_
  refine Gives.bind (fitted_is (a := (l.2.2.1, l.2.2.2)) (lo := (l.1, l.2.1)) (hi := (l.2.2.1, l.2.2.2)) hl.2.2.2.2.1 hl.2.1 hl.2.2.2.2.1 (by have := hl.2.2.2.2.2; simp only; omega)) fun y hy => ?_
  rw [hl.1] at hx
  rw [hl.2.2.2.1] at hy
  subst hx
  subst hy
  refine Gives.congr (f := fun k => laws_FnSafeInt64.j0 k n s true l.1 l.2.1 l.2.2.1 l.2.2.2) (fun k => ?_) ?_
  · simp only [if_true]
    rw [fit (x := -9223372036854775808) (by omega) (by omega), fit (x := 9223372036854775808 - 1) (by omega) (by omega), if_pos rfl]
    simp
  have main : ∀ {lo hi : Int}, Gives (fun k => laws_bounds.f k n s) (fun r => num (r.1, r.2.1) = lo ∧ Wf (r.1, r.2.1) ∧ r.2.1.length ≤ 100 ∧ num (r.2.2.1, r.2.2.2) = hi ∧ Wf (r.2.2.1, r.2.2.2) ∧ r.2.2.2.length ≤ 100) →
      impl_SafeInt64.f n s = some (max lo (-9223372036854775808), min hi (9223372036854775808 - 1), true) → lo ≤ 0 → 0 ≤ hi → Gives (fun k => laws_FnSafeInt64.j1 k n s true false l.1 l.2.1 l.2.2.1 l.2.2.2) (fun a => a = true) :=
    fun hb hi1 hlo hhi => one (F := (l.1, l.2.1)) (L := (l.2.2.1, l.2.2.2)) hl.2.1 hl.2.2.2.2.1 hl.2.2.1 hl.2.2.2.2.2 hl.1 hl.2.2.2.1 hb hi1 hlo hhi
  refine Gives.step (fun k => by simp only [laws_FnSafeInt64.j0]; rfl) ?_
  by_cases h8 : n = 8
  · refine Gives.congr (fun k => if_pos h8) ?_
    subst h8
    cases s with
    | true => exact main (bounds_signed 8 (by omega) (by omega)) (by decide) (by decide) (by decide)
    | false => exact main (bounds_unsigned 8 (by omega)) (by decide) (by decide) (by decide)
  refine Gives.congr (fun k => if_neg h8) ?_
  by_cases h16 : n = 16
  · refine Gives.congr (fun k => if_pos h16) ?_
    subst h16
    cases s with
    | true => exact main (bounds_signed 16 (by omega) (by omega)) (by decide) (by decide) (by decide)
    | false => exact main (bounds_unsigned 16 (by omega)) (by decide) (by decide) (by decide)
  refine Gives.congr (fun k => if_neg h16) ?_
  by_cases h32 : n = 32
  · refine Gives.congr (fun k => if_pos h32) ?_
    subst h32
    cases s with
    | true => exact main (bounds_signed 32 (by omega) (by omega)) (by decide) (by decide) (by decide)
    | false => exact main (bounds_unsigned 32 (by omega)) (by decide) (by decide) (by decide)
  refine Gives.congr (fun k => if_neg h32) ?_
  by_cases h64 : n = 64
  · subst h64
    rw [show ((64 : Int) != 64) = false from rfl]
    cases s with
    | true => exact main (bounds_signed 64 (by omega) (by omega)) (by decide) (by decide) (by decide)
    | false => exact main (bounds_unsigned 64 (by omega)) (by decide) (by decide) (by decide)
  · rw [show (n != 64) = true from by simpa using h64]
    exact Gives.step (fun k => by simp only [laws_FnSafeInt64.j1]; rfl) (Gives.now _ rfl)
end Go.Proofs.YtoaibapjnedhlaaGreat.Pure
