/- FnRoundInt64To: a number that is rounded to a multiple of another one, in a mode. The law returns true for every four arguments. -/
import Derived.Test.YtelpdndlmhcdoaaWr6
import Derived.Test.YtelpdndlmhcdoaaWr5
import Derived.Test.YtelpdndlmhcdoaaQRx9
import Derived.OpenShut
namespace Go.Proofs.Ytelpdndlmhcdoaa.Pure
open Go.RowKit Go.Proofs.Ytelpdndlmhcdoaa.QR Go.Proofs.Ytelpdndlmhcdoaa.Wr Go.Proofs.YtelpdndlmhcdoaaW.PrintWords Go.Proofs.YtelpdndlmhcdoaaW.PrintLast Go.Proofs.YtelpdndlmhcdoaaW.PrintMore

theorem kern_is {v m mode : Int} {s : Bool} (hv : -2305843009213693952 < v) (hv' : v < 2305843009213693952) (hm : 0 < m) (hm' : m < 2305843009213693952)
    (hmode : mode = 0 ∨ mode = 1 ∨ mode = 4 ∨ mode = 5 ∨ mode = 8) (hs : s = true → mode = 1 ∧ v.tmod m ≠ 0) :
    Gives (fun k => QK.kernels_RoundToMultipleInt64.f k v m mode s) (fun r => r = rnd v m mode * m) := by
  have hd := divs (v := v) hm
  generalize hqe : v.tdiv m = q at hd
  generalize hre : v.tmod m = r at hd hs
  have hqb : -2305843009213693952 < q ∧ q < 2305843009213693952 := by
    have := Int.natAbs_tdiv_le_natAbs v m
    rw [hqe] at this; omega
  have wq : wrap64 q = q := w64 (by omega) (by omega)
  have wu : wrap64 (q + 1) = q + 1 := w64 (by omega) (by omega)
  have wd : wrap64 (q - 1) = q - 1 := w64 (by omega) (by omega)
  have xq : wrap64 (q * m) = q * m := w64 (by omega) (by omega)
  have xu : wrap64 ((q + 1) * m) = (q + 1) * m := by rw [Int.add_mul]; exact w64 (by omega) (by omega)
  have xd : wrap64 ((q - 1) * m) = (q - 1) * m := by rw [Int.sub_mul]; exact w64 (by omega) (by omega)
  have wr : wrap64 (-r) = -r := w64 (by omega) (by omega)
  have h2 : m.tdiv 2 = m / 2 := Int.tdiv_eq_ediv_of_nonneg (by omega)
  have wh : wrap64 (m / 2) = m / 2 := w64 (by omega) (by omega)
  have p2 : m.tmod 2 = m % 2 := Int.tmod_eq_emod_of_nonneg (by omega)
  have q2 : q.tmod 2 = 0 ↔ q % 2 = 0 := by rw [Int.tmod_eq_emod]; split <;> omega
  have key : ∀ k, QK.kernels_roundToMultipleInt64.f (k + 5) v m mode s = some (rnd v m mode * m) := by
    intro k
    unfold QK.kernels_roundToMultipleInt64.f
    rw [if_neg (by omega)]
    by_cases h0 : r = 0
    · have hsf : s = false := by cases s with | false => rfl | true => exact absurd h0 (hs rfl).2
      have f := floor_pos (v := v) hm (by omega)
      have e : rnd v m mode = q := by unfold rnd; rw [if_pos (by rw [f.2, hre]; exact h0), f.1, hqe]
      rw [e, hre, h0, hsf]
      simp only [QK.kernels_roundToMultipleInt64.j0]
      simp
      omega
    · have hb : (r == 0) = false := by simpa using h0
      rw [hre, hb]
      by_cases h1 : r < 0
      · have f := floor_neg (v := v) hm (by omega)
        rw [hqe, hre] at f
        rcases hmode with h | h | h | h | h
        · subst h
          have hsf : s = false := by cases s with | false => rfl | true => exact absurd (hs rfl).1 (by omega)
          have e : rnd v m 0 = q - 1 := by unfold rnd; rw [f.1, f.2, if_neg (by omega), upw_0]; simp
          rw [e]
          simp only [QK.kernels_roundToMultipleInt64.j0, hqe, hre, wq, wd, xd]
          simp [h1]; omega
        · subst h
          have e : rnd v m 1 = q := by unfold rnd; rw [f.1, f.2, if_neg (by omega), upw_1]; simp
          rw [e]
          cases s <;> (simp only [QK.kernels_roundToMultipleInt64.j0, QK.kernels_roundToMultipleInt64.j1, hqe, hre, wq, xq]; simp [h1, h0]; omega)
        · subst h
          have hsf : s = false := by cases s with | false => rfl | true => exact absurd (hs rfl).1 (by omega)
          have e : rnd v m 4 = if m < 2 * (r + m) then q else q - 1 := by
            unfold rnd; rw [f.1, f.2, if_neg (by omega), upw_4]; simp only [decide_eq_true_eq, hlf_pos, Int.sub_add_cancel]
          rw [e]
          simp only [QK.kernels_roundToMultipleInt64.j0, QK.kernels_roundToMultipleInt64.j2, QK.kernels_roundToMultipleInt64.j3, QK.kernels_roundToMultipleInt64.j4, hqe, hre, wq, wd, xd, xq, h2, wh, wr, p2]
          simp [h1]
          repeat' split
          all_goals first | rfl | exact ⟨by omega, rfl⟩ | (exfalso; omega)
        · subst h
          have hsf : s = false := by cases s with | false => rfl | true => exact absurd (hs rfl).1 (by omega)
          have e : rnd v m 5 = if m ≤ 2 * (r + m) then q else q - 1 := by
            unfold rnd; rw [f.1, f.2, if_neg (by omega), upw_5]; simp only [decide_eq_true_eq, hlf_nn, Int.sub_add_cancel]
          rw [e]
          simp only [QK.kernels_roundToMultipleInt64.j0, QK.kernels_roundToMultipleInt64.j2, QK.kernels_roundToMultipleInt64.j3, QK.kernels_roundToMultipleInt64.j4, hqe, hre, wq, wd, xd, xq, h2, wh, wr, p2]
          simp [h1]
          repeat' split
          all_goals first | rfl | exact ⟨by omega, rfl⟩ | (exfalso; omega)
        · subst h
          have hsf : s = false := by cases s with | false => rfl | true => exact absurd (hs rfl).1 (by omega)
          have e : rnd v m 8 = if 2 * (r + m) = m then (if q % 2 = 0 then q else q - 1) else if m < 2 * (r + m) then q else q - 1 := by
            unfold rnd; rw [f.1, f.2, if_neg (by omega), upw_8]; simp only [hlf_z, Int.sub_add_cancel]
            by_cases c : 2 * (r + m) = m
            · rw [if_pos c, if_pos c]
              by_cases c2 : q % 2 = 0
              · rw [if_pos c2, if_pos (by simp; omega)]
              · rw [if_neg c2, if_neg (by simp; omega)]
            · rw [if_neg c, if_neg c]; simp only [decide_eq_true_eq, hlf_pos]
          rw [e]
          simp only [QK.kernels_roundToMultipleInt64.j0, QK.kernels_roundToMultipleInt64.j2, QK.kernels_roundToMultipleInt64.j3, QK.kernels_roundToMultipleInt64.j4, hqe, hre, wq, wd, xd, xq, h2, wh, wr, p2, q2]
          simp [h1]
          repeat' split
          all_goals first | rfl | exact ⟨by omega, rfl⟩ | (exfalso; omega)
      · have f := floor_pos (v := v) hm (by omega)
        rw [hqe, hre] at f
        have h3 : 0 < r := by omega
        rcases hmode with h | h | h | h | h
        · subst h
          have hsf : s = false := by cases s with | false => rfl | true => exact absurd (hs rfl).1 (by omega)
          have e : rnd v m 0 = q := by unfold rnd; rw [f.1, f.2, if_neg (by omega), upw_0]; simp
          rw [e]
          simp only [QK.kernels_roundToMultipleInt64.j0, hqe, hre, wq, wd, xq]
          simp [h1]; omega
        · subst h
          have e : rnd v m 1 = q + 1 := by unfold rnd; rw [f.1, f.2, if_neg (by omega), upw_1]; simp
          rw [e]
          cases s <;> (simp only [QK.kernels_roundToMultipleInt64.j0, QK.kernels_roundToMultipleInt64.j1, hqe, hre, wq, wu, xu]; simp [h3]; omega)
        · subst h
          have hsf : s = false := by cases s with | false => rfl | true => exact absurd (hs rfl).1 (by omega)
          have e : rnd v m 4 = if m < 2 * r then q + 1 else q := by
            unfold rnd; rw [f.1, f.2, if_neg (by omega), upw_4]; simp only [decide_eq_true_eq, hlf_pos]
          rw [e]
          simp only [QK.kernels_roundToMultipleInt64.j0, QK.kernels_roundToMultipleInt64.j2, QK.kernels_roundToMultipleInt64.j3, QK.kernels_roundToMultipleInt64.j4, hqe, hre, wq, wu, xu, xq, h2, wh, wr, p2]
          simp [h1, h3]
          repeat' split
          all_goals first | rfl | exact ⟨by omega, rfl⟩ | (exfalso; omega)
        · subst h
          have hsf : s = false := by cases s with | false => rfl | true => exact absurd (hs rfl).1 (by omega)
          have e : rnd v m 5 = if m ≤ 2 * r then q + 1 else q := by
            unfold rnd; rw [f.1, f.2, if_neg (by omega), upw_5]; simp only [decide_eq_true_eq, hlf_nn]
          rw [e]
          simp only [QK.kernels_roundToMultipleInt64.j0, QK.kernels_roundToMultipleInt64.j2, QK.kernels_roundToMultipleInt64.j3, QK.kernels_roundToMultipleInt64.j4, hqe, hre, wq, wu, xu, xq, h2, wh, wr, p2]
          simp [h1, h3]
          repeat' split
          all_goals first | rfl | exact ⟨by omega, rfl⟩ | (exfalso; omega)
        · subst h
          have hsf : s = false := by cases s with | false => rfl | true => exact absurd (hs rfl).1 (by omega)
          have e : rnd v m 8 = if 2 * r = m then (if q % 2 = 0 then q else q + 1) else if m < 2 * r then q + 1 else q := by
            unfold rnd; rw [f.1, f.2, if_neg (by omega), upw_8]; simp only [hlf_z]
            by_cases c : 2 * r = m
            · rw [if_pos c, if_pos c]
              by_cases c2 : q % 2 = 0
              · rw [if_pos c2, if_neg (by simp; omega)]
              · rw [if_neg c2, if_pos (by simp; omega)]
            · rw [if_neg c, if_neg c]; simp only [decide_eq_true_eq, hlf_pos]
          rw [e]
          simp only [QK.kernels_roundToMultipleInt64.j0, QK.kernels_roundToMultipleInt64.j2, QK.kernels_roundToMultipleInt64.j3, QK.kernels_roundToMultipleInt64.j4, hqe, hre, wq, wu, xu, xq, h2, wh, wr, p2, q2]
          simp [h1, h3]
          repeat' split
          all_goals first | rfl | exact ⟨by omega, rfl⟩ | (exfalso; omega)
  refine ⟨5, _, fun k hk => ?_, rfl⟩
  obtain ⟨k, rfl⟩ : ∃ q, k = q + 5 := ⟨k - 5, by omega⟩
  unfold QK.kernels_RoundToMultipleInt64.f
  show (QK.kernels_roundToMultipleInt64.f (k + 5) v m mode s).bind _ = _
  rw [key k]; rfl

theorem i8s {x : Int} (h : x = 0 ∨ x = 1 ∨ x = 4 ∨ x = 5 ∨ x = 8) : IntKind.i8.wrap x = x := by
  rcases h with h | h | h | h | h <;> subst h <;> decide
theorem round_is {v m mode : Int} {s : Bool} (hv : -2305843009213693952 < v) (hv' : v < 2305843009213693952) (hm : 0 < m) (hm' : m < 2305843009213693952)
    (hmode : mode = 0 ∨ mode = 1 ∨ mode = 4 ∨ mode = 5 ∨ mode = 8) (hs : s = true → mode = 1 ∧ v.tmod m ≠ 0) :
    Gives (fun k => impl_RoundInt64To.f k v m mode s) (fun r => r = (rnd v m mode * m, true)) := by
  unfold impl_RoundInt64To.f
  rw [i8s hmode]
  exact Gives.bind (kern_is hv hv' hm hm' hmode hs) fun t ht => Gives.now _ (by rw [ht])
theorem FnRoundInt64To : laws_FnRoundInt64To.Pure := by
  intro v m mode s hv hm hmode
  have hV := bounds_i64 hv
  have hM := bounds_i64 hm
  refine Gives.rounds ?_
  unfold laws_FnRoundInt64To.f
  refine Gives.bind (round_is (v := 7) (m := 5) (mode := 0) (s := false) (by omega) (by omega) (by omega) (by omega) (by omega) (fun h => by cases h)) fun x hx => ?_
  have ex : x = (5, true) := by rw [hx]; decide
  subst ex
  refine Gives.congr (f := fun k => laws_FnRoundInt64To.j0 k v m mode s true) (fun k => by simp) ?_
  have out : ∀ g : Nat → Option Bool, (∀ k, g (k + 1) = some true) → Gives g (fun a => a = true) := fun g h => Gives.step h (Gives.now _ rfl)
  have one : Gives (fun k => laws_FnRoundInt64To.j1 k v m mode s true true) (fun a => a = true) :=
    out _ fun k => by simp only [laws_FnRoundInt64To.j1]; rfl
  have two : 0 < m → (mode = 0 ∨ mode = 1 ∨ mode = 4 ∨ mode = 5 ∨ mode = 8) → (s = true → mode = 1 ∧ v.tmod m ≠ 0) →
      Gives (fun k => laws_FnRoundInt64To.j1 k v m mode s true false) (fun a => a = true) := by
    intro h0 hmode hs
    refine Gives.step (fun k => by simp only [laws_FnRoundInt64To.j1]; rw [if_neg (by simp)]) ?_
    refine Gives.bind (WideInt_is (a := m) (by omega) (by omega)) fun y hy => ?_
    refine Gives.bind (bounds_signed 62 (by omega) (by omega)) fun l hl => ?_
    refine Gives.bind (WideInt_is (a := v) (by omega) (by omega)) fun x hx => ?_
    refine Gives.bind (RoundWide_is hx.2.1 hy.2.1 (by omega) (by omega) (by rw [hy.1]; exact h0) mode) fun z hz => ?_
    refine Gives.bind (WideMul_is hz.2.1 hy.2.1 (by omega) (by omega)) fun u hu => ?_
    refine Gives.bind (fitted_is (lo := (l.1, l.2.1)) (hi := (l.2.2.1, l.2.2.2)) hu.2.1 hl.2.1 hl.2.2.2.2.1 (by omega)) fun w hw => ?_
    have p : (2 : Int) ^ (62 - 1) = 2305843009213693952 := by decide
    rw [hu.1, hz.1, hx.1, hy.1, hl.1, hl.2.2.2.1, p] at hw
    subst hw
    generalize hR : rnd v m mode * m = R
    by_cases hf : -2305843009213693952 ≤ R ∧ R ≤ 2305843009213693952 - 1
    · refine Gives.congr (fun k => if_pos (decide_eq_true hf)) ?_
      by_cases h1 : v ≤ -2305843009213693952
      · exact Gives.congr (fun k => if_pos h1) (Gives.now _ rfl)
      · refine Gives.congr (fun k => if_neg h1) ?_
        by_cases h2 : v ≥ 2305843009213693952
        · exact Gives.congr (fun k => if_pos h2) (Gives.now _ rfl)
        · refine Gives.congr (fun k => if_neg h2) ?_
          by_cases h3 : m ≥ 2305843009213693952
          · exact Gives.congr (fun k => if_pos h3) (Gives.now _ rfl)
          · refine Gives.congr (fun k => if_neg h3) ?_
            refine Gives.bind (round_is (by omega) (by omega) h0 (by omega) hmode hs) fun g hg => ?_
            rw [hR] at hg
            subst hg
            refine Gives.congr (fun k => ?_) (Gives.now (r := true) rfl)
            have : wrap64 (R % 18446744073709551616) = R := by unfold wrap64; omega
            simp [this]
    · exact Gives.congr (fun k => if_neg (by rw [decide_eq_false hf]; simp)) (Gives.now _ rfl)
  refine Gives.step (fun k => by simp only [laws_FnRoundInt64To.j0]; rfl) ?_
  by_cases h0 : m ≤ 0
  · exact Gives.congr (fun k => if_pos h0) one
  refine Gives.congr (fun k => if_neg h0) ?_
  by_cases m0 : mode = 0
  · refine Gives.congr (fun k => if_pos m0) ?_
    cases s with
    | true => exact Gives.congr (fun k => by rw [if_pos rfl, if_neg (by omega)]) one
    | false => exact Gives.congr (fun k => if_neg (by simp)) (two (by omega) (by omega) (fun h => by cases h))
  refine Gives.congr (fun k => if_neg m0) ?_
  by_cases m1 : mode = 1
  · refine Gives.congr (fun k => if_pos m1) ?_
    cases s with
    | true =>
      refine Gives.congr (fun k => by rw [if_pos rfl, if_neg (by omega)]) ?_
      by_cases ht : v.tmod m = 0
      · rw [ht]; exact one
      · have : (v.tmod m == 0) = false := by simpa using ht
        rw [this]
        exact two (by omega) (by omega) (fun _ => ⟨m1, ht⟩)
    | false => exact Gives.congr (fun k => if_neg (by simp)) (two (by omega) (by omega) (fun h => by cases h))
  refine Gives.congr (fun k => if_neg m1) ?_
  by_cases m4 : mode = 4
  · refine Gives.congr (fun k => if_pos m4) ?_
    cases s with
    | true => exact Gives.congr (fun k => if_pos rfl) one
    | false => exact Gives.congr (fun k => if_neg (by simp)) (two (by omega) (by omega) (fun h => by cases h))
  refine Gives.congr (fun k => if_neg m4) ?_
  by_cases m5 : mode = 5
  · refine Gives.congr (fun k => if_pos m5) ?_
    cases s with
    | true => exact Gives.congr (fun k => if_pos rfl) one
    | false => exact Gives.congr (fun k => if_neg (by simp)) (two (by omega) (by omega) (fun h => by cases h))
  refine Gives.congr (fun k => if_neg m5) ?_
  by_cases m8 : mode = 8
  · refine Gives.congr (fun k => if_pos m8) ?_
    cases s with
    | true => exact Gives.congr (fun k => if_pos rfl) one
    | false => exact Gives.congr (fun k => if_neg (by simp)) (two (by omega) (by omega) (fun h => by cases h))
  exact Gives.congr (fun k => if_neg m8) one
end Go.Proofs.Ytelpdndlmhcdoaa.Pure
