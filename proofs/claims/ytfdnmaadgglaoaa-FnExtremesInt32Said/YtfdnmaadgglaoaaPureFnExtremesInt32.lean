/- FnExtremesInt32: the least and the greatest one of a list of int32 are what the package tells; of none the greatest and the least number of the type; the law returns true for every list (of more than 1,000 nothing more is said). -/
import Derived.Test.YtfdnmaadgglaoaaPFnExtremesInt32x1
import Derived.Test.YtfdnmaadgglaoaaWSized
namespace Go.Proofs.Ytfdnmaadgglaoaa
/-- The words' fact on a row's slice, under the name that the printed row uses. -/
abbrev PrintWords.sized_ints := @Go.Proofs.YtfdnmaadgglaoaaW.PrintWords.sized_ints
end Go.Proofs.Ytfdnmaadgglaoaa
namespace Go.Proofs.Ytfdnmaadgglaoaa.Pure
open Go.RowKit Go.Proofs.Ytfdnmaadgglaoaa.PFnExtremesInt32 Go.Proofs.YtfdnmaadgglaoaaW.PrintWords Go.Proofs.YtfdnmaadgglaoaaW.PrintLast Go.Proofs.YtfdnmaadgglaoaaW.PrintMore

/-- The least and the greatest one, from two numbers on. -/
def ext : List Int → Int → Int → Int × Int
  | [], a, b => (a, b)
  | x :: r, a, b => ext r (mn a x) (mx b x)

theorem drop_at (l : List Int) (i : Nat) (h : i < l.length) : l.drop i = rd l (i : Int) :: l.drop (i + 1) := by
  rw [List.drop_eq_getElem_cons h]
  simp [rd, h]

theorem walk_ext (l : List Int) (hn : l.length ≤ 2147483647) (d : Nat) : ∀ (k i : Nat) (a b : Int), i + d = l.length → d < k →
    utils_int32MinMax.l0 k a b l (l.length : Int) (i : Int) = some (ext (l.drop i) a b) := by
  induction d with
  | zero =>
    intro k i a b h hk
    obtain ⟨m, rfl⟩ : ∃ m, k = m + 1 := ⟨k - 1, by omega⟩
    simp only [utils_int32MinMax.l0]
    rw [if_neg (by omega), List.drop_eq_nil_of_le (by omega)]
    rfl
  | succ d ih =>
    intro k i a b h hk
    obtain ⟨m, rfl⟩ : ∃ m, k = m + 1 := ⟨k - 1, by omega⟩
    have hw : wrap64 ((i : Int) + 1) = ((i + 1 : Nat) : Int) := by unfold wrap64; omega
    have hih := fun a b => ih m (i + 1) a b (by omega) (by omega)
    simp only [utils_int32MinMax.l0]
    rw [if_pos (by omega), if_pos (by omega), if_pos (by omega), drop_at l i (by omega), hw]
    simp only [ext, mn, mx, hih]
    by_cases h1 : a > rd l (i : Int)
    · by_cases h2 : b < rd l (i : Int)
      · rw [if_pos h1, if_pos h2, if_pos (show rd l (i : Int) < a from h1), if_pos h2]
      · rw [if_pos h1, if_neg h2, if_pos (show rd l (i : Int) < a from h1), if_neg h2]
    · by_cases h2 : b < rd l (i : Int)
      · rw [if_neg h1, if_pos h2, if_neg (show ¬ rd l (i : Int) < a from h1), if_pos h2]
      · rw [if_neg h1, if_neg h2, if_neg (show ¬ rd l (i : Int) < a from h1), if_neg h2]

theorem impl_ext (l : List Int) (hn : l.length ≤ 2147483647) (k : Nat) (hk : l.length < k) :
    impl_ExtremesInt32.f k l = some (ext l 2147483647 (-2147483648)) := by
  have h := walk_ext l hn l.length k 0 2147483647 (-2147483648) (by omega) hk
  simp only [List.drop_zero] at h
  unfold impl_ExtremesInt32.f utils_GetMinMaxInt32.f utils_int32MinMax.f
  rw [show (0 : Int) = ((0 : Nat) : Int) from rfl, h]
  rfl

theorem law_ext (l : List Int) (hn : l.length ≤ 2147483647) (x : Bool) (d : Nat) : ∀ (k i : Nat) (a b : Int), i + d = l.length → l.length + d + 1 < k →
    ext (l.drop i) a b = ext l 2147483647 (-2147483648) →
    laws_FnExtremesInt32.l0 k l x a b l (l.length : Int) (i : Int) = some x := by
  induction d with
  | zero =>
    intro k i a b h hk he
    obtain ⟨m, rfl⟩ : ∃ m, k = m + 1 := ⟨k - 1, by omega⟩
    simp only [laws_FnExtremesInt32.l0]
    rw [List.drop_eq_nil_of_le (by omega)] at he
    rw [if_neg (by omega), impl_ext l hn m (by omega), ← he]
    simp [ext]
  | succ d ih =>
    intro k i a b h hk he
    obtain ⟨m, rfl⟩ : ∃ m, k = m + 1 := ⟨k - 1, by omega⟩
    have hw : wrap64 ((i : Int) + 1) = ((i + 1 : Nat) : Int) := by unfold wrap64; omega
    rw [drop_at l i (by omega)] at he
    simp only [laws_FnExtremesInt32.l0]
    rw [if_pos (by omega), if_pos (by omega), if_pos (by omega), hw]
    exact ih m (i + 1) _ _ (by omega) (by omega) he

theorem FnExtremesInt32 : laws_FnExtremesInt32.Pure := by
  intro l _ _ _
  refine ⟨2 * l.length + 5, ?_⟩
  unfold laws_FnExtremesInt32.f
  by_cases hn : (l.length : Int) > 2147483647
  · rw [if_pos hn]
  rw [if_neg hn, impl_ext [1, 2] (by decide) _ (by simp only [List.length_cons, List.length_nil]; omega)]
  have e : ext [1, 2] 2147483647 (-2147483648) = (1, 2) := by decide
  simp only [e, Option.bind_some, if_true]
  simp only [laws_FnExtremesInt32.j0]
  by_cases hl : (l.length : Int) > 1000
  · rw [if_pos hl]; rfl
  · rw [if_neg hl]
    exact law_ext l (by omega) true l.length _ 0 _ _ (by omega) (by omega) (by simp)

end Go.Proofs.Ytfdnmaadgglaoaa.Pure
