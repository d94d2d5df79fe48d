/- FnTransposeInt32Int8: what a map has at the numbers of a list, cut to its bits, is what the package gives; a number that is no place of the map is refused. The law returns true for every list and every map (of more than 1,000 numbers nothing more is said). -/
import Derived.Test.YtfdnmaadgglaoaaQFnTransposeInt32Int8x2
import Derived.OpenShut
namespace Go.Proofs.Ytfdnmaadgglaoaa.Pure
open Go.RowKit Go.Proofs.Ytfdnmaadgglaoaa.PFnTransposeInt32Int8 Go.Proofs.YtfdnmaadgglaoaaW.PrintWords Go.Proofs.YtfdnmaadgglaoaaW.PrintLast Go.Proofs.YtfdnmaadgglaoaaW.PrintMore

theorem u64_small {x : Int} (h0 : 0 ≤ x) (h1 : x ≤ 9223372036854775807) : IntKind.u64.wrap x = x := by
  simp [IntKind.wrap, IntKind.signed, IntKind.bits]
  omega

theorem impl_is (l m : List Int) (h : l.length ≤ 1000) : impl_TransposeInt32Int8.f l m = some (if inRange l m = true then mapped l m else [], inRange l m) := by
  unfold impl_TransposeInt32Int8.f
  rw [if_pos (by omega)]

theorem in_of {l m : List Int} (h : ∀ j : Nat, j < l.length → 0 ≤ rd l (j : Int) ∧ rd l (j : Int) < (m.length : Int)) : inRange l m = true := by
  unfold inRange
  rw [List.all_eq_true]
  intro x hx
  obtain ⟨j, hj, rfl⟩ := List.getElem_of_mem hx
  have := h j hj
  simpa [rd, hj] using this

theorem len_mapped (l m : List Int) : (mapped l m).length = l.length := by simp [mapped]

theorem take_next (l m : List Int) (i : Nat) (hi : i < l.length) : (mapped l m).take i ++ [IntKind.i8.wrap (rd m (rd l (i : Int)))] = (mapped l m).take (i + 1) := by
  rw [List.take_add_one, List.getElem?_eq_getElem (by rw [len_mapped]; exact hi)]
  simp [mapped, rd, hi]

theorem same_all (x : Bool) (w : List Int) (hw : w.length ≤ 1000) (d : Nat) : ∀ (k i : Nat), i + d = w.length → d < k → laws_FnTransposeInt32Int8.l1 k x w w (w.length : Int) (i : Int) = some x := by
  induction d with
  | zero =>
    intro k i hi hk
    obtain ⟨k, rfl⟩ : ∃ q, k = q + 1 := ⟨k - 1, by omega⟩
    simp only [laws_FnTransposeInt32Int8.l1]
    rw [if_neg (by omega)]
  | succ d ih =>
    intro k i hi hk
    obtain ⟨k, rfl⟩ : ∃ q, k = q + 1 := ⟨k - 1, by omega⟩
    simp only [laws_FnTransposeInt32Int8.l1]
    rw [if_pos (by omega), if_pos (by omega), if_pos (by omega), if_pos (by omega), if_pos trivial, show wrap64 ((i : Int) + 1) = ((i + 1 : Nat) : Int) from by unfold wrap64; omega]
    exact ih k (i + 1) (by omega) (by omega)

theorem refused (l m : List Int) (hl : l.length ≤ 1000) (x : Bool) (w : List Int) (hf : inRange l m = false) (d : Nat) : ∀ (k i : Nat), i + d = l.length → d < k → laws_FnTransposeInt32Int8.l0 k l m x false w l (l.length : Int) (i : Int) = some x := by
  induction d with
  | zero =>
    intro k i hi hk
    obtain ⟨k, rfl⟩ : ∃ q, k = q + 1 := ⟨k - 1, by omega⟩
    simp only [laws_FnTransposeInt32Int8.l0]
    rw [if_neg (by omega), impl_is l m hl, hf]
    simp
  | succ d ih =>
    intro k i hi hk
    obtain ⟨k, rfl⟩ : ∃ q, k = q + 1 := ⟨k - 1, by omega⟩
    simp only [laws_FnTransposeInt32Int8.l0]
    rw [if_pos (by omega), if_pos (by omega), if_pos (by omega), if_neg (by simp), show wrap64 ((i : Int) + 1) = ((i + 1 : Nat) : Int) from by unfold wrap64; omega]
    exact ih k (i + 1) (by omega) (by omega)

theorem told (l m : List Int) (hl : l.length ≤ 1000) (hm : m.length ≤ 1000) (hb : ∀ y ∈ l, y ≤ 9223372036854775807) (x : Bool) (d : Nat) : ∀ (k i : Nat), i + d = l.length → l.length + d + 2 < k →
    (∀ j : Nat, j < i → 0 ≤ rd l (j : Int) ∧ rd l (j : Int) < (m.length : Int)) →
    laws_FnTransposeInt32Int8.l0 k l m x true ((mapped l m).take i) l (l.length : Int) (i : Int) = some x := by
  induction d with
  | zero =>
    intro k i hi hk hg
    obtain ⟨k, rfl⟩ : ∃ q, k = q + 1 := ⟨k - 1, by omega⟩
    obtain rfl : i = l.length := by omega
    have hin : inRange l m = true := in_of hg
    simp only [laws_FnTransposeInt32Int8.l0]
    rw [if_neg (by omega), impl_is l m hl, hin, List.take_of_length_le (by rw [len_mapped]; omega)]
    simp only [Option.bind_some, if_true]
    obtain ⟨k, rfl⟩ : ∃ q, k = q + 1 := ⟨k - 1, by omega⟩
    simp only [laws_FnTransposeInt32Int8.j4]
    rw [if_neg (by simp)]
    have := same_all x (mapped l m) (by rw [len_mapped]; exact hl) (mapped l m).length k 0 (by omega) (by rw [len_mapped]; omega)
    simpa using this
  | succ d ih =>
    intro k i hi hk hg
    obtain ⟨k, rfl⟩ : ∃ q, k = q + 1 := ⟨k - 1, by omega⟩
    have hmem : rd l (i : Int) ∈ l := by
      have : rd l (i : Int) = l[i]'(by omega) := by simp [rd, show i < l.length by omega]
      rw [this]; exact List.getElem_mem _
    have hub := hb _ hmem
    have hbad : ¬ (0 ≤ rd l (i : Int) ∧ rd l (i : Int) < (m.length : Int)) → inRange l m = false := by
      intro hn
      cases hr : inRange l m with
      | false => rfl
      | true => exact absurd (in_at hr i (by omega)) hn
    simp only [laws_FnTransposeInt32Int8.l0]
    rw [if_pos (by omega), if_pos (by omega), if_pos (by omega), if_pos trivial, show wrap64 ((i : Int) + 1) = ((i + 1 : Nat) : Int) from by unfold wrap64; omega]
    by_cases h0 : rd l (i : Int) ≥ 0
    · rw [if_pos h0, u64_small h0 hub, u64_small (by omega) (by omega)]
      by_cases h1 : rd l (i : Int) < (m.length : Int)
      · rw [if_pos h1, if_pos h0, if_pos h1, if_pos (by rw [List.length_take, len_mapped]; omega), take_next l m i (by omega), decide_eq_true h1]
        refine ih k (i + 1) (by omega) (by omega) fun j hj => ?_
        by_cases e : j = i
        · subst e; exact ⟨h0, h1⟩
        · exact hg j (by omega)
      · rw [if_neg h1, decide_eq_false h1]
        exact refused l m hl x _ (hbad fun h => h1 h.2) d k (i + 1) (by omega) (by omega)
    · rw [if_neg h0]
      exact refused l m hl x _ (hbad fun h => h0 h.1) d k (i + 1) (by omega) (by omega)

theorem FnTransposeInt32Int8 : laws_FnTransposeInt32Int8.Pure := by
  intro l m _ _ hb _ _ _
  have hb' : ∀ y ∈ l, y ≤ 9223372036854775807 := fun y hy => by have := bounds_i32 (hb y hy); omega
  refine ⟨2 * l.length + 20, ?_⟩
  have hj0 : ∀ k, laws_FnTransposeInt32Int8.j0 (k + 1) l m true = some true := fun k => by simp only [laws_FnTransposeInt32Int8.j0]; rfl
  unfold laws_FnTransposeInt32Int8.f
  by_cases hs : (l.length : Int) > 2147483647
  · rw [if_pos hs]; exact hj0 _
  rw [if_neg hs]
  by_cases hs2 : (m.length : Int) > 2147483647
  · rw [decide_eq_true hs2]; exact hj0 _
  rw [decide_eq_false hs2]
  simp only [laws_FnTransposeInt32Int8.j0]
  have e1 : inRange [1] [5, 7] = true := by decide
  have e2 : mapped [1] [5, 7] = [7] := by decide
  rw [impl_is [1] [5, 7] (by decide), e1, e2]
  simp only [Option.bind_some, if_true, Bool.false_eq_true, if_false]
  rw [if_pos (by decide), if_pos (by decide), show ((rd [7] 0) == 7) = true from by decide]
  simp only [laws_FnTransposeInt32Int8.j1]
  by_cases hl : (l.length : Int) > 1000
  · rw [if_pos hl]; simp only [laws_FnTransposeInt32Int8.j2]; rfl
  rw [if_neg hl]
  simp only [laws_FnTransposeInt32Int8.j2]
  by_cases hm : (m.length : Int) > 1000
  · rw [decide_eq_true hm]; rfl
  rw [decide_eq_false hm, if_neg (by simp)]
  have := told l m (by omega) (by omega) hb' true l.length (2 * l.length + 17) 0 (by omega) (by omega) (fun j hj => absurd hj (by omega))
  simpa using this

end Go.Proofs.Ytfdnmaadgglaoaa.Pure
