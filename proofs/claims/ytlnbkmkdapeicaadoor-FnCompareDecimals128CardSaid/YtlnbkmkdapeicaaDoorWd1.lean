/- Integers by their digits of base 2^32: what a list of digits counts, and that digits without zeros at the end are compared by their number and their greatest ones. Plain lists; no program. -/
import Derived.Test.YtlnbkmkdapeicaaDoorWMore
namespace Go.Proofs.YtlnbkmkdapeicaaDoor.Wide
open Go.RowKit Go.Proofs.YtlnbkmkdapeicaaDoorW.PrintWords Go.Proofs.YtlnbkmkdapeicaaDoorW.PrintLast Go.Proofs.YtlnbkmkdapeicaaDoorW.PrintMore

/-! ### functions with a number of rounds -/
/-- With enough rounds it answers, and of its answer P holds. -/
def Gives {α : Type} (g : Nat → Option α) (P : α → Prop) : Prop := ∃ K r, (∀ k, K ≤ k → g k = some r) ∧ P r
theorem Gives.now {α : Type} {P : α → Prop} (r : α) (h : P r) : Gives (fun _ => some r) P := ⟨0, r, fun _ _ => rfl, h⟩
theorem Gives.step {α : Type} {g f : Nat → Option α} {P : α → Prop} (h : ∀ k, g (k + 1) = f k) (hf : Gives f P) : Gives g P := by
  obtain ⟨K, r, hr, hp⟩ := hf
  refine ⟨K + 1, r, fun k hk => ?_, hp⟩
  obtain ⟨m, rfl⟩ : ∃ m, k = m + 1 := ⟨k - 1, by omega⟩
  rw [h]
  exact hr m (by omega)
theorem Gives.congr {α : Type} {g f : Nat → Option α} {P : α → Prop} (h : ∀ k, g k = f k) (hf : Gives f P) : Gives g P := by
  obtain ⟨K, r, hr, hp⟩ := hf
  exact ⟨K, r, fun k hk => by rw [h]; exact hr k hk, hp⟩
theorem Gives.bind {α β : Type} {g : Nat → Option α} {f : Nat → α → Option β} {P : α → Prop} {Q : β → Prop} (hg : Gives g P) (hf : ∀ a, P a → Gives (fun k => f k a) Q) : Gives (fun k => (g k).bind (f k)) Q := by
  obtain ⟨K, r, hr, hp⟩ := hg
  obtain ⟨L, q, hq, hQ⟩ := hf r hp
  exact ⟨max K L, q, fun k hk => by show (g k).bind (f k) = some q; rw [hr k (by omega), Option.bind_some]; exact hq k (by omega), hQ⟩
theorem Gives.mono {α : Type} {g : Nat → Option α} {P Q : α → Prop} (hg : Gives g P) (h : ∀ a, P a → Q a) : Gives g Q := by
  obtain ⟨K, r, hr, hp⟩ := hg
  exact ⟨K, r, hr, h r hp⟩
theorem Gives.rounds {α : Type} {g : Nat → Option α} {r : α} (h : Gives g (fun a => a = r)) : ∃ k, g k = some r := by
  obtain ⟨K, q, hq, rfl⟩ := h
  exact ⟨K, hq K (Nat.le_refl _)⟩

/-! ### numbers -/
theorem u64w {x : Int} (h0 : 0 ≤ x) (h1 : x < 18446744073709551616) : IntKind.u64.wrap x = x := by
  simp [IntKind.wrap, IntKind.signed, IntKind.bits]
  omega
theorem w64 {x : Int} (h0 : -9223372036854775808 ≤ x) (h1 : x < 9223372036854775808) : wrap64 x = x := by unfold wrap64; omega

/-! ### digits -/
def val : List Int → Int
  | [] => 0
  | d :: r => d + 4294967296 * val r
def Dig (l : List Int) : Prop := ∀ x ∈ l, 0 ≤ x ∧ x < 4294967296
/-- No zero at the end. -/
def Nrm (l : List Int) : Prop := ∀ h : l ≠ [], l.getLast h ≠ 0
/-- The digit at a place; 0 behind the end. -/
def dg (l : List Int) (i : Nat) : Int := if i < l.length then rd l (i : Int) else 0
theorem rd_get {l : List Int} {i : Nat} (h : i < l.length) : rd l (i : Int) = l[i] := by simp [rd, h]
theorem dg_bd {l : List Int} (h : Dig l) (i : Nat) : 0 ≤ dg l i ∧ dg l i < 4294967296 := by
  unfold dg
  split
  · rename_i hi
    rw [rd_get hi]
    exact h _ (List.getElem_mem _)
  · omega
theorem rd_bd {l : List Int} (h : Dig l) {i : Nat} (hi : i < l.length) : 0 ≤ rd l (i : Int) ∧ rd l (i : Int) < 4294967296 := by
  rw [rd_get hi]; exact h _ (List.getElem_mem _)
theorem val_drop (l : List Int) (i : Nat) : val (l.drop i) = dg l i + 4294967296 * val (l.drop (i + 1)) := by
  by_cases h : i < l.length
  · rw [List.drop_eq_getElem_cons h]
    simp only [val, dg, if_pos h, rd_get h]
  · rw [List.drop_eq_nil_of_le (by omega), List.drop_eq_nil_of_le (by omega)]
    simp [val, dg, if_neg h]
theorem val_append (a b : List Int) : val (a ++ b) = val a + 4294967296 ^ a.length * val b := by
  induction a with
  | nil => simp [val]
  | cons x r ih =>
    simp only [List.cons_append, val, ih, List.length_cons, Int.pow_succ]
    grind
theorem val_snoc (a : List Int) (x : Int) : val (a ++ [x]) = val a + 4294967296 ^ a.length * x := by
  rw [val_append]; simp [val]
theorem Dig.nil : Dig [] := fun _ h => by cases h
theorem Dig.snoc {a : List Int} {x : Int} (h : Dig a) (h0 : 0 ≤ x) (h1 : x < 4294967296) : Dig (a ++ [x]) := by
  intro y hy
  rcases List.mem_append.1 hy with hy | hy
  · exact h y hy
  · rw [List.mem_singleton.1 hy]; exact ⟨h0, h1⟩
theorem Dig.take {a : List Int} (h : Dig a) (n : Nat) : Dig (a.take n) := fun x hx => h x (List.mem_of_mem_take hx)
theorem Dig.drop {a : List Int} (h : Dig a) (n : Nat) : Dig (a.drop n) := fun x hx => h x (List.mem_of_mem_drop hx)
theorem Dig.set {a : List Int} {x : Int} (h : Dig a) (i : Nat) (h0 : 0 ≤ x) (h1 : x < 4294967296) : Dig (a.set i x) := by
  intro y hy
  rcases List.mem_or_eq_of_mem_set hy with hy | hy
  · exact h y hy
  · rw [hy]; exact ⟨h0, h1⟩
theorem Dig.rep (n : Nat) : Dig (List.replicate n 0) := fun x hx => by rw [List.eq_of_mem_replicate hx]; omega
theorem pow_pos' (n : Nat) : (0 : Int) < 4294967296 ^ n := Int.pow_pos (by omega)
theorem val_nonneg {l : List Int} (h : Dig l) : 0 ≤ val l := by
  induction l with
  | nil => simp [val]
  | cons x r ih =>
    have h1 := h x (by simp)
    have h2 := ih fun y hy => h y (by simp [hy])
    simp only [val]; omega
theorem val_lt {l : List Int} (h : Dig l) : val l < 4294967296 ^ l.length := by
  induction l with
  | nil => simp [val]
  | cons x r ih =>
    have h1 := h x (by simp)
    have h2 := ih fun y hy => h y (by simp [hy])
    simp only [val, List.length_cons, Int.pow_succ]; omega
theorem split_last {l : List Int} (h : l ≠ []) : val l = val l.dropLast + 4294967296 ^ (l.length - 1) * l.getLast h := by
  have e := List.dropLast_concat_getLast h
  have := val_snoc l.dropLast (l.getLast h)
  rw [e, List.length_dropLast] at this
  exact this
theorem val_ge {l : List Int} (h : Dig l) (hn : Nrm l) (he : l ≠ []) : 4294967296 ^ (l.length - 1) ≤ val l := by
  have h1 := hn he
  have h2 := h (l.getLast he) (List.getLast_mem he)
  have h3 : 0 ≤ val l.dropLast := val_nonneg fun x hx => h x (List.dropLast_subset l hx)
  rw [split_last he]
  have hp := pow_pos' (l.length - 1)
  have : 4294967296 ^ (l.length - 1) * 1 ≤ 4294967296 ^ (l.length - 1) * l.getLast he := Int.mul_le_mul_of_nonneg_left (by omega) (by omega)
  omega
theorem val_zero {l : List Int} (h : Dig l) (hn : Nrm l) : val l = 0 ↔ l = [] := by
  constructor
  · intro hv
    refine Classical.byContradiction fun he => ?_
    have := val_ge h hn he
    have := pow_pos' (l.length - 1)
    omega
  · rintro rfl; rfl
theorem pow_mono {m n : Nat} (h : m ≤ n) : (4294967296 : Int) ^ m ≤ 4294967296 ^ n := by
  obtain ⟨d, rfl⟩ := Nat.exists_eq_add_of_le h
  rw [Int.pow_add]
  have h1 := pow_pos' m
  have h2 := pow_pos' d
  have : (4294967296 : Int) ^ m * 1 ≤ 4294967296 ^ m * 4294967296 ^ d := Int.mul_le_mul_of_nonneg_left (by omega) (by omega)
  omega
theorem len_lt_val {a b : List Int} (ha : Dig a) (hb : Dig b) (hn : Nrm b) (h : a.length < b.length) : val a < val b := by
  have he : b ≠ [] := by rintro rfl; simp at h
  have h1 := val_lt ha
  have h2 := val_ge hb hn he
  have h3 := pow_mono (show a.length ≤ b.length - 1 by omega)
  omega
theorem val_take_drop (l : List Int) (i : Nat) (h : i ≤ l.length) : val l = val (l.take i) + 4294967296 ^ i * val (l.drop i) := by
  have := val_append (l.take i) (l.drop i)
  rw [List.take_append_drop, List.length_take, Nat.min_eq_left h] at this
  exact this
theorem len_bd {l : List Int} (h : Dig l) (hn : Nrm l) {n : Nat} (hv : val l < 4294967296 ^ n) : l.length ≤ n := by
  refine Classical.byContradiction fun hc => ?_
  have he : l ≠ [] := by rintro rfl; simp at hc
  have h1 := val_ge h hn he
  have h2 := pow_mono (show n ≤ l.length - 1 by omega)
  omega
end Go.Proofs.YtlnbkmkdapeicaaDoor.Wide
