/- The reference's exact integers, fourth part: products. -/
import Derived.Test.YtelpdndlmhcdoaaWr4
namespace Go.Proofs.Ytelpdndlmhcdoaa.Wr
open Go.RowKit Go.Proofs.Ytelpdndlmhcdoaa.QR Go.Proofs.YtelpdndlmhcdoaaW.PrintWords Go.Proofs.YtelpdndlmhcdoaaW.PrintLast Go.Proofs.YtelpdndlmhcdoaaW.PrintMore

theorem dg_set (l : List Int) (j n : Nat) (v : Int) (h : j < l.length) : dg (l.set j v) n = if n = j then v else dg l n := by
  unfold dg
  rw [List.length_set]
  by_cases hn : n < l.length
  · rw [if_pos hn, if_pos hn, rd_get (by rw [List.length_set]; exact hn), rd_get hn, List.getElem_set]
    by_cases e : j = n
    · subst e; simp
    · rw [if_neg e, if_neg (fun h => e h.symm)]
  · rw [if_neg hn, if_neg hn, if_neg (by omega)]
/-- One product of digits, with what is there and what is carried. -/
theorem mul_step {x y o c : Int} (hx : 0 ≤ x) (hx' : x < 4294967296) (hy : 0 ≤ y) (hy' : y < 4294967296) (ho : 0 ≤ o) (ho' : o < 4294967296) (hc : 0 ≤ c) (hc' : c < 4294967296) :
    0 ≤ x * y ∧ x * y ≤ 18446744065119617025 ∧ IntKind.u64.wrap (c + IntKind.u64.wrap (IntKind.u64.wrap (IntKind.u64.wrap x * IntKind.u64.wrap y) + IntKind.u64.wrap o)) = c + (x * y + o) ∧ 0 ≤ (c + (x * y + o)) / 4294967296 ∧ (c + (x * y + o)) / 4294967296 < 4294967296 := by
  have h0 : 0 ≤ x * y := Int.mul_nonneg hx hy
  have h1 : x * y ≤ 4294967295 * 4294967295 := Int.mul_le_mul (by omega) (by omega) hy (by omega)
  refine ⟨h0, by omega, ?_, by omega, by omega⟩
  rw [u64w hx (by omega), u64w hy (by omega), u64w ho (by omega), u64w h0 (by omega), u64w (x := x * y + o) (by omega) (by omega), u64w (by omega) (by omega)]
theorem mul_inv {O x y u v t c m q W V : Int} (hinv : O + x * y * c = W + x * (u * V)) (hs : m + 4294967296 * q = c + (u * v + t)) : O + x * y * (m - t) + x * y * 4294967296 * q = W + x * (u * (V + y * v)) := by
  have k1 : x * y * (m - t) + x * y * 4294967296 * q = x * y * (m + 4294967296 * q) - x * y * t := by
    rw [Int.mul_sub, Int.mul_add, Int.mul_assoc (x * y)]; omega
  have k2 : x * y * (c + (u * v + t)) = x * y * c + x * y * (u * v) + x * y * t := by
    rw [Int.mul_add, Int.mul_add]; omega
  have k3 : x * (u * (V + y * v)) = x * (u * V) + x * y * (u * v) := by
    rw [Int.mul_add, Int.mul_add, Int.mul_assoc x y, Int.mul_left_comm u y v]
  rw [hs] at k1
  omega
/-- What the inner loop keeps: the sum with what is carried. -/
structure MulAt (a b o : List Int) (i k : Nat) (c : Int) : Prop where
  len : o.length = a.length + b.length
  dig : Dig o
  zero : ∀ n, i + b.length ≤ n → dg o n = 0
  c0 : 0 ≤ c
  c1 : c < 4294967296
  inv : val o + 4294967296 ^ (i + k) * c = val (a.take i) * val b + 4294967296 ^ i * (dg a i * val (b.take k))
theorem magMul_in (a b : List Int) (ha : Dig a) (hb : Dig b) (hla : a.length ≤ 100000) (hlb : b.length ≤ 100000) (i : Nat) (hi : i < a.length) (P : List Int → Prop)
    (H : ∀ o : List Int, o.length = a.length + b.length → Dig o → (∀ n, i + 1 + b.length ≤ n → dg o n = 0) → val o = val (a.take (i + 1)) * val b → Gives (fun k => spec_magMul.l0 k a b o (a.length : Int) ((i + 1 : Nat) : Int)) P) (d : Nat) :
    ∀ (j : Nat) (o : List Int) (c : Int), j + d = b.length → MulAt a b o i j c → Gives (fun k => spec_magMul.l1 k a b o (i : Int) c (a.length : Int) (i : Int) (b.length : Int) (j : Int)) P := by
  have hA := dg_bd ha i
  induction d with
  | zero =>
    intro j o c hj h
    obtain rfl : j = b.length := by omega
    have hl := h.len
    have e1 : wrap64 ((i : Int) + (b.length : Int)) = ((i + b.length : Nat) : Int) := by rw [w64 (by omega) (by omega)]; omega
    have e2 : wrap64 ((i : Int) + 1) = ((i + 1 : Nat) : Int) := by rw [w64 (by omega) (by omega)]; omega
    have hc0 := h.c0
    have hc1 := h.c1
    refine Gives.step (f := fun k => spec_magMul.l0 k a b (o.set (i + b.length) c) (a.length : Int) ((i + 1 : Nat) : Int)) (fun k => ?_) (H _ (by simp [hl]) (h.dig.set _ hc0 hc1) ?_ ?_)
    · simp only [spec_magMul.l1]
      rw [if_neg (by omega), e1, if_pos (by omega), if_pos (by omega), e2, Int.toNat_natCast, Int.emod_eq_of_lt hc0 hc1]
    · intro n hn
      rw [dg_set _ _ _ _ (by omega), if_neg (by omega)]
      exact h.zero n (by omega)
    · have hz : rd o ((i + b.length : Nat) : Int) = 0 := by
        have := h.zero (i + b.length) (Nat.le_refl _)
        unfold dg at this
        rwa [if_pos (by omega)] at this
      have hinv := h.inv
      rw [List.take_of_length_le (Nat.le_refl _)] at hinv
      rw [val_set _ _ _ (by omega), hz, Int.sub_zero, hinv, val_take_succ, Int.add_mul, Int.mul_assoc]
  | succ d ih =>
    intro j o c hj h
    have hl := h.len
    have e1 : wrap64 ((i : Int) + (j : Int)) = ((i + j : Nat) : Int) := by rw [w64 (by omega) (by omega)]; omega
    have e2 : wrap64 ((j : Int) + 1) = ((j + 1 : Nat) : Int) := by rw [w64 (by omega) (by omega)]; omega
    have hjb : j < b.length := by omega
    have hij : i + j < o.length := by omega
    have ra : rd a (i : Int) = dg a i := by unfold dg; rw [if_pos hi]
    have rb : rd b (j : Int) = dg b j := by unfold dg; rw [if_pos hjb]
    have ro : rd o ((i + j : Nat) : Int) = dg o (i + j) := by unfold dg; rw [if_pos hij]
    have hi' : (i : Int) < (a.length : Int) := by omega
    have hi0 : (0 : Int) ≤ (i : Int) := by omega
    have hj' : (j : Int) < (b.length : Int) := by omega
    have hj0 : (0 : Int) ≤ (j : Int) := by omega
    have hij' : ((i + j : Nat) : Int) < (o.length : Int) := by omega
    have hij0 : (0 : Int) ≤ ((i + j : Nat) : Int) := by omega
    have hd1 : j + 1 + d = b.length := by omega
    have hne : ∀ n, i + b.length ≤ n → ¬ n = i + j := fun n hn => by omega
    have hB := dg_bd hb j
    have hO := dg_bd h.dig (i + j)
    have hc0 := h.c0
    have hc1 := h.c1
    obtain ⟨p0, p1, pw, q0, q1⟩ := mul_step hA.1 hA.2 hB.1 hB.2 hO.1 hO.2 hc0 hc1
    have hm0 : 0 ≤ (c + (dg a i * dg b j + dg o (i + j))) % 4294967296 := Int.emod_nonneg _ (by decide)
    have hm1 : (c + (dg a i * dg b j + dg o (i + j))) % 4294967296 < 4294967296 := Int.emod_lt_of_pos _ (by decide)
    refine Gives.step (f := fun k => spec_magMul.l1 k a b (o.set (i + j) ((c + (dg a i * dg b j + dg o (i + j))) % 4294967296)) (i : Int) ((c + (dg a i * dg b j + dg o (i + j))) / 4294967296) (a.length : Int) (i : Int) (b.length : Int) ((j + 1 : Nat) : Int)) (fun k => ?_) (ih (j + 1) _ _ hd1 ⟨by rw [List.length_set]; exact hl, h.dig.set _ hm0 hm1, ?_, q0, q1, ?_⟩)
    · simp only [spec_magMul.l1]
      rw [if_pos hj', if_pos hi0, if_pos hi', if_pos hj0, if_pos hj', e1, if_pos hij0, if_pos hij', ra, rb, ro, pw, e2, Int.toNat_natCast]
    · intro n hn
      rw [dg_set _ _ _ _ hij, if_neg (hne n hn)]
      exact h.zero n hn
    · have hinv := h.inv
      rw [val_set _ _ _ hij, ro, val_take_succ, ← Nat.add_assoc, Int.pow_succ]
      have hp : (4294967296 : Int) ^ (i + j) = 4294967296 ^ i * 4294967296 ^ j := Int.pow_add _ _ _
      rw [hp] at hinv ⊢
      exact mul_inv hinv (Int.emod_add_mul_ediv _ _)
theorem magMul_ok (a b : List Int) (ha : Dig a) (hb : Dig b) (hla : a.length ≤ 100000) (hlb : b.length ≤ 100000) (d : Nat) : ∀ (i : Nat) (o : List Int), i + d = a.length → o.length = a.length + b.length → Dig o → (∀ n, i + b.length ≤ n → dg o n = 0) → val o = val (a.take i) * val b →
    Gives (fun k => spec_magMul.l0 k a b o (a.length : Int) (i : Int)) (fun r => val r = val a * val b ∧ Dig r ∧ Nrm r ∧ r.length ≤ a.length + b.length) := by
  induction d with
  | zero =>
    intro i o hi hl hd _ hv
    obtain rfl : i = a.length := by omega
    rw [List.take_of_length_le (Nat.le_refl _)] at hv
    refine Gives.step (fun k => by simp only [spec_magMul.l0]; rw [if_neg (by omega)]) ?_
    refine Gives.bind (trim_is (by omega) hd) fun t ht => Gives.now _ ⟨by rw [ht.1, hv], ht.2.1, ht.2.2.1, by omega⟩
  | succ d ih =>
    intro i o hi hl hd hz hv
    refine Gives.step (f := fun k => spec_magMul.l1 k a b o (i : Int) 0 (a.length : Int) (i : Int) (b.length : Int) ((0 : Nat) : Int)) (fun k => ?_) ?_
    · simp only [spec_magMul.l0]
      rw [if_pos (by omega)]
      rfl
    · refine magMul_in a b ha hb hla hlb i (by omega) _ (fun o hl hd hz hv => ih (i + 1) o (by omega) hl hd hz hv) b.length 0 o 0 (by omega) ⟨hl, hd, hz, by omega, by omega, ?_⟩
      rw [hv]; simp [val]
theorem magMul_is {a b : List Int} (ha : Dig a) (hb : Dig b) (hla : a.length ≤ 100000) (hlb : b.length ≤ 100000) : Gives (fun k => spec_magMul.f k a b) (fun r => val r = val a * val b ∧ Dig r ∧ Nrm r ∧ r.length ≤ a.length + b.length) := by
  have e1 : wrap64 ((a.length : Int) + (b.length : Int)) = ((a.length + b.length : Nat) : Int) := by rw [w64 (by omega) (by omega)]; omega
  unfold spec_magMul.f
  rw [e1]
  refine Gives.congr (fun k => by rw [if_pos (by omega), if_pos (by omega), Int.toNat_natCast]) ?_
  refine magMul_ok a b ha hb hla hlb a.length 0 _ (by omega) (by simp) (Dig.rep _) (fun n _ => ?_) (by rw [val_zeros]; simp [val])
  unfold dg
  split
  · rename_i h
    rw [rd_get h]; simp
  · rfl
theorem WideMul_is {a b : Bool × List Int} (ha : Wf a) (hb : Wf b) (hla : a.2.length ≤ 100000) (hlb : b.2.length ≤ 100000) : Gives (fun k => spec_WideMul.f k a.1 a.2 b.1 b.2) (fun r => num r = num a * num b ∧ Wf r ∧ r.2.length ≤ a.2.length + b.2.length) := by
  unfold spec_WideMul.f
  refine Gives.bind (magMul_is ha.dig hb.dig hla hlb) fun t ht => ?_
  refine (bind_pair (wide_is (a.1 != b.1) (by omega) ht.2.1)).mono fun r hr => ⟨?_, hr.2.1, by omega⟩
  rw [hr.1, ht.1]
  unfold num
  cases a.1 <;> cases b.1 <;> simp [Int.mul_neg, Int.neg_mul]
end Go.Proofs.Ytelpdndlmhcdoaa.Wr
