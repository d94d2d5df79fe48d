/- What the reference's exact integers are: each function of digits and of signed integers answers as the integers do (sums, differences, comparisons, powers of two), for digits of base 2^32 without zeros at the end. -/
import Derived.Test.YtlnbkmkdapeicaaDoorWd1
import Derived.Test.YtlnbkmkdapeicaaDoorQTx4
namespace Go.Proofs.YtlnbkmkdapeicaaDoor.Wide
open Go.RowKit Go.Proofs.YtlnbkmkdapeicaaDoor.QT Go.Proofs.YtlnbkmkdapeicaaDoorW.PrintWords Go.Proofs.YtlnbkmkdapeicaaDoorW.PrintLast Go.Proofs.YtlnbkmkdapeicaaDoorW.PrintMore

theorem trim_ok (n : Nat) : ∀ l : List Int, l.length = n → n ≤ 2147483647 → Dig l → Gives (fun k => spec_trim.l0 k l) (fun r => val r = val l ∧ Dig r ∧ Nrm r ∧ r.length ≤ l.length) := by
  induction n with
  | zero =>
    intro l hl _ hd
    have he : l = [] := List.length_eq_zero_iff.1 hl
    subst he
    refine Gives.step (fun k => by simp only [spec_trim.l0]; rw [if_neg (by simp)]) (Gives.now [] ⟨rfl, hd, fun h => absurd rfl h, Nat.le_refl _⟩)
  | succ n ih =>
    intro l hl hn hd
    have he : l ≠ [] := by rintro rfl; simp at hl
    have hw : wrap64 ((l.length : Int) - 1) = ((n : Nat) : Int) := by rw [w64 (by omega) (by omega)]; omega
    have hlast : rd l (n : Int) = l.getLast he := by
      rw [rd_get (by omega), List.getLast_eq_getElem]
      congr 1; omega
    by_cases hz : rd l (n : Int) = 0
    · refine Gives.step (fun k => by simp only [spec_trim.l0]; rw [if_pos (by omega), hw, if_pos (by omega), if_pos (by omega), if_pos hz, if_pos (by omega)]) ?_
      simp only [Int.toNat_natCast]
      have hv : val (l.take n) = val l := by
        rw [split_last he, ← hlast, hz, Int.mul_zero, Int.add_zero, List.dropLast_eq_take, show l.length - 1 = n by omega]
      refine (ih (l.take n) (by simp; omega) (by omega) (hd.take n)).mono fun r hr => ?_
      refine ⟨hr.1.trans hv, hr.2.1, hr.2.2.1, ?_⟩
      have := hr.2.2.2
      simp at this
      omega
    · refine Gives.step (fun k => by simp only [spec_trim.l0]; rw [if_pos (by omega), hw, if_pos (by omega), if_pos (by omega), if_neg hz]) (Gives.now l ⟨rfl, hd, fun h => by rw [← hlast]; exact hz, Nat.le_refl _⟩)
theorem trim_is {l : List Int} (hn : l.length ≤ 2147483647) (hd : Dig l) : Gives (fun k => spec_trim.f k l) (fun r => val r = val l ∧ Dig r ∧ Nrm r ∧ r.length ≤ l.length) := trim_ok l.length l rfl hn hd

/-! ### signed integers -/
/-- The integer that a sign and digits are. -/
def num (a : Bool × List Int) : Int := if a.1 = true then -val a.2 else val a.2
/-- Digits without zeros at the end; zero has no sign. -/
structure Wf (a : Bool × List Int) : Prop where
  dig : Dig a.2
  nrm : Nrm a.2
  sgn : a.1 = true → a.2 ≠ []
theorem Wf.neg_lt {a : Bool × List Int} (h : Wf a) : (a.1 = true ↔ num a < 0) := by
  have h0 := val_nonneg h.dig
  unfold num
  constructor
  · intro e
    rw [if_pos e]
    have : ¬ val a.2 = 0 := fun e0 => h.sgn e ((val_zero h.dig h.nrm).1 e0)
    omega
  · intro hl
    by_cases e : a.1 = true
    · exact e
    · rw [if_neg e] at hl; omega
theorem Wf.abs {a : Bool × List Int} (h : Wf a) : val a.2 = (num a).natAbs := by
  have h0 := val_nonneg h.dig
  unfold num
  split <;> omega
theorem Wf.len {a : Bool × List Int} (h : Wf a) {n : Nat} (hb : -(4294967296 ^ n) < num a) (hb' : num a < 4294967296 ^ n) : a.2.length ≤ n := by
  refine len_bd h.dig h.nrm ?_
  have := h.abs
  omega
theorem wide_is (s : Bool) {l : List Int} (hn : l.length ≤ 2147483647) (hd : Dig l) : Gives (fun k => spec_wide.f k s l) (fun r => num r = (if s = true then -val l else val l) ∧ Wf r ∧ r.2.length ≤ l.length) := by
  unfold spec_wide.f
  refine Gives.bind (trim_is hn hd) fun t ht => ?_
  obtain ⟨h1, h2, h3, h4⟩ := ht
  have hz := val_zero h2 h3
  cases s with
  | true =>
    refine Gives.congr (fun k => if_pos rfl) (Gives.now _ ?_)
    have hb := val_nonneg h2
    by_cases he : t = []
    · subst he
      refine ⟨?_, ⟨h2, h3, by simp⟩, h4⟩
      have : val ([] : List Int) = 0 := rfl
      simp [num]; omega
    · have hp : 0 < t.length := List.length_pos_iff.2 he
      refine ⟨?_, ⟨h2, h3, fun _ => he⟩, h4⟩
      simp [num, hp]; omega
  | false =>
    refine Gives.congr (fun k => if_neg (by simp)) (Gives.now _ ⟨by simp [num]; omega, ⟨h2, h3, by simp⟩, h4⟩)
theorem bind_pair {α β : Type} {g : Nat → Option (α × β)} {P : α × β → Prop} (h : Gives g P) : Gives (fun k => (g k).bind fun b => some (b.1, b.2)) P := by
  refine Gives.bind h fun a ha => Gives.now _ ha
theorem two_dig (u : Int) : Dig [u % 4294967296, (u / 4294967296) % 4294967296] := by
  intro x hx
  simp at hx
  rcases hx with rfl | rfl <;> omega
theorem two_val {u : Int} (h0 : 0 ≤ u) (h1 : u < 18446744073709551616) : val [u % 4294967296, (u / 4294967296) % 4294967296] = u := by
  simp only [val]
  omega
theorem Negated_is {a : Bool × List Int} (h : Wf a) (hn : a.2.length ≤ 2147483647) : Gives (fun k => spec_Wide_Negated.f k a.1 a.2) (fun r => num r = -num a ∧ Wf r ∧ r.2.length ≤ a.2.length) := by
  unfold spec_Wide_Negated.f
  refine (bind_pair (wide_is (!a.1) hn h.dig)).mono fun r hr => ⟨?_, hr.2⟩
  rw [hr.1]
  unfold num
  cases a.1 <;> simp
theorem val_rep (n : Nat) (r : List Int) : val (List.replicate n 0 ++ r) = 4294967296 ^ n * val r := by
  rw [val_append, List.length_replicate]
  have : val (List.replicate n 0) = 0 := by
    induction n with
    | zero => rfl
    | succ n ih => simp [List.replicate_succ, val, ih]
  rw [this, Int.zero_add]
theorem rep_set (n : Nat) (x : Int) : (List.replicate (n + 1) (0 : Int)).set n x = List.replicate n 0 ++ [x] := by
  rw [List.replicate_succ', List.set_append_right _ _ (by simp)]
  simp
theorem Two_is (n : Nat) (hn : n ≤ 100000) : Gives (fun k => spec_Two.f k (n : Int)) (fun r => num r = 2 ^ n ∧ Wf r ∧ r.2.length ≤ n / 32 + 1) := by
  have e1 : wrap64 (Int.tdiv (n : Int) 32) = ((n / 32 : Nat) : Int) := by
    rw [Int.tdiv_eq_ediv_of_nonneg (by omega), w64 (by omega) (by omega)]; omega
  have e2 : Int.tmod (n : Int) 32 = ((n % 32 : Nat) : Int) := by
    rw [Int.tmod_eq_emod_of_nonneg (by omega)]; omega
  have e3 : wrap64 (((n / 32 : Nat) : Int) + 1) = ((n / 32 + 1 : Nat) : Int) := by rw [w64 (by omega) (by omega)]; omega
  have e4 : shl .u32 1 ((n % 32 : Nat) : Int) = 2 ^ (n % 32) := by
    have h : ∀ j : Fin 32, shl .u32 1 ((j.val : Nat) : Int) = 2 ^ j.val := by decide
    exact h ⟨n % 32, Nat.mod_lt _ (by omega)⟩
  have hb : (0 : Int) ≤ 2 ^ (n % 32) ∧ (2 : Int) ^ (n % 32) < 4294967296 := by
    have h : ∀ j : Fin 32, (0 : Int) ≤ 2 ^ j.val ∧ (2 : Int) ^ j.val < 4294967296 := by decide
    exact h ⟨n % 32, Nat.mod_lt _ (by omega)⟩
  have hd : Dig (List.replicate (n / 32) 0 ++ [2 ^ (n % 32)]) := (Dig.rep _).snoc hb.1 hb.2
  have hv : val (List.replicate (n / 32) 0 ++ [2 ^ (n % 32)]) = 2 ^ n := by
    rw [val_rep]
    simp only [val, Int.mul_zero, Int.add_zero]
    rw [show (4294967296 : Int) = 2 ^ 32 from by decide, ← Int.pow_mul, ← Int.pow_add, Nat.div_add_mod]
  unfold spec_Two.f
  simp only [e1, e2, e3, e4]
  refine Gives.congr (fun k => by rw [if_pos (by omega), if_pos (by omega), Option.bind_some, if_pos (by omega), if_pos (by omega), if_pos (by simp; omega)]) ?_
  simp only [Int.toNat_natCast, rep_set]
  refine (bind_pair (wide_is false (by simp; omega) hd)).mono fun r hr => ?_
  rw [hv] at hr
  exact ⟨by simpa using hr.1, hr.2.1, by simpa using hr.2.2⟩

/-! ### sums of digits -/
theorem magAdd_ok (a b : List Int) (ha : Dig a) (hb : Dig b) (hla : a.length ≤ 1000000) (hlb : b.length ≤ 1000000) (d : Nat) : ∀ (i : Nat) (out : List Int) (c : Int), i ≤ max a.length b.length → max a.length b.length - i = d → out.length = i → Dig out → 0 ≤ c → c ≤ 1 →
    val out + 4294967296 ^ i * (c + val (a.drop i) + val (b.drop i)) = val a + val b →
    Gives (fun k => spec_magAdd.l0 k a b out c (i : Int)) (fun r => val r = val a + val b ∧ Dig r ∧ r.length ≤ max a.length b.length + 1) := by
  have body : ∀ (i : Nat) (out : List Int) (c : Int) (P : List Int → Prop), i ≤ max a.length b.length → out.length = i → 0 ≤ c → c ≤ 1 → (i < max a.length b.length ∨ 0 < c) →
      Gives (fun k => spec_magAdd.l0 k a b (out ++ [(c + dg a i + dg b i) % 4294967296]) ((c + dg a i + dg b i) / 4294967296) ((i + 1 : Nat) : Int)) P →
      Gives (fun k => spec_magAdd.l0 k a b out c (i : Int)) P := by
    intro i out c P hi hl hc0 hc1 hgo H
    have hA := dg_bd ha i
    have hB := dg_bd hb i
    have hw : wrap64 ((i : Int) + 1) = ((i + 1 : Nat) : Int) := by rw [w64 (by omega) (by omega)]; omega
    have hlen : out.length < 35184372088832 := by omega
    have u1 : a.length > i → IntKind.u64.wrap (rd a (i : Int)) = dg a i := fun h => by rw [u64w (rd_bd ha h).1 (by have := (rd_bd ha h).2; omega)]; simp [dg, h]
    have u2 : b.length > i → IntKind.u64.wrap (rd b (i : Int)) = dg b i := fun h => by rw [u64w (rd_bd hb h).1 (by have := (rd_bd hb h).2; omega)]; simp [dg, h]
    have H2 : Gives (fun k => spec_magAdd.j1 k a b out c (i : Int) true) P := by
      by_cases h1 : i < a.length
      · by_cases h2 : i < b.length
        · refine Gives.step (fun k => by simp only [spec_magAdd.j1]; rw [if_pos trivial, if_pos (by omega), if_pos (by omega), if_pos (by omega), if_pos hlen, u1 h1, u2 h2, u64w (x := c + dg a i) (by omega) (by omega), u64w (by omega) (by omega), hw]) H
        · have z : dg b i = 0 := by simp [dg, h2]
          rw [z, Int.add_zero] at H
          refine Gives.step (fun k => by simp only [spec_magAdd.j1]; rw [if_pos trivial, if_pos (by omega), if_pos (by omega), if_neg (by omega), if_pos hlen, u1 h1, u64w (by omega) (by omega), hw]) H
      · have z : dg a i = 0 := by simp [dg, h1]
        rw [z, Int.add_zero] at H
        by_cases h2 : i < b.length
        · refine Gives.step (fun k => by simp only [spec_magAdd.j1]; rw [if_pos trivial, if_neg (by omega), if_pos (by omega), if_pos (by omega), if_pos hlen, u2 h2, u64w (by omega) (by omega), hw]) H
        · have z2 : dg b i = 0 := by simp [dg, h2]
          rw [z2, Int.add_zero] at H
          refine Gives.step (fun k => by simp only [spec_magAdd.j1]; rw [if_pos trivial, if_neg (by omega), if_neg (by omega), if_pos hlen, hw]) H
    by_cases h1 : i < a.length
    · exact Gives.step (fun k => by simp only [spec_magAdd.l0]; rw [if_pos (by omega)]) H2
    · by_cases h2 : i < b.length
      · exact Gives.step (fun k => by simp only [spec_magAdd.l0]; rw [if_neg (by omega), if_pos (by omega)]) H2
      · refine Gives.step (fun k => by simp only [spec_magAdd.l0]; rw [if_neg (by omega), if_neg (by omega), decide_eq_true (by omega)]) H2
  have inv : ∀ (i : Nat) (out : List Int) (c : Int), out.length = i → val out + 4294967296 ^ i * (c + val (a.drop i) + val (b.drop i)) = val a + val b →
      val (out ++ [(c + dg a i + dg b i) % 4294967296]) + 4294967296 ^ (i + 1) * ((c + dg a i + dg b i) / 4294967296 + val (a.drop (i + 1)) + val (b.drop (i + 1))) = val a + val b := by
    intro i out c hl h
    rw [val_snoc, hl, ← h, val_drop a i, val_drop b i, Int.pow_succ]
    have e : c + (dg a i + 4294967296 * val (a.drop (i + 1))) + (dg b i + 4294967296 * val (b.drop (i + 1))) = (c + dg a i + dg b i) % 4294967296 + 4294967296 * ((c + dg a i + dg b i) / 4294967296 + val (a.drop (i + 1)) + val (b.drop (i + 1))) := by omega
    rw [e]
    generalize (4294967296 : Int) ^ i = p
    generalize (c + dg a i + dg b i) / 4294967296 + val (a.drop (i + 1)) + val (b.drop (i + 1)) = q
    grind
  have stop : ∀ (i : Nat) (out : List Int), i = max a.length b.length → Gives (fun k => spec_magAdd.l0 k a b out 0 (i : Int)) (fun r => r = out) ∧ ∀ j : Nat, i ≤ j → Gives (fun k => spec_magAdd.l0 k a b out 0 (j : Int)) (fun r => r = out) := by
    intro i out hi
    have H : ∀ j : Nat, i ≤ j → Gives (fun k => spec_magAdd.l0 k a b out 0 (j : Int)) (fun r => r = out) := fun j hj =>
      Gives.step (fun k => by simp only [spec_magAdd.l0]; rw [if_neg (by omega), if_neg (by omega), decide_eq_false (by omega)])
        (Gives.step (fun k => by simp only [spec_magAdd.j1]; rw [if_neg (by simp)]) (Gives.now _ rfl))
    exact ⟨H i (Nat.le_refl _), H⟩
  induction d with
  | zero =>
    intro i out c hi hd hl hdig hc0 hc1 hv
    obtain rfl : i = max a.length b.length := by omega
    have e1 : val (a.drop (max a.length b.length)) = 0 := by rw [List.drop_eq_nil_of_le (by omega)]; rfl
    have e2 : val (b.drop (max a.length b.length)) = 0 := by rw [List.drop_eq_nil_of_le (by omega)]; rfl
    rw [e1, e2] at hv
    by_cases hc : c = 0
    · subst hc
      refine (stop _ out rfl).1.mono fun r hr => ?_
      subst hr
      exact ⟨by rw [← hv]; simp, hdig, by omega⟩
    · have z1 : dg a (max a.length b.length) = 0 := by simp [dg]; omega
      have z2 : dg b (max a.length b.length) = 0 := by simp [dg]; omega
      obtain rfl : c = 1 := by omega
      refine body _ out 1 _ (Nat.le_refl _) hl (by omega) (by omega) (.inr (by omega)) ?_
      rw [z1, z2]
      refine ((stop _ (out ++ [1]) rfl).2 (max a.length b.length + 1) (by omega)).mono fun r hr => ?_
      subst hr
      refine ⟨?_, hdig.snoc (by omega) (by omega), by simp; omega⟩
      rw [val_snoc, hl, ← hv]; simp
  | succ d ih =>
    intro i out c hi hd hl hdig hc0 hc1 hv
    have hA := dg_bd ha i
    have hB := dg_bd hb i
    refine body i out c _ hi hl hc0 hc1 (.inl (by omega)) ?_
    exact ih (i + 1) _ _ (by omega) (by omega) (by simp [hl]) (hdig.snoc (by omega) (by omega)) (by omega) (by omega) (inv i out c hl hv)
theorem magAdd_is {a b : List Int} (ha : Dig a) (hb : Dig b) (hla : a.length ≤ 1000000) (hlb : b.length ≤ 1000000) : Gives (fun k => spec_magAdd.f k a b) (fun r => val r = val a + val b ∧ Dig r ∧ r.length ≤ max a.length b.length + 1) := by
  unfold spec_magAdd.f
  exact magAdd_ok a b ha hb hla hlb _ 0 [] 0 (by omega) rfl rfl Dig.nil (by omega) (by omega) (by simp [val])

/-! ### comparisons -/
theorem cmp_ok (a b : List Int) (ha : Dig a) (hb : Dig b) (hl : a.length = b.length) (hn : a.length ≤ 1000000) (n : Nat) : n ≤ a.length → val (a.drop n) = val (b.drop n) →
    Gives (fun k => spec_magCmp.l0 k a b ((n : Int) - 1)) (fun r => (val a < val b ∧ r = -1) ∨ (val a = val b ∧ r = 0) ∨ (val b < val a ∧ r = 1)) := by
  induction n with
  | zero =>
    intro _ h
    refine Gives.step (fun k => by simp only [spec_magCmp.l0]; rw [if_neg (by omega)]) (Gives.now 0 (.inr (.inl ⟨h, rfl⟩)))
  | succ n ih =>
    intro h1 h
    have e : ((n + 1 : Nat) : Int) - 1 = (n : Int) := by omega
    have hd1 := val_drop a n
    have hd2 := val_drop b n
    have ht1 := val_take_drop a n (by omega)
    have ht2 := val_take_drop b n (by omega)
    have hA : dg a n = rd a (n : Int) := by simp [dg]; omega
    have hB : dg b n = rd b (n : Int) := by simp [dg]; omega
    have l1 := val_lt (ha.take n)
    have l2 := val_lt (hb.take n)
    have l3 := val_nonneg (ha.take n)
    have l4 := val_nonneg (hb.take n)
    rw [List.length_take, Nat.min_eq_left (by omega)] at l1 l2
    have hp := pow_pos' n
    rw [e]
    by_cases c1 : rd a (n : Int) < rd b (n : Int)
    · refine Gives.step (fun k => by simp only [spec_magCmp.l0]; rw [if_pos (by omega), if_pos (by omega), if_pos (by omega), if_pos (by omega), if_pos c1]) (Gives.now _ (.inl ⟨?_, rfl⟩))
      have hx : val (a.drop n) + 1 ≤ val (b.drop n) := by omega
      have := Int.mul_le_mul_of_nonneg_left hx (Int.le_of_lt hp)
      rw [Int.mul_add, Int.mul_one] at this
      omega
    · by_cases c2 : rd a (n : Int) > rd b (n : Int)
      · refine Gives.step (fun k => by simp only [spec_magCmp.l0]; rw [if_pos (by omega), if_pos (by omega), if_pos (by omega), if_pos (by omega), if_neg c1, if_pos c2]) (Gives.now _ (.inr (.inr ⟨?_, rfl⟩)))
        have hx : val (b.drop n) + 1 ≤ val (a.drop n) := by omega
        have := Int.mul_le_mul_of_nonneg_left hx (Int.le_of_lt hp)
        rw [Int.mul_add, Int.mul_one] at this
        omega
      · refine Gives.step (fun k => by simp only [spec_magCmp.l0]; rw [if_pos (by omega), if_pos (by omega), if_pos (by omega), if_pos (by omega), if_neg c1, if_neg c2, w64 (by omega) (by omega)]) ?_
        exact ih (by omega) (by omega)
theorem magCmp_is {a b : List Int} (ha : Dig a) (hb : Dig b) (na : Nrm a) (nb : Nrm b) (hla : a.length ≤ 1000000) : Gives (fun k => spec_magCmp.f k a b) (fun r => (val a < val b ∧ r = -1) ∨ (val a = val b ∧ r = 0) ∨ (val b < val a ∧ r = 1)) := by
  unfold spec_magCmp.f
  by_cases h : (a.length : Int) = (b.length : Int)
  · refine Gives.congr (fun k => by rw [if_pos h, w64 (by omega) (by omega)]) ?_
    exact cmp_ok a b ha hb (by omega) hla a.length (Nat.le_refl _) (by rw [List.drop_eq_nil_of_le (by omega), List.drop_eq_nil_of_le (by omega)])
  · by_cases h2 : (a.length : Int) < (b.length : Int)
    · exact Gives.congr (fun k => by rw [if_neg h, if_pos h2]) (Gives.now _ (.inl ⟨len_lt_val ha hb nb (by omega), rfl⟩))
    · exact Gives.congr (fun k => by rw [if_neg h, if_neg h2]) (Gives.now _ (.inr (.inr ⟨len_lt_val hb ha na (by omega), rfl⟩)))
/-- What a comparison answers. -/
def Cmp (x y r : Int) : Prop := (x < y ∧ r = -1) ∨ (x = y ∧ r = 0) ∨ (y < x ∧ r = 1)
theorem WideCmp_is {a b : Bool × List Int} (ha : Wf a) (hb : Wf b) (hla : a.2.length ≤ 1000000) : Gives (fun k => spec_WideCmp.f k a.1 a.2 b.1 b.2) (Cmp (num a) (num b)) := by
  have hA := val_nonneg ha.dig
  have hB := val_nonneg hb.dig
  have nA := ha.neg_lt
  have nB := hb.neg_lt
  have pA : num a = if a.1 = true then -val a.2 else val a.2 := rfl
  have pB : num b = if b.1 = true then -val b.2 else val b.2 := rfl
  have key := magCmp_is ha.dig hb.dig ha.nrm hb.nrm hla
  obtain ⟨s, l⟩ := a
  obtain ⟨t, m⟩ := b
  cases s <;> cases t
  · simp at pA pB nA nB
    refine Gives.congr (fun k => rfl) ?_
    refine Gives.step (f := fun k => spec_WideCmp.f (k + 1) false l false m) (fun k => rfl) ?_
    unfold spec_WideCmp.f
    refine Gives.congr (f := fun k => spec_WideCmp.j1 k false false l false m) (fun k => by rw [if_neg (by simp)]; simp [spec_WideCmp.j0]) ?_
    refine Gives.step (f := fun k => (spec_magCmp.f k l m).bind fun t => some t) (fun k => by simp [spec_WideCmp.j1]) ?_
    refine Gives.bind key fun r hr => Gives.now _ ?_
    unfold Cmp; rw [pA, pB]; exact hr
  · simp at pA pB nA nB
    unfold spec_WideCmp.f
    refine Gives.step (f := fun k => spec_WideCmp.j1 k true false l true m) (fun k => by rw [if_neg (by simp)]; simp [spec_WideCmp.j0]) ?_
    refine Gives.step (fun k => by simp only [spec_WideCmp.j1]; rw [if_pos trivial]) (Gives.now _ ?_)
    exact .inr (.inr ⟨by simp only at hA hB; omega, rfl⟩)
  · simp at pA pB nA nB
    unfold spec_WideCmp.f
    refine Gives.step (f := fun _ => some (-1)) (fun k => by simp [spec_WideCmp.j0]) (Gives.now _ ?_)
    exact .inl ⟨by simp only at hA hB; omega, rfl⟩
  · simp at pA pB nA nB
    unfold spec_WideCmp.f
    refine Gives.step (f := fun k => spec_WideCmp.j1 k false true l true m) (fun k => by simp [spec_WideCmp.j0]) ?_
    refine Gives.step (f := fun k => (spec_magCmp.f k l m).bind fun t => some (wrap64 (-t))) (fun k => by simp [spec_WideCmp.j1]) ?_
    refine Gives.bind key fun r hr => Gives.now _ ?_
    unfold Cmp; rw [pA, pB]
    simp only at hr
    rcases hr with ⟨h, rfl⟩ | ⟨h, rfl⟩ | ⟨h, rfl⟩
    · exact .inr (.inr ⟨by omega, by unfold wrap64; omega⟩)
    · exact .inr (.inl ⟨by omega, by unfold wrap64; omega⟩)
    · exact .inl ⟨by omega, by unfold wrap64; omega⟩
end Go.Proofs.YtlnbkmkdapeicaaDoor.Wide
