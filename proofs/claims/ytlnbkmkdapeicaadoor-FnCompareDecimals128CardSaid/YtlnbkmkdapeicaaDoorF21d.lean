/- What the law over decimals asks of the answers, plainly. -/
import Derived.Test.YtlnbkmkdapeicaaDoorF16d
import Derived.Test.YtlnbkmkdapeicaaDoorF18d
import Derived.Deep.CutRange
namespace Go.Proofs.YtlnbkmkdapeicaaDoor.QR
open Go.RowKit Go.Proofs.YtlnbkmkdapeicaaDoorW.PrintWords Go.Proofs.YtlnbkmkdapeicaaDoorW.PrintLast Go.Proofs.YtlnbkmkdapeicaaDoorW.PrintMore
set_option linter.unusedVariables false
set_option linter.unusedSimpArgs false
theorem cell_keep {w w1 : World} {p : Addr} {v : Value} (h : w.cell? p = some v) (hb : Below w.heap.size w w1) : w1.cell? p = some v := by
  have hlt : p.block < w.heap.size := by
    unfold World.cell? at h
    split at h
    · rename_i e
      exact (Array.getElem?_eq_some_iff.1 e).1
    · cases h
  unfold World.cell? at h ⊢
  rw [hb.block p.block hlt]
  exact h
def ansB (op : Nat) (c : Int) : Bool := match op with
  | 0 => c == 0
  | 1 => c != 0
  | 2 => decide (c > 0)
  | _ => decide (c ≥ 0)
theorem answer_is (op : Nat) (hop : op ≤ 3) (c : Int) : QT.laws_answer.f (op : Int) c false = some (ansB op c) := by
  have h : op = 0 ∨ op = 1 ∨ op = 2 ∨ op = 3 := by omega
  rcases h with rfl | rfl | rfl | rfl <;> rfl
/-- The places of a pair. -/
def plX (how i : Nat) : Nat := if how = 2 then 0 else i
def plY (how i : Nat) : Nat := if how = 1 then 0 else i
theorem place_is (how i : Nat) (hhow : how ≤ 2) : QT.laws_place2.f (how : Int) (i : Int) = some (((plX how i : Nat) : Int), ((plY how i : Nat) : Int)) := by
  have h : how = 0 ∨ how = 1 ∨ how = 2 := by omega
  rcases h with rfl | rfl | rfl <;> rfl
/-- What is due of pair i. -/
def dueR (op how : Nat) (xs ys : List Dc) (i : Nat) : Bool := ansB op (ordD (rdD xs (plX how i)) (rdD ys (plY how i)))
def dueL (op how : Nat) (xs ys : List Dc) (n : Nat) : List Bool := (List.range n).map (dueR op how xs ys)
theorem dueL_len (op how : Nat) (xs ys : List Dc) (n : Nat) : (dueL op how xs ys n).length = n := by simp [dueL]
theorem dueL_succ (op how : Nat) (xs ys : List Dc) (n : Nat) : dueL op how xs ys (n + 1) = dueL op how xs ys n ++ [dueR op how xs ys n] := by simp [dueL, List.range_succ]
theorem infoB : (Tryd.prog.info? 4).map (fun i => (i.zero, i.size, i.bytes)) = some (some (.bool false), 1, 1) := by kernel_rfl
theorem ltD_asymm {a b : Dc} (h : ltD a b = true) : ltD b a = false := by
  unfold ltD at h ⊢
  simp only [decide_eq_true_eq, decide_eq_false_iff_not] at h ⊢
  omega
theorem ltD_eq {a b : Dc} (h1 : ltD a b = false) (h2 : ltD b a = false) : a.1 = b.1 ∧ a.2 = b.2 := by
  unfold ltD at h1 h2
  simp only [decide_eq_false_iff_not] at h1 h2
  omega
theorem ltD_ne {a b : Dc} (h1 : ltD a b = true) : (a.1 == b.1 && a.2 == b.2) = false := by
  unfold ltD at h1
  simp only [decide_eq_true_eq] at h1
  rw [Bool.and_eq_false_iff]
  rcases h1 with h | h
  · right; simp; omega
  · left; simp; omega
theorem ord_cmp (op : Nat) (hop : op ≤ 3) (a b : Dc) : ansB op (ordD a b) = cmpB op a b := by
  have h : op = 0 ∨ op = 1 ∨ op = 2 ∨ op = 3 := by omega
  unfold ordD
  cases h1 : ltD a b with
  | true =>
    have h2 := ltD_asymm h1
    have h3 := ltD_ne h1
    rcases h with rfl | rfl | rfl | rfl <;> simp only [ansB, cmpB, h1, h2, h3, if_true] <;> rfl
  | false =>
    cases h2 : ltD b a with
    | true =>
      have h3 := ltD_ne h2
      have h4 : (a.1 == b.1 && a.2 == b.2) = false := by rw [← h3, BEq.comm (a := a.1), BEq.comm (a := a.2)]
      rcases h with rfl | rfl | rfl | rfl <;> simp only [ansB, cmpB, h1, h2, h4, if_true, if_false, Bool.false_eq_true] <;> rfl
    | false =>
      obtain ⟨e1, e2⟩ := ltD_eq h1 h2
      have h4 : (a.1 == b.1 && a.2 == b.2) = true := by simp [e1, e2]
      rcases h with rfl | rfl | rfl | rfl <;> simp only [ansB, cmpB, h1, h2, h4, if_false, Bool.false_eq_true] <;> rfl
theorem due_is (op how : Nat) (hop : op ≤ 3) (xs ys : List Dc) (i : Nat) : dueR op how xs ys i = duB op how xs ys i := by
  unfold dueR duB plX plY
  exact ord_cmp op hop _ _
theorem i64w (x : Int) : wrap64 x = (x + 9223372036854775808) % 18446744073709551616 - 9223372036854775808 := by simp [wrap64]
theorem bit_all : ∀ (x : Fin 256) (m : Fin 8), (Go.bits .and .u8 (shr .u8 ((x.1 : Nat) : Int) ((m.1 : Nat) : Int)) 1 == 1) = decide (((x.1 : Nat) : Int) / 2 ^ m.1 % 2 = 1) := by decide +kernel
theorem bit_is {l : List Int} {k : Nat} (hk : k < 8 * l.length) (hl : l.length ≤ 1000000) (hbo : bytesOk l = true) : QT.spec_Bit.f l (k : Int) = some (bt1 l k) := by
  have hd : Int.tdiv (k : Int) 8 = ((k / 8 : Nat) : Int) := rfl
  have hm : Int.tmod (k : Int) 8 = ((k % 8 : Nat) : Int) := rfl
  have hw : wrap64 ((k / 8 : Nat) : Int) = ((k / 8 : Nat) : Int) := by rw [i64w]; omega
  unfold QT.spec_Bit.f
  rw [hd, hm, hw, if_pos (by omega), if_pos (by omega), if_pos (by omega)]
  have hx := bytes_ok hbo ((k / 8 : Nat) : Int)
  have h := bit_all ⟨(rd l ((k / 8 : Nat) : Int)).toNat, by omega⟩ ⟨k % 8, by omega⟩
  simp only [Int.toNat_of_nonneg hx.1] at h
  rw [h]
  rfl
theorem due_l1 {l1 : List Int} (hl : l1.length ≤ 1000) (hbo : bytesOk l1 = true) (F n : Nat) (due : List Bool) (hdl : due.length = n) (hF : F + n ≤ 8 * l1.length) (hd : ∀ i, i < n → due[i]? = some (bt1 l1 (F + i))) :
    ∀ (r i : Nat), i + r = n → ∃ k, QT.laws_bitsDue.l1 k l1 (F : Int) due (due.length : Int) (i : Int) = some true
  | 0, i, h => ⟨1, by
    have : i = n := by omega
    subst this
    simp only [QT.laws_bitsDue.l1]
    rw [if_neg (by omega)]⟩
  | r + 1, i, h => by
    obtain ⟨k, hk⟩ := due_l1 hl hbo F n due hdl hF hd r (i + 1) (by omega)
    refine ⟨k + 1, ?_⟩
    have hi : i < n := by omega
    have hw : wrap64 ((F : Int) + (i : Int)) = ((F + i : Nat) : Int) := by rw [i64w]; omega
    have hw2 : wrap64 ((i : Int) + 1) = ((i + 1 : Nat) : Int) := by rw [i64w]; omega
    have hr : rdOf false due (i : Int) = bt1 l1 (F + i) := by
      unfold rdOf
      rw [Int.toNat_natCast, List.getD_eq_getElem?_getD, hd i hi]
      rfl
    simp only [QT.laws_bitsDue.l1]
    rw [if_pos (by omega), if_pos (by omega), if_pos (by omega), hw, bit_is (by omega) (by omega) hbo, Option.bind_some, hr, if_neg (by simp), hw2]
    exact hk
theorem due_l0 {l0 l1 : List Int} (hlen : l1.length = l0.length) (hl : l1.length ≤ 1000) (hb0 : bytesOk l0 = true) (hbo : bytesOk l1 = true) (F n : Nat) (due : List Bool) (hdl : due.length = n) (hF : F + n ≤ 8 * l1.length) (hs : ∀ i, i < F → bt1 l1 i = bt1 l0 i) (hd : ∀ i, i < n → due[i]? = some (bt1 l1 (F + i))) :
    ∀ (r i : Nat), i + r = F → ∃ k, QT.laws_bitsDue.l0 k l0 l1 (F : Int) due (i : Int) = some true
  | 0, i, h => by
    obtain ⟨k, hk⟩ := due_l1 hl hbo F n due hdl hF hd n 0 (by omega)
    refine ⟨k + 1, ?_⟩
    simp only [QT.laws_bitsDue.l0]
    rw [if_neg (by omega)]
    exact hk
  | r + 1, i, h => by
    obtain ⟨k, hk⟩ := due_l0 hlen hl hb0 hbo F n due hdl hF hs hd r (i + 1) (by omega)
    refine ⟨k + 1, ?_⟩
    have hw2 : wrap64 ((i : Int) + 1) = ((i + 1 : Nat) : Int) := by rw [i64w]; omega
    simp only [QT.laws_bitsDue.l0]
    rw [if_pos (by omega), bit_is (by omega) (by omega) hb0, Option.bind_some, bit_is (by omega) (by omega) hbo, Option.bind_some, hs i (by omega), if_neg (by simp), hw2]
    exact hk
theorem bitsDue_is {l0 l1 : List Int} (hlen : l1.length = l0.length) (hl : l1.length ≤ 1000) (hb0 : bytesOk l0 = true) (hbo : bytesOk l1 = true) (F n : Nat) (due : List Bool) (hdl : due.length = n) (hF : F + n ≤ 8 * l1.length) (hs : ∀ i, i < F → bt1 l1 i = bt1 l0 i) (hd : ∀ i, i < n → due[i]? = some (bt1 l1 (F + i))) : ∃ k, QT.laws_bitsDue.f k l0 l1 (F : Int) due = some true := by
  obtain ⟨k, hk⟩ := due_l0 hlen hl hb0 hbo F n due hdl hF hs hd F 0 (by omega)
  refine ⟨k, ?_⟩
  unfold QT.laws_bitsDue.f
  rw [if_pos (by rw [hlen])]
  exact hk
/-- Which pairs there are. -/
theorem pairs_is (how : Int) (nl nr : Nat) : ∃ (r1 : Int) (r2 : Bool), QT.laws_pairs2.f how (nl : Int) (nr : Int) = some (r1, r2) ∧ (r2 = true → ∃ (h n : Nat), how = (h : Int) ∧ h ≤ 2 ∧ r1 = (n : Int) ∧ (h = 0 → nl = n ∧ nr = n) ∧ (h = 1 → nl = n ∧ 1 ≤ nr) ∧ (h = 2 → nr = n ∧ 1 ≤ nl)) := by
  unfold QT.laws_pairs2.f
  by_cases h0 : how = 0
  · subst h0
    refine ⟨_, _, rfl, fun h => ⟨0, nl, rfl, by omega, rfl, fun _ => ⟨rfl, ?_⟩, fun h => by omega, fun h => by omega⟩⟩
    have := eq_of_beq h
    omega
  · rw [if_neg h0]
    by_cases h1 : how = 1
    · subst h1
      refine ⟨_, _, rfl, fun h => ⟨1, nl, rfl, by omega, rfl, fun h => by omega, fun _ => ⟨rfl, ?_⟩, fun h => by omega⟩⟩
      have := of_decide_eq_true h
      omega
    · rw [if_neg h1]
      by_cases h2 : how = 2
      · subst h2
        refine ⟨_, _, rfl, fun h => ⟨2, nr, rfl, by omega, rfl, fun h => by omega, fun h => by omega, fun _ => ⟨rfl, ?_⟩⟩⟩
        have := of_decide_eq_true h
        omega
      · rw [if_neg h2]
        exact ⟨_, _, rfl, fun h => by cases h⟩
theorem room_is (l : List Int) (f r1 : Int) : ∃ rr, QT.laws_room.f l f r1 = some rr ∧ (rr = true → 0 ≤ r1 → ∃ F : Nat, f = (F : Int) ∧ F ≤ 7 ∧ r1 ≤ 300 ∧ l.length ≤ 100 ∧ (F : Int) + r1 ≤ 8 * (l.length : Int)) := by
  unfold QT.laws_room.f
  by_cases h1 : f ≥ 0
  · rw [if_pos h1]
    by_cases h2 : f ≤ 7
    · rw [if_pos h2]
      by_cases h3 : r1 ≤ 300
      · rw [if_pos h3]
        by_cases h4 : (l.length : Int) ≤ 100
        · rw [if_pos h4]
          refine ⟨_, rfl, fun h hr => ⟨f.toNat, by omega, by omega, h3, by omega, ?_⟩⟩
          have := of_decide_eq_true h
          simp only [i64w] at this
          omega
        · rw [if_neg h4]; exact ⟨_, rfl, fun h => by cases h⟩
      · rw [if_neg h3]; exact ⟨_, rfl, fun h => by cases h⟩
    · rw [if_neg h2]; exact ⟨_, rfl, fun h => by cases h⟩
  · rw [if_neg h1]; exact ⟨_, rfl, fun h => by cases h⟩
theorem and_one : ∀ x : Fin 256, decide (((x.1 : Nat) : Int) / 2 ^ 0 % 2 = 1) = true → (Go.bits .and .u8 ((x.1 : Nat) : Int) 1 == 1) = true := by decide +kernel
theorem u8_C {W : World} {g et : Nat} {x : Int} (hg : W.heap[g]? = some (.cells #[.int .u8 x] et (0, 0))) : Cu W (some ⟨g, 0, none⟩) [x] := by
  refine Kd.C_of_reads (d := (0 : Int)) (enc := Value.int .u8) ⟨rfl, by simp, fun _ => ⟨_, rfl, fun j hj => ?_⟩⟩
  obtain rfl : j = 0 := by simp at hj; exact hj
  rw [show ((⟨g, 0, none⟩ : Addr).add 0) = ⟨g, 0, none⟩ by simp [Addr.add]]
  exact (blk_cell hg 0).trans rfl
/-- A row of one row of two words. -/
theorem row_C {W : World} {g s et es : Nat} {x y : Int} (hs : W.heap[s]? = some (.cells #[.int .u64 x, .int .u64 y] es (0, 0))) (hg : W.heap[g]? = some (.cells #[.slice (some ⟨s, 0, none⟩) 2 2] et (0, 0))) : Kd.C (Kd.slice 27 (Kd.int .u64)) W (some ⟨g, 0, none⟩) 1 [[x, y]] := by
  have hin : Kd.C (Kd.int .u64) W (some ⟨s, 0, none⟩) 2 [x, y] := by
    refine Kd.C_of_reads (d := (0 : Int)) (enc := Value.int .u64) ⟨rfl, by decide, fun _ => ⟨_, rfl, fun j hj => ?_⟩⟩
    have h : j = 0 ∨ j = 1 := by omega
    rcases h with rfl | rfl
    · rw [show ((⟨s, 0, none⟩ : Addr).add 0) = ⟨s, 0, none⟩ by simp [Addr.add]]
      exact (blk_cell hs 0).trans rfl
    · rw [show ((⟨s, 0, none⟩ : Addr).add 1) = ⟨s, 1, none⟩ by simp [Addr.add]]
      exact (blk_cell hs 1).trans rfl
  refine ⟨rfl, by decide, fun _ => ⟨⟨g, 0, none⟩, rfl, fun j p hj => ?_⟩⟩
  have h : j = 0 := by
    rcases j with _ | j
    · rfl
    · simp at hj
  subst h
  obtain rfl : [x, y] = p := by simpa using hj
  refine ⟨[.slice (some ⟨s, 0, none⟩) 2 2], rfl, ⟨some ⟨s, 0, none⟩, 2, rfl, Nat.le_refl _, hin⟩, fun i u hi => ?_⟩
  have h : i = 0 := by
    rcases i with _ | i
    · rfl
    · simp at hi
  subst h
  obtain rfl : Value.slice (some ⟨s, 0, none⟩) 2 2 = u := by simpa using hi
  exact (blk_cell hg 0).trans rfl
end Go.Proofs.YtlnbkmkdapeicaaDoor.QR
