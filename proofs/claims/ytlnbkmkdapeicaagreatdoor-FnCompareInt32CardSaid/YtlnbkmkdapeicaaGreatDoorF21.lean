/- What the law asks of the answers, plainly. -/
import Derived.Test.YtlnbkmkdapeicaaGreatDoorF20
namespace Go.Proofs.YtlnbkmkdapeicaaGreatDoor.QR
open Go.RowKit Go.Proofs.YtlnbkmkdapeicaaGreatDoorW.PrintWords Go.Proofs.YtlnbkmkdapeicaaGreatDoorW.PrintLast Go.Proofs.YtlnbkmkdapeicaaGreatDoorW.PrintMore
set_option linter.unusedVariables false
set_option linter.unusedSimpArgs false
theorem ord_cmp (op : Nat) (hop : op ≤ 3) (a b : Int) : ansB op (if a < b then -1 else if b < a then 1 else 0) = cmpB op a b := by
  have h : op = 0 ∨ op = 1 ∨ op = 2 ∨ op = 3 := by omega
  by_cases h1 : a < b
  · rw [if_pos h1]
    rcases h with rfl | rfl | rfl | rfl <;> simp [ansB, cmpB] <;> omega
  · rw [if_neg h1]
    by_cases h2 : b < a
    · rw [if_pos h2]
      rcases h with rfl | rfl | rfl | rfl <;> simp [ansB, cmpB] <;> omega
    · rw [if_neg h2]
      rcases h with rfl | rfl | rfl | rfl <;> simp [ansB, cmpB] <;> omega
theorem fit_wrap {a : Int} (ha : 0 ≤ a ∧ a < 18446744073709551616) (hf : fitsA 32 true a = true) : wrap64 a = IntKind.i32.wrap a := by
  unfold fitsA at hf
  rw [if_neg (by decide), if_pos rfl] at hf
  have h := of_decide_eq_true hf
  simp only [u64w, i32w, i64w] at h ⊢
  omega
theorem okA_all {xs : List Int} (h : okA xs = true) : xs.length ≤ 300 ∧ ∀ x ∈ xs, fitsA 32 true x = true := by
  unfold okA at h
  rw [Bool.and_eq_true] at h
  exact ⟨of_decide_eq_true h.2, fun x hx => List.all_eq_true.1 h.1 x hx⟩
theorem w32_rd {xs : List Int} {i : Nat} (h : i < xs.length) : rd (w32 xs) (i : Int) = IntKind.i32.wrap (rd xs (i : Int)) := by
  unfold rd
  rw [Int.toNat_natCast, List.getD_eq_getElem?_getD, List.getD_eq_getElem?_getD, List.getElem?_map, List.getElem?_eq_getElem h]
  rfl
theorem rd_mem {xs : List Int} {i : Nat} (h : i < xs.length) : rd xs (i : Int) ∈ xs := by
  unfold rd
  rw [Int.toNat_natCast, List.getD_eq_getElem?_getD, List.getElem?_eq_getElem h]
  exact List.getElem_mem h
theorem due_is (op how : Nat) (hop : op ≤ 3) (xs ys : List Int) (hux : u64s xs) (huy : u64s ys) (hfx : ∀ x ∈ xs, fitsA 32 true x = true) (hfy : ∀ x ∈ ys, fitsA 32 true x = true) (i : Nat) (hx : plX how i < xs.length) (hy : plY how i < ys.length) : dueR op how xs ys i = duB op how (w32 xs) (w32 ys) i := by
  have e1 := fit_wrap (hux _ (rd_mem hx)) (hfx _ (rd_mem hx))
  have e2 := fit_wrap (huy _ (rd_mem hy)) (hfy _ (rd_mem hy))
  unfold dueR ordI
  rw [e1, e2, ord_cmp op hop, ← w32_rd hx, ← w32_rd hy]
  rfl
theorem bit_all : ∀ (x : Fin 256) (m : Fin 8), (Go.bits .and .u8 (shr .u8 ((x.1 : Nat) : Int) ((m.1 : Nat) : Int)) 1 == 1) = decide (((x.1 : Nat) : Int) / 2 ^ m.1 % 2 = 1) := by decide +kernel
theorem bit_is {l : List Int} {k : Nat} (hk : k < 8 * l.length) (hl : l.length ≤ 1000000) (hbo : bytesOk l = true) : QT.spec_Bit.f l (k : Int) = some (bt1 l k) := by
  have hd : Int.tdiv (k : Int) 8 = ((k / 8 : Nat) : Int) := rfl
  have hm : Int.tmod (k : Int) 8 = ((k % 8 : Nat) : Int) := rfl
  have hw : wrap64 ((k / 8 : Nat) : Int) = ((k / 8 : Nat) : Int) := by rw [i64w]; omega
  unfold QT.spec_Bit.f
  rw [hd, hm, hw, if_pos (by omega), if_pos (by omega), if_pos (by omega)]
  have hx := bytes_ok hbo ((k / 8 : Nat) : Int)
  have h := bit_all ⟨(rd l ((k / 8 : Nat) : Int)).toNat, by omega⟩ ⟨k % 8, by omega⟩
  simp only [Int.toNat_of_nonneg hx.1] at h
  rw [h]
  rfl
theorem due_l1 {l1 : List Int} (hl : l1.length ≤ 1000) (hbo : bytesOk l1 = true) (F n : Nat) (due : List Bool) (hdl : due.length = n) (hF : F + n ≤ 8 * l1.length) (hd : ∀ i, i < n → due[i]? = some (bt1 l1 (F + i))) :
    ∀ (r i : Nat), i + r = n → ∃ k, QT.laws_bitsDue.l1 k l1 (F : Int) due (due.length : Int) (i : Int) = some true
  | 0, i, h => ⟨1, by
    have : i = n := by omega
    subst this
    simp only [QT.laws_bitsDue.l1]
    rw [if_neg (by omega)]⟩
  | r + 1, i, h => by
    obtain ⟨k, hk⟩ := due_l1 hl hbo F n due hdl hF hd r (i + 1) (by omega)
    refine ⟨k + 1, ?_⟩
    have hi : i < n := by omega
    have hw : wrap64 ((F : Int) + (i : Int)) = ((F + i : Nat) : Int) := by rw [i64w]; omega
    have hw2 : wrap64 ((i : Int) + 1) = ((i + 1 : Nat) : Int) := by rw [i64w]; omega
    have hr : rdOf false due (i : Int) = bt1 l1 (F + i) := by
      unfold rdOf
      rw [Int.toNat_natCast, List.getD_eq_getElem?_getD, hd i hi]
      rfl
    simp only [QT.laws_bitsDue.l1]
    rw [if_pos (by omega), if_pos (by omega), if_pos (by omega), hw, bit_is (by omega) (by omega) hbo, Option.bind_some, hr, if_neg (by simp), hw2]
    exact hk
theorem due_l0 {l0 l1 : List Int} (hlen : l1.length = l0.length) (hl : l1.length ≤ 1000) (hb0 : bytesOk l0 = true) (hbo : bytesOk l1 = true) (F n : Nat) (due : List Bool) (hdl : due.length = n) (hF : F + n ≤ 8 * l1.length) (hs : ∀ i, i < F → bt1 l1 i = bt1 l0 i) (hd : ∀ i, i < n → due[i]? = some (bt1 l1 (F + i))) :
    ∀ (r i : Nat), i + r = F → ∃ k, QT.laws_bitsDue.l0 k l0 l1 (F : Int) due (i : Int) = some true
  | 0, i, h => by
    obtain ⟨k, hk⟩ := due_l1 hl hbo F n due hdl hF hd n 0 (by omega)
    refine ⟨k + 1, ?_⟩
    simp only [QT.laws_bitsDue.l0]
    rw [if_neg (by omega)]
    exact hk
  | r + 1, i, h => by
    obtain ⟨k, hk⟩ := due_l0 hlen hl hb0 hbo F n due hdl hF hs hd r (i + 1) (by omega)
    refine ⟨k + 1, ?_⟩
    have hw2 : wrap64 ((i : Int) + 1) = ((i + 1 : Nat) : Int) := by rw [i64w]; omega
    simp only [QT.laws_bitsDue.l0]
    rw [if_pos (by omega), bit_is (by omega) (by omega) hb0, Option.bind_some, bit_is (by omega) (by omega) hbo, Option.bind_some, hs i (by omega), if_neg (by simp), hw2]
    exact hk
theorem bitsDue_is {l0 l1 : List Int} (hlen : l1.length = l0.length) (hl : l1.length ≤ 1000) (hb0 : bytesOk l0 = true) (hbo : bytesOk l1 = true) (F n : Nat) (due : List Bool) (hdl : due.length = n) (hF : F + n ≤ 8 * l1.length) (hs : ∀ i, i < F → bt1 l1 i = bt1 l0 i) (hd : ∀ i, i < n → due[i]? = some (bt1 l1 (F + i))) : ∃ k, QT.laws_bitsDue.f k l0 l1 (F : Int) due = some true := by
  obtain ⟨k, hk⟩ := due_l0 hlen hl hb0 hbo F n due hdl hF hs hd F 0 (by omega)
  refine ⟨k, ?_⟩
  unfold QT.laws_bitsDue.f
  rw [if_pos (by rw [hlen])]
  exact hk
/-- Which pairs there are. -/
theorem pairs_is (how : Int) (nl nr : Nat) : ∃ (r1 : Int) (r2 : Bool), QT.laws_pairs2.f how (nl : Int) (nr : Int) = some (r1, r2) ∧ (r2 = true → ∃ (h n : Nat), how = (h : Int) ∧ h ≤ 2 ∧ r1 = (n : Int) ∧ (h = 0 → nl = n ∧ nr = n) ∧ (h = 1 → nl = n ∧ 1 ≤ nr) ∧ (h = 2 → nr = n ∧ 1 ≤ nl)) := by
  unfold QT.laws_pairs2.f
  by_cases h0 : how = 0
  · subst h0
    refine ⟨_, _, rfl, fun h => ⟨0, nl, rfl, by omega, rfl, fun _ => ⟨rfl, ?_⟩, fun h => by omega, fun h => by omega⟩⟩
    have := eq_of_beq h
    omega
  · rw [if_neg h0]
    by_cases h1 : how = 1
    · subst h1
      refine ⟨_, _, rfl, fun h => ⟨1, nl, rfl, by omega, rfl, fun h => by omega, fun _ => ⟨rfl, ?_⟩, fun h => by omega⟩⟩
      have := of_decide_eq_true h
      omega
    · rw [if_neg h1]
      by_cases h2 : how = 2
      · subst h2
        refine ⟨_, _, rfl, fun h => ⟨2, nr, rfl, by omega, rfl, fun h => by omega, fun h => by omega, fun _ => ⟨rfl, ?_⟩⟩⟩
        have := of_decide_eq_true h
        omega
      · rw [if_neg h2]
        exact ⟨_, _, rfl, fun h => by cases h⟩
theorem room_is (l : List Int) (f r1 : Int) : ∃ rr, QT.laws_room.f l f r1 = some rr ∧ (rr = true → 0 ≤ r1 → ∃ F : Nat, f = (F : Int) ∧ F ≤ 7 ∧ r1 ≤ 300 ∧ l.length ≤ 100 ∧ (F : Int) + r1 ≤ 8 * (l.length : Int)) := by
  unfold QT.laws_room.f
  by_cases h1 : f ≥ 0
  · rw [if_pos h1]
    by_cases h2 : f ≤ 7
    · rw [if_pos h2]
      by_cases h3 : r1 ≤ 300
      · rw [if_pos h3]
        by_cases h4 : (l.length : Int) ≤ 100
        · rw [if_pos h4]
          refine ⟨_, rfl, fun h hr => ⟨f.toNat, by omega, by omega, h3, by omega, ?_⟩⟩
          have := of_decide_eq_true h
          simp only [i64w] at this
          omega
        · rw [if_neg h4]; exact ⟨_, rfl, fun h => by cases h⟩
      · rw [if_neg h3]; exact ⟨_, rfl, fun h => by cases h⟩
    · rw [if_neg h2]; exact ⟨_, rfl, fun h => by cases h⟩
  · rw [if_neg h1]; exact ⟨_, rfl, fun h => by cases h⟩
theorem and_one : ∀ x : Fin 256, decide (((x.1 : Nat) : Int) / 2 ^ 0 % 2 = 1) = true → (Go.bits .and .u8 ((x.1 : Nat) : Int) 1 == 1) = true := by decide +kernel
theorem u64_C {W : World} {g et : Nat} {x : Int} (hg : W.heap[g]? = some (.cells #[.int .u64 x] et (0, 0))) : Kd.C (Kd.int .u64) W (some ⟨g, 0, none⟩) 1 [x] := by
  refine Kd.C_of_reads (d := (0 : Int)) (enc := Value.int .u64) ⟨rfl, by decide, fun _ => ⟨_, rfl, fun j hj => ?_⟩⟩
  obtain rfl : j = 0 := by omega
  rw [show ((⟨g, 0, none⟩ : Addr).add 0) = ⟨g, 0, none⟩ by simp [Addr.add]]
  exact (blk_cell hg 0).trans rfl
theorem u8_C {W : World} {g et : Nat} {x : Int} (hg : W.heap[g]? = some (.cells #[.int .u8 x] et (0, 0))) : Cu W (some ⟨g, 0, none⟩) [x] := by
  refine Kd.C_of_reads (d := (0 : Int)) (enc := Value.int .u8) ⟨rfl, by simp, fun _ => ⟨_, rfl, fun j hj => ?_⟩⟩
  obtain rfl : j = 0 := by simp at hj; exact hj
  rw [show ((⟨g, 0, none⟩ : Addr).add 0) = ⟨g, 0, none⟩ by simp [Addr.add]]
  exact (blk_cell hg 0).trans rfl
end Go.Proofs.YtlnbkmkdapeicaaGreatDoor.QR
