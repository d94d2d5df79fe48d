/- Bits of a row of cells that are written from a place on: plainly. -/
import Derived.Test.YtlnbkmkdapeicaaDoorF8c
namespace Go.Proofs.YtlnbkmkdapeicaaDoor.QR
open Go.RowKit Go.Proofs.YtlnbkmkdapeicaaDoorW.PrintWords Go.Proofs.YtlnbkmkdapeicaaDoorW.PrintLast Go.Proofs.YtlnbkmkdapeicaaDoorW.PrintMore
set_option linter.unusedVariables false
set_option linter.unusedSimpArgs false
/-- The first L cells are bytes. -/
def OkU (us : List Value) (L : Nat) : Prop := L ≤ us.length ∧ ∀ q, q < L → ∃ x, us[q]? = some (.int .u8 x) ∧ 0 ≤ x ∧ x < 256
def byt (us : List Value) (q : Nat) : Int := match us[q]? with
  | some (.int .u8 x) => x
  | _ => 0
def btU (us : List Value) (k : Nat) : Bool := decide (byt us (k / 8) / 2 ^ (k % 8) % 2 = 1)
theorem byt_of {us : List Value} {q : Nat} {x : Int} (h : us[q]? = some (.int .u8 x)) : byt us q = x := by unfold byt; rw [h]
/-- t answers have been written from bit f on. -/
def KInv (us0 us : List Value) (L f t : Nat) (bf : Nat → Bool) : Prop := OkU us L ∧ us.length = us0.length ∧ ∀ k, k < f + t → btU us k = if k < f then btU us0 k else bf (k - f)
theorem kinv_start {us : List Value} {L : Nat} (h : OkU us L) (f : Nat) (bf : Nat → Bool) : KInv us us L f 0 bf := ⟨h, rfl, fun k hk => by rw [if_pos (by omega)]⟩
theorem kinv_bit {us0 us : List Value} {L f t : Nat} {bf : Nat → Bool} (h : KInv us0 us L f t bf) (hk : f + t < 8 * L) {x : Int} (hx : us[(f + t) / 8]? = some (.int .u8 x)) :
    KInv us0 (us.set ((f + t) / 8) (.int .u8 (setb x ((f + t) % 8) (bf t)))) L f (t + 1) bf := by
  obtain ⟨⟨h1, h2⟩, h3, h4⟩ := h
  obtain ⟨x', hx', hx8⟩ := h2 ((f + t) / 8) (by omega)
  rw [hx] at hx'
  cases hx'
  have hlt : (f + t) / 8 < us.length := by omega
  refine ⟨⟨by rw [List.length_set]; exact h1, fun q hq => ?_⟩, by rw [List.length_set]; exact h3, fun k hk2 => ?_⟩
  · by_cases hqe : q = (f + t) / 8
    · subst hqe
      exact ⟨_, List.getElem?_set_self hlt, setb_ok _ _ _ hx8 (by omega)⟩
    · rw [List.getElem?_set_ne (by omega)]
      exact h2 q hq
  · by_cases hb : k / 8 = (f + t) / 8
    · have hl : btU (us.set ((f + t) / 8) (.int .u8 (setb x ((f + t) % 8) (bf t)))) k = if k % 8 = (f + t) % 8 then bf t else decide (x / 2 ^ (k % 8) % 2 = 1) := by
        unfold btU
        rw [hb, byt_of (List.getElem?_set_self hlt), setb_get _ _ _ _ (by omega) (by omega)]
      rw [hl]
      by_cases hm : k % 8 = (f + t) % 8
      · rw [if_pos hm, if_neg (by omega), show k - f = t by omega]
      · rw [if_neg hm]
        have hk3 : k < f + t := by omega
        have h5 := h4 k hk3
        unfold btU at h5
        rw [hb, byt_of hx] at h5
        rw [h5]
        unfold btU
        rw [hb]
    · rw [← h4 k (by omega)]
      unfold btU byt
      rw [List.getElem?_set_ne (by omega)]
theorem kinv_pack {us0 us : List Value} {L f t o : Nat} {bf : Nat → Bool} (h : KInv us0 us L f t bf) (ho : f + t = 8 * o) (hL : o + 4 ≤ L) :
    KInv us0 (put us o (pkL (fun i => bf (t + i)) 4)) L f (t + 32) bf := by
  obtain ⟨⟨h1, h2⟩, h3, h4⟩ := h
  have hpl : o + (pkL (fun i => bf (t + i)) 4).length ≤ us.length := by rw [pkL_len]; omega
  have hin : ∀ r, r < 4 → (put us o (pkL (fun i => bf (t + i)) 4))[o + r]? = some (.int .u8 (pk (fun i => bf (t + i)) r)) := by
    intro r hr
    rw [put_get hpl, pkL_len, if_pos (by omega), show o + r - o = r by omega]
    simp [pkL, hr]
  have hout : ∀ q, ¬ (o ≤ q ∧ q < o + 4) → (put us o (pkL (fun i => bf (t + i)) 4))[q]? = us[q]? := by
    intro q hq
    rw [put_get hpl, pkL_len, if_neg hq]
  refine ⟨⟨by rw [put_len hpl]; exact h1, fun q hq => ?_⟩, by rw [put_len hpl]; exact h3, fun k hk => ?_⟩
  · by_cases hr : o ≤ q ∧ q < o + 4
    · have := hin (q - o) (by omega)
      rw [show o + (q - o) = q by omega] at this
      exact ⟨_, this, pk8_ok _ _ _ _ _ _ _ _⟩
    · rw [hout q hr]
      exact h2 q hq
  · by_cases hr : o ≤ k / 8 ∧ k / 8 < o + 4
    · unfold btU
      have := hin (k / 8 - o) (by omega)
      rw [show o + (k / 8 - o) = k / 8 by omega] at this
      rw [byt_of this, pk_get _ _ _ (by omega), if_neg (by omega)]
      show bf _ = bf _
      congr 1
      omega
    · rw [← h4 k (by omega)]
      unfold btU byt
      rw [hout _ hr]
/-- The bytes. -/
def bytesU (us : List Value) (L : Nat) : List Int := (List.range L).map (byt us)
theorem bytesU_len (us : List Value) (L : Nat) : (bytesU us L).length = L := by simp [bytesU]
theorem bytesU_rd (us : List Value) {L q : Nat} (h : q < L) : rd (bytesU us L) (q : Int) = byt us q := by
  unfold rd bytesU
  rw [Int.toNat_natCast, List.getD_eq_getElem?_getD, List.getElem?_map, List.getElem?_range h]
  rfl
theorem bytesU_bit (us : List Value) {L k : Nat} (h : k < 8 * L) : bt1 (bytesU us L) k = btU us k := by
  unfold bt1 btU
  rw [bytesU_rd us (by omega)]
theorem bytesU_ok {us : List Value} {L : Nat} (h : OkU us L) : bytesOk (bytesU us L) = true := by
  unfold bytesOk bytesU
  rw [List.all_eq_true]
  intro x hx
  obtain ⟨q, hq, rfl⟩ := List.mem_map.1 hx
  obtain ⟨y, h1, h2⟩ := h.2 q (List.mem_range.1 hq)
  rw [byt_of h1]
  simp only [Bool.and_eq_true, decide_eq_true_eq]
  exact ⟨h2.1, h2.2⟩
theorem bytesU_C {W : World} {g L et : Nat} {us : List Value} (hg : W.heap[g]? = some (.cells us.toArray et (0, 0))) (h : OkU us L) (hL : L ≤ 1000000) : Cu W (some ⟨g, 0, none⟩) (bytesU us L) := by
  refine Kd.C_of_reads (d := (0 : Int)) (enc := Value.int .u8) ⟨rfl, by rw [bytesU_len]; omega, fun _ => ⟨_, rfl, fun j hj => ?_⟩⟩
  rw [bytesU_len] at hj
  obtain ⟨y, h1, h2⟩ := h.2 j hj
  rw [show ((⟨g, 0, none⟩ : Addr).add j) = ⟨g, j, none⟩ by simp [Addr.add]; exact fun h => h.symm]
  rw [blk_cell hg j, List.getElem?_toArray, h1]
  have hr := bytesU_rd us hj
  unfold rd at hr
  rw [Int.toNat_natCast] at hr
  rw [byt_of h1] at hr
  have : rdOf 0 (bytesU us L) (j : Int) = y := by
    unfold rdOf
    simpa using hr
  first | rw [this] | (simp [rdOf] at this ⊢; rw [this])
end Go.Proofs.YtlnbkmkdapeicaaDoor.QR
