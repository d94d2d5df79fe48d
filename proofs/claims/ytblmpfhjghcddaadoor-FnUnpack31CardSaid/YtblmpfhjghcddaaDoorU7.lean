/- The reference's loop over bits, plainly: the state behind i bits, and one step. -/
import Derived.Test.YtblmpfhjghcddaaDoorU5
namespace Go.Proofs.YtblmpfhjghcddaaDoor.QU
open Go.RowKit Go.Proofs.YtblmpfhjghcddaaDoorW.PrintWords Go.Proofs.YtblmpfhjghcddaaDoorW.PrintLast Go.Proofs.YtblmpfhjghcddaaDoorW.PrintMore
def st (l : List Int) (N i : Nat) : List Int := (List.range 32).map fun j => numD (byteAt l) (N * j) (min N (i - N * j))
theorem st_length (l : List Int) (N i : Nat) : (st l N i).length = 32 := by simp [st]
theorem st_end (l : List Int) (N : Nat) : st l N (32 * N) = outs (byteAt l) N := by
  unfold st outs
  refine List.map_congr_left fun j hj => ?_
  have hj := List.mem_range.1 hj
  have h1 : N * j ≤ N * 31 := Nat.mul_le_mul_left _ (by omega)
  rw [Nat.min_eq_left]
  omega
theorem st_zero (l : List Int) (N : Nat) : st l N 0 = List.replicate 32 0 := by
  unfold st
  refine List.ext_getElem (by simp) fun j h1 h2 => ?_
  rw [List.getElem_replicate, List.getElem_map, Nat.zero_sub, Nat.min_zero]
  rfl
theorem and1 (x : Int) (h0 : 0 ≤ x) (h1 : x < 256) : Go.bits .and .u8 x 1 = x % 2 := by
  obtain ⟨a, rfl⟩ := Int.eq_ofNat_of_zero_le h0
  have ha : a < 2 ^ 8 := by omega
  have h := (bits_nat .u8 8 (by decide) (fun n h0 h1 => by simp [IntKind.wrap, IntKind.bits, IntKind.signed]; omega) a 1 ha (by decide)).1
  rw [show ((1 : Nat) : Int) = 1 from rfl] at h
  rw [h, Nat.and_one_is_mod]
  omega
theorem bit_step (l : List Int) (N i : Nat) (hN0 : 0 < N) (hN : N ≤ 32) (hl : l.length = 4 * N) (hb : bytesOk l = true) (hi : i < 32 * N) :
    (st l N i).set (i / N) (Go.bits .or .u64 (rd (st l N i) ((i / N : Nat) : Int)) (shl .u64 (IntKind.u64.wrap (Go.bits .and .u8 (shr .u8 (rd l ((i / 8 : Nat) : Int)) ((i % 8 : Nat) : Int)) 1)) ((i % N : Nat) : Int))) = st l N (i + 1) := by
  have hq : i / N < 32 := Nat.div_lt_of_lt_mul (by rw [Nat.mul_comm]; exact hi)
  have hr : i % N < N := Nat.mod_lt _ hN0
  have hdm : N * (i / N) + i % N = i := Nat.div_add_mod i N
  have hby := bytes_ok hb (i / 8) (by omega)
  have hrd : rd l ((i / 8 : Nat) : Int) = byteAt l (i / 8) := rfl
  have hcur : rd (st l N i) ((i / N : Nat) : Int) = numD (byteAt l) (N * (i / N)) (i % N) := by
    simp only [rd, Int.toNat_natCast]
    rw [List.getD_eq_getElem?_getD, List.getElem?_eq_getElem (by rw [st_length]; exact hq)]
    simp only [st, List.getElem_map, List.getElem_range, Option.getD_some]
    rw [show min N (i - N * (i / N)) = i % N by omega]
  have h8 : i % 8 < 8 := Nat.mod_lt _ (by decide)
  have hp8 : (0 : Int) < 2 ^ (i % 8) := Int.pow_pos (by omega)
  have hsh : shr .u8 (byteAt l (i / 8)) ((i % 8 : Nat) : Int) = byteAt l (i / 8) / 2 ^ (i % 8) := by
    simp only [shr, Int.toNat_natCast]
    rw [show min (i % 8) (IntKind.u8.bits) = i % 8 from Nat.min_eq_left (by show i % 8 ≤ 8; omega)]
  have hs0 : 0 ≤ byteAt l (i / 8) / 2 ^ (i % 8) := Int.ediv_nonneg hby.1 (Int.le_of_lt hp8)
  have hs1 : byteAt l (i / 8) / 2 ^ (i % 8) < 256 := by
    have := Int.ediv_le_self (2 ^ (i % 8)) hby.1
    omega
  have hbit : IntKind.u64.wrap (Go.bits .and .u8 (byteAt l (i / 8) / 2 ^ (i % 8)) 1) = bitD (byteAt l) i := by
    rw [and1 _ hs0 hs1]
    have h2 : byteAt l (i / 8) / 2 ^ (i % 8) % 2 = bitD (byteAt l) i := rfl
    rw [h2]
    have := bitD_bd (byteAt l) i
    exact wraps_u64 _ this.1 (by omega)
  have hbd := bitD_bd (byteAt l) i
  have hpr : (0 : Int) < 2 ^ (i % N) := Int.pow_pos (by omega)
  have hp31 : (2 : Int) ^ (i % N) ≤ 2 ^ 31 := by exact_mod_cast Nat.pow_le_pow_right (by omega : 0 < 2) (show i % N ≤ 31 by omega)
  have hnd := numD_bd (byteAt l) (N * (i / N)) (i % N)
  have hval : bitD (byteAt l) i * 2 ^ (i % N) = 0 ∨ bitD (byteAt l) i * 2 ^ (i % N) = 2 ^ (i % N) := by
    have h : bitD (byteAt l) i = 0 ∨ bitD (byteAt l) i = 1 := by omega
    rcases h with h | h <;> rw [h]
    · exact .inl (Int.zero_mul _)
    · exact .inr (Int.one_mul _)
  have hshl : shl .u64 (bitD (byteAt l) i) ((i % N : Nat) : Int) = bitD (byteAt l) i * 2 ^ (i % N) := by
    simp only [shl, Int.toNat_natCast]
    rw [show min (i % N) (IntKind.u64.bits) = i % N from Nat.min_eq_left (by show i % N ≤ 64; omega)]
    refine wraps_u64 _ ?_ ?_
    · rcases hval with h | h <;> rw [h] <;> omega
    · rcases hval with h | h <;> rw [h]
      · decide
      · exact Int.lt_of_le_of_lt hp31 (by decide)
  have hor : Go.bits .or .u64 (numD (byteAt l) (N * (i / N)) (i % N)) (bitD (byteAt l) i * 2 ^ (i % N)) = numD (byteAt l) (N * (i / N)) (i % N + 1) := by
    rw [bits_join_low .u64 64 (by decide) wraps_u64 (i % N) _ _ hnd.1 hnd.2 (Int.lt_of_lt_of_le hnd.2 (Int.le_trans hp31 (by decide))) ?_ (Int.mul_emod_left _ _) ?_]
    · simp only [numD]
      rw [hdm]
    · rcases hval with h | h <;> rw [h] <;> omega
    · rcases hval with h | h <;> rw [h]
      · decide
      · exact Int.lt_of_le_of_lt hp31 (by decide)
  rw [hrd, hcur, hsh, hbit, hshl, hor]
  refine List.ext_getElem (by simp [st]) fun j h1 h2 => ?_
  rw [List.getElem_set]
  have hj : j < 32 := by simpa [st] using h2
  by_cases e : i / N = j
  · rw [if_pos e]
    simp only [st, List.getElem_map, List.getElem_range]
    rw [← e, show min N (i + 1 - N * (i / N)) = i % N + 1 by omega]
  · rw [if_neg e]
    simp only [st, List.getElem_map, List.getElem_range]
    congr 1
    rcases Nat.lt_or_gt_of_ne e with h | h
    · have : N * (i / N + 1) ≤ N * j := Nat.mul_le_mul_left _ h
      rw [Nat.mul_add] at this
      omega
    · have : N * (j + 1) ≤ N * (i / N) := Nat.mul_le_mul_left _ h
      rw [Nat.mul_add] at this
      omega
theorem tdiv_nat (i : Nat) (m : Nat) (hi : i < 100000) : wrap64 (Int.tdiv (i : Int) (m : Int)) = ((i / m : Nat) : Int) := by
  rw [Int.tdiv_eq_ediv_of_nonneg (by omega), show (i : Int) / (m : Int) = ((i / m : Nat) : Int) from rfl]
  have := Nat.div_le_self i m
  generalize i / m = q at this ⊢
  unfold wrap64
  omega
theorem tmod_nat (i : Nat) (m : Nat) : Int.tmod (i : Int) (m : Int) = ((i % m : Nat) : Int) := by
  rw [Int.tmod_eq_emod_of_nonneg (by omega)]
  rfl
theorem outs_bd (D : Nat → Int) (N j : Nat) (hN : N ≤ 32) : 0 ≤ rd (outs D N) j ∧ rd (outs D N) j < 4294967296 := by
  by_cases h : j < 32
  · have e : rd (outs D N) j = numD D (N * j) N := by simp [rd, outs, h]
    have hb := numD_bd D (N * j) N
    have hp : (2 : Int) ^ N ≤ 2 ^ 32 := by exact_mod_cast Nat.pow_le_pow_right (by omega : 0 < 2) hN
    rw [e]
    exact ⟨hb.1, Int.lt_of_lt_of_le hb.2 (Int.le_trans hp (by decide))⟩
  · have e : rd (outs D N) j = 0 := by simp [rd, outs, h]
    rw [e]; decide
theorem wf_bytes {l : List Int} (h : ∀ x ∈ l, (Lit.int .u8 x).wf = true) : bytesOk l = true := by
  unfold bytesOk
  rw [List.all_eq_true]
  intro x hx
  have := h x hx
  simp [Lit.wf, IntKind.min, IntKind.max, IntKind.bits, IntKind.signed] at this ⊢
  omega
end Go.Proofs.YtblmpfhjghcddaaDoor.QU
