/- FnUnpack7 returns true: 32 numbers of 7 bits are read from the lowest bit of each byte on. For every list of bytes. -/
import Derived.Test.YtblmpfhjghcddaaDoorQU7x1
import Derived.Test.YtblmpfhjghcddaaDoorU7
namespace Go.Proofs.YtblmpfhjghcddaaDoor.Pure
open Go.RowKit Go.Proofs.YtblmpfhjghcddaaDoor.QU7 Go.Proofs.YtblmpfhjghcddaaDoorW.PrintWords Go.Proofs.YtblmpfhjghcddaaDoorW.PrintLast Go.Proofs.YtblmpfhjghcddaaDoorW.PrintMore
theorem low7 : laws_lowest.f 28 = some ((List.replicate 28 (0 : Int)).set 0 1) := by
  unfold laws_lowest.f
  rw [if_pos (by decide), if_pos (by decide)]
  simp only [Option.bind_some]
  rw [if_pos (by decide)]
  rfl
theorem unpack_loop7 (l : List Int) (hl : l.length = 28) (hb : QU.bytesOk l = true) (d : Nat) : ∀ k i, i + d = 224 → d < k → spec_UnpackBits.l0 k l 0 7 32 (QU.st l 7 i) (i : Int) = some (QU.outs (QU.byteAt l) 7, true) := by
  have hw : wrap64 (32 * 7) = 224 := by unfold wrap64; omega
  induction d with
  | zero =>
    intro k i hi hk
    obtain ⟨k, rfl⟩ : ∃ q, k = q + 1 := ⟨k - 1, by omega⟩
    simp only [spec_UnpackBits.l0]
    rw [hw, if_neg (by omega), show i = 32 * 7 by omega, QU.st_end]
  | succ d ih =>
    intro k i hi hk
    obtain ⟨k, rfl⟩ : ∃ q, k = q + 1 := ⟨k - 1, by omega⟩
    have e0 : wrap64 (0 + (i : Int)) = (i : Int) := by unfold wrap64; omega
    have e5 : wrap64 ((i : Int) + 1) = ((i + 1 : Nat) : Int) := by unfold wrap64; omega
    have hq : i / 7 < 32 := by omega
    have hp : i / 8 < l.length := by omega
    have hs := QU.bit_step l 7 i (by omega) (by omega) (by omega) hb (by omega)
    have hi5 : i < 100000 := by omega
    have hi6 : (i : Int) < 224 := by omega
    have hq2 : ((i / 7 : Nat) : Int) < ((32 : Nat) : Int) := by exact_mod_cast hq
    have hp2 : ((i / 8 : Nat) : Int) < (l.length : Int) := by exact_mod_cast hp
    have h1 : i + 1 + d = 224 := by omega
    have h2 : d < k := by omega
    clear hi hk hq hp
    have e1 := QU.tdiv_nat i 7 hi5
    have e2 := QU.tdiv_nat i 8 hi5
    have e3 := QU.tmod_nat i 8
    have e4 := QU.tmod_nat i 7
    simp only [Int.cast_ofNat_Int] at e1 e2 e3 e4
    simp only [spec_UnpackBits.l0]
    rw [hw, e0, e1, e2, e3, e4, e5, QU.st_length, if_pos hi6, if_neg (by decide), if_pos (Int.natCast_nonneg _), if_pos hq2, if_pos (Int.natCast_nonneg _), if_pos hp2, if_pos (Int.natCast_nonneg _), if_pos (Int.natCast_nonneg _), Int.toNat_natCast, hs]
    exact ih k (i + 1) h1 h2
theorem unpack_bits7 (l : List Int) (hl : l.length = 28) (hb : QU.bytesOk l = true) (k : Nat) (hk : 224 < k) : spec_UnpackBits.f k l 0 7 32 = some (QU.outs (QU.byteAt l) 7, true) := by
  unfold spec_UnpackBits.f
  rw [if_neg (by rw [hl]; unfold wrap64; omega), if_pos (by decide), if_pos (by decide)]
  have h := unpack_loop7 l hl hb 224 k 0 (by omega) hk
  rw [QU.st_zero] at h
  exact h
theorem same_loop7 (D : Nat → Int) (d : Nat) : ∀ k i, i + d = 32 → d < k → laws_unpacked.l0 k (QU.outs D 7) (QU.outs D 7) (i : Int) = some true := by
  induction d with
  | zero =>
    intro k i hi hk
    obtain ⟨k, rfl⟩ : ∃ q, k = q + 1 := ⟨k - 1, by omega⟩
    simp only [laws_unpacked.l0]
    rw [if_neg (by omega)]
  | succ d ih =>
    intro k i hi hk
    obtain ⟨k, rfl⟩ : ∃ q, k = q + 1 := ⟨k - 1, by omega⟩
    have e5 : wrap64 ((i : Int) + 1) = ((i + 1 : Nat) : Int) := by unfold wrap64; omega
    have hb := QU.outs_bd D 7 i (by omega)
    have hw : IntKind.u64.wrap (rd (QU.outs D 7) (i : Int)) = rd (QU.outs D 7) (i : Int) := wraps_u64 _ hb.1 (by omega)
    simp only [laws_unpacked.l0]
    rw [hw, e5, QU.outs_length, if_pos (by omega), if_pos (by omega), if_pos (by omega), if_pos (by omega), if_pos rfl]
    exact ih k (i + 1) (by omega) (by omega)
theorem same7 (l : List Int) (hl : l.length = 28) (hb : QU.bytesOk l = true) (k : Nat) (hk : 224 < k) : laws_unpacked.f k l 7 (QU.outs (QU.byteAt l) 7) true = some true := by
  obtain ⟨k, rfl⟩ : ∃ q, k = q + 1 := ⟨k - 1, by omega⟩
  unfold laws_unpacked.f
  rw [unpack_bits7 l hl hb (k + 1) hk]
  simp only [Option.bind_some, if_true]
  rw [QU.outs_length]
  simp only [laws_unpacked.j0]
  rw [if_neg (by decide)]
  exact same_loop7 _ 32 k 0 (by omega) (by omega)
theorem FnUnpack7 : laws_FnUnpack7.Pure := by
  intro l0 _ _ hwf
  obtain ⟨K, hK⟩ : ∃ K : Nat, 224 < K := ⟨224 + 1, by omega⟩
  refine ⟨K, ?_⟩
  have hb := QU.wf_bytes hwf
  have lowl : ((List.replicate 28 (0 : Int)).set 0 1).length = 28 := by simp
  have lowb : QU.bytesOk ((List.replicate 28 (0 : Int)).set 0 1) = true := by decide
  unfold laws_FnUnpack7.f
  by_cases hz : (l0.length : Int) > 2147483647
  · rw [if_pos hz]
  · rw [if_neg hz, low7]
    simp only [Option.bind_some]
    have hi : impl_Unpack7.f ((List.replicate 28 (0 : Int)).set 0 1) = some (QU.outs (QU.byteAt ((List.replicate 28 (0 : Int)).set 0 1)) 7, true) := by
      unfold impl_Unpack7.f
      rw [if_pos ⟨lowl, lowb⟩]
    rw [hi]
    simp only [Option.bind_some]
    rw [same7 _ lowl lowb K hK]
    simp only [Option.bind_some]
    by_cases hn : (l0.length : Int) = 28
    · have hn2 : l0.length = 28 := by omega
      have hi2 : impl_Unpack7.f l0 = some (QU.outs (QU.byteAt l0) 7, true) := by
        unfold impl_Unpack7.f
        rw [if_pos ⟨hn2, hb⟩]
      rw [if_pos hn, hi2]
      have hs := same7 _ hn2 hb K hK
      generalize QU.outs (QU.byteAt l0) 7 = O at hs ⊢
      rw [Option.bind_some]
      change ((laws_unpacked.f K l0 7 O true).bind fun t132 => if t132 = true then some true else some false) = some true
      rw [hs]
      rfl
    · rw [if_neg hn]
end Go.Proofs.YtblmpfhjghcddaaDoor.Pure
