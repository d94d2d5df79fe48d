/- FnUnpack23 returns true: 32 numbers of 23 bits are read from the lowest bit of each byte on. For every list of bytes. -/
import Derived.Test.YtblmpfhjghcddaaDoorQU23x1
import Derived.Test.YtblmpfhjghcddaaDoorU7
namespace Go.Proofs.YtblmpfhjghcddaaDoor.Pure
open Go.RowKit Go.Proofs.YtblmpfhjghcddaaDoor.QU23 Go.Proofs.YtblmpfhjghcddaaDoorW.PrintWords Go.Proofs.YtblmpfhjghcddaaDoorW.PrintLast Go.Proofs.YtblmpfhjghcddaaDoorW.PrintMore
theorem low23 : laws_lowest.f 92 = some ((List.replicate 92 (0 : Int)).set 0 1) := by
  unfold laws_lowest.f
  rw [if_pos (by decide), if_pos (by decide)]
  simp only [Option.bind_some]
  rw [if_pos (by decide)]
  rfl
theorem unpack_loop23 (l : List Int) (hl : l.length = 92) (hb : QU.bytesOk l = true) (d : Nat) : ∀ k i, i + d = 736 → d < k → spec_UnpackBits.l0 k l 0 23 32 (QU.st l 23 i) (i : Int) = some (QU.outs (QU.byteAt l) 23, true) := by
  have hw : wrap64 (32 * 23) = 736 := by unfold wrap64; omega
  induction d with
  | zero =>
    intro k i hi hk
    obtain ⟨k, rfl⟩ : ∃ q, k = q + 1 := ⟨k - 1, by omega⟩
    simp only [spec_UnpackBits.l0]
    rw [hw, if_neg (by omega), show i = 32 * 23 by omega, QU.st_end]
  | succ d ih =>
    intro k i hi hk
    obtain ⟨k, rfl⟩ : ∃ q, k = q + 1 := ⟨k - 1, by omega⟩
    have e0 : wrap64 (0 + (i : Int)) = (i : Int) := by unfold wrap64; omega
    have e5 : wrap64 ((i : Int) + 1) = ((i + 1 : Nat) : Int) := by unfold wrap64; omega
    have hq : i / 23 < 32 := by omega
    have hp : i / 8 < l.length := by omega
    have hs := QU.bit_step l 23 i (by omega) (by omega) (by omega) hb (by omega)
    have hi5 : i < 100000 := by omega
    have hi6 : (i : Int) < 736 := by omega
    have hq2 : ((i / 23 : Nat) : Int) < ((32 : Nat) : Int) := by exact_mod_cast hq
    have hp2 : ((i / 8 : Nat) : Int) < (l.length : Int) := by exact_mod_cast hp
    have h1 : i + 1 + d = 736 := by omega
    have h2 : d < k := by omega
    clear hi hk hq hp
    have e1 := QU.tdiv_nat i 23 hi5
    have e2 := QU.tdiv_nat i 8 hi5
    have e3 := QU.tmod_nat i 8
    have e4 := QU.tmod_nat i 23
    simp only [Int.cast_ofNat_Int] at e1 e2 e3 e4
    simp only [spec_UnpackBits.l0]
    rw [hw, e0, e1, e2, e3, e4, e5, QU.st_length, if_pos hi6, if_neg (by decide), if_pos (Int.natCast_nonneg _), if_pos hq2, if_pos (Int.natCast_nonneg _), if_pos hp2, if_pos (Int.natCast_nonneg _), if_pos (Int.natCast_nonneg _), Int.toNat_natCast, hs]
    exact ih k (i + 1) h1 h2
theorem unpack_bits23 (l : List Int) (hl : l.length = 92) (hb : QU.bytesOk l = true) (k : Nat) (hk : 736 < k) : spec_UnpackBits.f k l 0 23 32 = some (QU.outs (QU.byteAt l) 23, true) := by
  unfold spec_UnpackBits.f
  rw [if_neg (by rw [hl]; unfold wrap64; omega), if_pos (by decide), if_pos (by decide)]
  have h := unpack_loop23 l hl hb 736 k 0 (by omega) hk
  rw [QU.st_zero] at h
  exact h
theorem same_loop23 (D : Nat → Int) (d : Nat) : ∀ k i, i + d = 32 → d < k → laws_unpacked.l0 k (QU.outs D 23) (QU.outs D 23) (i : Int) = some true := by
  induction d with
  | zero =>
    intro k i hi hk
    obtain ⟨k, rfl⟩ : ∃ q, k = q + 1 := ⟨k - 1, by omega⟩
    simp only [laws_unpacked.l0]
    rw [if_neg (by omega)]
  | succ d ih =>
    intro k i hi hk
    obtain ⟨k, rfl⟩ : ∃ q, k = q + 1 := ⟨k - 1, by omega⟩
    have e5 : wrap64 ((i : Int) + 1) = ((i + 1 : Nat) : Int) := by unfold wrap64; omega
    have hb := QU.outs_bd D 23 i (by omega)
    have hw : IntKind.u64.wrap (rd (QU.outs D 23) (i : Int)) = rd (QU.outs D 23) (i : Int) := wraps_u64 _ hb.1 (by omega)
    simp only [laws_unpacked.l0]
    rw [hw, e5, QU.outs_length, if_pos (by omega), if_pos (by omega), if_pos (by omega), if_pos (by omega), if_pos rfl]
    exact ih k (i + 1) (by omega) (by omega)
theorem same23 (l : List Int) (hl : l.length = 92) (hb : QU.bytesOk l = true) (k : Nat) (hk : 736 < k) : laws_unpacked.f k l 23 (QU.outs (QU.byteAt l) 23) true = some true := by
  obtain ⟨k, rfl⟩ : ∃ q, k = q + 1 := ⟨k - 1, by omega⟩
  unfold laws_unpacked.f
  rw [unpack_bits23 l hl hb (k + 1) hk]
  simp only [Option.bind_some, if_true]
  rw [QU.outs_length]
  simp only [laws_unpacked.j0]
  rw [if_neg (by decide)]
  exact same_loop23 _ 32 k 0 (by omega) (by omega)
theorem FnUnpack23 : laws_FnUnpack23.Pure := by
  intro l0 _ _ hwf
  obtain ⟨K, hK⟩ : ∃ K : Nat, 736 < K := ⟨736 + 1, by omega⟩
  refine ⟨K, ?_⟩
  have hb := QU.wf_bytes hwf
  have lowl : ((List.replicate 92 (0 : Int)).set 0 1).length = 92 := by simp
  have lowb : QU.bytesOk ((List.replicate 92 (0 : Int)).set 0 1) = true := by decide
  unfold laws_FnUnpack23.f
  by_cases hz : (l0.length : Int) > 2147483647
  · rw [if_pos hz]
  · rw [if_neg hz, low23]
    simp only [Option.bind_some]
    have hi : impl_Unpack23.f ((List.replicate 92 (0 : Int)).set 0 1) = some (QU.outs (QU.byteAt ((List.replicate 92 (0 : Int)).set 0 1)) 23, true) := by
      unfold impl_Unpack23.f
      rw [if_pos ⟨lowl, lowb⟩]
    rw [hi]
    simp only [Option.bind_some]
    rw [same23 _ lowl lowb K hK]
    simp only [Option.bind_some]
    by_cases hn : (l0.length : Int) = 92
    · have hn2 : l0.length = 92 := by omega
      have hi2 : impl_Unpack23.f l0 = some (QU.outs (QU.byteAt l0) 23, true) := by
        unfold impl_Unpack23.f
        rw [if_pos ⟨hn2, hb⟩]
      rw [if_pos hn, hi2]
      have hs := same23 _ hn2 hb K hK
      generalize QU.outs (QU.byteAt l0) 23 = O at hs ⊢
      rw [Option.bind_some]
      change ((laws_unpacked.f K l0 23 O true).bind fun t132 => if t132 = true then some true else some false) = some true
      rw [hs]
      rfl
    · rw [if_neg hn]
end Go.Proofs.YtblmpfhjghcddaaDoor.Pure
