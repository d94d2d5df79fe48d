/- FnUnpack31 returns true: 32 numbers of 31 bits are read from the lowest bit of each byte on. For every list of bytes. -/
import Derived.Test.YtblmpfhjghcddaaDoorQU31x1
import Derived.Test.YtblmpfhjghcddaaDoorU7
namespace Go.Proofs.YtblmpfhjghcddaaDoor.Pure
open Go.RowKit Go.Proofs.YtblmpfhjghcddaaDoor.QU31 Go.Proofs.YtblmpfhjghcddaaDoorW.PrintWords Go.Proofs.YtblmpfhjghcddaaDoorW.PrintLast Go.Proofs.YtblmpfhjghcddaaDoorW.PrintMore
set_option maxRecDepth 100000 in
theorem low31 : laws_lowest.f 124 = some ((List.replicate 124 (0 : Int)).set 0 1) := by
  unfold laws_lowest.f
  rw [if_pos (by decide), if_pos (by decide)]
  simp only [Option.bind_some]
  rw [if_pos (by simp)]
  rfl
theorem unpack_loop31 (l : List Int) (hl : l.length = 124) (hb : QU.bytesOk l = true) (d : Nat) : ∀ k i, i + d = 992 → d < k → spec_UnpackBits.l0 k l 0 31 32 (QU.st l 31 i) (i : Int) = some (QU.outs (QU.byteAt l) 31, true) := by
  have hw : wrap64 (32 * 31) = 992 := by unfold wrap64; omega
  induction d with
  | zero =>
    intro k i hi hk
    obtain ⟨k, rfl⟩ : ∃ q, k = q + 1 := ⟨k - 1, by omega⟩
    simp only [spec_UnpackBits.l0]
    rw [hw, if_neg (by omega), show i = 32 * 31 by omega, QU.st_end]
  | succ d ih =>
    intro k i hi hk
    obtain ⟨k, rfl⟩ : ∃ q, k = q + 1 := ⟨k - 1, by omega⟩
    have e0 : wrap64 (0 + (i : Int)) = (i : Int) := by unfold wrap64; omega
    have e5 : wrap64 ((i : Int) + 1) = ((i + 1 : Nat) : Int) := by unfold wrap64; omega
    have hq : i / 31 < 32 := by omega
    have hp : i / 8 < l.length := by omega
    have hs := QU.bit_step l 31 i (by omega) (by omega) (by omega) hb (by omega)
    have hi5 : i < 100000 := by omega
    have hi6 : (i : Int) < 992 := by omega
    have hq2 : ((i / 31 : Nat) : Int) < ((32 : Nat) : Int) := by exact_mod_cast hq
    have hp2 : ((i / 8 : Nat) : Int) < (l.length : Int) := by exact_mod_cast hp
    have h1 : i + 1 + d = 992 := by omega
    have h2 : d < k := by omega
    clear hi hk hq hp
    have e1 := QU.tdiv_nat i 31 hi5
    have e2 := QU.tdiv_nat i 8 hi5
    have e3 := QU.tmod_nat i 8
    have e4 := QU.tmod_nat i 31
    simp only [Int.cast_ofNat_Int] at e1 e2 e3 e4
    simp only [spec_UnpackBits.l0]
    rw [hw, e0, e1, e2, e3, e4, e5, QU.st_length, if_pos hi6, if_neg (by decide), if_pos (Int.natCast_nonneg _), if_pos hq2, if_pos (Int.natCast_nonneg _), if_pos hp2, if_pos (Int.natCast_nonneg _), if_pos (Int.natCast_nonneg _), Int.toNat_natCast, hs]
    exact ih k (i + 1) h1 h2
set_option maxRecDepth 100000 in
theorem unpack_bits31 (l : List Int) (hl : l.length = 124) (hb : QU.bytesOk l = true) (k : Nat) (hk : 992 < k) : spec_UnpackBits.f k l 0 31 32 = some (QU.outs (QU.byteAt l) 31, true) := by
  unfold spec_UnpackBits.f
  rw [if_neg (by rw [hl]; unfold wrap64; omega), if_pos (by decide), if_pos (by decide)]
  have h := unpack_loop31 l hl hb 992 k 0 (by omega) hk
  rw [QU.st_zero] at h
  exact h
theorem same_loop31 (D : Nat → Int) (d : Nat) : ∀ k i, i + d = 32 → d < k → laws_unpacked.l0 k (QU.outs D 31) (QU.outs D 31) (i : Int) = some true := by
  induction d with
  | zero =>
    intro k i hi hk
    obtain ⟨k, rfl⟩ : ∃ q, k = q + 1 := ⟨k - 1, by omega⟩
    simp only [laws_unpacked.l0]
    rw [if_neg (by omega)]
  | succ d ih =>
    intro k i hi hk
    obtain ⟨k, rfl⟩ : ∃ q, k = q + 1 := ⟨k - 1, by omega⟩
    have e5 : wrap64 ((i : Int) + 1) = ((i + 1 : Nat) : Int) := by unfold wrap64; omega
    have hb := QU.outs_bd D 31 i (by omega)
    have hw : IntKind.u64.wrap (rd (QU.outs D 31) (i : Int)) = rd (QU.outs D 31) (i : Int) := wraps_u64 _ hb.1 (by omega)
    simp only [laws_unpacked.l0]
    rw [hw, e5, QU.outs_length, if_pos (by omega), if_pos (by omega), if_pos (by omega), if_pos (by omega), if_pos rfl]
    exact ih k (i + 1) (by omega) (by omega)
theorem same31 (l : List Int) (hl : l.length = 124) (hb : QU.bytesOk l = true) (k : Nat) (hk : 992 < k) : laws_unpacked.f k l 31 (QU.outs (QU.byteAt l) 31) true = some true := by
  obtain ⟨k, rfl⟩ : ∃ q, k = q + 1 := ⟨k - 1, by omega⟩
  unfold laws_unpacked.f
  rw [unpack_bits31 l hl hb (k + 1) hk]
  simp only [Option.bind_some, if_true]
  rw [QU.outs_length]
  simp only [laws_unpacked.j0]
  rw [if_neg (by decide)]
  exact same_loop31 _ 32 k 0 (by omega) (by omega)
set_option maxRecDepth 100000 in
theorem FnUnpack31 : laws_FnUnpack31.Pure := by
  intro l0 _ _ hwf
  obtain ⟨K, hK⟩ : ∃ K : Nat, 992 < K := ⟨992 + 1, by omega⟩
  refine ⟨K, ?_⟩
  have hb := QU.wf_bytes hwf
  have lowl : ((List.replicate 124 (0 : Int)).set 0 1).length = 124 := by simp
  have lowb : QU.bytesOk ((List.replicate 124 (0 : Int)).set 0 1) = true := by decide
  unfold laws_FnUnpack31.f
  by_cases hz : (l0.length : Int) > 2147483647
  · rw [if_pos hz]
  · rw [if_neg hz, low31]
    simp only [Option.bind_some]
    have hi : impl_Unpack31.f ((List.replicate 124 (0 : Int)).set 0 1) = some (QU.outs (QU.byteAt ((List.replicate 124 (0 : Int)).set 0 1)) 31, true) := by
      unfold impl_Unpack31.f
      rw [if_pos ⟨lowl, lowb⟩]
    rw [hi]
    simp only [Option.bind_some]
    rw [same31 _ lowl lowb K hK]
    simp only [Option.bind_some]
    by_cases hn : (l0.length : Int) = 124
    · have hn2 : l0.length = 124 := by omega
      have hi2 : impl_Unpack31.f l0 = some (QU.outs (QU.byteAt l0) 31, true) := by
        unfold impl_Unpack31.f
        rw [if_pos ⟨hn2, hb⟩]
      rw [if_pos hn, hi2]
      have hs := same31 _ hn2 hb K hK
      generalize QU.outs (QU.byteAt l0) 31 = O at hs ⊢
      rw [Option.bind_some]
      change ((laws_unpacked.f K l0 31 O true).bind fun t132 => if t132 = true then some true else some false) = some true
      rw [hs]
      rfl
    · rw [if_neg hn]
end Go.Proofs.YtblmpfhjghcddaaDoor.Pure
