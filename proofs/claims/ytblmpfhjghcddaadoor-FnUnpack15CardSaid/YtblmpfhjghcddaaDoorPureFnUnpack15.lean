/- FnUnpack15 returns true: 32 numbers of 15 bits are read from the lowest bit of each byte on. For every list of bytes. -/
import Derived.Test.YtblmpfhjghcddaaDoorQU15x1
import Derived.Test.YtblmpfhjghcddaaDoorU7
namespace Go.Proofs.YtblmpfhjghcddaaDoor.Pure
open Go.RowKit Go.Proofs.YtblmpfhjghcddaaDoor.QU15 Go.Proofs.YtblmpfhjghcddaaDoorW.PrintWords Go.Proofs.YtblmpfhjghcddaaDoorW.PrintLast Go.Proofs.YtblmpfhjghcddaaDoorW.PrintMore
theorem low15 : laws_lowest.f 60 = some ((List.replicate 60 (0 : Int)).set 0 1) := by
  unfold laws_lowest.f
  rw [if_pos (by decide), if_pos (by decide)]
  simp only [Option.bind_some]
  rw [if_pos (by decide)]
  rfl
theorem unpack_loop15 (l : List Int) (hl : l.length = 60) (hb : QU.bytesOk l = true) (d : Nat) : ∀ k i, i + d = 480 → d < k → spec_UnpackBits.l0 k l 0 15 32 (QU.st l 15 i) (i : Int) = some (QU.outs (QU.byteAt l) 15, true) := by
  have hw : wrap64 (32 * 15) = 480 := by unfold wrap64; omega
  induction d with
  | zero =>
    intro k i hi hk
    obtain ⟨k, rfl⟩ : ∃ q, k = q + 1 := ⟨k - 1, by omega⟩
    simp only [spec_UnpackBits.l0]
    rw [hw, if_neg (by omega), show i = 32 * 15 by omega, QU.st_end]
  | succ d ih =>
    intro k i hi hk
    obtain ⟨k, rfl⟩ : ∃ q, k = q + 1 := ⟨k - 1, by omega⟩
    have e0 : wrap64 (0 + (i : Int)) = (i : Int) := by unfold wrap64; omega
    have e5 : wrap64 ((i : Int) + 1) = ((i + 1 : Nat) : Int) := by unfold wrap64; omega
    have hq : i / 15 < 32 := by omega
    have hp : i / 8 < l.length := by omega
    have hs := QU.bit_step l 15 i (by omega) (by omega) (by omega) hb (by omega)
    have hi5 : i < 100000 := by omega
    have hi6 : (i : Int) < 480 := by omega
    have hq2 : ((i / 15 : Nat) : Int) < ((32 : Nat) : Int) := by exact_mod_cast hq
    have hp2 : ((i / 8 : Nat) : Int) < (l.length : Int) := by exact_mod_cast hp
    have h1 : i + 1 + d = 480 := by omega
    have h2 : d < k := by omega
    clear hi hk hq hp
    have e1 := QU.tdiv_nat i 15 hi5
    have e2 := QU.tdiv_nat i 8 hi5
    have e3 := QU.tmod_nat i 8
    have e4 := QU.tmod_nat i 15
    simp only [Int.cast_ofNat_Int] at e1 e2 e3 e4
    simp only [spec_UnpackBits.l0]
    rw [hw, e0, e1, e2, e3, e4, e5, QU.st_length, if_pos hi6, if_neg (by decide), if_pos (Int.natCast_nonneg _), if_pos hq2, if_pos (Int.natCast_nonneg _), if_pos hp2, if_pos (Int.natCast_nonneg _), if_pos (Int.natCast_nonneg _), Int.toNat_natCast, hs]
    exact ih k (i + 1) h1 h2
theorem unpack_bits15 (l : List Int) (hl : l.length = 60) (hb : QU.bytesOk l = true) (k : Nat) (hk : 480 < k) : spec_UnpackBits.f k l 0 15 32 = some (QU.outs (QU.byteAt l) 15, true) := by
  unfold spec_UnpackBits.f
  rw [if_neg (by rw [hl]; unfold wrap64; omega), if_pos (by decide), if_pos (by decide)]
  have h := unpack_loop15 l hl hb 480 k 0 (by omega) hk
  rw [QU.st_zero] at h
  exact h
theorem same_loop15 (D : Nat → Int) (d : Nat) : ∀ k i, i + d = 32 → d < k → laws_unpacked.l0 k (QU.outs D 15) (QU.outs D 15) (i : Int) = some true := by
  induction d with
  | zero =>
    intro k i hi hk
    obtain ⟨k, rfl⟩ : ∃ q, k = q + 1 := ⟨k - 1, by omega⟩
    simp only [laws_unpacked.l0]
    rw [if_neg (by omega)]
  | succ d ih =>
    intro k i hi hk
    obtain ⟨k, rfl⟩ : ∃ q, k = q + 1 := ⟨k - 1, by omega⟩
    have e5 : wrap64 ((i : Int) + 1) = ((i + 1 : Nat) : Int) := by unfold wrap64; omega
    have hb := QU.outs_bd D 15 i (by omega)
    have hw : IntKind.u64.wrap (rd (QU.outs D 15) (i : Int)) = rd (QU.outs D 15) (i : Int) := wraps_u64 _ hb.1 (by omega)
    simp only [laws_unpacked.l0]
    rw [hw, e5, QU.outs_length, if_pos (by omega), if_pos (by omega), if_pos (by omega), if_pos (by omega), if_pos rfl]
    exact ih k (i + 1) (by omega) (by omega)
theorem same15 (l : List Int) (hl : l.length = 60) (hb : QU.bytesOk l = true) (k : Nat) (hk : 480 < k) : laws_unpacked.f k l 15 (QU.outs (QU.byteAt l) 15) true = some true := by
  obtain ⟨k, rfl⟩ : ∃ q, k = q + 1 := ⟨k - 1, by omega⟩
  unfold laws_unpacked.f
  rw [unpack_bits15 l hl hb (k + 1) hk]
  simp only [Option.bind_some, if_true]
  rw [QU.outs_length]
  simp only [laws_unpacked.j0]
  rw [if_neg (by decide)]
  exact same_loop15 _ 32 k 0 (by omega) (by omega)
theorem FnUnpack15 : laws_FnUnpack15.Pure := by
  intro l0 _ _ hwf
  obtain ⟨K, hK⟩ : ∃ K : Nat, 480 < K := ⟨480 + 1, by omega⟩
  refine ⟨K, ?_⟩
  have hb := QU.wf_bytes hwf
  have lowl : ((List.replicate 60 (0 : Int)).set 0 1).length = 60 := by simp
  have lowb : QU.bytesOk ((List.replicate 60 (0 : Int)).set 0 1) = true := by decide
  unfold laws_FnUnpack15.f
  by_cases hz : (l0.length : Int) > 2147483647
  · rw [if_pos hz]
  · rw [if_neg hz, low15]
    simp only [Option.bind_some]
    have hi : impl_Unpack15.f ((List.replicate 60 (0 : Int)).set 0 1) = some (QU.outs (QU.byteAt ((List.replicate 60 (0 : Int)).set 0 1)) 15, true) := by
      unfold impl_Unpack15.f
      rw [if_pos ⟨lowl, lowb⟩]
    rw [hi]
    simp only [Option.bind_some]
    rw [same15 _ lowl lowb K hK]
    simp only [Option.bind_some]
    by_cases hn : (l0.length : Int) = 60
    · have hn2 : l0.length = 60 := by omega
      have hi2 : impl_Unpack15.f l0 = some (QU.outs (QU.byteAt l0) 15, true) := by
        unfold impl_Unpack15.f
        rw [if_pos ⟨hn2, hb⟩]
      rw [if_pos hn, hi2]
      have hs := same15 _ hn2 hb K hK
      generalize QU.outs (QU.byteAt l0) 15 = O at hs ⊢
      rw [Option.bind_some]
      change ((laws_unpacked.f K l0 15 O true).bind fun t132 => if t132 = true then some true else some false) = some true
      rw [hs]
      rfl
    · rw [if_neg hn]
end Go.Proofs.YtblmpfhjghcddaaDoor.Pure
