/- What a law's arguments and the listed variables read as: rows of words, of bytes; the masks. -/
import Derived.Test.YtlnbkmkdapeicaaGreatDoorF22
import Derived.Test.YtlnbkmkdapeicaaGreatDoorRows
import Derived.ProofKit
import Derived.OpenShut
import Derived.LaidMore
import Derived.LaidSub
import Derived.Lib.LaidTab
import Derived.MakeChecks
namespace Go.Proofs.YtlnbkmkdapeicaaGreatDoor.QR
open Go.ChangeShapes Go.WideShapes Go.ChangeAt Go.RowKit Go.Proofs.YtlnbkmkdapeicaaGreatDoorW.PrintWords Go.Proofs.YtlnbkmkdapeicaaGreatDoorW.PrintLast Go.Proofs.YtlnbkmkdapeicaaGreatDoorW.PrintMore
set_option linter.unusedVariables false
set_option linter.unusedSimpArgs false
section
variable {H : Type} {enc : TypeId × Value → H} {W : World} {base : Nat} {sp : Nat → Bool} {held : Bool}
/-- A row of bytes that came in. -/
theorem bytes_of (fuel : Nat) (v : Value) (cs : List Value) (x : DataW H × List MemPlace) (a0 : Option Addr) (len0 cap0 : Nat) (hv : cs = [.slice a0 len0 cap0]) (h : DataW.trod enc Tryz.prog W base sp held fuel 23 cs = some x) : ∃ l : List Int, l.length = len0 ∧ len0 ≤ cap0 ∧ Cu W a0 l ∧ bytesOk l = true := by
  subst hv
  rcases open_ints Tryz.underlying23 Tryz.underlying5 (by kernel_rfl) h with ⟨hcs, _⟩ | ⟨y, l, c, zs, hcs, _, hl, hm, hz, _, hcell, hwz⟩
  · simp at hcs
    obtain ⟨rfl, rfl, rfl⟩ := hcs
    exact ⟨[], rfl, Nat.le_refl _, ⟨rfl, by simp, fun h => absurd h (Nat.lt_irrefl _)⟩, rfl⟩
  · simp at hcs
    obtain ⟨rfl, rfl, rfl⟩ := hcs
    have hzl : len0 ≤ zs.length := by have h2 : zs.length = if sp y.block = true then cap0 else len0 := by simpa using hz
                                      rw [h2]; split <;> omega
    have htl : (zs.take len0).length = len0 := by rw [List.length_take]; omega
    refine ⟨zs.take len0, htl, hl, ?_, ?_⟩
    · refine Kd.C_of_reads (d := (0 : Int)) (enc := Value.int .u8) ⟨rfl, by rw [htl]; exact Nat.le_trans hl (by simpa [maxLen] using hm), fun _ => ⟨y, rfl, fun j hj => ?_⟩⟩
      rw [htl] at hj
      have hc := hcell j (by omega)
      rw [hc]
      congr 2
      rw [List.getD_eq_getElem?_getD, List.getD_eq_getElem?_getD, List.getElem?_take, if_pos hj]
    · unfold bytesOk
      rw [List.all_eq_true]
      intro z hzm
      have := hwz z (List.mem_of_mem_take hzm)
      simp [Lit.wf, IntKind.min, IntKind.max, IntKind.bits, IntKind.signed] at this
      simp only [Bool.and_eq_true, decide_eq_true_eq]
      omega
/-- A row of words that came in. -/
theorem words_of (fuel : Nat) (v : Value) (cs : List Value) (x : DataW H × List MemPlace) (a0 : Option Addr) (len0 cap0 : Nat) (hv : cs = [.slice a0 len0 cap0]) (h : DataW.trod enc Tryz.prog W base sp held fuel 22 cs = some x) : ∃ l : List Int, l.length = len0 ∧ len0 ≤ cap0 ∧ Kd.C (Kd.int .u64) W a0 l.length l ∧ u64s l := by
  subst hv
  rcases open_ints Tryz.underlying22 Tryz.underlying26 (by kernel_rfl) h with ⟨hcs, _⟩ | ⟨y, l, c, zs, hcs, _, hl, hm, hz, _, hcell, hwz⟩
  · simp at hcs
    obtain ⟨rfl, rfl, rfl⟩ := hcs
    exact ⟨[], rfl, Nat.le_refl _, ⟨rfl, by simp, fun h => absurd h (Nat.lt_irrefl _)⟩, fun x hx => by cases hx⟩
  · simp at hcs
    obtain ⟨rfl, rfl, rfl⟩ := hcs
    have hzl : len0 ≤ zs.length := by have h2 : zs.length = if sp y.block = true then cap0 else len0 := by simpa using hz
                                      rw [h2]; split <;> omega
    have htl : (zs.take len0).length = len0 := by rw [List.length_take]; omega
    refine ⟨zs.take len0, htl, hl, ?_, ?_⟩
    · refine Kd.C_of_reads (d := (0 : Int)) (enc := Value.int .u64) ⟨rfl, by rw [htl]; exact Nat.le_trans hl (by simpa [maxLen] using hm), fun _ => ⟨y, rfl, fun j hj => ?_⟩⟩
      rw [htl] at hj
      have hc := hcell j (by omega)
      rw [hc]
      congr 2
      rw [List.getD_eq_getElem?_getD, List.getD_eq_getElem?_getD, List.getElem?_take, if_pos hj]
    · intro z hzm
      have := hwz z (List.mem_of_mem_take hzm)
      simp [Lit.wf, IntKind.min, IntKind.max, IntKind.bits, IntKind.signed] at this
      omega
end
theorem gBM : Tryz.prog.globalNamed "given.example/pub-arrowroot/pub/arrow/arrow/bitutil.BitMask" = some 2 := by kernel_rfl
theorem gFM : Tryz.prog.globalNamed "given.example/pub-arrowroot/pub/arrow/arrow/bitutil.FlippedBitMask" = some 3 := by kernel_rfl
theorem bm_of {W : World} (h : laidMetH Tryz.prog [("given.example/pub-arrowroot/pub/arrow/arrow/bitutil.BitMask", Rows.laid_given_example_pub_arrowroot_pub_arrow_arrow_bitutil_BitMask), ("given.example/pub-arrowroot/pub/arrow/arrow/bitutil.FlippedBitMask", Rows.laid_given_example_pub_arrowroot_pub_arrow_arrow_bitutil_FlippedBitMask)] W) : Bm W := by
  have h2 : laidMetH Tryz.prog [("given.example/pub-arrowroot/pub/arrow/arrow/bitutil.FlippedBitMask", Rows.laid_given_example_pub_arrowroot_pub_arrow_arrow_bitutil_FlippedBitMask)] W := laidMetH.filter (fun x => x.1 == "given.example/pub-arrowroot/pub/arrow/arrow/bitutil.FlippedBitMask") h
  rw [MakeChecks.laidMetH_plain _ _ _ (by kernel_rfl)] at h h2
  have hT := Lib.tabIs_of_head (k := .u8) (zs := [1, 2, 4, 8, 16, 32, 64, 128]) gBM (show (Tryz.prog.globals[2]?).map (·.type) = some 176 by kernel_rfl) Tryz.underlying176 Tryz.underlying5 (by kernel_rfl) (by kernel_rfl) h
  have hT2 := Lib.tabIs_of_head (k := .u8) (zs := [254, 253, 251, 247, 239, 223, 191, 127]) gFM (show (Tryz.prog.globals[3]?).map (·.type) = some 176 by kernel_rfl) Tryz.underlying176 Tryz.underlying5 (by kernel_rfl) (by kernel_rfl) h2
  have hc := fun i (hi : i < 8) => hT.cell gBM i hi
  have hc2 := fun i (hi : i < 8) => hT2.cell gFM i hi
  refine ⟨⟨World.block_lt_of_cell? W _ (hc 0 (by omega)), World.block_lt_of_cell? W _ (hc2 0 (by omega))⟩, fun k hk => ?_, fun k hk => ?_⟩
  · have h8 : k = 0 ∨ k = 1 ∨ k = 2 ∨ k = 3 ∨ k = 4 ∨ k = 5 ∨ k = 6 ∨ k = 7 := by omega
    rcases h8 with rfl | rfl | rfl | rfl | rfl | rfl | rfl | rfl <;> exact hc _ (by omega)
  · have h8 : k = 0 ∨ k = 1 ∨ k = 2 ∨ k = 3 ∨ k = 4 ∨ k = 5 ∨ k = 6 ∨ k = 7 := by omega
    rcases h8 with rfl | rfl | rfl | rfl | rfl | rfl | rfl | rfl <;> exact hc2 _ (by omega)
end Go.Proofs.YtlnbkmkdapeicaaGreatDoor.QR
