/- What a law's arguments and the listed variables read as: rows of words, of bytes; the masks. -/
import Derived.Test.YtlnbkmkdapeicaaDoorF22d
import Derived.Test.YtlnbkmkdapeicaaDoorRows
import Derived.ProofKit
import Derived.OpenShut
import Derived.LaidMore
import Derived.LaidSub
import Derived.Lib.LaidTab
import Derived.MakeChecks
namespace Go.Proofs.YtlnbkmkdapeicaaDoor.QR
open Go.ChangeShapes Go.WideShapes Go.ChangeAt Go.RowKit Go.Proofs.YtlnbkmkdapeicaaDoorW.PrintWords Go.Proofs.YtlnbkmkdapeicaaDoorW.PrintLast Go.Proofs.YtlnbkmkdapeicaaDoorW.PrintMore
set_option linter.unusedVariables false
set_option linter.unusedSimpArgs false
theorem cells_at {w : World} {base : Nat} {a : Addr} {n : Nat} {cs : List Value} (h : w.cells? base a n = some cs) : cs.length = n ∧ ∀ i u, cs[i]? = some u → w.cell? (a.add i) = some u := by
  unfold World.cells? at h
  split at h
  · refine ⟨by simpa using mapM_some_length h, fun i u hu => ?_⟩
    have hi : i < (List.range n).length := by
      have h1 := mapM_some_length h
      have h2 := (List.getElem?_eq_some_iff.1 hu).1
      omega
    have := mapM_some_get h i i (by rw [List.getElem?_range (by simpa using hi)])
    rw [this]
    exact hu
  · cases h
section
variable {H : Type} {enc : TypeId × Value → H} {W : World} {base : Nat} {sp : Nat → Bool} {held : Bool}
/-- A row of bytes that came in. -/
theorem bytes_of (fuel : Nat) (v : Value) (cs : List Value) (x : DataW H × List MemPlace) (a0 : Option Addr) (len0 cap0 : Nat) (hv : cs = [.slice a0 len0 cap0]) (h : DataW.trod enc Tryd.prog W base sp held fuel 23 cs = some x) : ∃ l : List Int, l.length = len0 ∧ len0 ≤ cap0 ∧ Cu W a0 l ∧ bytesOk l = true := by
  subst hv
  rcases open_ints Tryd.underlying23 Tryd.underlying5 (by kernel_rfl) h with ⟨hcs, _⟩ | ⟨y, l, c, zs, hcs, _, hl, hm, hz, _, hcell, hwz⟩
  · simp at hcs
    obtain ⟨rfl, rfl, rfl⟩ := hcs
    exact ⟨[], rfl, Nat.le_refl _, ⟨rfl, by simp, fun h => absurd h (Nat.lt_irrefl _)⟩, rfl⟩
  · simp at hcs
    obtain ⟨rfl, rfl, rfl⟩ := hcs
    have hzl : len0 ≤ zs.length := by have h2 : zs.length = if sp y.block = true then cap0 else len0 := by simpa using hz
                                      rw [h2]; split <;> omega
    have htl : (zs.take len0).length = len0 := by rw [List.length_take]; omega
    refine ⟨zs.take len0, htl, hl, ?_, ?_⟩
    · refine Kd.C_of_reads (d := (0 : Int)) (enc := Value.int .u8) ⟨rfl, by rw [htl]; exact Nat.le_trans hl (by simpa [maxLen] using hm), fun _ => ⟨y, rfl, fun j hj => ?_⟩⟩
      rw [htl] at hj
      have hc := hcell j (by omega)
      rw [hc]
      congr 2
      rw [List.getD_eq_getElem?_getD, List.getD_eq_getElem?_getD, List.getElem?_take, if_pos hj]
    · unfold bytesOk
      rw [List.all_eq_true]
      intro z hzm
      have := hwz z (List.mem_of_mem_take hzm)
      simp [Lit.wf, IntKind.min, IntKind.max, IntKind.bits, IntKind.signed] at this
      simp only [Bool.and_eq_true, decide_eq_true_eq]
      omega
/-- A row of words that came in. -/
theorem words_of (fuel : Nat) (v : Value) (cs : List Value) (x : DataW H × List MemPlace) (a0 : Option Addr) (len0 cap0 : Nat) (hv : cs = [.slice a0 len0 cap0]) (h : DataW.trod enc Tryd.prog W base sp held fuel 28 cs = some x) : ∃ l : List Int, l.length = len0 ∧ len0 ≤ cap0 ∧ Kd.C (Kd.int .u64) W a0 l.length l ∧ ∀ x ∈ l, 0 ≤ x ∧ x < 18446744073709551616 := by
  subst hv
  rcases open_ints Tryd.underlying28 Tryd.underlying27 (by kernel_rfl) h with ⟨hcs, _⟩ | ⟨y, l, c, zs, hcs, _, hl, hm, hz, _, hcell, hwz⟩
  · simp at hcs
    obtain ⟨rfl, rfl, rfl⟩ := hcs
    exact ⟨[], rfl, Nat.le_refl _, ⟨rfl, by simp, fun h => absurd h (Nat.lt_irrefl _)⟩, fun x hx => by cases hx⟩
  · simp at hcs
    obtain ⟨rfl, rfl, rfl⟩ := hcs
    have hzl : len0 ≤ zs.length := by have h2 : zs.length = if sp y.block = true then cap0 else len0 := by simpa using hz
                                      rw [h2]; split <;> omega
    have htl : (zs.take len0).length = len0 := by rw [List.length_take]; omega
    refine ⟨zs.take len0, htl, hl, ?_, ?_⟩
    · refine Kd.C_of_reads (d := (0 : Int)) (enc := Value.int .u64) ⟨rfl, by rw [htl]; exact Nat.le_trans hl (by simpa [maxLen] using hm), fun _ => ⟨y, rfl, fun j hj => ?_⟩⟩
      rw [htl] at hj
      have hc := hcell j (by omega)
      rw [hc]
      congr 2
      rw [List.getD_eq_getElem?_getD, List.getD_eq_getElem?_getD, List.getElem?_take, if_pos hj]
    · intro z hzm
      have := hwz z (List.mem_of_mem_take hzm)
      simp [Lit.wf, IntKind.min, IntKind.max, IntKind.bits, IntKind.signed] at this
      omega
/-- A row of rows of words that came in. -/
theorem rows_of (fuel : Nat) (cs : List Value) (x : DataW H × List MemPlace) (a0 : Option Addr) (len0 cap0 : Nat) (hv : cs = [.slice a0 len0 cap0]) (h : DataW.trod enc Tryd.prog W base sp held fuel 22 cs = some x) : ∃ l : List (List Int), l.length = len0 ∧ len0 ≤ cap0 ∧ Kd.C (Kd.slice 27 (Kd.int .u64)) W a0 l.length l ∧ Us l := by
  subst hv
  rcases DataW.trod_slice Tryd.underlying22 h with ⟨hcs, _⟩ | ⟨a, len, cap, elems, rest, m, hn, hcs, _, _, hl, hcm, hlen, hel, _, _⟩
  · simp at hcs
    obtain ⟨rfl, rfl, rfl⟩ := hcs
    exact ⟨[], rfl, Nat.le_refl _, ⟨rfl, by simp, fun h => absurd h (Nat.lt_irrefl _)⟩, fun r hr => by cases hr⟩
  · simp at hcs
    obtain ⟨rfl, rfl, rfl⟩ := hcs
    have hc1 : Tryd.prog.cellsOf 28 = 1 := by kernel_rfl
    have hml : len0 ≤ 9223372036854775807 := Nat.le_trans hl (by simpa [maxLen] using hcm)
    have key : ∀ i, i < len0 → ∃ y : List Int, (∀ z ∈ y, 0 ≤ z ∧ z < 18446744073709551616) ∧ ∃ c : List Value, c.length = 1 ∧ (Kd.slice 27 (Kd.int .u64)).K W y c ∧ ∀ j u, c[j]? = some u → W.cell? (a.add (i * 1 + j)) = some u := by
      intro i hi
      have hE := hel i hi
      rw [hc1] at hE
      rw [List.getElem?_eq_getElem (show i < elems.length by omega)] at hE
      obtain ⟨c, hc, hy⟩ := Option.bind_eq_some_iff.1 hE
      obtain ⟨hcl, hcc⟩ := cells_at hc
      have hcs : ∃ b l2 c2, c = [.slice b l2 c2] := by
        rcases DataW.trod_slice Tryd.underlying28 hy with ⟨hcs, _⟩ | ⟨a2, len2, cap2, _, _, _, _, hcs, _⟩
        · exact ⟨none, 0, 0, hcs⟩
        · exact ⟨some a2, len2, cap2, hcs⟩
      obtain ⟨b, l2, c2, rfl⟩ := hcs
      obtain ⟨y, h1, h2, h3, h4⟩ := words_of m (.slice b l2 c2) _ _ b l2 c2 rfl hy
      refine ⟨y, h4, [.slice b l2 c2], rfl, ?_, fun j u hu => by rw [← add_add]; exact hcc j u hu⟩
      rw [← h1] at h2 ⊢
      exact ⟨b, c2, rfl, h2, h3⟩
    have : ∃ xs : List (List Int), xs.length = len0 ∧ ∀ i y, xs[i]? = some y → (∀ z ∈ y, 0 ≤ z ∧ z < 18446744073709551616) ∧ ∃ c : List Value, c.length = 1 ∧ (Kd.slice 27 (Kd.int .u64)).K W y c ∧ ∀ j u, c[j]? = some u → W.cell? (a.add (i * 1 + j)) = some u := by
      refine ⟨(List.range len0).map (fun i => if hi : i < len0 then (key i hi).choose else []), by simp, fun i y hy => ?_⟩
      rw [List.getElem?_map] at hy
      obtain ⟨q, hq, rfl⟩ := Option.map_eq_some_iff.1 hy
      obtain ⟨hql, hqe⟩ := List.getElem?_eq_some_iff.1 hq
      simp only [List.length_range] at hql
      simp only [List.getElem_range] at hqe
      subst hqe
      rw [dif_pos hql]
      exact (key i hql).choose_spec
    obtain ⟨xs, hxl, hxs⟩ := this
    refine ⟨xs, hxl, hl, ⟨rfl, by rw [hxl]; exact hml, fun _ => ⟨a, rfl, fun j p hj => (hxs j p hj).2⟩⟩, fun r hr => ?_⟩
    obtain ⟨j, hj, rfl⟩ := List.mem_iff_getElem.1 hr
    exact (hxs j _ (List.getElem?_eq_getElem hj)).1
end
theorem gBM : Tryd.prog.globalNamed "given.example/pub-arrowroot/pub/arrow/arrow/bitutil.BitMask" = some 2 := by kernel_rfl
theorem gFM : Tryd.prog.globalNamed "given.example/pub-arrowroot/pub/arrow/arrow/bitutil.FlippedBitMask" = some 3 := by kernel_rfl
theorem bm_of {W : World} (h : laidMetH Tryd.prog [("given.example/pub-arrowroot/pub/arrow/arrow/bitutil.BitMask", Rows.laid_given_example_pub_arrowroot_pub_arrow_arrow_bitutil_BitMask), ("given.example/pub-arrowroot/pub/arrow/arrow/bitutil.FlippedBitMask", Rows.laid_given_example_pub_arrowroot_pub_arrow_arrow_bitutil_FlippedBitMask)] W) : Bm W := by
  have h2 : laidMetH Tryd.prog [("given.example/pub-arrowroot/pub/arrow/arrow/bitutil.FlippedBitMask", Rows.laid_given_example_pub_arrowroot_pub_arrow_arrow_bitutil_FlippedBitMask)] W := laidMetH.filter (fun x => x.1 == "given.example/pub-arrowroot/pub/arrow/arrow/bitutil.FlippedBitMask") h
  rw [MakeChecks.laidMetH_plain _ _ _ (by kernel_rfl)] at h h2
  have hT := Lib.tabIs_of_head (k := .u8) (zs := [1, 2, 4, 8, 16, 32, 64, 128]) gBM (show (Tryd.prog.globals[2]?).map (·.type) = some 164 by kernel_rfl) Tryd.underlying164 Tryd.underlying5 (by kernel_rfl) (by kernel_rfl) h
  have hT2 := Lib.tabIs_of_head (k := .u8) (zs := [254, 253, 251, 247, 239, 223, 191, 127]) gFM (show (Tryd.prog.globals[3]?).map (·.type) = some 164 by kernel_rfl) Tryd.underlying164 Tryd.underlying5 (by kernel_rfl) (by kernel_rfl) h2
  have hc := fun i (hi : i < 8) => hT.cell gBM i hi
  have hc2 := fun i (hi : i < 8) => hT2.cell gFM i hi
  refine ⟨⟨World.block_lt_of_cell? W _ (hc 0 (by omega)), World.block_lt_of_cell? W _ (hc2 0 (by omega))⟩, fun k hk => ?_, fun k hk => ?_⟩
  · have h8 : k = 0 ∨ k = 1 ∨ k = 2 ∨ k = 3 ∨ k = 4 ∨ k = 5 ∨ k = 6 ∨ k = 7 := by omega
    rcases h8 with rfl | rfl | rfl | rfl | rfl | rfl | rfl | rfl <;> exact hc _ (by omega)
  · have h8 : k = 0 ∨ k = 1 ∨ k = 2 ∨ k = 3 ∨ k = 4 ∨ k = 5 ∨ k = 6 ∨ k = 7 := by omega
    rcases h8 with rfl | rfl | rfl | rfl | rfl | rfl | rfl | rfl <;> exact hc2 _ (by omega)
end Go.Proofs.YtlnbkmkdapeicaaDoor.QR
