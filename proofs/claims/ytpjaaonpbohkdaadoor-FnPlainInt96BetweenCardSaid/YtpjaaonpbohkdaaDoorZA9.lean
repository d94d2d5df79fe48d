/- What a law's arguments and the listed variable read as: rows of values, of bytes; the masks. -/
import Derived.Test.YtpjaaonpbohkdaaDoorZA8
import Derived.Test.YtpjaaonpbohkdaaDoorRows
import Derived.ProofKit
import Derived.OpenShut
import Derived.LaidMore
import Derived.Lib.LaidTab
import Derived.MakeChecks
namespace Go.Proofs.YtpjaaonpbohkdaaDoor.QR
open Go.ChangeShapes Go.WideShapes Go.ChangeAt Go.RowKit Go.Proofs.YtpjaaonpbohkdaaDoorW.PrintWords Go.Proofs.YtpjaaonpbohkdaaDoorW.PrintLast Go.Proofs.YtpjaaonpbohkdaaDoorW.PrintMore
set_option linter.unusedVariables false
set_option linter.unusedSimpArgs false
theorem cells_at {w : World} {base : Nat} {a : Addr} {n : Nat} {cs : List Value} (h : w.cells? base a n = some cs) : cs.length = n ∧ ∀ i u, cs[i]? = some u → w.cell? (a.add i) = some u := by
  unfold World.cells? at h
  split at h
  · refine ⟨by simpa using mapM_some_length h, fun i u hu => ?_⟩
    have hi : i < (List.range n).length := by
      have h1 := mapM_some_length h
      have h2 := (List.getElem?_eq_some_iff.1 hu).1
      omega
    have := mapM_some_get h i i (by rw [List.getElem?_range (by simpa using hi)])
    rw [this]
    exact hu
  · cases h
section
variable {H : Type} {enc : TypeId × Value → H} {W : World} {base : Nat} {sp : Nat → Bool} {held : Bool}
set_option maxRecDepth 100000 in
theorem vals_of : ∀ (n : Nat) (cs : List Value) (x : DataW H × List MemPlace), DataW.trod enc Tryd.prog W base sp held n 22 cs = some x → ∃ A len cap, ∃ xs : List QT.S33, cs = [.slice A len cap] ∧ len ≤ cap ∧ len ≤ 9223372036854775807 ∧ Kd.C QT.k33 W A len xs ∧ n64 xs
  | n, cs, x, h => by
    rcases DataW.trod_slice Tryd.underlying22 h with ⟨hcs, _⟩ | ⟨a, len, cap, elems, rest, m, hn, hcs, _, _, hl, hcm, hlen, hel, _, _⟩
    · exact ⟨none, 0, 0, [], hcs, Nat.le_refl _, by omega, ⟨rfl, by omega, fun h => absurd h (Nat.lt_irrefl _)⟩, fun x hx => by cases hx⟩
    · have hc4 : Tryd.prog.cellsOf 33 = 4 := by kernel_rfl
      have hml : len ≤ 9223372036854775807 := Nat.le_trans hl (by simpa [maxLen] using hcm)
      have key : ∀ i, i < len → ∃ y : QT.S33, (0 ≤ y.f1 ∧ y.f1 < 18446744073709551616) ∧ ∃ c : List Value, c.length = 4 ∧ QT.k33.K W y c ∧ ∀ j u, c[j]? = some u → W.cell? (a.add (i * 4 + j)) = some u := by
        intro i hi
        have hE := hel i hi
        rw [hc4] at hE
        rw [List.getElem?_eq_getElem (show i < elems.length by omega)] at hE
        obtain ⟨c, hc, hy⟩ := Option.bind_eq_some_iff.1 hE
        obtain ⟨hcl, hcc⟩ := cells_at hc
        obtain ⟨ys, m2, hm2, hx2, hcl2, hyl, hf⟩ := DataW.trod_struct Tryd.underlying33 hy
        have f0 := hf 0 _ rfl
        have f1 := hf 1 _ rfl
        have f2 := hf 2 _ rfl
        have f3 := hf 3 _ rfl
        have hy4 : ys.length = 4 := hyl
        rw [List.getElem?_eq_getElem (show 0 < ys.length by omega)] at f0
        rw [List.getElem?_eq_getElem (show 1 < ys.length by omega)] at f1
        rw [List.getElem?_eq_getElem (show 2 < ys.length by omega)] at f2
        rw [List.getElem?_eq_getElem (show 3 < ys.length by omega)] at f3
        obtain ⟨b, e0, _⟩ := DataW.trod_bool Tryd.underlying4 f0
        obtain ⟨k, e1, _, hkw⟩ := DataW.trod_int Tryd.underlying31 f1
        obtain ⟨s, e2, _⟩ := DataW.trod_string Tryd.underlying9 f2
        have : m2 < n := by omega
        obtain ⟨A3, l3, c3, xs3, e3, hl3, _, hK3, _⟩ := vals_of m2 _ _ f3
        have k4 : Tryd.prog.cellsOf 4 = 1 := by kernel_rfl
        have k31 : Tryd.prog.cellsOf 31 = 1 := by kernel_rfl
        have k9 : Tryd.prog.cellsOf 9 = 1 := by kernel_rfl
        have k22 : Tryd.prog.cellsOf 22 = 1 := by kernel_rfl
        replace e0 : List.take (Tryd.prog.cellsOf 4) (List.drop 0 c) = [.bool b] := e0
        replace e1 : List.take (Tryd.prog.cellsOf 31) (List.drop 1 c) = [.int .u64 k] := e1
        replace e2 : List.take (Tryd.prog.cellsOf 9) (List.drop 2 c) = [.string s] := e2
        replace e3 : List.take (Tryd.prog.cellsOf 22) (List.drop 3 c) = [.slice A3 l3 c3] := e3
        rw [k4] at e0
        rw [k31] at e1
        rw [k9] at e2
        rw [k22] at e3
        have hxl : xs3.length = l3 := hK3.1
        match c, hcl with
        | [d0, d1, d2, d3], _ =>
          simp only [List.drop_succ_cons, List.drop_zero, List.take_succ_cons, List.take_zero, List.cons.injEq, and_true] at e0 e1 e2 e3
          have hk64 : 0 ≤ k ∧ k < 18446744073709551616 := by
            simp [Lit.wf, IntKind.min, IntKind.max, IntKind.bits, IntKind.signed] at hkw
            omega
          refine ⟨⟨b, k, s, xs3⟩, hk64, [d0, d1, d2, d3], rfl, ?_, fun j u hu => by rw [← add_add]; exact hcc j u hu⟩
          rw [e0, e1, e2, e3, ← hxl]
          exact QT.k33_mk W ⟨b, k, s, xs3⟩ (by show xs3.length ≤ c3; omega) (by show QT.k33.C W A3 xs3.length xs3; rw [hxl]; exact hK3)
      have : ∃ xs : List QT.S33, xs.length = len ∧ ∀ i y, xs[i]? = some y → (0 ≤ y.f1 ∧ y.f1 < 18446744073709551616) ∧ ∃ c : List Value, c.length = 4 ∧ QT.k33.K W y c ∧ ∀ j u, c[j]? = some u → W.cell? (a.add (i * 4 + j)) = some u := by
        refine ⟨(List.range len).map (fun i => if hi : i < len then (key i hi).choose else QT.z33), by simp, fun i y hy => ?_⟩
        rw [List.getElem?_map] at hy
        obtain ⟨q, hq, rfl⟩ := Option.map_eq_some_iff.1 hy
        obtain ⟨hql, hqe⟩ := List.getElem?_eq_some_iff.1 hq
        simp only [List.length_range] at hql
        simp only [List.getElem_range] at hqe
        subst hqe
        rw [dif_pos hql]
        exact (key i hql).choose_spec
      obtain ⟨xs, hxl, hxs⟩ := this
      refine ⟨some a, len, cap, xs, hcs, hl, hml, ⟨hxl, hml, fun _ => ⟨a, rfl, fun j p hj => ?_⟩⟩, fun x hx => ?_⟩
      · obtain ⟨_, c, h1, h2, h3⟩ := hxs j p hj
        exact ⟨c, h1, h2, h3⟩
      · obtain ⟨i, hi⟩ := List.mem_iff_getElem?.1 hx
        exact (hxs i x hi).1
  termination_by n => n
/-- A row of bytes that came in. -/
theorem bytes_of (fuel : Nat) (v : Value) (cs : List Value) (x : DataW H × List MemPlace) (a0 : Option Addr) (len0 cap0 : Nat) (hv : cs = [.slice a0 len0 cap0]) (h : DataW.trod enc Tryd.prog W base sp held fuel 23 cs = some x) : ∃ l : List Int, l.length = len0 ∧ len0 ≤ cap0 ∧ Cu W a0 l ∧ bytesOk l = true := by
  subst hv
  rcases open_ints Tryd.underlying23 Tryd.underlying5 (by kernel_rfl) h with ⟨hcs, _⟩ | ⟨y, l, c, zs, hcs, _, hl, hm, hz, _, hcell, hwz⟩
  · simp at hcs
    obtain ⟨rfl, rfl, rfl⟩ := hcs
    exact ⟨[], rfl, Nat.le_refl _, ⟨rfl, by simp, fun h => absurd h (Nat.lt_irrefl _)⟩, rfl⟩
  · simp at hcs
    obtain ⟨rfl, rfl, rfl⟩ := hcs
    have hzl : len0 ≤ zs.length := by have h2 : zs.length = if sp y.block = true then cap0 else len0 := by simpa using hz
                                      rw [h2]; split <;> omega
    have htl : (zs.take len0).length = len0 := by rw [List.length_take]; omega
    refine ⟨zs.take len0, htl, hl, ?_, ?_⟩
    · refine Kd.C_of_reads (d := (0 : Int)) (enc := Value.int .u8) ⟨rfl, by rw [htl]; exact Nat.le_trans hl (by simpa [maxLen] using hm), fun _ => ⟨y, rfl, fun j hj => ?_⟩⟩
      rw [htl] at hj
      have hc := hcell j (by omega)
      rw [hc]
      congr 2
      rw [List.getD_eq_getElem?_getD, List.getD_eq_getElem?_getD, List.getElem?_take, if_pos hj]
    · unfold bytesOk
      rw [List.all_eq_true]
      intro z hzm
      have := hwz z (List.mem_of_mem_take hzm)
      simp [Lit.wf, IntKind.min, IntKind.max, IntKind.bits, IntKind.signed] at this
      simp only [Bool.and_eq_true, decide_eq_true_eq]
      omega
end
theorem gBM : Tryd.prog.globalNamed "given.example/pub-arrowroot/pub/arrow/arrow/bitutil.BitMask" = some 0 := by kernel_rfl
theorem bm_of {W : World} (h : laidMetH Tryd.prog [("given.example/pub-arrowroot/pub/arrow/arrow/bitutil.BitMask", Rows.laid_given_example_pub_arrowroot_pub_arrow_arrow_bitutil_BitMask)] W) : Bm W := by
  rw [MakeChecks.laidMetH_plain _ _ _ (by kernel_rfl)] at h
  have hT := Lib.tabIs_of_head (k := .u8) (zs := [1, 2, 4, 8, 16, 32, 64, 128]) gBM (show (Tryd.prog.globals[0]?).map (·.type) = some 117 by kernel_rfl) Tryd.underlying117 Tryd.underlying5 (by kernel_rfl) (by kernel_rfl) h
  have hc := fun i (hi : i < 8) => hT.cell gBM i hi
  refine ⟨World.block_lt_of_cell? W _ (hc 0 (by omega)), fun k hk => ?_⟩
  have h8 : k = 0 ∨ k = 1 ∨ k = 2 ∨ k = 3 ∨ k = 4 ∨ k = 5 ∨ k = 6 ∨ k = 7 := by omega
  rcases h8 with rfl | rfl | rfl | rfl | rfl | rfl | rfl | rfl <;> exact hc _ (by omega)
end Go.Proofs.YtpjaaonpbohkdaaDoor.QR
