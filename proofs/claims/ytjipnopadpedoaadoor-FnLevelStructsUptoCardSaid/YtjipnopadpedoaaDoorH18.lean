/- What comes in: rows of values, little enough of them; the two listed tables. -/
import Derived.Test.YtjipnopadpedoaaDoorH17
import Derived.Test.YtjipnopadpedoaaDoorRows
import Derived.ProofKit
import Derived.OpenShut
import Derived.LaidMore
import Derived.LaidSub
import Derived.Lib.LaidTab
import Derived.MakeChecks
namespace Go.Proofs.YtjipnopadpedoaaDoor.QR
open Go.ChangeShapes Go.WideShapes Go.ChangeAt Go.RowKit Go.Proofs.YtjipnopadpedoaaDoorW.PrintWords Go.Proofs.YtjipnopadpedoaaDoorW.PrintLast Go.Proofs.YtjipnopadpedoaaDoorW.PrintMore
open Go.Proofs.YtjipnopadpedoaaDoor.PFnLevelStructs (S25 z25 k25 k25_mk)
set_option linter.unusedVariables false
set_option linter.unusedSimpArgs false
theorem cells_at {w : World} {base : Nat} {a : Addr} {n : Nat} {cs : List Value} (h : w.cells? base a n = some cs) : cs.length = n ∧ ∀ i u, cs[i]? = some u → w.cell? (a.add i) = some u := by
  unfold World.cells? at h
  split at h
  · refine ⟨by simpa using mapM_some_length h, fun i u hu => ?_⟩
    have hi : i < (List.range n).length := by
      have h1 := mapM_some_length h
      have h2 := (List.getElem?_eq_some_iff.1 hu).1
      omega
    have := mapM_some_get h i i (by rw [List.getElem?_range (by simpa using hi)])
    rw [this]
    exact hu
  · cases h
theorem bulk_pos {H : Type} (d : DataW H) : 1 ≤ Rows.uptoBulk d := by
  cases d with
  | lit l => cases l <;> simp [Rows.uptoBulk]
  | nil => simp [Rows.uptoBulk]
  | ptr d => simp [Rows.uptoBulk]
  | slice elems spare => simp [Rows.uptoBulk]
  | agg parts => simp [Rows.uptoBulk]
  | iface t d => simp [Rows.uptoBulk]
  | map entries => simp [Rows.uptoBulk]
  | held h => simp [Rows.uptoBulk]
theorem bulk_part {H : Type} {d : DataW H} {l : List (DataW H)} (h : d ∈ l) : Rows.uptoBulk d ≤ Rows.uptoBulkAll l := by
  induction l with
  | nil => cases h
  | cons x r ih =>
    simp only [Rows.uptoBulkAll]
    rcases List.mem_cons.1 h with rfl | h
    · omega
    · have := ih h
      omega
theorem bulk_sum {H : Type} (d : Nat) : ∀ (xs : List S25) (es : List (DataW H × List MemPlace)), xs.length = es.length → (∀ (i : Nat) (x : S25) (e : DataW H × List MemPlace), xs[i]? = some x → es[i]? = some e → nd d x ≤ Rows.uptoBulk e.1) → ndL d xs ≤ Rows.uptoBulkAll (es.map (·.1))
  | [], _, _, _ => Nat.zero_le _
  | x :: xs, [], h, _ => by simp at h
  | x :: xs, e :: es, h, hp => by
    have h1 := hp 0 x e rfl rfl
    have h2 := bulk_sum d xs es (by simpa using h) (fun i a b ha hb => hp (i + 1) a b ha hb)
    unfold ndL at h2 ⊢
    simp only [List.map_cons, List.sum_cons, Rows.uptoBulkAll]
    omega
section
variable {H : Type} {enc : TypeId × Value → H} {W : World} {base : Nat} {sp : Nat → Bool} {held : Bool}
set_option maxRecDepth 100000 in
theorem vals_of : ∀ (n : Nat) (cs : List Value) (x : DataW H × List MemPlace), DataW.trod enc Tryd.prog W base sp held n 22 cs = some x → ∃ A len cap, ∃ xs : List S25, cs = [.slice A len cap] ∧ len ≤ cap ∧ len ≤ 9223372036854775807 ∧ Kd.C k25 W A len xs ∧ ∀ d, ndL d xs ≤ Rows.uptoBulk x.1
  | n, cs, x, h => by
    rcases DataW.trod_slice Tryd.underlying22 h with ⟨hcs, _⟩ | ⟨a, len, cap, elems, rest, m, hn, hcs, hx, _, hl, hcm, hlen, hel, _, _⟩
    · exact ⟨none, 0, 0, [], hcs, Nat.le_refl _, by omega, ⟨rfl, by omega, fun h => absurd h (Nat.lt_irrefl _)⟩, fun d => Nat.zero_le _⟩
    · have hc4 : Tryd.prog.cellsOf 25 = 4 := by kernel_rfl
      have hml : len ≤ 9223372036854775807 := Nat.le_trans hl (by simpa [maxLen] using hcm)
      have key : ∀ i, i < len → ∃ y : S25, (∀ e : DataW H × List MemPlace, elems[i]? = some e → ∀ d, nd d y ≤ Rows.uptoBulk e.1) ∧ ∃ c : List Value, c.length = 4 ∧ k25.K W y c ∧ ∀ j u, c[j]? = some u → W.cell? (a.add (i * 4 + j)) = some u := by
        intro i hi
        have hE := hel i hi
        rw [hc4] at hE
        rw [List.getElem?_eq_getElem (show i < elems.length by omega)] at hE ⊢
        obtain ⟨c, hc, hy⟩ := Option.bind_eq_some_iff.1 hE
        obtain ⟨hcl, hcc⟩ := cells_at hc
        obtain ⟨ys, m2, hm2, hx2, hcl2, hyl, hf⟩ := DataW.trod_struct Tryd.underlying25 hy
        have f0 := hf 0 _ rfl
        have f1 := hf 1 _ rfl
        have f2 := hf 2 _ rfl
        have f3 := hf 3 _ rfl
        have hy4 : ys.length = 4 := hyl
        rw [List.getElem?_eq_getElem (show 0 < ys.length by omega)] at f0
        rw [List.getElem?_eq_getElem (show 1 < ys.length by omega)] at f1
        rw [List.getElem?_eq_getElem (show 2 < ys.length by omega)] at f2
        rw [List.getElem?_eq_getElem (show 3 < ys.length by omega)] at f3
        obtain ⟨b, e0, _⟩ := DataW.trod_bool Tryd.underlying4 f0
        obtain ⟨k, e1, _⟩ := DataW.trod_int Tryd.underlying23 f1
        obtain ⟨s, e2, _⟩ := DataW.trod_string Tryd.underlying9 f2
        have : m2 < n := by omega
        obtain ⟨A3, l3, c3, xs3, e3, hl3, _, hK3, hb3⟩ := vals_of m2 _ _ f3
        have k4 : Tryd.prog.cellsOf 4 = 1 := by kernel_rfl
        have k23 : Tryd.prog.cellsOf 23 = 1 := by kernel_rfl
        have k9 : Tryd.prog.cellsOf 9 = 1 := by kernel_rfl
        have k22 : Tryd.prog.cellsOf 22 = 1 := by kernel_rfl
        replace e0 : List.take (Tryd.prog.cellsOf 4) (List.drop 0 c) = [.bool b] := e0
        replace e1 : List.take (Tryd.prog.cellsOf 23) (List.drop 1 c) = [.int .u64 k] := e1
        replace e2 : List.take (Tryd.prog.cellsOf 9) (List.drop 2 c) = [.string s] := e2
        replace e3 : List.take (Tryd.prog.cellsOf 22) (List.drop 3 c) = [.slice A3 l3 c3] := e3
        rw [k4] at e0
        rw [k23] at e1
        rw [k9] at e2
        rw [k22] at e3
        have hxl : xs3.length = l3 := hK3.1
        have hbk : ∀ d, nd d ⟨b, k, s, xs3⟩ ≤ Rows.uptoBulk (elems[i]'(by omega)).1 := fun d => by
          rw [hx2]
          cases d with
          | zero => exact bulk_pos _
          | succ d =>
            have h1 := hb3 d
            have h2 : Rows.uptoBulk (ys[3]'(by omega)).1 ≤ Rows.uptoBulkAll (ys.map (·.1)) := bulk_part (List.mem_map.2 ⟨_, List.getElem_mem _, rfl⟩)
            have h3 : nd (d + 1) ⟨b, k, s, xs3⟩ = 1 + ndL d xs3 := rfl
            simp only [Rows.uptoBulk]
            omega
        obtain ⟨d0, d1, d2, d3, rfl⟩ : ∃ d0 d1 d2 d3, c = [d0, d1, d2, d3] := by
          match c, hcl with
          | [d0, d1, d2, d3], _ => exact ⟨d0, d1, d2, d3, rfl⟩
        simp only [List.drop_succ_cons, List.drop_zero, List.take_succ_cons, List.take_zero, List.cons.injEq, and_true] at e0 e1 e2 e3
        refine ⟨⟨b, k, s, xs3⟩, fun e he d => by injection he with he; rw [← he]; exact hbk d, [d0, d1, d2, d3], rfl, ?_, fun j u hu => by rw [← add_add]; exact hcc j u hu⟩
        rw [e0, e1, e2, e3, ← hxl]
        exact k25_mk W ⟨b, k, s, xs3⟩ (by show xs3.length ≤ c3; omega) (by show k25.C W A3 xs3.length xs3; rw [hxl]; exact hK3)
      have : ∃ xs : List S25, xs.length = len ∧ ∀ i y, xs[i]? = some y → (∀ e : DataW H × List MemPlace, elems[i]? = some e → ∀ d, nd d y ≤ Rows.uptoBulk e.1) ∧ ∃ c : List Value, c.length = 4 ∧ k25.K W y c ∧ ∀ j u, c[j]? = some u → W.cell? (a.add (i * 4 + j)) = some u := by
        refine ⟨(List.range len).map (fun i => if hi : i < len then (key i hi).choose else z25), by simp, fun i y hy => ?_⟩
        rw [List.getElem?_map] at hy
        obtain ⟨q, hq, rfl⟩ := Option.map_eq_some_iff.1 hy
        obtain ⟨hql, hqe⟩ := List.getElem?_eq_some_iff.1 hq
        simp only [List.length_range] at hql
        simp only [List.getElem_range] at hqe
        subst hqe
        rw [dif_pos hql]
        exact (key i hql).choose_spec
      obtain ⟨xs, hxl, hxs⟩ := this
      refine ⟨some a, len, cap, xs, hcs, hl, hml, ⟨hxl, hml, fun _ => ⟨a, rfl, fun j p hj => ?_⟩⟩, fun d => ?_⟩
      · obtain ⟨_, c, h1, h2, h3⟩ := hxs j p hj
        exact ⟨c, h1, h2, h3⟩
      · have h1 := bulk_sum d xs elems (by omega) (fun i y e hy he => (hxs i y hy).1 e he d)
        rw [hx]
        simp only [Rows.uptoBulk]
        omega
  termination_by n => n
end
theorem gBitMask : Tryd.prog.globalNamed "given.example/pub-arrowroot/pub/arrow/arrow/bitutil.BitMask" = some 0 := by kernel_rfl
theorem gPrecedingBitmask : Tryd.prog.globalNamed "given.example/pub-arrowroot/pub/arrow/arrow/bitutil.PrecedingBitmask" = some 1 := by kernel_rfl
theorem gm_of {W : World} (h : laidMetH Tryd.prog [("given.example/pub-arrowroot/pub/arrow/arrow/bitutil.BitMask", Rows.laid_given_example_pub_arrowroot_pub_arrow_arrow_bitutil_BitMask), ("given.example/pub-arrowroot/pub/arrow/arrow/bitutil.PrecedingBitmask", Rows.laid_given_example_pub_arrowroot_pub_arrow_arrow_bitutil_PrecedingBitmask)] W) : Gm W := by
  have h_BitMask : laidMetH Tryd.prog [("given.example/pub-arrowroot/pub/arrow/arrow/bitutil.BitMask", Rows.laid_given_example_pub_arrowroot_pub_arrow_arrow_bitutil_BitMask)] W := laidMetH.filter (fun x => x.1 == "given.example/pub-arrowroot/pub/arrow/arrow/bitutil.BitMask") h
  have h_PrecedingBitmask : laidMetH Tryd.prog [("given.example/pub-arrowroot/pub/arrow/arrow/bitutil.PrecedingBitmask", Rows.laid_given_example_pub_arrowroot_pub_arrow_arrow_bitutil_PrecedingBitmask)] W := laidMetH.filter (fun x => x.1 == "given.example/pub-arrowroot/pub/arrow/arrow/bitutil.PrecedingBitmask") h
  rw [MakeChecks.laidMetH_plain _ _ _ (by kernel_rfl)] at h_BitMask h_PrecedingBitmask
  have t_BitMask := Lib.tabIs_of_head (k := .u8) (zs := [1, 2, 4, 8, 16, 32, 64, 128]) gBitMask (show (Tryd.prog.globals[0]?).map (·.type) = some 78 by kernel_rfl) Tryd.underlying78 Tryd.underlying5 (by kernel_rfl) (by kernel_rfl) h_BitMask
  have c_BitMask := fun i (hi : i < 8) => t_BitMask.cell gBitMask i hi
  have t_PrecedingBitmask := Lib.tabIs_of_head (k := .u8) (zs := [0, 1, 3, 7, 15, 31, 63, 127]) gPrecedingBitmask (show (Tryd.prog.globals[1]?).map (·.type) = some 78 by kernel_rfl) Tryd.underlying78 Tryd.underlying5 (by kernel_rfl) (by kernel_rfl) h_PrecedingBitmask
  have c_PrecedingBitmask := fun i (hi : i < 8) => t_PrecedingBitmask.cell gPrecedingBitmask i hi
  have h8 : ∀ k, k < 8 → k = 0 ∨ k = 1 ∨ k = 2 ∨ k = 3 ∨ k = 4 ∨ k = 5 ∨ k = 6 ∨ k = 7 := fun k hk => by omega
  have h3 := World.block_lt_of_cell? W _ (c_PrecedingBitmask 0 (by omega))
  refine ⟨h3, fun k hk => ?_, fun k hk => ?_⟩
  · rcases h8 k hk with rfl | rfl | rfl | rfl | rfl | rfl | rfl | rfl <;> exact c_BitMask _ (by omega)
  · rcases h8 k hk with rfl | rfl | rfl | rfl | rfl | rfl | rfl | rfl <;> exact c_PrecedingBitmask _ (by omega)
end Go.Proofs.YtjipnopadpedoaaDoor.QR
