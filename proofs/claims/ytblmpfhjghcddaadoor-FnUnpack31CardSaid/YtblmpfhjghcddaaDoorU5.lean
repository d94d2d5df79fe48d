/- bytes.NewReader; what stands when utils.UnpackN begins inside impl.UnpackN, and what stands when it is done: the 32 numbers lie in the result's block. -/
import Derived.Test.YtblmpfhjghcddaaDoorU4
namespace Go.Proofs.YtblmpfhjghcddaaDoor.QU
open Go.RowKit Go.Proofs.YtblmpfhjghcddaaDoorW.PrintWords Go.Proofs.YtblmpfhjghcddaaDoorW.PrintLast Go.Proofs.YtblmpfhjghcddaaDoorW.PrintMore
set_option linter.unusedVariables false
set_option linter.unusedSimpArgs false
set_option maxRecDepth 100000 in
theorem newReader_is (A : Option Addr) (n c : Nat) (w : World) : Calls Tryd.prog 23 #[.slice A n c] w fun e w' => e = .returned (.pointer (some ⟨w.heap.size, 0, none⟩)) ∧ w' = w.alloc (.cells #[.slice A n c, .int .i64 0, .int .i64 (-1)] 43) := by
  go_enter Tryd.func23, Tryd.ntmps23
  go_wp2
  go_ret
  exact ⟨rfl, rfl⟩
def base3 (w : World) : World := ((w.alloc (.cells #[.slice (some ⟨w.heap.size + 1 + 1, 0, none⟩) 32 32] 23)).alloc (.cells #[.bool false] 4)).alloc (.cells (Array.replicate 32 (.int .u32 0)) 30)
def base4 (w : World) (A : Addr) (n c : Nat) : World := (base3 w).alloc (.cells #[.slice (some A) n c, .int .i64 0, .int .i64 (-1)] 43)
def outs (D : Nat → Int) (N : Nat) : List Int := (List.range 32).map fun j => numD D (N * j) N
/-- All is done: the results' cells are as they were, the numbers stand. -/
structure Fin_ (w w' : World) (D : Nat → Int) (N : Nat) : Prop where
  below : Below w.heap.size w w'
  c0 : w'.cell? ⟨w.heap.size, 0, none⟩ = some (.slice (some ⟨w.heap.size + 1 + 1, 0, none⟩) 32 32)
  c1 : w'.cell? ⟨w.heap.size + 1, 0, none⟩ = some (.bool false)
  z0 : w'.frozen? ⟨w.heap.size, 0, none⟩ = false
  z1 : w'.frozen? ⟨w.heap.size + 1, 0, none⟩ = false
  row : ∃ cs : Array Value, w'.heap[w.heap.size + 1 + 1]? = some (.cells cs 30 (0, 0)) ∧ cs.toList = (outs D N).map fun x => .int .u32 x
theorem of_heap_cell {w W : World} (h : W.heap = w.heap) (a : Addr) : W.cell? a = w.cell? a := by simp only [World.cell?, h]
theorem of_heap_frozen {w W : World} (h : W.heap = w.heap) (a : Addr) : W.frozen? a = w.frozen? a := by simp only [World.frozen?, h]
theorem newR (A : Addr) (n c : Nat) (w W : World) (hW : W.heap = (base3 w).heap) (hb : Below w.heap.size w W) : Calls Tryd.prog 23 #[.slice (some A) n c] W fun e w' => e = .returned (.pointer (some ⟨w.heap.size + 1 + 1 + 1, 0, none⟩)) ∧ Aside0 (w'.heap = (base4 w A n c).heap ∧ Below w.heap.size w w') ∧ w'.cell? ⟨w.heap.size, 0, none⟩ = some (.slice (some ⟨w.heap.size + 1 + 1, 0, none⟩) 32 32) := by
  have hs : W.heap.size = w.heap.size + 1 + 1 + 1 := by rw [hW]; simp [base3]
  refine (newReader_is _ _ _ _).mono ?_
  rintro e w' ⟨rfl, rfl⟩
  refine ⟨by rw [hs], ⟨?_, below_alloc hb _⟩, cell?_alloc_old _ ?_⟩
  · show W.heap.push _ = (base3 w).heap.push _
    rw [hW]
  · rw [of_heap_cell hW]; simp [base3, go_sem]
theorem row_of_cells {w : World} {h : Nat} {cs : Array Value} {F : Nat → Int} (hc : w.heap[h]? = some (.cells cs 30 (0, 0))) (hs : cs.size = 32) (hf : ∀ j, j < 32 → w.cell? ⟨h, j, none⟩ = some (.int .u32 (F j))) : cs.toList = ((List.range 32).map F).map fun x => .int .u32 x := by
  apply List.ext_getElem
  · simp [hs]
  · intro j h1 h2
    have hj : j < 32 := by simpa [hs] using h1
    have h3 := hf j hj
    simp only [World.cell?, hc, Option.isSome_none, Bool.false_eq_true, if_false] at h3
    rw [Array.getElem?_eq_getElem (by omega)] at h3
    simpa using Option.some.inj h3
/-- What unpackN_32 is asked for. -/
def Unpacks (fn N : Nat) : Prop := ∀ (g h n c oc B : Nat) (A : Addr) (f : Nat → Int) (D : Nat → Int) (w : World) (hn : 4 * N ≤ n) (hr : Rd w g A n c (0 : Nat)) (ho : Out w h f) (hd : ∀ k, k < n → w.cell? (A.add k) = some (.int .u8 (D k))) (hdb : ∀ k, k < n → 0 ≤ D k ∧ D k < 256) (hgh : g ≠ h) (hA : A.block < w.heap.size) (hAg : A.block ≠ g) (hAh : A.block ≠ h) (hnc : n ≤ c) (hbig : n ≤ 9223372036854775807) (hBg : B ≤ g) (hBh : B ≤ h),
    Calls Tryd.prog fn #[.iface 34 (.pointer (some ⟨g, 0, none⟩)), .slice (some ⟨h, 0, none⟩) 32 oc] w fun e w' => e = .returned (.tuple #[]) ∧ ∃ F V, Mid w w' B g h w.heap.size n c A D (4 * N) F V ∧ ∀ j, j < 32 → F j = numD D (N * j) N
theorem base_below (w : World) : Below w.heap.size w (base3 w) := below_alloc (below_alloc (below_alloc (Below.refl _ _) _) _) _
theorem base4_below (w : World) (A : Addr) (n c : Nat) : Below w.heap.size w (base4 w A n c) := below_alloc (base_below w) _
theorem base3_row (w : World) : (base3 w).heap[w.heap.size + 1 + 1]? = some (.cells (Array.replicate 32 (.int .u32 0)) 30 (0, 0)) := by simp only [base3, World.alloc, Array.getElem?_push, Array.size_push, if_true]
theorem base3_cell (w : World) (j : Nat) (hj : j < 32) : (base3 w).cell? ⟨w.heap.size + 1 + 1, j, none⟩ = some (.int .u32 0) := by
  unfold World.cell?
  rw [base3_row w]
  show (if (none : Option (Nat × Nat)).isSome = true then none else (Array.replicate 32 (Value.int .u32 0))[j]?) = _
  rw [Array.getElem?_replicate, if_pos hj]
  rfl
set_option maxRecDepth 100000 in
theorem unpacks_fin {fn N : Nat} (H : Unpacks fn N) (n c : Nat) (A : Addr) (D : Nat → Int) (w W : World) (hW : W.heap = (base4 w A n c).heap) (hn : 4 * N ≤ n) (hd : ∀ k, k < n → w.cell? (A.add k) = some (.int .u8 (D k))) (hdb : ∀ k, k < n → 0 ≤ D k ∧ D k < 256) (hA : A.block < w.heap.size) (hnc : n ≤ c) (hbig : n ≤ 9223372036854775807)
    (hbw : Below w.heap.size w W) :
    Calls Tryd.prog fn #[.iface 34 (.pointer (some ⟨w.heap.size + 1 + 1 + 1, 0, none⟩)), .slice (some ⟨w.heap.size + 1 + 1, 0, none⟩) 32 32] W fun e w' => e = .returned (.tuple #[]) ∧ Fin_ w w' D N := by
  have hs : W.heap.size = w.heap.size + 4 := by rw [hW]; simp [base4, base3]
  have hc := of_heap_cell hW
  have hz := of_heap_frozen hW
  refine (H (w.heap.size + 1 + 1 + 1) (w.heap.size + 1 + 1) n c 32 w.heap.size A (fun _ => 0) D W hn ⟨by omega, ?_, ?_, ⟨.int .i64 (-1), ?_⟩, ?_, ?_⟩ ⟨⟨Array.replicate 32 (.int .u32 0), ?_, by simp⟩, fun j hj => ⟨?_, ?_⟩⟩ (fun k hk => ?_) hdb (by omega) (by omega) (by omega) (by omega) hnc hbig (by omega) (by omega)).mono ?_
  · rw [hc]; simp [base4, base3, go_sem]
  · rw [hc]; simp [base4, base3, go_sem]
  · rw [hc]; simp [base4, base3, go_sem]
  · rw [hz]; simp [base4, base3, go_sem]
  · rw [hz]; simp [base4, base3, go_sem]
  · rw [hW]; exact (below_alloc (Below.refl _ _) _ : Below (base3 w).heap.size (base3 w) (base4 w A n c)).block _ (blk_lt (base3_row w)) |>.trans (base3_row w)
  · rw [hc]; exact cell?_alloc_old _ (base3_cell w j hj)
  · rw [hz]; exact ((below_alloc (Below.refl _ _) _ : Below (base3 w).heap.size (base3 w) (base4 w A n c)).frozen (p := ⟨w.heap.size + 1 + 1, j, none⟩) (blk_lt (base3_row w))).trans (by unfold World.frozen?; rw [base3_row w]; simp)
  · rw [hbw.cell (by rw [add_block]; exact hA)]; exact hd k hk
  · rintro e w' ⟨rfl, F, V, M, hF⟩
    refine ⟨rfl, ⟨hbw.trans M.below, ?_, ?_, ?_, ?_, ?_⟩⟩
    · exact cell_kept (by rw [hc]; simp [base4, base3, go_sem]) M.kept (by first | (simp; done) | (simp; omega))
    · exact cell_kept (by rw [hc]; simp [base4, base3, go_sem]) M.kept (by first | (simp; done) | (simp; omega))
    · rw [World.frozen?_of_block (w := W) (M.kept.2 w.heap.size (by omega) (by omega)), hz]; simp [base4, base3, go_sem]
    · rw [World.frozen?_of_block (w := W) (M.kept.2 (w.heap.size + 1) (by omega) (by omega)), hz]; simp [base4, base3, go_sem]
    · obtain ⟨cs, h1, h2⟩ := M.out.1
      refine ⟨cs, h1, ?_⟩
      rw [row_of_cells h1 h2 (fun j hj => (M.out.2 j hj).1)]
      congr 1
      exact List.map_congr_left fun j hj => hF j (List.mem_range.1 hj)
theorem outs_length (D : Nat → Int) (N : Nat) : (outs D N).length = 32 := by simp [outs]
theorem done_ {w w' : World} {D : Nat → Int} {N : Nat} (H : Fin_ w w' D N) : ∃ v0_ : Value, Ending.returned (.tuple #[.slice (some ⟨w.heap.size + 1 + 1, 0, none⟩) 32 32, .bool true]) = .returned (.tuple #[v0_, .bool true]) ∧ Kd.R (Kd.int .u32) 30 ((w'.setCell ⟨w.heap.size, 0, none⟩ (.slice (some ⟨w.heap.size + 1 + 1, 0, none⟩) 32 32)).setCell ⟨w.heap.size + 1, 0, none⟩ (.bool true)) w.heap.size (fun _ => True) v0_ (outs D N) ∧ Below w.heap.size w ((w'.setCell ⟨w.heap.size, 0, none⟩ (.slice (some ⟨w.heap.size + 1 + 1, 0, none⟩) 32 32)).setCell ⟨w.heap.size + 1, 0, none⟩ (.bool true)) := by
  obtain ⟨cs, h1, h2⟩ := H.row
  refine ⟨_, rfl, ?_, below_set (below_set H.below (Nat.le_refl _)) (Nat.le_succ _)⟩
  refine Kd.R_far (Kd.R_far (ok := fun k => w.heap.size + 1 + 1 ≤ k) (Kd.R_of_own (enc := Value.int .u32) (h1 := fun _ => rfl) ?_ ?_) (fun k hk => by show k ≠ w.heap.size; omega) _) (fun k hk => by show k ≠ w.heap.size + 1; omega) _ |> fun h => Kd.R_mono h (fun _ _ => trivial)
  · have hs : cs.size = 32 := by rw [← Array.length_toList, h2]; simp [outs]
    refine ⟨by simp [encs], .inr ⟨w.heap.size + 1 + 1, 32, cs, by rw [outs_length], by omega, h1, by rw [outs_length]; exact Nat.le_refl _, by unfold maxLen; omega, by omega, ?_⟩⟩
    rw [outs_length, List.take_of_length_le (by rw [h2]; simp [outs]), h2]
    rfl
  · intro k hk
    have : w.heap.size + 1 + 1 = k := by simpa [Value.ownBlock] using hk
    omega
/-- The bytes, by place. -/
def byteAt (l : List Int) (k : Nat) : Int := rd l (k : Int)
def bytesOk (l : List Int) : Bool := l.all fun x => decide (0 ≤ x) && decide (x < 256)
theorem bytes_ok {l : List Int} (h : bytesOk l = true) (k : Nat) (hk : k < l.length) : 0 ≤ byteAt l k ∧ byteAt l k < 256 := by
  unfold bytesOk at h
  rw [List.all_eq_true] at h
  have := h l[k] (List.getElem_mem hk)
  simpa [byteAt, rd, hk] using this
theorem bytes_at {l : List Int} {w : World} {A0 : Option Addr} (h0 : 0 < l.length) (hr : Kd.C (Kd.int .u8) w A0 l.length l) : ∃ A : Addr, A0 = some A ∧ A.block < w.heap.size ∧ ∀ k, k < l.length → w.cell? (A.add k) = some (.int .u8 (byteAt l k)) := by
  obtain ⟨A, rfl, _⟩ := Kd.at_int hr 0 (Int.le_refl _) (by omega)
  have hc : ∀ k, k < l.length → w.cell? (A.add k) = some (.int .u8 (byteAt l k)) := by
    intro k hk
    obtain ⟨A', e, hc⟩ := Kd.at_int hr (k : Int) (by omega) (by omega)
    injection e with e
    subst e
    simpa [byteAt] using hc
  refine ⟨A, rfl, ?_, hc⟩
  have h := hc 0 h0
  have h2 := World.block_lt_of_cell? w _ h
  rwa [add_block] at h2
end Go.Proofs.YtblmpfhjghcddaaDoor.QU
