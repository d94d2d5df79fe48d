/- The kernels over decimals are chosen: dec128Cmp, getCmpDec, genGoCompareKernel, kernelOf. -/
import Derived.Test.YtlnbkmkdapeicaaDoorF9
import Derived.Laws.EntriesVeiled
namespace Go.Proofs.YtlnbkmkdapeicaaDoor.QR
open Go.RowKit Go.Proofs.YtlnbkmkdapeicaaDoorW.PrintWords Go.Proofs.YtlnbkmkdapeicaaDoorW.PrintLast Go.Proofs.YtlnbkmkdapeicaaDoorW.PrintMore
set_option linter.unusedVariables false
set_option linter.unusedSimpArgs false
/-- The three loops of a comparison. -/
def fAA (op : Nat) : FuncId := match op with | 0 => 45 | 1 => 48 | 2 => 51 | _ => 54
def fAS (op : Nat) : FuncId := match op with | 0 => 46 | 1 => 49 | 2 => 52 | _ => 55
def fSA (op : Nat) : FuncId := match op with | 0 => 47 | 1 => 50 | 2 => 53 | _ => 56
abbrev fv (F : FuncId) : Value := .func (.func F) #[] #[]
abbrev fc (F : FuncId) (g : Nat) : Value := .func (.func F) #[] #[.pointer (some ⟨g, 0, none⟩)]
abbrev fcp (F : FuncId) (cap : Array Value) : Value := .func (.func F) #[] cap
/-- What a loop has caught: nothing, or where the table of comparisons lies. -/
def capOf (op gm : Nat) : Array Value := if op ≤ 1 then #[] else #[.pointer (some ⟨gm, 0, none⟩)]
set_option maxHeartbeats 8000000 in
set_option maxRecDepth 100000 in
theorem dcm_is (w : World) : Calls Tryd.prog 29 #[] w fun e w' => e = .returned (.agg #[fv 58, fv 60]) ∧ Below w.heap.size w w' := by
  go_enter Tryd.func29, Tryd.ntmps29
  go_upto_region 1 with (fail)
  obtain ⟨W1, hW1⟩ : ∃ W1, W1 = w.alloc (.cells #[.nilFunc, .nilFunc] 74) := ⟨_, rfl⟩
  have gn : W1.heap[w.heap.size]? = some (.cells #[.nilFunc, .nilFunc] 74 (0, 0)) := by rw [hW1]; exact blk_new w _
  have k0 := blk_cell gn 0
  have k1 := blk_cell gn 1
  have z0 := blk_frozen gn 0
  have z1 := blk_frozen gn 1
  have Q0 := Aside0.mk (show Below w.heap.size w W1 by rw [hW1]; exact b2 w _)
  rw [← hW1]
  clear hW1 gn
  go_wp2
  refine bodyPost_ret (v := .agg #[fv 58, fv 60]) (by simp [results, Tryd.results29, go_sem, k0, k1]) rfl ?_
  exact ⟨rfl, (Q0.out.setCell (Nat.le_refl _) _).setCell (Nat.le_refl _) _⟩
set_option maxHeartbeats 8000000 in
set_option maxRecDepth 100000 in
theorem gco_is (op : Nat) (hop : op ≤ 3) (w : World) : Calls Tryd.prog 28 #[.int .i8 (op : Int), .agg #[fv 58, fv 60]] w fun e w' => ∃ g gm, e = .returned (.pointer (some ⟨g, 0, none⟩)) ∧ w.heap.size ≤ g ∧ w'.heap[g]? = some (.cells #[fcp (fAA op) (capOf op gm), fcp (fAS op) (capOf op gm), fcp (fSA op) (capOf op gm)] 146 (0, 0)) ∧ (w.heap.size ≤ gm ∧ w'.heap[gm]? = some (.cells #[.func (.func 58) #[] #[], .func (.func 60) #[] #[]] 74 (0, 0))) ∧ Below w.heap.size w w' := by
  have h : op = 0 ∨ op = 1 ∨ op = 2 ∨ op = 3 := by omega
  have e0 : (w.alloc (.cells #[fv 58, fv 60] 74)).heap.size = w.heap.size + 1 := by unfold World.alloc; exact Array.size_push _
  rcases h with rfl | rfl | rfl | rfl
  all_goals
    go_enter Tryd.func28, Tryd.ntmps28
    go_wp2
    go_ret
    refine ⟨_, w.heap.size, rfl, Nat.le_succ _, ?_, ⟨Nat.le_refl _, blk_alloc (blk_new w _) _⟩, b3 w _ _⟩
    rw [← e0]
    exact blk_new _ _
set_option maxHeartbeats 8000000 in
set_option maxRecDepth 100000 in
theorem maa_is (F : FuncId) (cap : Array Value) (w : World) : Calls Tryd.prog 42 #[fcp F cap] w fun e w' => ∃ g, e = .returned (fc 64 g) ∧ w.heap.size ≤ g ∧ w'.heap[g]? = some (.cells #[fcp F cap] 140 (0, 0)) ∧ Below w.heap.size w w' := by
  go_enter Tryd.func42, Tryd.ntmps42
  go_wp2
  go_ret
  exact ⟨_, rfl, Nat.le_refl _, blk_new w _, b2 w _⟩
set_option maxHeartbeats 8000000 in
set_option maxRecDepth 100000 in
theorem mas_is (F : FuncId) (cap : Array Value) (w : World) : Calls Tryd.prog 43 #[fcp F cap] w fun e w' => ∃ g, e = .returned (fc 68 g) ∧ w.heap.size ≤ g ∧ w'.heap[g]? = some (.cells #[fcp F cap] 142 (0, 0)) ∧ Below w.heap.size w w' := by
  go_enter Tryd.func43, Tryd.ntmps43
  go_wp2
  go_ret
  exact ⟨_, rfl, Nat.le_refl _, blk_new w _, b2 w _⟩
set_option maxHeartbeats 8000000 in
set_option maxRecDepth 100000 in
theorem msa_is (F : FuncId) (cap : Array Value) (w : World) : Calls Tryd.prog 44 #[fcp F cap] w fun e w' => ∃ g, e = .returned (fc 70 g) ∧ w.heap.size ≤ g ∧ w'.heap[g]? = some (.cells #[fcp F cap] 144 (0, 0)) ∧ Below w.heap.size w w' := by
  go_enter Tryd.func44, Tryd.ntmps44
  go_wp2
  go_ret
  exact ⟨_, rfl, Nat.le_refl _, blk_new w _, b2 w _⟩
set_option maxHeartbeats 8000000 in
set_option maxRecDepth 100000 in
theorem gen_is (g : Nat) (F1 F2 F3 : FuncId) (cap : Array Value) (w : World) (hg : w.heap[g]? = some (.cells #[fcp F1 cap, fcp F2 cap, fcp F3 cap] 146 (0, 0))) : Calls Tryd.prog 27 #[.pointer (some ⟨g, 0, none⟩)] w fun e w' => ∃ gd g1 g2 g3, e = .returned (.pointer (some ⟨gd, 0, none⟩)) ∧ w'.heap[gd]? = some (.cells #[fc 64 g1, fc 70 g3, fc 68 g2] 137 (0, 0)) ∧ (w.heap.size ≤ g1 ∧ w'.heap[g1]? = some (.cells #[fcp F1 cap] 140 (0, 0))) ∧ (w.heap.size ≤ g2 ∧ w'.heap[g2]? = some (.cells #[fcp F2 cap] 142 (0, 0))) ∧ (w.heap.size ≤ g3 ∧ w'.heap[g3]? = some (.cells #[fcp F3 cap] 144 (0, 0))) ∧ Below w.heap.size w w' := by
  have k0 := blk_cell hg 0
  have k1 := blk_cell hg 1
  have k2 := blk_cell hg 2
  simp only [List.getElem?_toArray, List.getElem?_cons_succ, List.getElem?_cons_zero] at k0 k1 k2
  have Q := Aside0.mk hg
  clear hg
  go_enter Tryd.func27, Tryd.ntmps27
  go_upto_region 1 with (fail)
  refine wp_noP ?_
  go_region_with (first | (go_at_call 42; go_must (refine (maa_is F1 cap _).mono ?_; rintro e w1 ⟨g1, rfl, h1, h2, h3⟩; have g1' := (h3.block g (blk_lt Q.out)).trans Q.out; have a10 := blk_cell g1' 0; have a11 := blk_cell g1' 1; have a12 := blk_cell g1' 2; simp only [List.getElem?_toArray, List.getElem?_cons_succ, List.getElem?_cons_zero] at a10 a11 a12; have G1 := Aside0.mk g1'; clear g1'; have K1 := Aside0.mk (And.intro h1 (And.intro h2 h3)); clear h1 h2 h3)) | (go_at_call 43; go_must (refine (mas_is F2 cap _).mono ?_; rintro e w2 ⟨g2, rfl, h1, h2, h3⟩; have g2' := (h3.block g (blk_lt G1.out)).trans G1.out; have a20 := blk_cell g2' 0; have a21 := blk_cell g2' 1; have a22 := blk_cell g2' 2; simp only [List.getElem?_toArray, List.getElem?_cons_succ, List.getElem?_cons_zero] at a20 a21 a22; have G2 := Aside0.mk g2'; clear g2'; have K2 := Aside0.mk (And.intro h1 (And.intro h2 h3)); clear h1 h2 h3)) | (go_at_call 44; go_must (refine (msa_is F3 cap _).mono ?_; rintro e w3 ⟨g3, rfl, h1, h2, h3⟩; have g3' := (h3.block g (blk_lt G2.out)).trans G2.out; have a30 := blk_cell g3' 0; have a31 := blk_cell g3' 1; have a32 := blk_cell g3' 2; simp only [List.getElem?_toArray, List.getElem?_cons_succ, List.getElem?_cons_zero] at a30 a31 a32; have G3 := Aside0.mk g3'; clear g3'; have K3 := Aside0.mk (And.intro h1 (And.intro h2 h3)); clear h1 h2 h3)))
  all_goals
    refine noP_normal ?_
    go_wp2
    go_ret
    have hB1 : Below w.heap.size w w1 := ⟨K1.out.2.2.os, K1.out.2.2.tape, K1.out.2.2.output, K1.out.2.2.size, K1.out.2.2.block⟩
    have hB2 := hB1.trans (K2.out.2.2.mono hB1.size)
    have hB3 := hB2.trans (K3.out.2.2.mono hB2.size)
    have e1 := (K3.out.2.2.block g1 (blk_lt ((K2.out.2.2.block g1 (blk_lt K1.out.2.1)).trans K1.out.2.1))).trans ((K2.out.2.2.block g1 (blk_lt K1.out.2.1)).trans K1.out.2.1)
    have e2 := (K3.out.2.2.block g2 (blk_lt K2.out.2.1)).trans K2.out.2.1
    exact ⟨w3.heap.size, g1, g2, g3, rfl, blk_new w3 _, ⟨K1.out.1, blk_alloc e1 _⟩, ⟨Nat.le_trans hB1.size K2.out.1, blk_alloc e2 _⟩, ⟨Nat.le_trans hB2.size K3.out.1, blk_alloc K3.out.2.1 _⟩, hB3.alloc hB3.size _⟩
end Go.Proofs.YtlnbkmkdapeicaaDoor.QR
