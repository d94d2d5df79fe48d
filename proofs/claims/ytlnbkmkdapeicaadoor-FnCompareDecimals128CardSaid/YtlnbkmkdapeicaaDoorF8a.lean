/- What is asked of decimals, one by one. -/
import Derived.Test.YtlnbkmkdapeicaaDoorF7
import Derived.Test.YtlnbkmkdapeicaaDoorWEqStruct
namespace Go.Proofs.YtlnbkmkdapeicaaDoor.QR
open Go.RowKit Go.Proofs.YtlnbkmkdapeicaaDoorW.PrintWords Go.Proofs.YtlnbkmkdapeicaaDoorW.PrintLast Go.Proofs.YtlnbkmkdapeicaaDoorW.PrintMore
set_option linter.unusedVariables false
set_option linter.unusedSimpArgs false
/-- A decimal is below another one. -/
def ltD (a b : Dc) : Bool := decide (a.2 < b.2 ∨ (a.2 = b.2 ∧ a.1 < b.1))
/-- What a comparison says: 0 equal, 1 not equal, 2 greater, 3 greater or equal. -/
def cmpB (op : Nat) (a b : Dc) : Bool := match op with
  | 0 => a.1 == b.1 && a.2 == b.2
  | 1 => !(a.1 == b.1 && a.2 == b.2)
  | 2 => ltD b a
  | _ => !ltD a b
def rdD (xs : List Dc) (i : Nat) : Dc := xs.getD i (0, 0)
theorem rdD_get {xs : List Dc} {i : Nat} (h : i < xs.length) : xs[i]? = some (rdD xs i) := by
  unfold rdD
  rw [List.getD_eq_getElem?_getD, List.getElem?_eq_getElem h]
  rfl
def tmpAt (bf : Nat → Bool) (ts : List Value) (n i : Nat) : List Value := cU bf i ++ ts.drop i
theorem tmpAt_set (bf : Nat → Bool) (ts : List Value) (n i : Nat) (h : i < ts.length) : (cU bf i ++ ts.drop i).set i (.int .u32 (b2i (bf i))) = cU bf (i + 1) ++ ts.drop (i + 1) := by
  rw [List.set_append_right _ _ (by rw [cU_len]; exact Nat.le_refl _), cU_len, Nat.sub_self, List.drop_eq_getElem_cons h, List.set_cons_zero]
  simp [cU, List.range_succ]
/-- The two cells of decimal number i of a row, from decimal o on. -/
theorem cI_cells {w : World} {g o i : Nat} {xs : List Dc} (h : w.heap[g]? = some (.cells (cI xs).toArray 50 (0, 0))) (hi : o + i < xs.length) :
    w.cell? ⟨g, o * 2 + i * 2, none⟩ = some (.int .u64 (rdD xs (o + i)).1) ∧ w.cell? ⟨g, o * 2 + i * 2 + 1, none⟩ = some (.int .i64 (rdD xs (o + i)).2) := by
  have e : o * 2 + i * 2 = (o + i) * 2 := by omega
  rw [e]
  exact ⟨(blk_cell h _).trans ((List.getElem?_toArray ..).trans (cI_get0 (rdD_get hi))), (blk_cell h _).trans ((List.getElem?_toArray ..).trans (cI_get1 (rdD_get hi)))⟩
theorem less_is (a b : Dc) : QT.decimal128_Num_Less.f a.1 a.2 b.1 b.2 = some (ltD a b) := by
  unfold QT.decimal128_Num_Less.f ltD
  split
  · rename_i h; simp [h]
  · rename_i h
    split
    · rename_i h2; simp [h2]
    · rename_i h2; simp [h, h2]
theorem gt_is (a b : Dc) (w : World) : Calls Tryd.prog 59 #[.agg #[.int .u64 a.1, .int .i64 a.2], .agg #[.int .u64 b.1, .int .i64 b.2]] w fun e w' => e = .returned (.bool (ltD b a)) ∧ Below w.heap.size w w' :=
  QT.decimal128_Num_Greater.calls a.1 a.2 b.1 b.2 (ltD b a) w (by unfold QT.decimal128_Num_Greater.f; rw [less_is]; rfl)
theorem ge_is (a b : Dc) (w : World) : Calls Tryd.prog 61 #[.agg #[.int .u64 a.1, .int .i64 a.2], .agg #[.int .u64 b.1, .int .i64 b.2]] w fun e w' => e = .returned (.bool (!ltD a b)) ∧ Below w.heap.size w w' :=
  QT.decimal128_Num_GreaterEqual.calls a.1 a.2 b.1 b.2 (!ltD a b) w (by unfold QT.decimal128_Num_GreaterEqual.f; rw [less_is]; rfl)
set_option maxHeartbeats 8000000 in
set_option maxRecDepth 100000 in
theorem cgt_is (a b : Dc) (w : World) : Calls Tryd.prog 58 #[.agg #[.int .u64 a.1, .int .i64 a.2], .agg #[.int .u64 b.1, .int .i64 b.2]] w fun e w' => e = .returned (.bool (ltD b a)) ∧ Below w.heap.size w w' := by
  have QG := Aside0.mk (fun w => gt_is a b w)
  obtain ⟨t, ht⟩ : ∃ t, t = (ltD b a) := ⟨_, rfl⟩
  rw [← ht] at QG ⊢
  obtain ⟨a1, a2⟩ := a
  obtain ⟨b1, b2'⟩ := b
  simp only at QG ⊢
  clear ht
  go_enter Tryd.func58, Tryd.ntmps58
  go_upto_region 1 with (fail)
  obtain ⟨W1, hW1⟩ : ∃ W1, W1 = (w.alloc (.cells #[.int .u64 a1, .int .i64 a2] 50)).alloc (.cells #[.int .u64 b1, .int .i64 b2'] 50) := ⟨_, rfl⟩
  have g2 : (w.alloc (.cells #[.int .u64 a1, .int .i64 a2] 50)).heap.size = w.heap.size + 1 := by unfold World.alloc; exact Array.size_push _
  have gn : W1.heap[w.heap.size + 1]? = some (.cells #[.int .u64 b1, .int .i64 b2'] 50 (0, 0)) := by rw [hW1, ← g2]; exact blk_new _ _
  have gm : W1.heap[w.heap.size]? = some (.cells #[.int .u64 a1, .int .i64 a2] 50 (0, 0)) := by rw [hW1]; exact blk_alloc (blk_new w _) _
  have k0 := blk_cell gm 0
  have k1 := blk_cell gm 1
  have k2 := blk_cell gn 0
  have k3 := blk_cell gn 1
  have Q0 := Aside0.mk (show Below w.heap.size w W1 by rw [hW1]; exact b3 w _ _)
  rw [← hW1]
  clear hW1 gn gm g2
  go_wp2_with (go_at_call 59; refine (QG.out _).mono ?_; rintro e w1 ⟨rfl, hb⟩; have Q1 := Aside0.mk (Q0.out.trans (hb.mono Q0.out.size)); clear hb)
  go_ret
  exact ⟨rfl, Q1.out⟩
set_option maxHeartbeats 8000000 in
set_option maxRecDepth 100000 in
theorem cge_is (a b : Dc) (w : World) : Calls Tryd.prog 60 #[.agg #[.int .u64 a.1, .int .i64 a.2], .agg #[.int .u64 b.1, .int .i64 b.2]] w fun e w' => e = .returned (.bool (!ltD a b)) ∧ Below w.heap.size w w' := by
  have QG := Aside0.mk (fun w => ge_is a b w)
  obtain ⟨t, ht⟩ : ∃ t, t = (!ltD a b) := ⟨_, rfl⟩
  rw [← ht] at QG ⊢
  obtain ⟨a1, a2⟩ := a
  obtain ⟨b1, b2'⟩ := b
  simp only at QG ⊢
  clear ht
  go_enter Tryd.func60, Tryd.ntmps60
  go_upto_region 1 with (fail)
  obtain ⟨W1, hW1⟩ : ∃ W1, W1 = (w.alloc (.cells #[.int .u64 a1, .int .i64 a2] 50)).alloc (.cells #[.int .u64 b1, .int .i64 b2'] 50) := ⟨_, rfl⟩
  have g2 : (w.alloc (.cells #[.int .u64 a1, .int .i64 a2] 50)).heap.size = w.heap.size + 1 := by unfold World.alloc; exact Array.size_push _
  have gn : W1.heap[w.heap.size + 1]? = some (.cells #[.int .u64 b1, .int .i64 b2'] 50 (0, 0)) := by rw [hW1, ← g2]; exact blk_new _ _
  have gm : W1.heap[w.heap.size]? = some (.cells #[.int .u64 a1, .int .i64 a2] 50 (0, 0)) := by rw [hW1]; exact blk_alloc (blk_new w _) _
  have k0 := blk_cell gm 0
  have k1 := blk_cell gm 1
  have k2 := blk_cell gn 0
  have k3 := blk_cell gn 1
  have Q0 := Aside0.mk (show Below w.heap.size w W1 by rw [hW1]; exact b3 w _ _)
  rw [← hW1]
  clear hW1 gn gm g2
  go_wp2_with (go_at_call 61; refine (QG.out _).mono ?_; rintro e w1 ⟨rfl, hb⟩; have Q1 := Aside0.mk (Q0.out.trans (hb.mono Q0.out.size)); clear hb)
  go_ret
  exact ⟨rfl, Q1.out⟩
/-- Two decimals are equal where both halves are. -/
theorem eq_is (d : Nat) (w : World) (x0 y0 : Int) (x1 y1 : Int) : (Op.equalIn (d + 2) 50 (.agg #[.int .u64 x0, .int .i64 x1]) (.agg #[.int .u64 y0, .int .i64 y1])).run Tryd.prog w = .ok (x0 == y0 && (x1 == y1)) w := by
  refine eqA_of Tryd.underlying50 (by kernel_rfl) ?_
  refine eqf_cons (by rfl) (by go_simp; rfl) (by go_simp; rfl) (by go_simp) ?_
  exact eqf_last (by rfl) (by go_simp; rfl) (by go_simp; rfl) (by go_simp)
theorem eqg_is : Tryd.prog.eqGuardType Tryd.prog.depth 50 = false := by kernel_rfl
end Go.Proofs.YtlnbkmkdapeicaaDoor.QR
