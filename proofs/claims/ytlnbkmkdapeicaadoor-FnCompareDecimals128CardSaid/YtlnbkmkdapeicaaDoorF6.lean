/- One bit of a row of bytes is set, or cleared. -/
import Derived.Test.YtlnbkmkdapeicaaDoorF5
namespace Go.Proofs.YtlnbkmkdapeicaaDoor.QR
open Go.RowKit Go.Proofs.YtlnbkmkdapeicaaDoorW.PrintWords Go.Proofs.YtlnbkmkdapeicaaDoorW.PrintLast Go.Proofs.YtlnbkmkdapeicaaDoorW.PrintMore
set_option linter.unusedVariables false
set_option linter.unusedSimpArgs false
/-- The masks of single bits, and their opposites, stand in two package-level variables. -/
def Bm (w : World) : Prop := (2 < w.heap.size ∧ 3 < w.heap.size) ∧ (∀ k, k < 8 → w.cell? ⟨2, k, none⟩ = some (.int .u8 ((2 ^ k : Nat) : Int))) ∧ ∀ k, k < 8 → w.cell? ⟨3, k, none⟩ = some (.int .u8 (255 - ((2 ^ k : Nat) : Int)))
theorem Bm.keep {w w' : World} (h : Bm w) (hs : w.heap.size ≤ w'.heap.size) (h1 : w'.heap[2]? = w.heap[2]?) (h2 : w'.heap[3]? = w.heap[3]?) : Bm w' := by
  refine ⟨⟨Nat.lt_of_lt_of_le h.1.1 hs, Nat.lt_of_lt_of_le h.1.2 hs⟩, fun k hk => ?_, fun k hk => ?_⟩
  · have := h.2.1 k hk
    unfold World.cell? at this ⊢
    rw [show (⟨2, k, none⟩ : Addr).block = 2 from rfl] at this ⊢
    rw [h1]; exact this
  · have := h.2.2 k hk
    unfold World.cell? at this ⊢
    rw [show (⟨3, k, none⟩ : Addr).block = 3 from rfl] at this ⊢
    rw [h2]; exact this
theorem Bm.below {w w' : World} (h : Bm w) {B : Nat} (hB : Below B w w') (h0 : 2 < B ∧ 3 < B) : Bm w' := h.keep hB.size (hB.block _ h0.1) (hB.block _ h0.2)
theorem Bm.fr {w w' : World} {a b : Nat} (h : Bm w) (hF : Fr w w' a b) (ha : 2 ≠ a ∧ 3 ≠ a) (hb : 2 ≠ b ∧ 3 ≠ b) : Bm w' := h.keep hF.size (hF.far _ h.1.1 ha.1 hb.1) (hF.far _ h.1.2 ha.2 hb.2)
/-- A byte with bit m as told. -/
def setb (x : Int) (m : Nat) (b : Bool) : Int := x - x / 2 ^ m % 2 * 2 ^ m + if b then 2 ^ m else 0
theorem setb_get (x : Int) (m j : Nat) (b : Bool) (hm : m < 8) (hj : j < 8) : decide (setb x m b / 2 ^ j % 2 = 1) = if j = m then b else decide (x / 2 ^ j % 2 = 1) := by
  unfold setb
  have h1 : m = 0 ∨ m = 1 ∨ m = 2 ∨ m = 3 ∨ m = 4 ∨ m = 5 ∨ m = 6 ∨ m = 7 := by omega
  have h2 : j = 0 ∨ j = 1 ∨ j = 2 ∨ j = 3 ∨ j = 4 ∨ j = 5 ∨ j = 6 ∨ j = 7 := by omega
  cases b <;> rcases h1 with rfl | rfl | rfl | rfl | rfl | rfl | rfl | rfl <;> rcases h2 with rfl | rfl | rfl | rfl | rfl | rfl | rfl | rfl <;> simp <;> omega
theorem setb_ok (x : Int) (m : Nat) (b : Bool) (hx : 0 ≤ x ∧ x < 256) (hm : m < 8) : 0 ≤ setb x m b ∧ setb x m b < 256 := by
  unfold setb
  have h1 : m = 0 ∨ m = 1 ∨ m = 2 ∨ m = 3 ∨ m = 4 ∨ m = 5 ∨ m = 6 ∨ m = 7 := by omega
  cases b <;> rcases h1 with rfl | rfl | rfl | rfl | rfl | rfl | rfl | rfl <;> simp <;> omega
theorem or_all : ∀ (x : Fin 256) (m : Fin 8), Go.bits .or .u8 ((x.1 : Nat) : Int) ((2 ^ m.1 : Nat) : Int) = setb (x.1 : Int) m.1 true := by decide +kernel
theorem and_all : ∀ (x : Fin 256) (m : Fin 8), Go.bits .and .u8 ((x.1 : Nat) : Int) (255 - ((2 ^ m.1 : Nat) : Int)) = setb (x.1 : Int) m.1 false := by decide +kernel
theorem or_is (x : Int) (m : Nat) (hx : 0 ≤ x ∧ x < 256) (hm : m < 8) : Go.bits .or .u8 x ((2 ^ m : Nat) : Int) = setb x m true := by
  have h := or_all ⟨x.toNat, by omega⟩ ⟨m, hm⟩
  simp only [Int.toNat_of_nonneg hx.1] at h
  exact h
theorem and_is (x : Int) (m : Nat) (hx : 0 ≤ x ∧ x < 256) (hm : m < 8) : Go.bits .and .u8 x (255 - ((2 ^ m : Nat) : Int)) = setb x m false := by
  have h := and_all ⟨x.toNat, by omega⟩ ⟨m, hm⟩
  simp only [Int.toNat_of_nonneg hx.1] at h
  exact h
set_option maxHeartbeats 8000000 in
set_option maxRecDepth 100000 in
theorem sb_is (g o n c k et : Nat) (us : List Value) (x : Int) (w : World) (hg : w.heap[g]? = some (.cells us.toArray et (0, 0))) (hk : k < 8 * n) (hn : n ≤ 1000000) (hx : us[o + k / 8]? = some (.int .u8 x)) (hx8 : 0 ≤ x ∧ x < 256) (hM : Bm w) :
    Calls Tryd.prog 72 #[.slice (some ⟨g, o, none⟩) n c, .int .i64 (k : Int)] w fun e w' => e = .returned (.tuple #[]) ∧ w'.heap[g]? = some (.cells (us.set (o + k / 8) (.int .u8 (setb x (k % 8) true))).toArray et (0, 0)) ∧ Fr w w' g g := by
  obtain ⟨q, hq⟩ : ∃ q, q = k / 8 := ⟨_, rfl⟩
  obtain ⟨m, hm⟩ : ∃ m, m = k % 8 := ⟨_, rfl⟩
  obtain ⟨r, hr⟩ : ∃ r, r = k % 256 := ⟨_, rfl⟩
  have hw1 : IntKind.u64.wrap (k : Int) = (k : Int) := wraps_u64 _ (by omega) (by omega)
  have hw2 : IntKind.u8.wrap (k : Int) = (r : Int) := by rw [hr]; simp [IntKind.wrap, IntKind.bits, IntKind.signed]
  have hw3 : IntKind.u64.wrap (q : Int) = (q : Int) := wraps_u64 _ (by omega) (by omega)
  have hw4 : IntKind.u8.wrap (m : Int) = (m : Int) := by simp [IntKind.wrap, IntKind.bits, IntKind.signed]; omega
  have hd : Int.tdiv (k : Int) 8 = (q : Int) := by rw [hq]; rfl
  have hmo : Int.tmod (r : Int) 8 = (m : Int) := by rw [hm, show k % 8 = r % 8 by omega]; rfl
  have hm8 : m < 8 := by omega
  have c2 : w.cell? ⟨2, m, none⟩ = some (.int .u8 (((2 ^ m : Nat) : Int))) := hM.2.1 m hm8
  have c1 := blk_cell hg (o + q)
  rw [List.getElem?_toArray, hq, hx, ← hq] at c1
  have z1 := blk_frozen hg (o + q)
  rw [← hq] at hx
  rw [← hq, ← hm]
  have he := or_is x m hx8 hm8
  have Q := Aside0.mk hg
  have hqi : (q : Int) < (n : Int) := by omega
  have hmi : (m : Int) < 8 := by omega
  have hqn : q < n := by omega
  generalize ((2 ^ m : Nat) : Int) = mv at c2 he
  generalize setb x m true = sv at he ⊢
  clear hg hk hn hx hx8 hM hq hm hr
  go_enter Tryd.func72, Tryd.ntmps72
  refine wp_region_still_tail 13 (by kernel_rfl) (by kernel_rfl) ?_
  simp only [List.take_succ_cons, List.take_zero, List.drop_succ_cons, List.drop_zero]
  change wpStill _ _ (World.drew w) _ _ _
  have c1' : w.drew.cell? ⟨g, o + q, none⟩ = some (.int .u8 x) := c1
  have c2' : w.drew.cell? ⟨2, m, none⟩ = some (.int .u8 mv) := c2
  have z1' : w.drew.frozen? ⟨g, o + q, none⟩ = false := z1
  repeat still_step
  refine wpStill_nil ?_
  change wpList _ _ _ _ _ (World.drew w)
  go_wp2
  go_end0
  refine ⟨rfl, ?_, ((Fr.refl w g g).set g (o + q) _ (.inl rfl)).step (Below.refl _ _).drew⟩
  have h := blk_set Q.out (o + q) (.int .u8 sv)
  show (w.setCell ⟨g, o + q, none⟩ (.int .u8 sv)).heap[g]? = _
  simpa using h
set_option maxHeartbeats 8000000 in
set_option maxRecDepth 100000 in
theorem cb_is (g o n c k et : Nat) (us : List Value) (x : Int) (w : World) (hg : w.heap[g]? = some (.cells us.toArray et (0, 0))) (hk : k < 8 * n) (hn : n ≤ 1000000) (hx : us[o + k / 8]? = some (.int .u8 x)) (hx8 : 0 ≤ x ∧ x < 256) (hM : Bm w) :
    Calls Tryd.prog 73 #[.slice (some ⟨g, o, none⟩) n c, .int .i64 (k : Int)] w fun e w' => e = .returned (.tuple #[]) ∧ w'.heap[g]? = some (.cells (us.set (o + k / 8) (.int .u8 (setb x (k % 8) false))).toArray et (0, 0)) ∧ Fr w w' g g := by
  obtain ⟨q, hq⟩ : ∃ q, q = k / 8 := ⟨_, rfl⟩
  obtain ⟨m, hm⟩ : ∃ m, m = k % 8 := ⟨_, rfl⟩
  obtain ⟨r, hr⟩ : ∃ r, r = k % 256 := ⟨_, rfl⟩
  have hw1 : IntKind.u64.wrap (k : Int) = (k : Int) := wraps_u64 _ (by omega) (by omega)
  have hw2 : IntKind.u8.wrap (k : Int) = (r : Int) := by rw [hr]; simp [IntKind.wrap, IntKind.bits, IntKind.signed]
  have hw3 : IntKind.u64.wrap (q : Int) = (q : Int) := wraps_u64 _ (by omega) (by omega)
  have hw4 : IntKind.u8.wrap (m : Int) = (m : Int) := by simp [IntKind.wrap, IntKind.bits, IntKind.signed]; omega
  have hd : Int.tdiv (k : Int) 8 = (q : Int) := by rw [hq]; rfl
  have hmo : Int.tmod (r : Int) 8 = (m : Int) := by rw [hm, show k % 8 = r % 8 by omega]; rfl
  have hm8 : m < 8 := by omega
  have c2 : w.cell? ⟨3, m, none⟩ = some (.int .u8 ((255 - ((2 ^ m : Nat) : Int)))) := hM.2.2 m hm8
  have c1 := blk_cell hg (o + q)
  rw [List.getElem?_toArray, hq, hx, ← hq] at c1
  have z1 := blk_frozen hg (o + q)
  rw [← hq] at hx
  rw [← hq, ← hm]
  have he := and_is x m hx8 hm8
  have Q := Aside0.mk hg
  have hqi : (q : Int) < (n : Int) := by omega
  have hmi : (m : Int) < 8 := by omega
  have hqn : q < n := by omega
  generalize (255 - ((2 ^ m : Nat) : Int)) = mv at c2 he
  generalize setb x m false = sv at he ⊢
  clear hg hk hn hx hx8 hM hq hm hr
  go_enter Tryd.func73, Tryd.ntmps73
  refine wp_region_still_tail 13 (by kernel_rfl) (by kernel_rfl) ?_
  simp only [List.take_succ_cons, List.take_zero, List.drop_succ_cons, List.drop_zero]
  change wpStill _ _ (World.drew w) _ _ _
  have c1' : w.drew.cell? ⟨g, o + q, none⟩ = some (.int .u8 x) := c1
  have c2' : w.drew.cell? ⟨3, m, none⟩ = some (.int .u8 mv) := c2
  have z1' : w.drew.frozen? ⟨g, o + q, none⟩ = false := z1
  repeat still_step
  refine wpStill_nil ?_
  change wpList _ _ _ _ _ (World.drew w)
  go_wp2
  go_end0
  refine ⟨rfl, ?_, ((Fr.refl w g g).set g (o + q) _ (.inl rfl)).step (Below.refl _ _).drew⟩
  have h := blk_set Q.out (o + q) (.int .u8 sv)
  show (w.setCell ⟨g, o + q, none⟩ (.int .u8 sv)).heap[g]? = _
  simpa using h
set_option maxHeartbeats 8000000 in
set_option maxRecDepth 100000 in
theorem sbt_is (g o n c k et : Nat) (us : List Value) (x : Int) (b : Bool) (w : World) (hg : w.heap[g]? = some (.cells us.toArray et (0, 0))) (hk : k < 8 * n) (hn : n ≤ 1000000) (hx : us[o + k / 8]? = some (.int .u8 x)) (hx8 : 0 ≤ x ∧ x < 256) (hM : Bm w) :
    Calls Tryd.prog 66 #[.slice (some ⟨g, o, none⟩) n c, .int .i64 (k : Int), .bool b] w fun e w' => e = .returned (.tuple #[]) ∧ w'.heap[g]? = some (.cells (us.set (o + k / 8) (.int .u8 (setb x (k % 8) b))).toArray et (0, 0)) ∧ Fr w w' g g := by
  have QS := Aside0.mk (sb_is g o n c k et us x w hg hk hn hx hx8 hM)
  have QC := Aside0.mk (cb_is g o n c k et us x w hg hk hn hx hx8 hM)
  clear hg hk hn hx hx8 hM
  go_enter Tryd.func66, Tryd.ntmps66
  cases b
  · go_wp2_with (go_at_call 73; refine QC.out.mono ?_; rintro e w5 ⟨rfl, h1, h2⟩; have Q5 := Aside0.mk (And.intro h1 h2); clear h1 h2)
    go_end0
    exact ⟨rfl, Q5.out⟩
  · go_wp2_with (go_at_call 72; refine QS.out.mono ?_; rintro e w5 ⟨rfl, h1, h2⟩; have Q5 := Aside0.mk (And.intro h1 h2); clear h1 h2)
    go_end0
    exact ⟨rfl, Q5.out⟩
end Go.Proofs.YtlnbkmkdapeicaaDoor.QR
