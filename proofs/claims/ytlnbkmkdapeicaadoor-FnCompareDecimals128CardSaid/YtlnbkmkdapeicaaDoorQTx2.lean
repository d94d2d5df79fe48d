/- Printed by a program of this session (print2.py) over the kit's print: the functions that a law reaches, over contracts proved by hand. Lean checks it. -/
import Derived.Test.YtlnbkmkdapeicaaDoorQTx0
import Derived.Test.YtlnbkmkdapeicaaDoorQTx1
namespace Go.Proofs.YtlnbkmkdapeicaaDoor.QT
open Go.RowKit Go.Proofs.YtlnbkmkdapeicaaDoorW.PrintWords Go.Proofs.YtlnbkmkdapeicaaDoorW.PrintLast Go.Proofs.YtlnbkmkdapeicaaDoorW.PrintMore
attribute [local go_sem] max2_int min2_int max_two min_two max_three min_three max_four min_four   -- for this text's walks alone
set_option linter.unusedVariables false
set_option linter.unusedSimpArgs false

/-! ### spec_WideCmp: function 10 -/
mutual
def spec_WideCmp.j0 : Nat → Bool → Bool → List Int → Bool → List Int → Option (Int)
 | 0, _, _, _, _, _ => none
 | k + 1, x5, x121000, x121001, x122000, x122001 => if x5 = true then (some (-1)) else (if x121000 = true then (spec_WideCmp.j1 k false x121000 x121001 x122000 x122001) else (spec_WideCmp.j1 k x122000 x121000 x121001 x122000 x122001))
def spec_WideCmp.j1 : Nat → Bool → Bool → List Int → Bool → List Int → Option (Int)
 | 0, _, _, _, _, _ => none
 | k + 1, x13, x121000, x121001, x122000, x122001 => if x13 = true then (some 1) else (if x121000 = true then ((spec_magCmp.f k x121001 x122001).bind fun t122 => (some (wrap64 (-t122)))) else ((spec_magCmp.f k x121001 x122001).bind fun t123 => (some t123)))
end
def spec_WideCmp.f (k : Nat) (a0_0 : Bool) (l0_1 : List Int) (a1_0 : Bool) (l1_1 : List Int) : Option (Int) := if a0_0 = true then (spec_WideCmp.j0 k (!a1_0) a0_0 l0_1 a1_0 l1_1) else (spec_WideCmp.j0 k false a0_0 l0_1 a1_0 l1_1)
theorem spec_WideCmp.mono_l : ∀ k, (∀ y0 y1 y2 y3 y4, LeO (spec_WideCmp.j0 k y0 y1 y2 y3 y4) (spec_WideCmp.j0 (k + 1) y0 y1 y2 y3 y4)) ∧ (∀ y0 y1 y2 y3 y4, LeO (spec_WideCmp.j1 k y0 y1 y2 y3 y4) (spec_WideCmp.j1 (k + 1) y0 y1 y2 y3 y4))
 | 0 => ⟨fun _ _ _ _ _ r h => by simp [spec_WideCmp.j0] at h, fun _ _ _ _ _ r h => by simp [spec_WideCmp.j1] at h⟩
 | k + 1 => by
  obtain ⟨ih0, ih1⟩ := spec_WideCmp.mono_l k
  refine ⟨?_, ?_⟩
  ·intro y0 y1 y2 y3 y4
   unfold spec_WideCmp.j0
   repeat' first
   | (with_reducible exact ih0 _ _ _ _ _)
   | (with_reducible exact ih1 _ _ _ _ _)
   | (with_reducible exact spec_magCmp.mono _ _ _)
   | (with_reducible exact LeO.refl _)
   | (with_reducible exact LeO.none _)
   | (with_reducible refine LeO.ite ?_ ?_)
   | (with_reducible refine LeO.bind ?_ (fun _ => ?_))
   | exact ih0 _ _ _ _ _
   | exact ih1 _ _ _ _ _
   | exact spec_magCmp.mono _ _ _
   | exact LeO.none _
   | refine LeO.ite ?_ ?_
   | refine LeO.bind ?_ (fun _ => ?_)
  ·intro y0 y1 y2 y3 y4
   unfold spec_WideCmp.j1
   repeat' first
   | (with_reducible exact ih0 _ _ _ _ _)
   | (with_reducible exact ih1 _ _ _ _ _)
   | (with_reducible exact spec_magCmp.mono _ _ _)
   | (with_reducible exact LeO.refl _)
   | (with_reducible exact LeO.none _)
   | (with_reducible refine LeO.ite ?_ ?_)
   | (with_reducible refine LeO.bind ?_ (fun _ => ?_))
   | exact ih0 _ _ _ _ _
   | exact ih1 _ _ _ _ _
   | exact spec_magCmp.mono _ _ _
   | exact LeO.none _
   | refine LeO.ite ?_ ?_
   | refine LeO.bind ?_ (fun _ => ?_)
theorem spec_WideCmp.mono : ∀ a0 a1 a2 a3 k, LeO (spec_WideCmp.f k a0 a1 a2 a3) (spec_WideCmp.f (k + 1) a0 a1 a2 a3) := by
 intro a0 a1 a2 a3 k
 obtain ⟨ih0, ih1⟩ := spec_WideCmp.mono_l k
 unfold spec_WideCmp.f
 repeat' first
   | (with_reducible exact ih0 _ _ _ _ _)
   | (with_reducible exact ih1 _ _ _ _ _)
   | (with_reducible exact spec_magCmp.mono _ _ _)
   | (with_reducible exact LeO.refl _)
   | (with_reducible exact LeO.none _)
   | (with_reducible refine LeO.ite ?_ ?_)
   | (with_reducible refine LeO.bind ?_ (fun _ => ?_))
   | exact ih0 _ _ _ _ _
   | exact ih1 _ _ _ _ _
   | exact spec_magCmp.mono _ _ _
   | exact LeO.none _
   | refine LeO.ite ?_ ?_
   | refine LeO.bind ?_ (fun _ => ?_)
set_option maxHeartbeats 8000000 in
set_option maxRecDepth 100000 in
theorem spec_WideCmp.calls (k : Nat) (a0_0 : Bool) (A0_1 : Option Addr) (c0_1 : Nat) (l0_1 : List Int) (a1_0 : Bool) (A1_1 : Option Addr) (c1_1 : Nat) (l1_1 : List Int) (r : Int) (w : World) (hr0_1 : Kd.C (Kd.int .u32) w A0_1 l0_1.length l0_1) (hc0_1 : l0_1.length ≤ c0_1) (hr1_1 : Kd.C (Kd.int .u32) w A1_1 l1_1.length l1_1) (hc1_1 : l1_1.length ≤ c1_1) (h : spec_WideCmp.f k a0_0 l0_1 a1_0 l1_1 = some r) :
  Calls Tryd.prog 10 #[.agg #[.bool a0_0, .slice A0_1 l0_1.length c0_1], .agg #[.bool a1_0, .slice A1_1 l1_1.length c1_1]] w fun e w' => e = .returned (.int .i64 r) ∧ Below w.heap.size w w' := by
 have hu40 := Tryd.underlying40
 have HR0_1 := qaM hr0_1
 have HC0_1 := qaM hc0_1
 clear hr0_1 hc0_1
 have HR1_1 := qaM hr1_1
 have HC1_1 := qaM hc1_1
 clear hr1_1 hc1_1
 have HB := qaM (Below.refl w.heap.size w)
 have H : (if a0_0 = true then (spec_WideCmp.j0 k (!a1_0) a0_0 l0_1 a1_0 l1_1) else (spec_WideCmp.j0 k false a0_0 l0_1 a1_0 l1_1)) = some r := h
 clear h
 have HC3 := qaM H
 clear H
 go_enter Tryd.func10, Tryd.ntmps10
 go_upto_region 1 with (first | ((with_reducible refine gate_dst (N := 2) rfl ?_); refine box_event ?hg (N := 2) ?hd (cs := #[.bool a0_0, .slice A0_1 l0_1.length c0_1]) (t := 40) ?hr ?_; (case hd => rfl); (case hg => rfl); (case hr => first | (go_simp; done) | (go_simp; rfl)); intro gb120 hg w4 hbox hb; have n0_ := qaM (qbT (by repeat (first | (with_reducible first | exact HB.out | apply qwA | apply qwN | apply qwD) | exact HB.out)) hb); have n1_ := qaM (hbox); have n2_ := qaM ((by rw [hg]; exact (qbS (by repeat (first | (with_reducible first | exact HB.out | apply qwA | apply qwN | apply qwD) | exact HB.out))) : w.heap.size ≤ gb120)); have n3_ := qaM ((by rw [hg]; exact (qbS (by repeat (first | (with_reducible first | exact HB.out | apply qwA | apply qwN | apply qwD) | exact HB.out))) : w.heap.size ≤ gb120)); clear HB; have HB := n0_; have BK120 := n1_; have GW120 := n2_; have GE120 := n3_; clear n0_ n1_ n2_ n3_; clear hb hbox hg) | ((with_reducible refine gate_dst (N := 3) rfl ?_); refine box_event ?hg (N := 3) ?hd (cs := #[.bool a1_0, .slice A1_1 l1_1.length c1_1]) (t := 40) ?hr ?_; (case hd => rfl); (case hg => rfl); (case hr => first | (go_simp; done) | (go_simp; rfl)); intro gb121 hg w5 hbox hb; have n0_ := qaM (qbB (g := gb120) (o := .cells #[.bool a0_0, .slice A0_1 l0_1.length c0_1] 40 (0, 0)) (by (with_reducible repeat (first | refine qbN ?_ _ | refine qbD ?_ | refine qbA ?_ _)); exact BK120.out) hb); have n1_ := qaM (qbT (by repeat (first | (with_reducible first | exact HB.out | apply qwA | apply qwN | apply qwD | refine qwS ?_ GE120.out) | exact HB.out)) hb); have n2_ := qaM (hbox); have n3_ := qaM ((by rw [hg]; exact (qbS (by repeat (first | (with_reducible first | exact HB.out | apply qwA | apply qwN | apply qwD | refine qwS ?_ GE120.out) | exact HB.out))) : w.heap.size ≤ gb121)); have n4_ := qaM ((by rw [hg]; exact (qbS (by repeat (first | (with_reducible first | exact HB.out | apply qwA | apply qwN | apply qwD | refine qwS ?_ GE120.out) | exact HB.out))) : w.heap.size ≤ gb121)); have n5_ := qaM ((by rw [hg]; exact qnL (qbL (g := gb120) (o := .cells #[.bool a0_0, .slice A0_1 l0_1.length c0_1] 40 (0, 0)) (by (with_reducible repeat (first | refine qbN ?_ _ | refine qbD ?_ | refine qbA ?_ _)); exact BK120.out)) : gb120 ≠ gb121)); have n6_ := qaM ((by rw [hg]; exact qnG (qbL (g := gb120) (o := .cells #[.bool a0_0, .slice A0_1 l0_1.length c0_1] 40 (0, 0)) (by (with_reducible repeat (first | refine qbN ?_ _ | refine qbD ?_ | refine qbA ?_ _)); exact BK120.out)) : gb121 ≠ gb120)); clear BK120; clear HB; have BK120 := n0_; have HB := n1_; have BK121 := n2_; have GW121 := n3_; have GE121 := n4_; have NB120_121 := n5_; have NB121_120 := n6_; clear n0_ n1_ n2_ n3_ n4_ n5_ n6_; clear hb hbox hg))
 (try simp only [Act.put, qsA, qsZ, qsS])
 go_cut [5] (fun v5 wc => ∃ (kq : Nat) (x5_2 : Bool), v5 = .bool x5_2 ∧ Aside0 (spec_WideCmp.j0 kq x5_2 a0_0 l0_1 a1_0 l1_1 = some r) ∧ Aside0 (kq ≤ k) ∧ Aside0 (wc.heap[gb120]? = some (.cells #[.bool a0_0, (.slice A0_1 l0_1.length c0_1)] 40 (0, 0))) ∧ Aside0 (wc.heap[gb121]? = some (.cells #[.bool a1_0, (.slice A1_1 l1_1.length c1_1)] 40 (0, 0))) ∧ Aside0 (Below w.heap.size w wc))
 case first =>
  have H := HC3.out
  clear HC3
  by_cases c6 : a0_0 = true
  ·subst c6
   have H1 : (spec_WideCmp.j0 k (!a1_0) true l0_1 a1_0 l1_1) = some r := by rw [if_pos rfl] at H; exact H
   clear H
   have H := H1
   clear H1
   have H' := qaM H
   clear H
   have hnb7 := NB120_121.out
   have hnc7 := NB121_120.out
   have hcz8_0 : w5.cell? ⟨gb120, 0, none⟩ = some (.bool true) := (qbC BK120.out 0).trans rfl
   have hcz8_1 : w5.cell? ⟨gb120, 1, none⟩ = some (.slice A0_1 l0_1.length c0_1) := (qbC BK120.out 1).trans rfl
   have hfz8_0 := blk_frozen BK120.out 0
   have hfz8_1 := blk_frozen BK120.out 1
   have hcz9_0 : w5.cell? ⟨gb121, 0, none⟩ = some (.bool a1_0) := (qbC BK121.out 0).trans rfl
   have hcz9_1 : w5.cell? ⟨gb121, 1, none⟩ = some (.slice A1_1 l1_1.length c1_1) := (qbC BK121.out 1).trans rfl
   have hfz9_0 := blk_frozen BK121.out 0
   have hfz9_1 := blk_frozen BK121.out 1
   go_wp2
   go_meet
   case rel => exact ⟨_, (!a1_0), (by first | rfl | (simp; done) | (simp [*]; done)), H', ⟨by first | omega | exact Nat.le_refl _⟩, ⟨by (with_reducible repeat (first | refine qbN ?_ _ | refine qbD ?_ | refine qbA ?_ _)); exact BK120.out⟩, ⟨by (with_reducible repeat (first | refine qbN ?_ _ | refine qbD ?_ | refine qbA ?_ _)); exact BK121.out⟩, ⟨by repeat (first | (with_reducible first | exact HB.out | apply qwA | apply qwN | apply qwD | refine qwS ?_ GE120.out | refine qwS ?_ GE121.out) | exact HB.out)⟩⟩
  ·replace c6 := Bool.eq_false_iff.mpr c6
   subst c6
   have H1 : (spec_WideCmp.j0 k false false l0_1 a1_0 l1_1) = some r := by rw [if_neg (show ¬ (false = true) by decide)] at H; exact H
   clear H
   have H := H1
   clear H1
   have H' := qaM H
   clear H
   have hnb10 := NB120_121.out
   have hnc10 := NB121_120.out
   have hcz11_0 : w5.cell? ⟨gb120, 0, none⟩ = some (.bool false) := (qbC BK120.out 0).trans rfl
   have hcz11_1 : w5.cell? ⟨gb120, 1, none⟩ = some (.slice A0_1 l0_1.length c0_1) := (qbC BK120.out 1).trans rfl
   have hfz11_0 := blk_frozen BK120.out 0
   have hfz11_1 := blk_frozen BK120.out 1
   go_wp2
   go_meet
   case rel => exact ⟨_, (false), (by first | rfl | (simp; done) | (simp [*]; done)), H', ⟨by first | omega | exact Nat.le_refl _⟩, ⟨by (with_reducible repeat (first | refine qbN ?_ _ | refine qbD ?_ | refine qbA ?_ _)); exact BK120.out⟩, ⟨by (with_reducible repeat (first | refine qbN ?_ _ | refine qbD ?_ | refine qbA ?_ _)); exact BK121.out⟩, ⟨by repeat (first | (with_reducible first | exact HB.out | apply qwA | apply qwN | apply qwD | refine qwS ?_ GE120.out | refine qwS ?_ GE121.out) | exact HB.out)⟩⟩
 case rest =>
  clear HC3
  try clear c1
  try clear p2
  try clear c6
  try clear c7
  try clear c10
  try clear hcz11_0
  try clear hcz11_1
  try clear hcz8_0
  try clear hcz8_1
  try clear hcz9_0
  try clear hcz9_1
  try clear hfz11_0
  try clear hfz11_1
  try clear hfz8_0
  try clear hfz8_1
  try clear hfz9_0
  try clear hfz9_1
  obtain ⟨kq, x5_2, rfl, HA, HJ2, BK120, BK121, HB⟩ := hcut
  cases kq with
  | zero => exact absurd HA.out (by simp [spec_WideCmp.j0])
  | succ kj2 =>
   have H := HA.out
   clear HA
   simp only [spec_WideCmp.j0] at H
   by_cases c12 : x5_2 = true
   ·subst c12
    have H1 : (some (-1)) = some r := by rw [if_pos rfl] at H; exact H
    clear H
    have H := H1
    clear H1
    obtain rfl := Option.some.inj H
    go_wp2
    go_ret
    exact ⟨by first | rfl | (simp [errW_none, errW_some] <;> rfl) | (simp [*, errW_none, errW_some] <;> rfl), by repeat (first | (with_reducible first | exact HB.out | apply qwA | apply qwN | apply qwD | refine qwS ?_ GE120.out | refine qwS ?_ GE121.out) | exact HB.out)⟩
   ·replace c12 := Bool.eq_false_iff.mpr c12
    subst c12
    have H1 : (if a0_0 = true then (spec_WideCmp.j1 kj2 false a0_0 l0_1 a1_0 l1_1) else (spec_WideCmp.j1 kj2 a1_0 a0_0 l0_1 a1_0 l1_1)) = some r := by rw [if_neg (show ¬ (false = true) by decide)] at H; exact H
    clear H
    have H := H1
    clear H1
    have HC13 := qaM H
    clear H
    go_upto_region 3 with (fail)
    go_cut [13] (fun v13 wc => ∃ (kq : Nat) (x13_12 : Bool), v13 = .bool x13_12 ∧ Aside0 (spec_WideCmp.j1 kq x13_12 a0_0 l0_1 a1_0 l1_1 = some r) ∧ Aside0 (kq ≤ kj2) ∧ Aside0 (wc.heap[gb120]? = some (.cells #[.bool a0_0, (.slice A0_1 l0_1.length c0_1)] 40 (0, 0))) ∧ Aside0 (wc.heap[gb121]? = some (.cells #[.bool a1_0, (.slice A1_1 l1_1.length c1_1)] 40 (0, 0))) ∧ Aside0 (Below w.heap.size w wc))
    case first =>
     have H := HC13.out
     clear HC13
     by_cases c14 : a0_0 = true
     ·subst c14
      have H1 : (spec_WideCmp.j1 kj2 false true l0_1 a1_0 l1_1) = some r := by rw [if_pos rfl] at H; exact H
      clear H
      have H := H1
      clear H1
      have H' := qaM H
      clear H
      have hnb15 := NB120_121.out
      have hnc15 := NB121_120.out
      have hcz16_0 : wc.cell? ⟨gb120, 0, none⟩ = some (.bool true) := (qbC BK120.out 0).trans rfl
      have hcz16_1 : wc.cell? ⟨gb120, 1, none⟩ = some (.slice A0_1 l0_1.length c0_1) := (qbC BK120.out 1).trans rfl
      have hfz16_0 := blk_frozen BK120.out 0
      have hfz16_1 := blk_frozen BK120.out 1
      go_wp2
      go_meet
      case rel => exact ⟨_, (false), (by first | rfl | (simp; done) | (simp [*]; done)), H', ⟨by have := HJ2.out; first | omega | exact Nat.le_refl _⟩, ⟨by (with_reducible repeat (first | refine qbN ?_ _ | refine qbD ?_ | refine qbA ?_ _)); exact BK120.out⟩, ⟨by (with_reducible repeat (first | refine qbN ?_ _ | refine qbD ?_ | refine qbA ?_ _)); exact BK121.out⟩, ⟨by repeat (first | (with_reducible first | exact HB.out | apply qwA | apply qwN | apply qwD | refine qwS ?_ GE120.out | refine qwS ?_ GE121.out) | exact HB.out)⟩⟩
     ·replace c14 := Bool.eq_false_iff.mpr c14
      subst c14
      have H1 : (spec_WideCmp.j1 kj2 a1_0 false l0_1 a1_0 l1_1) = some r := by rw [if_neg (show ¬ (false = true) by decide)] at H; exact H
      clear H
      have H := H1
      clear H1
      have H' := qaM H
      clear H
      have hnb17 := NB120_121.out
      have hnc17 := NB121_120.out
      have hcz18_0 : wc.cell? ⟨gb120, 0, none⟩ = some (.bool false) := (qbC BK120.out 0).trans rfl
      have hcz18_1 : wc.cell? ⟨gb120, 1, none⟩ = some (.slice A0_1 l0_1.length c0_1) := (qbC BK120.out 1).trans rfl
      have hfz18_0 := blk_frozen BK120.out 0
      have hfz18_1 := blk_frozen BK120.out 1
      have hcz19_0 : wc.cell? ⟨gb121, 0, none⟩ = some (.bool a1_0) := (qbC BK121.out 0).trans rfl
      have hcz19_1 : wc.cell? ⟨gb121, 1, none⟩ = some (.slice A1_1 l1_1.length c1_1) := (qbC BK121.out 1).trans rfl
      have hfz19_0 := blk_frozen BK121.out 0
      have hfz19_1 := blk_frozen BK121.out 1
      go_wp2
      go_meet
      case rel => exact ⟨_, (a1_0), (by first | rfl | (simp; done) | (simp [*]; done)), H', ⟨by have := HJ2.out; first | omega | exact Nat.le_refl _⟩, ⟨by (with_reducible repeat (first | refine qbN ?_ _ | refine qbD ?_ | refine qbA ?_ _)); exact BK120.out⟩, ⟨by (with_reducible repeat (first | refine qbN ?_ _ | refine qbD ?_ | refine qbA ?_ _)); exact BK121.out⟩, ⟨by repeat (first | (with_reducible first | exact HB.out | apply qwA | apply qwN | apply qwD | refine qwS ?_ GE120.out | refine qwS ?_ GE121.out) | exact HB.out)⟩⟩
    case rest =>
     clear HC13
     try clear c1
     try clear p2
     try clear c6
     try clear c7
     try clear c10
     try clear c12
     try clear c14
     try clear c15
     try clear c17
     try clear hcz11_0
     try clear hcz11_1
     try clear hcz16_0
     try clear hcz16_1
     try clear hcz18_0
     try clear hcz18_1
     try clear hcz19_0
     try clear hcz19_1
     try clear hcz8_0
     try clear hcz8_1
     try clear hcz9_0
     try clear hcz9_1
     try clear hfz11_0
     try clear hfz11_1
     try clear hfz16_0
     try clear hfz16_1
     try clear hfz18_0
     try clear hfz18_1
     try clear hfz19_0
     try clear hfz19_1
     try clear hfz8_0
     try clear hfz8_1
     try clear hfz9_0
     try clear hfz9_1
     try clear p2
     obtain ⟨kq, x13_12, rfl, HA, HJ12, BK120, BK121, HB⟩ := hcut
     cases kq with
     | zero => exact absurd HA.out (by simp [spec_WideCmp.j1])
     | succ kj12 =>
      have H := HA.out
      clear HA
      simp only [spec_WideCmp.j1] at H
      by_cases c20 : x13_12 = true
      ·subst c20
       have H1 : (some 1) = some r := by rw [if_pos rfl] at H; exact H
       clear H
       have H := H1
       clear H1
       obtain rfl := Option.some.inj H
       go_wp2
       go_ret
       exact ⟨by first | rfl | (simp [errW_none, errW_some] <;> rfl) | (simp [*, errW_none, errW_some] <;> rfl), by repeat (first | (with_reducible first | exact HB.out | apply qwA | apply qwN | apply qwD | refine qwS ?_ GE120.out | refine qwS ?_ GE121.out) | exact HB.out)⟩
      ·replace c20 := Bool.eq_false_iff.mpr c20
       subst c20
       have H1 : (if a0_0 = true then ((spec_magCmp.f kj12 l0_1 l1_1).bind fun t122 => (some (wrap64 (-t122)))) else ((spec_magCmp.f kj12 l0_1 l1_1).bind fun t123 => (some t123))) = some r := by rw [if_neg (show ¬ (false = true) by decide)] at H; exact H
       clear H
       have H := H1
       clear H1
       by_cases c21 : a0_0 = true
       ·subst c21
        have H1 : ((spec_magCmp.f kj12 l0_1 l1_1).bind fun t122 => (some (wrap64 (-t122)))) = some r := by rw [if_pos rfl] at H; exact H
        clear H
        have H := H1
        clear H1
        replace H := Option.bind_eq_some_iff.mp H
        obtain ⟨t122, A220, H⟩ := H
        replace H : (some (wrap64 (-t122))) = some r := H
        have A22 := qaM A220
        clear A220
        obtain rfl := Option.some.inj H
        have hnb23 := NB120_121.out
        have hnc23 := NB121_120.out
        have hcz24_0 : wc.cell? ⟨gb120, 0, none⟩ = some (.bool true) := (qbC BK120.out 0).trans rfl
        have hcz24_1 : wc.cell? ⟨gb120, 1, none⟩ = some (.slice A0_1 l0_1.length c0_1) := (qbC BK120.out 1).trans rfl
        have hfz24_0 := blk_frozen BK120.out 0
        have hfz24_1 := blk_frozen BK120.out 1
        have hcz25_0 : wc.cell? ⟨gb121, 0, none⟩ = some (.bool a1_0) := (qbC BK121.out 0).trans rfl
        have hcz25_1 : wc.cell? ⟨gb121, 1, none⟩ = some (.slice A1_1 l1_1.length c1_1) := (qbC BK121.out 1).trans rfl
        have hfz25_0 := blk_frozen BK121.out 0
        have hfz25_1 := blk_frozen BK121.out 1
        go_wp2_with (first | ((with_reducible refine gate_callee (f := 19) rfl ?_); refine goesL_ (some 28) rfl rfl Tryd.func19 (by kernel_rfl) rfl #[.slice A0_1 l0_1.length c0_1, .slice A1_1 l1_1.length c1_1] rfl (by (try simp only [List.map_toArray, List.map_cons, List.map_nil]); first | done | rfl | (simp only [List.length_drop, List.length_take]; rfl)) ?_; (with_reducible refine (spec_magCmp.calls kj12 _ _ l0_1 _ _ l1_1 t122 _ ?side1 ?side2 ?side3 ?side4 A22.out).mono ?_); (case side1 => repeat (first | exact (Kd.C_below HR0_1.out HB.out) | (with_reducible refine Kd.C_alloc ?_ _) | (with_reducible refine Kd.C_drewN ?_ _) | (with_reducible refine Kd.C_drew ?_))); (case side2 => exact HC0_1.out); (case side3 => repeat (first | exact (Kd.C_below HR1_1.out HB.out) | (with_reducible refine Kd.C_alloc ?_ _) | (with_reducible refine Kd.C_drewN ?_ _) | (with_reducible refine Kd.C_drew ?_))); (case side4 => exact HC1_1.out); rintro e w' ⟨rfl, ⟨nd, rfl⟩⟩; refine ⟨_, rfl, ?_⟩))
        go_ret
        exact ⟨by first | rfl | (simp [errW_none, errW_some] <;> rfl) | (simp [*, errW_none, errW_some] <;> rfl), by repeat (first | (with_reducible first | exact HB.out | apply qwA | apply qwN | apply qwD | refine qwS ?_ GE120.out | refine qwS ?_ GE121.out) | exact HB.out)⟩
       ·replace c21 := Bool.eq_false_iff.mpr c21
        subst c21
        have H1 : ((spec_magCmp.f kj12 l0_1 l1_1).bind fun t123 => (some t123)) = some r := by rw [if_neg (show ¬ (false = true) by decide)] at H; exact H
        clear H
        have H := H1
        clear H1
        replace H := Option.bind_eq_some_iff.mp H
        obtain ⟨t123, A260, H⟩ := H
        replace H : (some t123) = some r := H
        have A26 := qaM A260
        clear A260
        obtain rfl := Option.some.inj H
        have hnb27 := NB120_121.out
        have hnc27 := NB121_120.out
        have hcz28_0 : wc.cell? ⟨gb120, 0, none⟩ = some (.bool false) := (qbC BK120.out 0).trans rfl
        have hcz28_1 : wc.cell? ⟨gb120, 1, none⟩ = some (.slice A0_1 l0_1.length c0_1) := (qbC BK120.out 1).trans rfl
        have hfz28_0 := blk_frozen BK120.out 0
        have hfz28_1 := blk_frozen BK120.out 1
        have hcz29_0 : wc.cell? ⟨gb121, 0, none⟩ = some (.bool a1_0) := (qbC BK121.out 0).trans rfl
        have hcz29_1 : wc.cell? ⟨gb121, 1, none⟩ = some (.slice A1_1 l1_1.length c1_1) := (qbC BK121.out 1).trans rfl
        have hfz29_0 := blk_frozen BK121.out 0
        have hfz29_1 := blk_frozen BK121.out 1
        go_wp2_with (first | ((with_reducible refine gate_callee (f := 19) rfl ?_); refine goesL_ (some 34) rfl rfl Tryd.func19 (by kernel_rfl) rfl #[.slice A0_1 l0_1.length c0_1, .slice A1_1 l1_1.length c1_1] rfl (by (try simp only [List.map_toArray, List.map_cons, List.map_nil]); first | done | rfl | (simp only [List.length_drop, List.length_take]; rfl)) ?_; (with_reducible refine (spec_magCmp.calls kj12 _ _ l0_1 _ _ l1_1 t123 _ ?side1 ?side2 ?side3 ?side4 A26.out).mono ?_); (case side1 => repeat (first | exact (Kd.C_below HR0_1.out HB.out) | (with_reducible refine Kd.C_alloc ?_ _) | (with_reducible refine Kd.C_drewN ?_ _) | (with_reducible refine Kd.C_drew ?_))); (case side2 => exact HC0_1.out); (case side3 => repeat (first | exact (Kd.C_below HR1_1.out HB.out) | (with_reducible refine Kd.C_alloc ?_ _) | (with_reducible refine Kd.C_drewN ?_ _) | (with_reducible refine Kd.C_drew ?_))); (case side4 => exact HC1_1.out); rintro e w' ⟨rfl, ⟨nd, rfl⟩⟩; refine ⟨_, rfl, ?_⟩))
        go_ret
        exact ⟨by first | rfl | (simp [errW_none, errW_some] <;> rfl) | (simp [*, errW_none, errW_some] <;> rfl), by repeat (first | (with_reducible first | exact HB.out | apply qwA | apply qwN | apply qwD | refine qwS ?_ GE120.out | refine qwS ?_ GE121.out) | exact HB.out)⟩

/-! ### spec_trim: function 30 -/
def spec_trim.l0 : Nat → List Int → Option (List Int)
 | 0, _ => none
 | k + 1, x0 => if (x0.length : Int) > 0 then (if 0 ≤ (wrap64 ((x0.length : Int) - 1)) then (if (wrap64 ((x0.length : Int) - 1)) < (x0.length : Int) then (if (rd x0 (wrap64 ((x0.length : Int) - 1))) = 0 then (if (wrap64 ((x0.length : Int) - 1)) ≤ (x0.length : Int) then (spec_trim.l0 k (x0.take ((wrap64 ((x0.length : Int) - 1)) : Int).toNat)) else (none)) else (some x0)) else (none)) else (none)) else (some x0)
def spec_trim.f (k : Nat) (l0 : List Int) : Option (List Int) := spec_trim.l0 k l0
theorem spec_trim.mono_l : ∀ k, (∀ y0, LeO (spec_trim.l0 k y0) (spec_trim.l0 (k + 1) y0))
 | 0 => fun _ r h => by simp [spec_trim.l0] at h
 | k + 1 => by
  have ih0 := spec_trim.mono_l k
  ·intro y0
   unfold spec_trim.l0
   repeat' first
   | (with_reducible exact ih0 _)
   | (with_reducible exact LeO.refl _)
   | (with_reducible exact LeO.none _)
   | (with_reducible refine LeO.ite ?_ ?_)
   | (with_reducible refine LeO.bind ?_ (fun _ => ?_))
   | exact ih0 _
   | exact LeO.none _
   | refine LeO.ite ?_ ?_
   | refine LeO.bind ?_ (fun _ => ?_)
theorem spec_trim.mono : ∀ a0 k, LeO (spec_trim.f k a0) (spec_trim.f (k + 1) a0) := by
 intro a0 k
 have ih0 := spec_trim.mono_l k
 unfold spec_trim.f
 repeat' first
   | (with_reducible exact ih0 _)
   | (with_reducible exact LeO.refl _)
   | (with_reducible exact LeO.none _)
   | (with_reducible refine LeO.ite ?_ ?_)
   | (with_reducible refine LeO.bind ?_ (fun _ => ?_))
   | exact ih0 _
   | exact LeO.none _
   | refine LeO.ite ?_ ?_
   | refine LeO.bind ?_ (fun _ => ?_)
set_option maxHeartbeats 8000000 in
set_option maxRecDepth 100000 in
theorem spec_trim.calls (k : Nat) (P0_ : Nat → Prop) (A0 : Option Addr) (c0 : Nat) (l0 : List Int) (r : List Int) (w : World) (hs0 : Kd.V (Kd.int .u32) 57 w w.heap.size (fun k_ => P0_ k_) (.slice A0 l0.length c0) l0) (h : spec_trim.f k l0 = some r) :
  Calls Tryd.prog 30 #[.slice A0 l0.length c0] w fun e w' => ∃ v0_ : Value, e = .returned (v0_) ∧ Kd.V (Kd.int .u32) 57 w' w.heap.size (fun k_ => (P0_ k_ ∨ w.heap.size ≤ k_)) v0_ r ∧ Below w.heap.size w w' := by
 have HO0 := qaM (show Kd.V (Kd.int .u32) 57 w w.heap.size (fun k_ => (P0_ k_ ∨ w.heap.size ≤ k_)) (.slice A0 l0.length c0) l0 from qvM hs0 (fun k_ hk => .inl hk))
 have HB := qaM (Below.refl w.heap.size w)
 have H : (spec_trim.l0 k l0) = some r := h
 clear h
 have H' := qaM H
 clear H
 go_enter Tryd.func30, Tryd.ntmps30
 go_wp2
 go_loopg [0] k (fun kq v0 w' => ∃ (x0_1 : List Int), Aside0 (spec_trim.l0 kq x0_1 = some r) ∧ Aside0 (kq ≤ k) ∧ Aside0 (Kd.V (Kd.int .u32) 57 w' w.heap.size (fun k_ => (P0_ k_ ∨ w.heap.size ≤ k_)) v0 x0_1) ∧ Aside0 (Below w.heap.size w w'))
 case atStart => exact ⟨(l0), H', ⟨Nat.le_refl _⟩, ⟨by (with_reducible repeat (first | apply qvA | apply qvN | apply qvD)); exact HO0.out⟩, ⟨by repeat (first | (with_reducible first | exact HB.out | apply qwA | apply qwN | apply qwD) | exact HB.out)⟩⟩
 case round =>
  clear H'
  obtain ⟨x0_1, HA, HK1, HO_0, HB⟩ := hrel
  cases gk with
  | zero => exact absurd HA.out (by simp [spec_trim.l0])
  | succ k1 =>
   have H := HA.out
   clear HA
   simp only [spec_trim.l0] at H
   by_cases c2 : (x0_1.length : Int) > 0
   ·rw [if_pos c2] at H
    have c2b0 : decide (0 < (x0_1.length : Int)) = true := decide_eq_true c2
    have c2b1 : decide (0 < x0_1.length) = true := decide_eq_true (by omega)
    clear c2
    obtain ⟨ji3, hji3⟩ : ∃ j_ : Int, (wrap64 ((x0_1.length : Int) - 1)) = j_ := ⟨_, rfl⟩
    replace H : (if 0 ≤ (ji3) then (if (ji3) < (x0_1.length : Int) then (if (rd x0_1 (ji3)) = 0 then (if (ji3) ≤ (x0_1.length : Int) then (spec_trim.l0 k1 (x0_1.take ((ji3) : Int).toNat)) else (none)) else (some x0_1)) else (none)) else (none)) = some r := by first | (rw [hji3] at H; exact H) | (simp only [hji3] at H ⊢; exact H)
    have hji3w : (IntKind.i64.wrap ((x0_1.length : Int) - 1)) = ji3 := (i64_w _).trans hji3
    by_cases c4 : 0 ≤ (ji3)
    ·rw [if_pos c4] at H
     have c4b0 : decide (0 ≤ (ji3)) = true := decide_eq_true c4
     clear c4
     by_cases c5 : (ji3) < (x0_1.length : Int)
     ·rw [if_pos c5] at H
      have c5b0 : decide ((ji3) < (x0_1.length : Int)) = true := decide_eq_true c5
      clear c5
      by_cases c6 : (rd x0_1 (ji3)) = 0
      ·rw [if_pos c6] at H
       have c6b0 : ((rd x0_1 (ji3)) == 0) = true := beq_iff_eq.mpr c6
       have c6b1 : ((rd x0_1 (ji3)) != 0) = false := bne_eq_false_iff_eq.mpr c6
       clear c6
       have c7b0 := eq_true (qoD (by first | (with_reducible assumption) | assumption) : 0 ≤ (ji3))
       by_cases c8 : (ji3) ≤ (x0_1.length : Int)
       ·rw [if_pos c8] at H
        have c8b0 := eq_true c8
        have c8b1 : decide ((ji3) ≤ (x0_1.length : Int)) = true := decide_eq_true c8
        clear c8
        obtain ⟨y125, hy125⟩ : ∃ y_ : List Int, y_ = (x0_1.take ((ji3) : Int).toNat) := ⟨_, rfl⟩
        replace H : (spec_trim.l0 k1 y125) = some r := by first | (rw [hy125]; with_reducible exact H) | (have H2_ := (Option.bind_some _ _).symm.trans H; rw [hy125]; with_reducible exact H2_) | (have H2_ := (Option.bind_some _ _).symm.trans H; with_reducible exact H2_) | with_reducible exact H | (rw [hy125]; exact H) | exact H
        have Ny125 := qaM hy125
        clear hy125
        have H' := qaM H
        clear H
        obtain ⟨Ao9, co9, eo9⟩ := Kd.V_slice HO_0.out
        subst eo9
        have p124 : 0 ≤ ((ji3) : Int) := qoD (by first | (with_reducible assumption) | assumption)
        have q124 : (ji3) < (x0_1.length : Int) := qoD (by first | (with_reducible assumption) | assumption)
        obtain ⟨ad124, e124, hx124_0⟩ := Kd.at_int (qvR HO_0.out).2.2 (ji3) p124 q124
        cases e124
        replace p124 := eq_true p124
        replace q124 := eq_true q124
        have q10 : ((ji3) : Int) ≤ ((x0_1.length : Int) : Int) := qoD (by first | (with_reducible assumption) | assumption)
        obtain ⟨i010, hi010, _, hsz10, _⟩ := info_parts info57
        have hroom10 : x0_1.length ≤ co9 := (qvR HO_0.out).2.1
        have hC10 : Kd.F (Kd.int .u32) _ _ (some ad124) x0_1.length x0_1 := (Kd.V_at (base := w.heap.size) HO_0.out).2.2
        have hcut10 := cut_to (P := Tryd.prog) 38 57 .i64 Tryd.underlying38 hi010 (some ad124) x0_1.length co9 (ji3) (qoD (by first | (with_reducible assumption) | assumption)) q10 hroom10
        have hr10 := Kd.F_take (m := ((ji3) : Int).toNat) hC10 (by omega)
        have hy10 : y125.length = ((ji3) : Int).toNat := (by rw [Ny125.out, List.length_take]; omega)
        rw [← Ny125.out] at hr10
        rw [← hy10] at hcut10
        have HO129 := qaM (show Kd.V (Kd.int .u32) 57 _ w.heap.size _ (.slice (some ad124) y125.length co9) y125 from Kd.V_mk (by omega) hr10)
        have HC129 := qaM (show y125.length ≤ co9 from by omega)
        clear hr10 hC10 hroom10 hi010 hsz10
        have KY10 := qaM hy10
        clear hy10
        replace q10 := eq_true q10
        go_wp2
        go_roundg k1
        case measure => have := HK1.out; omega
        case rel => exact ⟨(y125), H', ⟨by have := HK1.out; omega⟩, ⟨by (with_reducible repeat (first | apply qvA | apply qvN | apply qvD)); exact HO129.out⟩, ⟨by repeat (first | (with_reducible first | exact HB.out | apply qwA | apply qwN | apply qwD) | exact HB.out)⟩⟩
       ·rw [if_neg c8] at H
        exact absurd H (by simp)
      ·rw [if_neg c6] at H
       have c6b0 : ((rd x0_1 (ji3)) == 0) = false := beq_eq_false_iff_ne.mpr c6
       have c6b1 : ((rd x0_1 (ji3)) != 0) = true := bne_iff_ne.mpr c6
       obtain rfl := Option.some.inj H
       obtain ⟨Ao11, co11, eo11⟩ := Kd.V_slice HO_0.out
       subst eo11
       have p124 : 0 ≤ ((ji3) : Int) := qoD (by first | (with_reducible assumption) | assumption)
       have q124 : (ji3) < (x0_1.length : Int) := qoD (by first | (with_reducible assumption) | assumption)
       obtain ⟨ad124, e124, hx124_0⟩ := Kd.at_int (qvR HO_0.out).2.2 (ji3) p124 q124
       cases e124
       replace p124 := eq_true p124
       replace q124 := eq_true q124
       go_wp2
       go_ret
       exact ⟨_, by first | rfl | (simp [errW_none, errW_some] <;> rfl) | (simp only [← hji3]; first | rfl | (simp [errW_none, errW_some] <;> rfl)) | (simp [*, errW_none, errW_some] <;> rfl), by (with_reducible repeat (first | apply qvA | apply qvN | apply qvD)); exact HO_0.out, by repeat (first | (with_reducible first | exact HB.out | apply qwA | apply qwN | apply qwD) | exact HB.out)⟩
     ·rw [if_neg c5] at H
      exact absurd H (by simp)
    ·rw [if_neg c4] at H
     exact absurd H (by simp)
   ·rw [if_neg c2] at H
    have c2b0 : decide (0 < (x0_1.length : Int)) = false := decide_eq_false c2
    have c2b1 : decide (0 < x0_1.length) = false := decide_eq_false (by omega)
    clear c2
    obtain rfl := Option.some.inj H
    obtain ⟨Ao12, co12, eo12⟩ := Kd.V_slice HO_0.out
    subst eo12
    go_wp2
    go_ret
    exact ⟨_, by first | rfl | (simp [errW_none, errW_some] <;> rfl) | (simp [*, errW_none, errW_some] <;> rfl), by (with_reducible repeat (first | apply qvA | apply qvN | apply qvD)); exact HO_0.out, by repeat (first | (with_reducible first | exact HB.out | apply qwA | apply qwN | apply qwD) | exact HB.out)⟩

/-! ### spec_wide: function 20 -/
def spec_wide.f (k : Nat) (a0 : Bool) (l1 : List Int) : Option (Bool × List Int) := (spec_trim.f k l1).bind fun t131 => (if a0 = true then (some (decide (0 < t131.length), t131)) else (some (false, t131)))
theorem spec_wide.mono : ∀ a0 a1 k, LeO (spec_wide.f k a0 a1) (spec_wide.f (k + 1) a0 a1) := by
 intro a0 a1 k
 unfold spec_wide.f
 repeat' first
   | (with_reducible exact spec_trim.mono _ _)
   | (with_reducible exact LeO.refl _)
   | (with_reducible exact LeO.none _)
   | (with_reducible refine LeO.ite ?_ ?_)
   | (with_reducible refine LeO.bind ?_ (fun _ => ?_))
   | exact spec_trim.mono _ _
   | exact LeO.none _
   | refine LeO.ite ?_ ?_
   | refine LeO.bind ?_ (fun _ => ?_)
set_option maxHeartbeats 8000000 in
set_option maxRecDepth 100000 in
theorem spec_wide.calls (k : Nat) (a0 : Bool) (P1_ : Nat → Prop) (A1 : Option Addr) (c1 : Nat) (l1 : List Int) (r1 : Bool) (r2 : List Int) (w : World) (hs1 : Kd.V (Kd.int .u32) 57 w w.heap.size (fun k_ => P1_ k_) (.slice A1 l1.length c1) l1) (h : spec_wide.f k a0 l1 = some (r1, r2)) :
  Calls Tryd.prog 20 #[.bool a0, .slice A1 l1.length c1] w fun e w' => ∃ v1_ : Value, e = .returned (.agg #[.bool r1, v1_]) ∧ Kd.V (Kd.int .u32) 57 w' w.heap.size (fun k_ => (P1_ k_ ∨ w.heap.size ≤ k_)) v1_ r2 ∧ Below w.heap.size w w' := by
 have hu40 := Tryd.underlying40
 have HO1 := qaM (show Kd.V (Kd.int .u32) 57 w w.heap.size (fun k_ => (P1_ k_ ∨ w.heap.size ≤ k_)) (.slice A1 l1.length c1) l1 from qvM hs1 (fun k_ hk => .inl hk))
 have HB := qaM (Below.refl w.heap.size w)
 have H : ((spec_trim.f k l1).bind fun t131 => (if a0 = true then (some (decide (0 < t131.length), t131)) else (some (false, t131)))) = some (r1, r2) := h
 clear h
 replace H := Option.bind_eq_some_iff.mp H
 obtain ⟨t131, A30, H⟩ := H
 replace H : (if a0 = true then (some (decide (0 < t131.length), t131)) else (some (false, t131))) = some (r1, r2) := H
 have A3 := qaM A30
 clear A30
 by_cases c4 : a0 = true
 ·subst c4
  have H1 : (some (decide (0 < t131.length), t131)) = some (r1, r2) := by rw [if_pos rfl] at H; exact H
  clear H
  have H := H1
  clear H1
  simp only [Option.some.injEq, Prod.mk.injEq] at H
  obtain ⟨rfl, rfl⟩ := H
  go_enter Tryd.func20, Tryd.ntmps20
  go_wp2_with (first | ((with_reducible refine gate_dst (N := 4) rfl ?_); (try (refine gate_guard (by rfl) ?_; dsimp only)); refine box_event ?hg (N := 4) ?hd (cs := #[.bool false, .slice none 0 0]) (t := 40) ?hr ?_; (case hd => rfl); (case hg => rfl); (case hr => first | (go_simp; done) | (go_simp; rfl)); intro gb130 hg w5 hbox hb; have n0_ := qaM (qvB (qvE (by (with_reducible repeat (first | apply qvA | apply qvN | apply qvD)); exact HO1.out) gb130 (Nat.le_of_eq hg.symm)) hb); have n1_ := qaM (qbT (by repeat (first | (with_reducible first | exact HB.out | apply qwA | apply qwN | apply qwD) | exact HB.out)) hb); have n2_ := qaM (hbox); have n3_ := qaM ((by rw [hg]; exact (qbS (by repeat (first | (with_reducible first | exact HB.out | apply qwA | apply qwN | apply qwD) | exact HB.out))) : w.heap.size ≤ gb130)); have n4_ := qaM ((by rw [hg]; exact (qbS (by repeat (first | (with_reducible first | exact HB.out | apply qwA | apply qwN | apply qwD) | exact HB.out))) : w.heap.size ≤ gb130)); clear HO1; clear HB; have HO1 := n0_; have HB := n1_; have BK130 := n2_; have GW130 := n3_; have GE130 := n4_; clear n0_ n1_ n2_ n3_ n4_; clear hb hbox hg) | ((with_reducible refine gate_callee (f := 30) rfl ?_); refine goesL_ (some 6) rfl rfl Tryd.func30 (by kernel_rfl) rfl #[.slice A1 l1.length c1] rfl (by (try simp only [List.map_toArray, List.map_cons, List.map_nil]); first | done | rfl | (simp only [List.length_drop, List.length_take]; rfl)) ?_; (with_reducible refine (spec_trim.calls k (fun k_ => ((P1_ k_ ∨ w.heap.size ≤ k_) ∧ k_ ≠ gb130)) _ _ l1 t131 _ ?side1 A3.out).mono ?_); (case side1 => exact HO1.out); rintro e w6 ⟨v132, rfl, ho0, hb⟩; refine ⟨_, rfl, ?_⟩; have n0_ := qaM (qvB (by (with_reducible repeat (first | apply qvA | apply qvN | apply qvD)); exact HO1.out) hb); have n1_ := qaM (qvL (qvM (ok' := fun k_ => (P1_ k_ ∨ w.heap.size ≤ k_) ∧ k_ ≠ gb130) ho0 (fun k_ hk_ => ⟨Or.elim hk_ (fun hs_ => hs_.1) (fun hn_ => (.inr (Nat.le_trans (qbS (by repeat (first | (with_reducible first | exact HB.out | apply qwA | apply qwN | apply qwD | refine qwS ?_ GE130.out) | exact HB.out))) hn_))), Or.elim hk_ (fun hs_ => hs_.2) (fun hn_ => (qfB (g := gb130) (o := .cells #[.bool false, .slice none 0 0] 40 (0, 0)) (by (with_reducible repeat (first | refine qbN ?_ _ | refine qbD ?_ | refine qbA ?_ _)); exact BK130.out) k_ hn_))⟩)) (qbS (by repeat (first | (with_reducible first | exact HB.out | apply qwA | apply qwN | apply qwD | refine qwS ?_ GE130.out) | exact HB.out)))); have n2_ := qaM (qbB (g := gb130) (o := .cells #[.bool false, .slice none 0 0] 40 (0, 0)) (by (with_reducible repeat (first | refine qbN ?_ _ | refine qbD ?_ | refine qbA ?_ _)); exact BK130.out) hb); have n3_ := qaM (qbT (by repeat (first | (with_reducible first | exact HB.out | apply qwA | apply qwN | apply qwD | refine qwS ?_ GE130.out) | exact HB.out)) hb); clear HO1; clear BK130; clear HB; have HO1 := n0_; have HO133 := n1_; have BK130 := n2_; have HB := n3_; clear n0_ n1_ n2_ n3_; (try clear hb); (try clear hb2); (try clear hk); (try clear hi); (try clear ho0); obtain ⟨Ao7, co7, eo7⟩ := Kd.V_slice HO133.out; subst eo7; have hcz8_0 : w6.cell? ⟨gb130, 0, none⟩ = some (.bool false) := (qbC BK130.out 0).trans rfl; have hcz8_1 : w6.cell? ⟨gb130, 1, none⟩ = some (.slice none 0 0) := (qbC BK130.out 1).trans rfl; have hfz8_0 := blk_frozen BK130.out 0; have hfz8_1 := blk_frozen BK130.out 1))
  refine bodyPost_ret (results_cell_row rfl _ _ gb130 40 #[.bool (decide (0 < t131.length)), .slice Ao7 t131.length co7] (0, 0) _ rfl (by (with_reducible repeat (first | refine qbN ?_ _ | refine qbD ?_ | refine qbA ?_ _)); refine qbP (cs := #[.bool (decide (0 < t131.length)), .slice none 0 0]) ?_ 1 _ rfl; (with_reducible repeat (first | refine qbN ?_ _ | refine qbD ?_ | refine qbA ?_ _)); refine qbP (cs := #[.bool false, .slice none 0 0]) ?_ 0 _ rfl; (with_reducible repeat (first | refine qbN ?_ _ | refine qbD ?_ | refine qbA ?_ _)); exact BK130.out) Tryd.underlying40 rfl (by kernel_rfl)) rfl ?_
  exact ⟨_, by first | rfl | (simp [errW_none, errW_some] <;> rfl) | (simp [*, errW_none, errW_some] <;> rfl), by (with_reducible repeat (first | apply qvA | apply qvN | apply qvD)); exact qvM (qvF (p := ⟨gb130, 1, none⟩) (qvF (p := ⟨gb130, 0, none⟩) (qvM HO133.out (fun k_ hk => (⟨hk, hk.2⟩ : _ ∧ k_ ≠ gb130))) (fun _ hk => hk.2) (.bool (decide (0 < t131.length)))) (fun _ hk => hk.2) (.slice Ao7 t131.length co7)) (fun _ hk => hk.1.1), by repeat (first | (with_reducible first | exact HB.out | apply qwA | apply qwN | apply qwD | refine qwS ?_ GE130.out) | exact HB.out)⟩
 ·replace c4 := Bool.eq_false_iff.mpr c4
  subst c4
  have H1 : (some (false, t131)) = some (r1, r2) := by rw [if_neg (show ¬ (false = true) by decide)] at H; exact H
  clear H
  have H := H1
  clear H1
  simp only [Option.some.injEq, Prod.mk.injEq] at H
  obtain ⟨rfl, rfl⟩ := H
  go_enter Tryd.func20, Tryd.ntmps20
  go_wp2_with (first | ((with_reducible refine gate_dst (N := 4) rfl ?_); (try (refine gate_guard (by rfl) ?_; dsimp only)); refine box_event ?hg (N := 4) ?hd (cs := #[.bool false, .slice none 0 0]) (t := 40) ?hr ?_; (case hd => rfl); (case hg => rfl); (case hr => first | (go_simp; done) | (go_simp; rfl)); intro gb130 hg w9 hbox hb; have n0_ := qaM (qvB (qvE (by (with_reducible repeat (first | apply qvA | apply qvN | apply qvD)); exact HO1.out) gb130 (Nat.le_of_eq hg.symm)) hb); have n1_ := qaM (qbT (by repeat (first | (with_reducible first | exact HB.out | apply qwA | apply qwN | apply qwD) | exact HB.out)) hb); have n2_ := qaM (hbox); have n3_ := qaM ((by rw [hg]; exact (qbS (by repeat (first | (with_reducible first | exact HB.out | apply qwA | apply qwN | apply qwD) | exact HB.out))) : w.heap.size ≤ gb130)); have n4_ := qaM ((by rw [hg]; exact (qbS (by repeat (first | (with_reducible first | exact HB.out | apply qwA | apply qwN | apply qwD) | exact HB.out))) : w.heap.size ≤ gb130)); clear HO1; clear HB; have HO1 := n0_; have HB := n1_; have BK130 := n2_; have GW130 := n3_; have GE130 := n4_; clear n0_ n1_ n2_ n3_ n4_; clear hb hbox hg) | ((with_reducible refine gate_callee (f := 30) rfl ?_); refine goesL_ (some 6) rfl rfl Tryd.func30 (by kernel_rfl) rfl #[.slice A1 l1.length c1] rfl (by (try simp only [List.map_toArray, List.map_cons, List.map_nil]); first | done | rfl | (simp only [List.length_drop, List.length_take]; rfl)) ?_; (with_reducible refine (spec_trim.calls k (fun k_ => ((P1_ k_ ∨ w.heap.size ≤ k_) ∧ k_ ≠ gb130)) _ _ l1 t131 _ ?side1 A3.out).mono ?_); (case side1 => exact HO1.out); rintro e w10 ⟨v132, rfl, ho0, hb⟩; refine ⟨_, rfl, ?_⟩; have n0_ := qaM (qvB (by (with_reducible repeat (first | apply qvA | apply qvN | apply qvD)); exact HO1.out) hb); have n1_ := qaM (qvL (qvM (ok' := fun k_ => (P1_ k_ ∨ w.heap.size ≤ k_) ∧ k_ ≠ gb130) ho0 (fun k_ hk_ => ⟨Or.elim hk_ (fun hs_ => hs_.1) (fun hn_ => (.inr (Nat.le_trans (qbS (by repeat (first | (with_reducible first | exact HB.out | apply qwA | apply qwN | apply qwD | refine qwS ?_ GE130.out) | exact HB.out))) hn_))), Or.elim hk_ (fun hs_ => hs_.2) (fun hn_ => (qfB (g := gb130) (o := .cells #[.bool false, .slice none 0 0] 40 (0, 0)) (by (with_reducible repeat (first | refine qbN ?_ _ | refine qbD ?_ | refine qbA ?_ _)); exact BK130.out) k_ hn_))⟩)) (qbS (by repeat (first | (with_reducible first | exact HB.out | apply qwA | apply qwN | apply qwD | refine qwS ?_ GE130.out) | exact HB.out)))); have n2_ := qaM (qbB (g := gb130) (o := .cells #[.bool false, .slice none 0 0] 40 (0, 0)) (by (with_reducible repeat (first | refine qbN ?_ _ | refine qbD ?_ | refine qbA ?_ _)); exact BK130.out) hb); have n3_ := qaM (qbT (by repeat (first | (with_reducible first | exact HB.out | apply qwA | apply qwN | apply qwD | refine qwS ?_ GE130.out) | exact HB.out)) hb); clear HO1; clear BK130; clear HB; have HO1 := n0_; have HO133 := n1_; have BK130 := n2_; have HB := n3_; clear n0_ n1_ n2_ n3_; (try clear hb); (try clear hb2); (try clear hk); (try clear hi); (try clear ho0); obtain ⟨Ao11, co11, eo11⟩ := Kd.V_slice HO133.out; subst eo11; have hcz12_0 : w10.cell? ⟨gb130, 0, none⟩ = some (.bool false) := (qbC BK130.out 0).trans rfl; have hcz12_1 : w10.cell? ⟨gb130, 1, none⟩ = some (.slice none 0 0) := (qbC BK130.out 1).trans rfl; have hfz12_0 := blk_frozen BK130.out 0; have hfz12_1 := blk_frozen BK130.out 1))
  refine bodyPost_ret (results_cell_row rfl _ _ gb130 40 #[.bool false, .slice Ao11 t131.length co11] (0, 0) _ rfl (by (with_reducible repeat (first | refine qbN ?_ _ | refine qbD ?_ | refine qbA ?_ _)); refine qbP (cs := #[.bool false, .slice none 0 0]) ?_ 1 _ rfl; (with_reducible repeat (first | refine qbN ?_ _ | refine qbD ?_ | refine qbA ?_ _)); refine qbP (cs := #[.bool false, .slice none 0 0]) ?_ 0 _ rfl; (with_reducible repeat (first | refine qbN ?_ _ | refine qbD ?_ | refine qbA ?_ _)); exact BK130.out) Tryd.underlying40 rfl (by kernel_rfl)) rfl ?_
  exact ⟨_, by first | rfl | (simp [errW_none, errW_some] <;> rfl) | (simp [*, errW_none, errW_some] <;> rfl), by (with_reducible repeat (first | apply qvA | apply qvN | apply qvD)); exact qvM (qvF (p := ⟨gb130, 1, none⟩) (qvF (p := ⟨gb130, 0, none⟩) (qvM HO133.out (fun k_ hk => (⟨hk, hk.2⟩ : _ ∧ k_ ≠ gb130))) (fun _ hk => hk.2) (.bool false)) (fun _ hk => hk.2) (.slice Ao11 t131.length co11)) (fun _ hk => hk.1.1), by repeat (first | (with_reducible first | exact HB.out | apply qwA | apply qwN | apply qwD | refine qwS ?_ GE130.out) | exact HB.out)⟩

/-! ### spec_magAdd: function 62 -/
mutual
def spec_magAdd.l0 : Nat → List Int → List Int → List Int → Int → Int → Option (List Int)
 | 0, _, _, _, _, _ => none
 | k + 1, x0, x1, x5, x6, x7 => if x7 < (x0.length : Int) then (spec_magAdd.j1 k x0 x1 x5 x6 x7 true) else (if x7 < (x1.length : Int) then (spec_magAdd.j1 k x0 x1 x5 x6 x7 true) else (spec_magAdd.j1 k x0 x1 x5 x6 x7 (decide (x6 > 0))))
def spec_magAdd.j1 : Nat → List Int → List Int → List Int → Int → Int → Bool → Option (List Int)
 | 0, _, _, _, _, _, _ => none
 | k + 1, x0, x1, x5, x6, x7, x21 => if x21 = true then (if x7 < (x0.length : Int) then (if 0 ≤ x7 then (if x7 < (x1.length : Int) then (if x5.length < 35184372088832 then (spec_magAdd.l0 k x0 x1 (x5 ++ [(IntKind.u64.wrap ((IntKind.u64.wrap (x6 + (IntKind.u64.wrap (rd x0 x7)))) + (IntKind.u64.wrap (rd x1 x7)))) % 4294967296]) ((IntKind.u64.wrap ((IntKind.u64.wrap (x6 + (IntKind.u64.wrap (rd x0 x7)))) + (IntKind.u64.wrap (rd x1 x7)))) / 4294967296) (wrap64 (x7 + 1))) else (none)) else (if x5.length < 35184372088832 then (spec_magAdd.l0 k x0 x1 (x5 ++ [(IntKind.u64.wrap (x6 + (IntKind.u64.wrap (rd x0 x7)))) % 4294967296]) ((IntKind.u64.wrap (x6 + (IntKind.u64.wrap (rd x0 x7)))) / 4294967296) (wrap64 (x7 + 1))) else (none))) else (none)) else (if x7 < (x1.length : Int) then (if 0 ≤ x7 then (if x5.length < 35184372088832 then (spec_magAdd.l0 k x0 x1 (x5 ++ [(IntKind.u64.wrap (x6 + (IntKind.u64.wrap (rd x1 x7)))) % 4294967296]) ((IntKind.u64.wrap (x6 + (IntKind.u64.wrap (rd x1 x7)))) / 4294967296) (wrap64 (x7 + 1))) else (none)) else (none)) else (if x5.length < 35184372088832 then (spec_magAdd.l0 k x0 x1 (x5 ++ [(x6) % 4294967296]) (x6 / 4294967296) (wrap64 (x7 + 1))) else (none)))) else (some x5)
end
def spec_magAdd.f (k : Nat) (l0 : List Int) (l1 : List Int) : Option (List Int) := spec_magAdd.l0 k l0 l1 ([] : List Int) 0 0
theorem spec_magAdd.mono_l : ∀ k, (∀ y0 y1 y2 y3 y4, LeO (spec_magAdd.l0 k y0 y1 y2 y3 y4) (spec_magAdd.l0 (k + 1) y0 y1 y2 y3 y4)) ∧ (∀ y0 y1 y2 y3 y4 y5, LeO (spec_magAdd.j1 k y0 y1 y2 y3 y4 y5) (spec_magAdd.j1 (k + 1) y0 y1 y2 y3 y4 y5))
 | 0 => ⟨fun _ _ _ _ _ r h => by simp [spec_magAdd.l0] at h, fun _ _ _ _ _ _ r h => by simp [spec_magAdd.j1] at h⟩
 | k + 1 => by
  obtain ⟨ih0, ih1⟩ := spec_magAdd.mono_l k
  refine ⟨?_, ?_⟩
  ·intro y0 y1 y2 y3 y4
   unfold spec_magAdd.l0
   repeat' first
   | (with_reducible exact ih0 _ _ _ _ _)
   | (with_reducible exact ih1 _ _ _ _ _ _)
   | (with_reducible exact LeO.refl _)
   | (with_reducible exact LeO.none _)
   | (with_reducible refine LeO.ite ?_ ?_)
   | (with_reducible refine LeO.bind ?_ (fun _ => ?_))
   | exact ih0 _ _ _ _ _
   | exact ih1 _ _ _ _ _ _
   | exact LeO.none _
   | refine LeO.ite ?_ ?_
   | refine LeO.bind ?_ (fun _ => ?_)
  ·intro y0 y1 y2 y3 y4 y5
   unfold spec_magAdd.j1
   repeat' first
   | (with_reducible exact ih0 _ _ _ _ _)
   | (with_reducible exact ih1 _ _ _ _ _ _)
   | (with_reducible exact LeO.refl _)
   | (with_reducible exact LeO.none _)
   | (with_reducible refine LeO.ite ?_ ?_)
   | (with_reducible refine LeO.bind ?_ (fun _ => ?_))
   | exact ih0 _ _ _ _ _
   | exact ih1 _ _ _ _ _ _
   | exact LeO.none _
   | refine LeO.ite ?_ ?_
   | refine LeO.bind ?_ (fun _ => ?_)
theorem spec_magAdd.mono : ∀ a0 a1 k, LeO (spec_magAdd.f k a0 a1) (spec_magAdd.f (k + 1) a0 a1) := by
 intro a0 a1 k
 obtain ⟨ih0, ih1⟩ := spec_magAdd.mono_l k
 unfold spec_magAdd.f
 repeat' first
   | (with_reducible exact ih0 _ _ _ _ _)
   | (with_reducible exact ih1 _ _ _ _ _ _)
   | (with_reducible exact LeO.refl _)
   | (with_reducible exact LeO.none _)
   | (with_reducible refine LeO.ite ?_ ?_)
   | (with_reducible refine LeO.bind ?_ (fun _ => ?_))
   | exact ih0 _ _ _ _ _
   | exact ih1 _ _ _ _ _ _
   | exact LeO.none _
   | refine LeO.ite ?_ ?_
   | refine LeO.bind ?_ (fun _ => ?_)
set_option maxHeartbeats 8000000 in
set_option maxRecDepth 100000 in
theorem spec_magAdd.calls (k : Nat) (A0 : Option Addr) (c0 : Nat) (l0 : List Int) (A1 : Option Addr) (c1 : Nat) (l1 : List Int) (r : List Int) (w : World) (hr0 : Kd.C (Kd.int .u32) w A0 l0.length l0) (hc0 : l0.length ≤ c0) (hr1 : Kd.C (Kd.int .u32) w A1 l1.length l1) (hc1 : l1.length ≤ c1) (h : spec_magAdd.f k l0 l1 = some r) :
  Calls Tryd.prog 62 #[.slice A0 l0.length c0, .slice A1 l1.length c1] w fun e w' => ∃ v0_ : Value, e = .returned (v0_) ∧ Kd.R (Kd.int .u32) 57 w' w.heap.size (fun _ => True) v0_ r ∧ Below w.heap.size w w' := by
 have HR0 := qaM hr0
 have HC0 := qaM hc0
 clear hr0 hc0
 have HR1 := qaM hr1
 have HC1 := qaM hc1
 clear hr1 hc1
 have HB := qaM (Below.refl w.heap.size w)
 have H : (spec_magAdd.l0 k l0 l1 ([] : List Int) 0 0) = some r := h
 clear h
 have H' := qaM H
 clear H
 go_enter Tryd.func62, Tryd.ntmps62
 go_wp2
 go_loopg [5, 6, 7] k (fun kq v5 v6 v7 w' => ∃ (x5_1 : List Int) (x6_1 : Int) (x7_1 : Int), v6 = .int .u64 x6_1 ∧ v7 = .int .i64 x7_1 ∧ Aside0 (spec_magAdd.l0 kq l0 l1 x5_1 x6_1 x7_1 = some r) ∧ Aside0 (kq ≤ k) ∧ Aside0 (Kd.R (Kd.int .u32) 57 w' w.heap.size (fun _ => True) v5 x5_1) ∧ Aside0 (Below w.heap.size w w'))
 case atStart => exact ⟨(([] : List Int)), (0), (0), (by first | rfl | (simp; done) | (simp [*]; done)), (by first | rfl | (simp; done) | (simp [*]; done)), H', ⟨Nat.le_refl _⟩, ⟨by first | exact Kd.R_nil _ _ _ _ _ | exact Kd.N_nil _ _ _ _ _ | exact Kd.V_nil _ _ _ _ _ | exact Kd.Q_nil _ _ _ _ _ | exact Kd.S_nil _ _ _ _ _⟩, ⟨by repeat (first | (with_reducible first | exact HB.out | apply qwA | apply qwN | apply qwD) | exact HB.out)⟩⟩
 case round =>
  clear H'
  try clear c1
  try clear p2
  obtain ⟨x5_1, x6_1, x7_1, rfl, rfl, HA, HK1, HO_5, HB⟩ := hrel
  cases gk with
  | zero => exact absurd HA.out (by simp [spec_magAdd.l0])
  | succ k1 =>
   have H := HA.out
   clear HA
   simp only [spec_magAdd.l0] at H
   have HC3 := qaM H
   clear H
   go_upto_region 4 with (fail)
   go_cut [21] (fun v21 wc => ∃ (kq : Nat) (x21_2 : Bool), v21 = .bool x21_2 ∧ Aside0 (spec_magAdd.j1 kq l0 l1 x5_1 x6_1 x7_1 x21_2 = some r) ∧ Aside0 (kq ≤ k1) ∧ Aside0 (Kd.R (Kd.int .u32) 57 wc w.heap.size (fun _ => True) u5 x5_1) ∧ Aside0 (Below w.heap.size w wc))
   case first =>
    have H := HC3.out
    clear HC3
    by_cases c4 : x7_1 < (l0.length : Int)
    ·rw [if_pos c4] at H
     have c4b0 : decide (x7_1 < (l0.length : Int)) = true := decide_eq_true c4
     clear c4
     (first | rw [c4b0] | (simp only [i64_w, i32_w]; rw [c4b0]) | skip)
     have H' := qaM H
     clear H
     go_wp2
     go_meet
     case rel => exact ⟨_, (true), (by first | rfl | (simp; done) | (simp [*]; done)), H', ⟨by have := HK1.out; first | omega | exact Nat.le_refl _⟩, ⟨by (with_reducible repeat (first | apply qrA | apply qrN | apply qrD)); exact HO_5.out⟩, ⟨by repeat (first | (with_reducible first | exact HB.out | apply qwA | apply qwN | apply qwD) | exact HB.out)⟩⟩
    ·rw [if_neg c4] at H
     have c4b0 : decide (x7_1 < (l0.length : Int)) = false := decide_eq_false c4
     clear c4
     (first | rw [c4b0] | (simp only [i64_w, i32_w]; rw [c4b0]) | skip)
     by_cases c5 : x7_1 < (l1.length : Int)
     ·rw [if_pos c5] at H
      have c5b0 : decide (x7_1 < (l1.length : Int)) = true := decide_eq_true c5
      clear c5
      have H' := qaM H
      clear H
      go_wp2
      go_meet
      case rel => exact ⟨_, (true), (by first | rfl | (simp; done) | (simp [*]; done)), H', ⟨by have := HK1.out; first | omega | exact Nat.le_refl _⟩, ⟨by (with_reducible repeat (first | apply qrA | apply qrN | apply qrD)); exact HO_5.out⟩, ⟨by repeat (first | (with_reducible first | exact HB.out | apply qwA | apply qwN | apply qwD) | exact HB.out)⟩⟩
     ·rw [if_neg c5] at H
      have c5b0 : decide (x7_1 < (l1.length : Int)) = false := decide_eq_false c5
      clear c5
      have H' := qaM H
      clear H
      go_wp2
      go_meet
      case rel => exact ⟨_, (decide (x6_1 > 0)), (by first | rfl | (simp; done) | (simp [*]; done)), H', ⟨by have := HK1.out; first | omega | exact Nat.le_refl _⟩, ⟨by (with_reducible repeat (first | apply qrA | apply qrN | apply qrD)); exact HO_5.out⟩, ⟨by repeat (first | (with_reducible first | exact HB.out | apply qwA | apply qwN | apply qwD) | exact HB.out)⟩⟩
   case rest =>
    clear HC3
    try clear c1
    try clear p2
    try clear c4
    try clear c4b0
    try clear c5
    try clear c5b0
    try clear p2
    obtain ⟨kq, x21_2, rfl, HA, HJ2, HO_5, HB⟩ := hcut
    cases kq with
    | zero => exact absurd HA.out (by simp [spec_magAdd.j1])
    | succ kj2 =>
     have H := HA.out
     clear HA
     simp only [spec_magAdd.j1] at H
     by_cases c6 : x21_2 = true
     ·subst c6
      have H1 : (if x7_1 < (l0.length : Int) then (if 0 ≤ x7_1 then (if x7_1 < (l1.length : Int) then (if x5_1.length < 35184372088832 then (spec_magAdd.l0 kj2 l0 l1 (x5_1 ++ [(IntKind.u64.wrap ((IntKind.u64.wrap (x6_1 + (IntKind.u64.wrap (rd l0 x7_1)))) + (IntKind.u64.wrap (rd l1 x7_1)))) % 4294967296]) ((IntKind.u64.wrap ((IntKind.u64.wrap (x6_1 + (IntKind.u64.wrap (rd l0 x7_1)))) + (IntKind.u64.wrap (rd l1 x7_1)))) / 4294967296) (wrap64 (x7_1 + 1))) else (none)) else (if x5_1.length < 35184372088832 then (spec_magAdd.l0 kj2 l0 l1 (x5_1 ++ [(IntKind.u64.wrap (x6_1 + (IntKind.u64.wrap (rd l0 x7_1)))) % 4294967296]) ((IntKind.u64.wrap (x6_1 + (IntKind.u64.wrap (rd l0 x7_1)))) / 4294967296) (wrap64 (x7_1 + 1))) else (none))) else (none)) else (if x7_1 < (l1.length : Int) then (if 0 ≤ x7_1 then (if x5_1.length < 35184372088832 then (spec_magAdd.l0 kj2 l0 l1 (x5_1 ++ [(IntKind.u64.wrap (x6_1 + (IntKind.u64.wrap (rd l1 x7_1)))) % 4294967296]) ((IntKind.u64.wrap (x6_1 + (IntKind.u64.wrap (rd l1 x7_1)))) / 4294967296) (wrap64 (x7_1 + 1))) else (none)) else (none)) else (if x5_1.length < 35184372088832 then (spec_magAdd.l0 kj2 l0 l1 (x5_1 ++ [(x6_1) % 4294967296]) (x6_1 / 4294967296) (wrap64 (x7_1 + 1))) else (none)))) = some r := by rw [if_pos rfl] at H; exact H
      clear H
      have H := H1
      clear H1
      by_cases c7 : x7_1 < (l0.length : Int)
      ·rw [if_pos c7] at H
       have c7b0 : decide (x7_1 < (l0.length : Int)) = true := decide_eq_true c7
       clear c7
       by_cases c8 : 0 ≤ x7_1
       ·rw [if_pos c8] at H
        have c8b0 : decide (0 ≤ x7_1) = true := decide_eq_true c8
        clear c8
        by_cases c9 : x7_1 < (l1.length : Int)
        ·rw [if_pos c9] at H
         have c9b0 : decide (x7_1 < (l1.length : Int)) = true := decide_eq_true c9
         clear c9
         by_cases c10 : x5_1.length < 35184372088832
         ·rw [if_pos c10] at H
          have LMc10 := qaM c10
          clear c10
          obtain ⟨y136, hy136⟩ : ∃ y_ : List Int, y_ = (x5_1 ++ [(IntKind.u64.wrap ((IntKind.u64.wrap (x6_1 + (IntKind.u64.wrap (rd l0 x7_1)))) + (IntKind.u64.wrap (rd l1 x7_1)))) % 4294967296]) := ⟨_, rfl⟩
          replace H : (spec_magAdd.l0 kj2 l0 l1 y136 ((IntKind.u64.wrap ((IntKind.u64.wrap (x6_1 + (IntKind.u64.wrap (rd l0 x7_1)))) + (IntKind.u64.wrap (rd l1 x7_1)))) / 4294967296) (wrap64 (x7_1 + 1))) = some r := by first | (rw [hy136]; with_reducible exact H) | (have H2_ := (Option.bind_some _ _).symm.trans H; rw [hy136]; with_reducible exact H2_) | (have H2_ := (Option.bind_some _ _).symm.trans H; with_reducible exact H2_) | with_reducible exact H | (rw [hy136]; exact H) | exact H
          have Ny136 := qaM hy136
          clear hy136
          have H' := qaM H
          clear H
          have p134 : 0 ≤ (x7_1 : Int) := qoD (by first | (with_reducible assumption) | assumption)
          have q134 : x7_1 < (l0.length : Int) := qoD (by first | (with_reducible assumption) | assumption)
          obtain ⟨ad134, e134, hx134_0⟩ := Kd.at_int HR0.out x7_1 p134 q134
          cases e134
          replace hx134_0 := (HB.out.cell (World.block_lt_of_cell? w _ hx134_0)).trans hx134_0
          replace p134 := eq_true p134
          replace q134 := eq_true q134
          have p135 : 0 ≤ (x7_1 : Int) := qoD (by first | (with_reducible assumption) | assumption)
          have q135 : x7_1 < (l1.length : Int) := qoD (by first | (with_reducible assumption) | assumption)
          obtain ⟨ad135, e135, hx135_0⟩ := Kd.at_int HR1.out x7_1 p135 q135
          cases e135
          replace hx135_0 := (HB.out.cell (World.block_lt_of_cell? w _ hx135_0)).trans hx135_0
          replace p135 := eq_true p135
          replace q135 := eq_true q135
          go_wp2_with (first | ((with_reducible refine gate_builtin (b := .append) (xs := #[.tmp 46, .tmp 49]) rfl ?_); (try (refine gate_guard (by rfl) ?_; dsimp only)); at_builtin; refine Kd.R_append (Kd.int .u32) (w0 := w) w.heap.size rfl (.tmp 46) (.tmp 49) 38 57 (.int .u32 0) 4 rfl Tryd.underlying38 info57 rfl (by decide) (by omega) u5 x5_1 ((IntKind.u64.wrap ((IntKind.u64.wrap (x6_1 + (IntKind.u64.wrap (rd l0 x7_1)))) + (IntKind.u64.wrap (rd l1 x7_1)))) % 4294967296) [.int .u32 ((IntKind.u64.wrap ((IntKind.u64.wrap (x6_1 + (IntKind.u64.wrap (rd l0 x7_1)))) + (IntKind.u64.wrap (rd l1 x7_1)))) % 4294967296)] (fun _ => True) (fun _ => False) rfl rfl ?aP (fun _ hk => hk.elim) ?aF ?aO ?aB ?aS ?aL ?_; (case aP => exact rfl); (case aB => exact (by repeat (first | (with_reducible first | exact HB.out | apply qwA | apply qwN | apply qwD) | exact HB.out))); (case aF => exact (fun _ _ => trivial)); (case aO => exact (by (with_reducible repeat (first | apply qrA | apply qrN | apply qrD)); exact HO_5.out)); (case aS => exact (qbS (by repeat (first | (with_reducible first | exact HB.out | apply qwA | apply qwN | apply qwD) | exact HB.out)))); (case aL => have := LMc10.out; omega); intro v137 w11 ho hb hg hat; rw [← Ny136.out] at ho; have n0_ := qaM (hb); have n1_ := qaM (ho); clear HB; clear HO_5; have HB := n0_; have HO138 := n1_; clear n0_ n1_; clear ho hb hg hat))
          go_roundg kj2
          case measure => have := HK1.out; have := HJ2.out; omega
          case rel => exact ⟨(y136), ((IntKind.u64.wrap ((IntKind.u64.wrap (x6_1 + (IntKind.u64.wrap (rd l0 x7_1)))) + (IntKind.u64.wrap (rd l1 x7_1)))) / 4294967296), (wrap64 (x7_1 + 1)), (by first | rfl | (simp; done) | (simp [*]; done)), (by first | rfl | (simp; done) | (simp [*]; done)), H', ⟨by have := HK1.out; have := HJ2.out; omega⟩, ⟨by (with_reducible repeat (first | apply qrA | apply qrN | apply qrD)); exact HO138.out⟩, ⟨by repeat (first | (with_reducible first | exact HB.out | apply qwA | apply qwN | apply qwD) | exact HB.out)⟩⟩
         ·rw [if_neg c10] at H
          exact absurd H (by simp)
        ·rw [if_neg c9] at H
         have c9b0 : decide (x7_1 < (l1.length : Int)) = false := decide_eq_false c9
         clear c9
         by_cases c12 : x5_1.length < 35184372088832
         ·rw [if_pos c12] at H
          have LMc12 := qaM c12
          clear c12
          obtain ⟨y139, hy139⟩ : ∃ y_ : List Int, y_ = (x5_1 ++ [(IntKind.u64.wrap (x6_1 + (IntKind.u64.wrap (rd l0 x7_1)))) % 4294967296]) := ⟨_, rfl⟩
          replace H : (spec_magAdd.l0 kj2 l0 l1 y139 ((IntKind.u64.wrap (x6_1 + (IntKind.u64.wrap (rd l0 x7_1)))) / 4294967296) (wrap64 (x7_1 + 1))) = some r := by first | (rw [hy139]; with_reducible exact H) | (have H2_ := (Option.bind_some _ _).symm.trans H; rw [hy139]; with_reducible exact H2_) | (have H2_ := (Option.bind_some _ _).symm.trans H; with_reducible exact H2_) | with_reducible exact H | (rw [hy139]; exact H) | exact H
          have Ny139 := qaM hy139
          clear hy139
          have H' := qaM H
          clear H
          have p134 : 0 ≤ (x7_1 : Int) := qoD (by first | (with_reducible assumption) | assumption)
          have q134 : x7_1 < (l0.length : Int) := qoD (by first | (with_reducible assumption) | assumption)
          obtain ⟨ad134, e134, hx134_0⟩ := Kd.at_int HR0.out x7_1 p134 q134
          cases e134
          replace hx134_0 := (HB.out.cell (World.block_lt_of_cell? w _ hx134_0)).trans hx134_0
          replace p134 := eq_true p134
          replace q134 := eq_true q134
          go_wp2_with (first | ((with_reducible refine gate_builtin (b := .append) (xs := #[.tmp 46, .tmp 49]) rfl ?_); (try (refine gate_guard (by rfl) ?_; dsimp only)); at_builtin; refine Kd.R_append (Kd.int .u32) (w0 := w) w.heap.size rfl (.tmp 46) (.tmp 49) 38 57 (.int .u32 0) 4 rfl Tryd.underlying38 info57 rfl (by decide) (by omega) u5 x5_1 ((IntKind.u64.wrap (x6_1 + (IntKind.u64.wrap (rd l0 x7_1)))) % 4294967296) [.int .u32 ((IntKind.u64.wrap (x6_1 + (IntKind.u64.wrap (rd l0 x7_1)))) % 4294967296)] (fun _ => True) (fun _ => False) rfl rfl ?aP (fun _ hk => hk.elim) ?aF ?aO ?aB ?aS ?aL ?_; (case aP => exact rfl); (case aB => exact (by repeat (first | (with_reducible first | exact HB.out | apply qwA | apply qwN | apply qwD) | exact HB.out))); (case aF => exact (fun _ _ => trivial)); (case aO => exact (by (with_reducible repeat (first | apply qrA | apply qrN | apply qrD)); exact HO_5.out)); (case aS => exact (qbS (by repeat (first | (with_reducible first | exact HB.out | apply qwA | apply qwN | apply qwD) | exact HB.out)))); (case aL => have := LMc12.out; omega); intro v140 w13 ho hb hg hat; rw [← Ny139.out] at ho; have n0_ := qaM (hb); have n1_ := qaM (ho); clear HB; clear HO_5; have HB := n0_; have HO141 := n1_; clear n0_ n1_; clear ho hb hg hat))
          go_roundg kj2
          case measure => have := HK1.out; have := HJ2.out; omega
          case rel => exact ⟨(y139), ((IntKind.u64.wrap (x6_1 + (IntKind.u64.wrap (rd l0 x7_1)))) / 4294967296), (wrap64 (x7_1 + 1)), (by first | rfl | (simp; done) | (simp [*]; done)), (by first | rfl | (simp; done) | (simp [*]; done)), H', ⟨by have := HK1.out; have := HJ2.out; omega⟩, ⟨by (with_reducible repeat (first | apply qrA | apply qrN | apply qrD)); exact HO141.out⟩, ⟨by repeat (first | (with_reducible first | exact HB.out | apply qwA | apply qwN | apply qwD) | exact HB.out)⟩⟩
         ·rw [if_neg c12] at H
          exact absurd H (by simp)
       ·rw [if_neg c8] at H
        exact absurd H (by simp)
      ·rw [if_neg c7] at H
       have c7b0 : decide (x7_1 < (l0.length : Int)) = false := decide_eq_false c7
       clear c7
       by_cases c14 : x7_1 < (l1.length : Int)
       ·rw [if_pos c14] at H
        have c14b0 : decide (x7_1 < (l1.length : Int)) = true := decide_eq_true c14
        clear c14
        by_cases c15 : 0 ≤ x7_1
        ·rw [if_pos c15] at H
         have c15b0 : decide (0 ≤ x7_1) = true := decide_eq_true c15
         clear c15
         by_cases c16 : x5_1.length < 35184372088832
         ·rw [if_pos c16] at H
          have LMc16 := qaM c16
          clear c16
          obtain ⟨y143, hy143⟩ : ∃ y_ : List Int, y_ = (x5_1 ++ [(IntKind.u64.wrap (x6_1 + (IntKind.u64.wrap (rd l1 x7_1)))) % 4294967296]) := ⟨_, rfl⟩
          replace H : (spec_magAdd.l0 kj2 l0 l1 y143 ((IntKind.u64.wrap (x6_1 + (IntKind.u64.wrap (rd l1 x7_1)))) / 4294967296) (wrap64 (x7_1 + 1))) = some r := by first | (rw [hy143]; with_reducible exact H) | (have H2_ := (Option.bind_some _ _).symm.trans H; rw [hy143]; with_reducible exact H2_) | (have H2_ := (Option.bind_some _ _).symm.trans H; with_reducible exact H2_) | with_reducible exact H | (rw [hy143]; exact H) | exact H
          have Ny143 := qaM hy143
          clear hy143
          have H' := qaM H
          clear H
          have p142 : 0 ≤ (x7_1 : Int) := qoD (by first | (with_reducible assumption) | assumption)
          have q142 : x7_1 < (l1.length : Int) := qoD (by first | (with_reducible assumption) | assumption)
          obtain ⟨ad142, e142, hx142_0⟩ := Kd.at_int HR1.out x7_1 p142 q142
          cases e142
          replace hx142_0 := (HB.out.cell (World.block_lt_of_cell? w _ hx142_0)).trans hx142_0
          replace p142 := eq_true p142
          replace q142 := eq_true q142
          go_wp2_with (first | ((with_reducible refine gate_builtin (b := .append) (xs := #[.tmp 46, .tmp 49]) rfl ?_); (try (refine gate_guard (by rfl) ?_; dsimp only)); at_builtin; refine Kd.R_append (Kd.int .u32) (w0 := w) w.heap.size rfl (.tmp 46) (.tmp 49) 38 57 (.int .u32 0) 4 rfl Tryd.underlying38 info57 rfl (by decide) (by omega) u5 x5_1 ((IntKind.u64.wrap (x6_1 + (IntKind.u64.wrap (rd l1 x7_1)))) % 4294967296) [.int .u32 ((IntKind.u64.wrap (x6_1 + (IntKind.u64.wrap (rd l1 x7_1)))) % 4294967296)] (fun _ => True) (fun _ => False) rfl rfl ?aP (fun _ hk => hk.elim) ?aF ?aO ?aB ?aS ?aL ?_; (case aP => exact rfl); (case aB => exact (by repeat (first | (with_reducible first | exact HB.out | apply qwA | apply qwN | apply qwD) | exact HB.out))); (case aF => exact (fun _ _ => trivial)); (case aO => exact (by (with_reducible repeat (first | apply qrA | apply qrN | apply qrD)); exact HO_5.out)); (case aS => exact (qbS (by repeat (first | (with_reducible first | exact HB.out | apply qwA | apply qwN | apply qwD) | exact HB.out)))); (case aL => have := LMc16.out; omega); intro v144 w17 ho hb hg hat; rw [← Ny143.out] at ho; have n0_ := qaM (hb); have n1_ := qaM (ho); clear HB; clear HO_5; have HB := n0_; have HO145 := n1_; clear n0_ n1_; clear ho hb hg hat))
          go_roundg kj2
          case measure => have := HK1.out; have := HJ2.out; omega
          case rel => exact ⟨(y143), ((IntKind.u64.wrap (x6_1 + (IntKind.u64.wrap (rd l1 x7_1)))) / 4294967296), (wrap64 (x7_1 + 1)), (by first | rfl | (simp; done) | (simp [*]; done)), (by first | rfl | (simp; done) | (simp [*]; done)), H', ⟨by have := HK1.out; have := HJ2.out; omega⟩, ⟨by (with_reducible repeat (first | apply qrA | apply qrN | apply qrD)); exact HO145.out⟩, ⟨by repeat (first | (with_reducible first | exact HB.out | apply qwA | apply qwN | apply qwD) | exact HB.out)⟩⟩
         ·rw [if_neg c16] at H
          exact absurd H (by simp)
        ·rw [if_neg c15] at H
         exact absurd H (by simp)
       ·rw [if_neg c14] at H
        have c14b0 : decide (x7_1 < (l1.length : Int)) = false := decide_eq_false c14
        clear c14
        by_cases c18 : x5_1.length < 35184372088832
        ·rw [if_pos c18] at H
         have LMc18 := qaM c18
         clear c18
         obtain ⟨y146, hy146⟩ : ∃ y_ : List Int, y_ = (x5_1 ++ [(x6_1) % 4294967296]) := ⟨_, rfl⟩
         replace H : (spec_magAdd.l0 kj2 l0 l1 y146 (x6_1 / 4294967296) (wrap64 (x7_1 + 1))) = some r := by first | (rw [hy146]; with_reducible exact H) | (have H2_ := (Option.bind_some _ _).symm.trans H; rw [hy146]; with_reducible exact H2_) | (have H2_ := (Option.bind_some _ _).symm.trans H; with_reducible exact H2_) | with_reducible exact H | (rw [hy146]; exact H) | exact H
         have Ny146 := qaM hy146
         clear hy146
         have H' := qaM H
         clear H
         go_wp2_with (first | ((with_reducible refine gate_builtin (b := .append) (xs := #[.tmp 46, .tmp 49]) rfl ?_); (try (refine gate_guard (by rfl) ?_; dsimp only)); at_builtin; refine Kd.R_append (Kd.int .u32) (w0 := w) w.heap.size rfl (.tmp 46) (.tmp 49) 38 57 (.int .u32 0) 4 rfl Tryd.underlying38 info57 rfl (by decide) (by omega) u5 x5_1 ((x6_1) % 4294967296) [.int .u32 ((x6_1) % 4294967296)] (fun _ => True) (fun _ => False) rfl rfl ?aP (fun _ hk => hk.elim) ?aF ?aO ?aB ?aS ?aL ?_; (case aP => exact rfl); (case aB => exact (by repeat (first | (with_reducible first | exact HB.out | apply qwA | apply qwN | apply qwD) | exact HB.out))); (case aF => exact (fun _ _ => trivial)); (case aO => exact (by (with_reducible repeat (first | apply qrA | apply qrN | apply qrD)); exact HO_5.out)); (case aS => exact (qbS (by repeat (first | (with_reducible first | exact HB.out | apply qwA | apply qwN | apply qwD) | exact HB.out)))); (case aL => have := LMc18.out; omega); intro v147 w19 ho hb hg hat; rw [← Ny146.out] at ho; have n0_ := qaM (hb); have n1_ := qaM (ho); clear HB; clear HO_5; have HB := n0_; have HO148 := n1_; clear n0_ n1_; clear ho hb hg hat))
         go_roundg kj2
         case measure => have := HK1.out; have := HJ2.out; omega
         case rel => exact ⟨(y146), (x6_1 / 4294967296), (wrap64 (x7_1 + 1)), (by first | rfl | (simp; done) | (simp [*]; done)), (by first | rfl | (simp; done) | (simp [*]; done)), H', ⟨by have := HK1.out; have := HJ2.out; omega⟩, ⟨by (with_reducible repeat (first | apply qrA | apply qrN | apply qrD)); exact HO148.out⟩, ⟨by repeat (first | (with_reducible first | exact HB.out | apply qwA | apply qwN | apply qwD) | exact HB.out)⟩⟩
        ·rw [if_neg c18] at H
         exact absurd H (by simp)
     ·replace c6 := Bool.eq_false_iff.mpr c6
      subst c6
      have H1 : (some x5_1) = some r := by rw [if_neg (show ¬ (false = true) by decide)] at H; exact H
      clear H
      have H := H1
      clear H1
      obtain rfl := Option.some.inj H
      go_wp2
      go_ret
      exact ⟨_, by first | rfl | (simp [errW_none, errW_some] <;> rfl) | (simp [*, errW_none, errW_some] <;> rfl), by (with_reducible repeat (first | apply qrA | apply qrN | apply qrD)); exact HO_5.out, by repeat (first | (with_reducible first | exact HB.out | apply qwA | apply qwN | apply qwD) | exact HB.out)⟩

end Go.Proofs.YtlnbkmkdapeicaaDoor.QT
