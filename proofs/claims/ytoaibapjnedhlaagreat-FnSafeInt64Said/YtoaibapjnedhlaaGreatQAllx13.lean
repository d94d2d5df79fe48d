/- Printed by a program of this session (print2.py) over the kit's print: the functions that a law reaches, over contracts proved by hand. Lean checks it. -/
import Derived.Test.YtoaibapjnedhlaaGreatQAllx0
import Derived.Test.YtoaibapjnedhlaaGreatQAllx6
namespace Go.Proofs.YtoaibapjnedhlaaGreat.QAll
open Go.RowKit Go.Proofs.YtoaibapjnedhlaaGreatW.PrintWords Go.Proofs.YtoaibapjnedhlaaGreatW.PrintLast Go.Proofs.YtoaibapjnedhlaaGreatW.PrintMore
attribute [local go_sem] max2_int min2_int max_two min_two max_three min_three max_four min_four   -- for this text's walks alone
set_option linter.unusedVariables false
set_option linter.unusedSimpArgs false

theorem zd13_0 {p : Prop} (h : p := by repeat (first | (with_reducible first | exact HB.out | apply below_alloc | apply pw_below_drewN | apply below_drew1 | refine below_set ?_ GE245.out) | exact HB.out)) : p := h
theorem zd13_1 {p : Prop} (h : p := by repeat (first | (with_reducible first | exact HB.out | apply below_alloc | apply pw_below_drewN | apply below_drew1) | exact HB.out)) : p := h
theorem zd13_2 {p : Prop} (h : p := by (with_reducible repeat (first | refine blk_drewN ?_ _ | refine blk_drew ?_ | refine blk_alloc ?_ _)); exact BK245.out) : p := h
theorem zd13_3 {p : Prop} (h : p := by (try simp only [List.map_toArray, List.map_cons, List.map_nil]); first | done | rfl | (simp only [List.length_drop, List.length_take]; rfl)) : p := h
theorem zd13_4 {p : Prop} (h : p := by first | rfl | (simp; done) | (simp [*]; done)) : p := h
/-! ### spec_WideCmp: function 18 -/
mutual
def spec_WideCmp.j0 : Nat → Bool → Bool → List Int → Bool → List Int → Option (Int)
 | 0, _, _, _, _, _ => none
 | k + 1, x5, x246000, x246001, x247000, x247001 => if x5 = true then (some (-1)) else (if x246000 = true then (spec_WideCmp.j1 k false x246000 x246001 x247000 x247001) else (spec_WideCmp.j1 k x247000 x246000 x246001 x247000 x247001))
def spec_WideCmp.j1 : Nat → Bool → Bool → List Int → Bool → List Int → Option (Int)
 | 0, _, _, _, _, _ => none
 | k + 1, x13, x246000, x246001, x247000, x247001 => if x13 = true then (some 1) else (if x246000 = true then ((spec_magCmp.f k x246001 x247001).bind fun t247 => (some (wrap64 (-t247)))) else ((spec_magCmp.f k x246001 x247001).bind fun t248 => (some t248)))
end
def spec_WideCmp.f (k : Nat) (a0_0 : Bool) (l0_1 : List Int) (a1_0 : Bool) (l1_1 : List Int) : Option (Int) := if a0_0 = true then (spec_WideCmp.j0 k (!a1_0) a0_0 l0_1 a1_0 l1_1) else (spec_WideCmp.j0 k false a0_0 l0_1 a1_0 l1_1)
theorem spec_WideCmp.mono_l : ∀ k, (∀ y0 y1 y2 y3 y4, LeO (spec_WideCmp.j0 k y0 y1 y2 y3 y4) (spec_WideCmp.j0 (k + 1) y0 y1 y2 y3 y4)) ∧ (∀ y0 y1 y2 y3 y4, LeO (spec_WideCmp.j1 k y0 y1 y2 y3 y4) (spec_WideCmp.j1 (k + 1) y0 y1 y2 y3 y4))
 | 0 => ⟨fun _ _ _ _ _ r h => by simp [spec_WideCmp.j0] at h, fun _ _ _ _ _ r h => by simp [spec_WideCmp.j1] at h⟩
 | k + 1 => by
  obtain ⟨ih0, ih1⟩ := spec_WideCmp.mono_l k
  refine ⟨?_, ?_⟩
  ·intro y0 y1 y2 y3 y4
   unfold spec_WideCmp.j0
   repeat' first
   | (with_reducible exact ih0 _ _ _ _ _)
   | (with_reducible exact ih1 _ _ _ _ _)
   | (with_reducible exact spec_magCmp.mono _ _ _)
   | (with_reducible exact LeO.refl _)
   | (with_reducible exact LeO.none _)
   | (with_reducible refine LeO.ite ?_ ?_)
   | (with_reducible refine LeO.bind ?_ (fun _ => ?_))
   | exact ih0 _ _ _ _ _
   | exact ih1 _ _ _ _ _
   | exact spec_magCmp.mono _ _ _
   | exact LeO.none _
   | refine LeO.ite ?_ ?_
   | refine LeO.bind ?_ (fun _ => ?_)
  ·intro y0 y1 y2 y3 y4
   unfold spec_WideCmp.j1
   repeat' first
   | (with_reducible exact ih0 _ _ _ _ _)
   | (with_reducible exact ih1 _ _ _ _ _)
   | (with_reducible exact spec_magCmp.mono _ _ _)
   | (with_reducible exact LeO.refl _)
   | (with_reducible exact LeO.none _)
   | (with_reducible refine LeO.ite ?_ ?_)
   | (with_reducible refine LeO.bind ?_ (fun _ => ?_))
   | exact ih0 _ _ _ _ _
   | exact ih1 _ _ _ _ _
   | exact spec_magCmp.mono _ _ _
   | exact LeO.none _
   | refine LeO.ite ?_ ?_
   | refine LeO.bind ?_ (fun _ => ?_)
theorem spec_WideCmp.mono : ∀ a0 a1 a2 a3 k, LeO (spec_WideCmp.f k a0 a1 a2 a3) (spec_WideCmp.f (k + 1) a0 a1 a2 a3) := by
 intro a0 a1 a2 a3 k
 obtain ⟨ih0, ih1⟩ := spec_WideCmp.mono_l k
 unfold spec_WideCmp.f
 repeat' first
   | (with_reducible exact ih0 _ _ _ _ _)
   | (with_reducible exact ih1 _ _ _ _ _)
   | (with_reducible exact spec_magCmp.mono _ _ _)
   | (with_reducible exact LeO.refl _)
   | (with_reducible exact LeO.none _)
   | (with_reducible refine LeO.ite ?_ ?_)
   | (with_reducible refine LeO.bind ?_ (fun _ => ?_))
   | exact ih0 _ _ _ _ _
   | exact ih1 _ _ _ _ _
   | exact spec_magCmp.mono _ _ _
   | exact LeO.none _
   | refine LeO.ite ?_ ?_
   | refine LeO.bind ?_ (fun _ => ?_)
set_option maxHeartbeats 8000000 in
set_option maxRecDepth 100000 in
theorem spec_WideCmp.calls (k : Nat) (a0_0 : Bool) (A0_1 : Option Addr) (c0_1 : Nat) (l0_1 : List Int) (a1_0 : Bool) (A1_1 : Option Addr) (c1_1 : Nat) (l1_1 : List Int) (r : Int) (w : World) (hr0_1 : Kd.C (Kd.int .u32) w A0_1 l0_1.length l0_1) (hc0_1 : l0_1.length ≤ c0_1) (hr1_1 : Kd.C (Kd.int .u32) w A1_1 l1_1.length l1_1) (hc1_1 : l1_1.length ≤ c1_1) (h : spec_WideCmp.f k a0_0 l0_1 a1_0 l1_1 = some r) :
  Calls Tryz.prog 18 #[.agg #[.bool a0_0, .slice A0_1 l0_1.length c0_1], .agg #[.bool a1_0, .slice A1_1 l1_1.length c1_1]] w fun e w' => e = .returned (.int .i64 r) ∧ Below w.heap.size w w' := by
 have hu27 := Tryz.underlying27
 have HR0_1 := Aside0.mk hr0_1
 have HC0_1 := Aside0.mk hc0_1
 clear hr0_1 hc0_1
 have HR1_1 := Aside0.mk hr1_1
 have HC1_1 := Aside0.mk hc1_1
 clear hr1_1 hc1_1
 have HB := Aside0.mk (Below.refl w.heap.size w)
 have H : (if a0_0 = true then (spec_WideCmp.j0 k (!a1_0) a0_0 l0_1 a1_0 l1_1) else (spec_WideCmp.j0 k false a0_0 l0_1 a1_0 l1_1)) = some r := h
 clear h
 have HC3 := Aside0.mk H
 clear H
 go_enter Tryz.func18, Tryz.ntmps18
 go_upto_region 1 with (first | ((with_reducible refine gate_dst (N := 2) rfl ?_); refine box_event ?hg (N := 2) ?hd (cs := #[.bool a0_0, .slice A0_1 l0_1.length c0_1]) (t := 27) ?hr ?_; (case hd => rfl); (case hg => rfl); (case hr => first | (go_simp; done) | (go_simp; rfl)); intro gb245 hg w4 hbox hb; have n0_ := Aside0.mk (below_step zd13_1 hb); have n1_ := Aside0.mk (hbox); have n2_ := Aside0.mk ((by rw [hg]; exact (below_size zd13_1) : w.heap.size ≤ gb245)); have n3_ := Aside0.mk ((by rw [hg]; exact (below_size zd13_1) : w.heap.size ≤ gb245)); clear HB; have HB := n0_; have BK245 := n1_; have GW245 := n2_; have GE245 := n3_; clear n0_ n1_ n2_ n3_; clear hb hbox hg) | ((with_reducible refine gate_dst (N := 3) rfl ?_); refine box_event ?hg (N := 3) ?hd (cs := #[.bool a1_0, .slice A1_1 l1_1.length c1_1]) (t := 27) ?hr ?_; (case hd => rfl); (case hg => rfl); (case hr => first | (go_simp; done) | (go_simp; rfl)); intro gb246 hg w5 hbox hb; have n0_ := Aside0.mk (blk_below (g := gb245) (o := .cells #[.bool a0_0, .slice A0_1 l0_1.length c0_1] 27 (0, 0)) zd13_2 hb); have n1_ := Aside0.mk (below_step zd13_0 hb); have n2_ := Aside0.mk (hbox); have n3_ := Aside0.mk ((by rw [hg]; exact (below_size zd13_0) : w.heap.size ≤ gb246)); have n4_ := Aside0.mk ((by rw [hg]; exact (below_size zd13_0) : w.heap.size ≤ gb246)); have n5_ := Aside0.mk ((by rw [hg]; exact Nat.ne_of_lt (blk_lt (g := gb245) (o := .cells #[.bool a0_0, .slice A0_1 l0_1.length c0_1] 27 (0, 0)) zd13_2) : gb245 ≠ gb246)); have n6_ := Aside0.mk ((by rw [hg]; exact Nat.ne_of_gt (blk_lt (g := gb245) (o := .cells #[.bool a0_0, .slice A0_1 l0_1.length c0_1] 27 (0, 0)) zd13_2) : gb246 ≠ gb245)); clear BK245; clear HB; have BK245 := n0_; have HB := n1_; have BK246 := n2_; have GW246 := n3_; have GE246 := n4_; have NB245_246 := n5_; have NB246_245 := n6_; clear n0_ n1_ n2_ n3_ n4_ n5_ n6_; clear hb hbox hg))
 (try simp only [Act.put, List.setIfInBounds_toArray, List.set_cons_zero, List.set_cons_succ])
 go_cut [5] (fun v5 wc => ∃ (kq : Nat) (x5_2 : Bool), v5 = .bool x5_2 ∧ Aside0 (spec_WideCmp.j0 kq x5_2 a0_0 l0_1 a1_0 l1_1 = some r) ∧ Aside0 (kq ≤ k) ∧ Aside0 (wc.heap[gb245]? = some (.cells #[.bool a0_0, (.slice A0_1 l0_1.length c0_1)] 27 (0, 0))) ∧ Aside0 (wc.heap[gb246]? = some (.cells #[.bool a1_0, (.slice A1_1 l1_1.length c1_1)] 27 (0, 0))) ∧ Aside0 (Below w.heap.size w wc))
 case first =>
  have H := HC3.out
  clear HC3
  by_cases c6 : a0_0 = true
  ·subst c6
   have H1 : (spec_WideCmp.j0 k (!a1_0) true l0_1 a1_0 l1_1) = some r := by rw [if_pos rfl] at H; exact H
   clear H
   have H := H1
   clear H1
   have H' := Aside0.mk H
   clear H
   have hnb7 := NB245_246.out
   have hnc7 := NB246_245.out
   have hcz8_0 : w5.cell? ⟨gb245, 0, none⟩ = some (.bool true) := (blk_cell BK245.out 0).trans rfl
   have hcz8_1 : w5.cell? ⟨gb245, 1, none⟩ = some (.slice A0_1 l0_1.length c0_1) := (blk_cell BK245.out 1).trans rfl
   have hfz8_0 := blk_frozen BK245.out 0
   have hfz8_1 := blk_frozen BK245.out 1
   have hcz9_0 : w5.cell? ⟨gb246, 0, none⟩ = some (.bool a1_0) := (blk_cell BK246.out 0).trans rfl
   have hcz9_1 : w5.cell? ⟨gb246, 1, none⟩ = some (.slice A1_1 l1_1.length c1_1) := (blk_cell BK246.out 1).trans rfl
   have hfz9_0 := blk_frozen BK246.out 0
   have hfz9_1 := blk_frozen BK246.out 1
   go_wp2
   go_meet
   case rel => exact ⟨_, (!a1_0), zd13_4, H', ⟨by first | omega | exact Nat.le_refl _⟩, ⟨by (with_reducible repeat (first | refine blk_drewN ?_ _ | refine blk_drew ?_ | refine blk_alloc ?_ _)); exact BK245.out⟩, ⟨by (with_reducible repeat (first | refine blk_drewN ?_ _ | refine blk_drew ?_ | refine blk_alloc ?_ _)); exact BK246.out⟩, ⟨by repeat (first | (with_reducible first | exact HB.out | apply below_alloc | apply pw_below_drewN | apply below_drew1 | refine below_set ?_ GE245.out | refine below_set ?_ GE246.out) | exact HB.out)⟩⟩
  ·replace c6 := Bool.eq_false_iff.mpr c6
   subst c6
   have H1 : (spec_WideCmp.j0 k false false l0_1 a1_0 l1_1) = some r := by rw [if_neg (show ¬ (false = true) by decide)] at H; exact H
   clear H
   have H := H1
   clear H1
   have H' := Aside0.mk H
   clear H
   have hnb10 := NB245_246.out
   have hnc10 := NB246_245.out
   have hcz11_0 : w5.cell? ⟨gb245, 0, none⟩ = some (.bool false) := (blk_cell BK245.out 0).trans rfl
   have hcz11_1 : w5.cell? ⟨gb245, 1, none⟩ = some (.slice A0_1 l0_1.length c0_1) := (blk_cell BK245.out 1).trans rfl
   have hfz11_0 := blk_frozen BK245.out 0
   have hfz11_1 := blk_frozen BK245.out 1
   go_wp2
   go_meet
   case rel => exact ⟨_, (false), zd13_4, H', ⟨by first | omega | exact Nat.le_refl _⟩, ⟨by (with_reducible repeat (first | refine blk_drewN ?_ _ | refine blk_drew ?_ | refine blk_alloc ?_ _)); exact BK245.out⟩, ⟨by (with_reducible repeat (first | refine blk_drewN ?_ _ | refine blk_drew ?_ | refine blk_alloc ?_ _)); exact BK246.out⟩, ⟨by repeat (first | (with_reducible first | exact HB.out | apply below_alloc | apply pw_below_drewN | apply below_drew1 | refine below_set ?_ GE245.out | refine below_set ?_ GE246.out) | exact HB.out)⟩⟩
 case rest =>
  clear HC3
  try clear c1
  try clear p2
  try clear c6
  try clear c7
  try clear c10
  try clear hcz11_0
  try clear hcz11_1
  try clear hcz8_0
  try clear hcz8_1
  try clear hcz9_0
  try clear hcz9_1
  try clear hfz11_0
  try clear hfz11_1
  try clear hfz8_0
  try clear hfz8_1
  try clear hfz9_0
  try clear hfz9_1
  obtain ⟨kq, x5_2, rfl, HA, HJ2, BK245, BK246, HB⟩ := hcut
  cases kq with
  | zero => exact absurd HA.out (by simp [spec_WideCmp.j0])
  | succ kj2 =>
   have H := HA.out
   clear HA
   simp only [spec_WideCmp.j0] at H
   by_cases c12 : x5_2 = true
   ·subst c12
    have H1 : (some (-1)) = some r := by rw [if_pos rfl] at H; exact H
    clear H
    have H := H1
    clear H1
    obtain rfl := Option.some.inj H
    go_wp2
    go_ret
    exact ⟨by first | rfl | (simp [errW_none, errW_some] <;> rfl) | (simp [*, errW_none, errW_some] <;> rfl), by repeat (first | (with_reducible first | exact HB.out | apply below_alloc | apply pw_below_drewN | apply below_drew1 | refine below_set ?_ GE245.out | refine below_set ?_ GE246.out) | exact HB.out)⟩
   ·replace c12 := Bool.eq_false_iff.mpr c12
    subst c12
    have H1 : (if a0_0 = true then (spec_WideCmp.j1 kj2 false a0_0 l0_1 a1_0 l1_1) else (spec_WideCmp.j1 kj2 a1_0 a0_0 l0_1 a1_0 l1_1)) = some r := by rw [if_neg (show ¬ (false = true) by decide)] at H; exact H
    clear H
    have H := H1
    clear H1
    have HC13 := Aside0.mk H
    clear H
    go_upto_region 3 with (fail)
    go_cut [13] (fun v13 wc => ∃ (kq : Nat) (x13_12 : Bool), v13 = .bool x13_12 ∧ Aside0 (spec_WideCmp.j1 kq x13_12 a0_0 l0_1 a1_0 l1_1 = some r) ∧ Aside0 (kq ≤ kj2) ∧ Aside0 (wc.heap[gb245]? = some (.cells #[.bool a0_0, (.slice A0_1 l0_1.length c0_1)] 27 (0, 0))) ∧ Aside0 (wc.heap[gb246]? = some (.cells #[.bool a1_0, (.slice A1_1 l1_1.length c1_1)] 27 (0, 0))) ∧ Aside0 (Below w.heap.size w wc))
    case first =>
     have H := HC13.out
     clear HC13
     by_cases c14 : a0_0 = true
     ·subst c14
      have H1 : (spec_WideCmp.j1 kj2 false true l0_1 a1_0 l1_1) = some r := by rw [if_pos rfl] at H; exact H
      clear H
      have H := H1
      clear H1
      have H' := Aside0.mk H
      clear H
      have hnb15 := NB245_246.out
      have hnc15 := NB246_245.out
      have hcz16_0 : wc.cell? ⟨gb245, 0, none⟩ = some (.bool true) := (blk_cell BK245.out 0).trans rfl
      have hcz16_1 : wc.cell? ⟨gb245, 1, none⟩ = some (.slice A0_1 l0_1.length c0_1) := (blk_cell BK245.out 1).trans rfl
      have hfz16_0 := blk_frozen BK245.out 0
      have hfz16_1 := blk_frozen BK245.out 1
      go_wp2
      go_meet
      case rel => exact ⟨_, (false), zd13_4, H', ⟨by have := HJ2.out; first | omega | exact Nat.le_refl _⟩, ⟨by (with_reducible repeat (first | refine blk_drewN ?_ _ | refine blk_drew ?_ | refine blk_alloc ?_ _)); exact BK245.out⟩, ⟨by (with_reducible repeat (first | refine blk_drewN ?_ _ | refine blk_drew ?_ | refine blk_alloc ?_ _)); exact BK246.out⟩, ⟨by repeat (first | (with_reducible first | exact HB.out | apply below_alloc | apply pw_below_drewN | apply below_drew1 | refine below_set ?_ GE245.out | refine below_set ?_ GE246.out) | exact HB.out)⟩⟩
     ·replace c14 := Bool.eq_false_iff.mpr c14
      subst c14
      have H1 : (spec_WideCmp.j1 kj2 a1_0 false l0_1 a1_0 l1_1) = some r := by rw [if_neg (show ¬ (false = true) by decide)] at H; exact H
      clear H
      have H := H1
      clear H1
      have H' := Aside0.mk H
      clear H
      have hnb17 := NB245_246.out
      have hnc17 := NB246_245.out
      have hcz18_0 : wc.cell? ⟨gb245, 0, none⟩ = some (.bool false) := (blk_cell BK245.out 0).trans rfl
      have hcz18_1 : wc.cell? ⟨gb245, 1, none⟩ = some (.slice A0_1 l0_1.length c0_1) := (blk_cell BK245.out 1).trans rfl
      have hfz18_0 := blk_frozen BK245.out 0
      have hfz18_1 := blk_frozen BK245.out 1
      have hcz19_0 : wc.cell? ⟨gb246, 0, none⟩ = some (.bool a1_0) := (blk_cell BK246.out 0).trans rfl
      have hcz19_1 : wc.cell? ⟨gb246, 1, none⟩ = some (.slice A1_1 l1_1.length c1_1) := (blk_cell BK246.out 1).trans rfl
      have hfz19_0 := blk_frozen BK246.out 0
      have hfz19_1 := blk_frozen BK246.out 1
      go_wp2
      go_meet
      case rel => exact ⟨_, (a1_0), zd13_4, H', ⟨by have := HJ2.out; first | omega | exact Nat.le_refl _⟩, ⟨by (with_reducible repeat (first | refine blk_drewN ?_ _ | refine blk_drew ?_ | refine blk_alloc ?_ _)); exact BK245.out⟩, ⟨by (with_reducible repeat (first | refine blk_drewN ?_ _ | refine blk_drew ?_ | refine blk_alloc ?_ _)); exact BK246.out⟩, ⟨by repeat (first | (with_reducible first | exact HB.out | apply below_alloc | apply pw_below_drewN | apply below_drew1 | refine below_set ?_ GE245.out | refine below_set ?_ GE246.out) | exact HB.out)⟩⟩
    case rest =>
     clear HC13
     try clear c1
     try clear p2
     try clear c6
     try clear c7
     try clear c10
     try clear c12
     try clear c14
     try clear c15
     try clear c17
     try clear c18
     try clear hcz11_0
     try clear hcz11_1
     try clear hcz16_0
     try clear hcz16_1
     try clear hcz18_0
     try clear hcz18_1
     try clear hcz19_0
     try clear hcz19_1
     try clear hcz8_0
     try clear hcz8_1
     try clear hcz9_0
     try clear hcz9_1
     try clear hfz11_0
     try clear hfz11_1
     try clear hfz16_0
     try clear hfz16_1
     try clear hfz18_0
     try clear hfz18_1
     try clear hfz19_0
     try clear hfz19_1
     try clear hfz8_0
     try clear hfz8_1
     try clear hfz9_0
     try clear hfz9_1
     try clear p2
     obtain ⟨kq, x13_12, rfl, HA, HJ12, BK245, BK246, HB⟩ := hcut
     cases kq with
     | zero => exact absurd HA.out (by simp [spec_WideCmp.j1])
     | succ kj12 =>
      have H := HA.out
      clear HA
      simp only [spec_WideCmp.j1] at H
      by_cases c20 : x13_12 = true
      ·subst c20
       have H1 : (some 1) = some r := by rw [if_pos rfl] at H; exact H
       clear H
       have H := H1
       clear H1
       obtain rfl := Option.some.inj H
       go_wp2
       go_ret
       exact ⟨by first | rfl | (simp [errW_none, errW_some] <;> rfl) | (simp [*, errW_none, errW_some] <;> rfl), by repeat (first | (with_reducible first | exact HB.out | apply below_alloc | apply pw_below_drewN | apply below_drew1 | refine below_set ?_ GE245.out | refine below_set ?_ GE246.out) | exact HB.out)⟩
      ·replace c20 := Bool.eq_false_iff.mpr c20
       subst c20
       have H1 : (if a0_0 = true then ((spec_magCmp.f kj12 l0_1 l1_1).bind fun t247 => (some (wrap64 (-t247)))) else ((spec_magCmp.f kj12 l0_1 l1_1).bind fun t248 => (some t248))) = some r := by rw [if_neg (show ¬ (false = true) by decide)] at H; exact H
       clear H
       have H := H1
       clear H1
       by_cases c21 : a0_0 = true
       ·subst c21
        have H1 : ((spec_magCmp.f kj12 l0_1 l1_1).bind fun t247 => (some (wrap64 (-t247)))) = some r := by rw [if_pos rfl] at H; exact H
        clear H
        have H := H1
        clear H1
        replace H := Option.bind_eq_some_iff.mp H
        obtain ⟨t247, A220, H⟩ := H
        replace H : (some (wrap64 (-t247))) = some r := H
        have A22 := Aside0.mk A220
        clear A220
        obtain rfl := Option.some.inj H
        have hnb23 := NB245_246.out
        have hnc23 := NB246_245.out
        have hcz24_0 : wc.cell? ⟨gb245, 0, none⟩ = some (.bool true) := (blk_cell BK245.out 0).trans rfl
        have hcz24_1 : wc.cell? ⟨gb245, 1, none⟩ = some (.slice A0_1 l0_1.length c0_1) := (blk_cell BK245.out 1).trans rfl
        have hfz24_0 := blk_frozen BK245.out 0
        have hfz24_1 := blk_frozen BK245.out 1
        have hcz25_0 : wc.cell? ⟨gb246, 0, none⟩ = some (.bool a1_0) := (blk_cell BK246.out 0).trans rfl
        have hcz25_1 : wc.cell? ⟨gb246, 1, none⟩ = some (.slice A1_1 l1_1.length c1_1) := (blk_cell BK246.out 1).trans rfl
        have hfz25_0 := blk_frozen BK246.out 0
        have hfz25_1 := blk_frozen BK246.out 1
        go_wp2_with (first | ((with_reducible refine gate_callee (f := 27) rfl ?_); refine goesL_ (some 28) rfl rfl Tryz.func27 (by kernel_rfl) rfl #[.slice A0_1 l0_1.length c0_1, .slice A1_1 l1_1.length c1_1] rfl zd13_3 ?_; (with_reducible refine (spec_magCmp.calls kj12 _ _ l0_1 _ _ l1_1 t247 _ ?side1 ?side2 ?side3 ?side4 A22.out).mono ?_); (case side1 => repeat (first | exact (Kd.C_below HR0_1.out HB.out) | (with_reducible refine Kd.C_alloc ?_ _) | (with_reducible refine Kd.C_drewN ?_ _) | (with_reducible refine Kd.C_drew ?_))); (case side2 => exact HC0_1.out); (case side3 => repeat (first | exact (Kd.C_below HR1_1.out HB.out) | (with_reducible refine Kd.C_alloc ?_ _) | (with_reducible refine Kd.C_drewN ?_ _) | (with_reducible refine Kd.C_drew ?_))); (case side4 => exact HC1_1.out); rintro e w' ⟨rfl, ⟨nd, rfl⟩⟩; refine ⟨_, rfl, ?_⟩))
        go_ret
        exact ⟨by first | rfl | (simp [errW_none, errW_some] <;> rfl) | (simp [*, errW_none, errW_some] <;> rfl), by repeat (first | (with_reducible first | exact HB.out | apply below_alloc | apply pw_below_drewN | apply below_drew1 | refine below_set ?_ GE245.out | refine below_set ?_ GE246.out) | exact HB.out)⟩
       ·replace c21 := Bool.eq_false_iff.mpr c21
        subst c21
        have H1 : ((spec_magCmp.f kj12 l0_1 l1_1).bind fun t248 => (some t248)) = some r := by rw [if_neg (show ¬ (false = true) by decide)] at H; exact H
        clear H
        have H := H1
        clear H1
        replace H := Option.bind_eq_some_iff.mp H
        obtain ⟨t248, A260, H⟩ := H
        replace H : (some t248) = some r := H
        have A26 := Aside0.mk A260
        clear A260
        obtain rfl := Option.some.inj H
        have hnb27 := NB245_246.out
        have hnc27 := NB246_245.out
        have hcz28_0 : wc.cell? ⟨gb245, 0, none⟩ = some (.bool false) := (blk_cell BK245.out 0).trans rfl
        have hcz28_1 : wc.cell? ⟨gb245, 1, none⟩ = some (.slice A0_1 l0_1.length c0_1) := (blk_cell BK245.out 1).trans rfl
        have hfz28_0 := blk_frozen BK245.out 0
        have hfz28_1 := blk_frozen BK245.out 1
        have hcz29_0 : wc.cell? ⟨gb246, 0, none⟩ = some (.bool a1_0) := (blk_cell BK246.out 0).trans rfl
        have hcz29_1 : wc.cell? ⟨gb246, 1, none⟩ = some (.slice A1_1 l1_1.length c1_1) := (blk_cell BK246.out 1).trans rfl
        have hfz29_0 := blk_frozen BK246.out 0
        have hfz29_1 := blk_frozen BK246.out 1
        go_wp2_with (first | ((with_reducible refine gate_callee (f := 27) rfl ?_); refine goesL_ (some 34) rfl rfl Tryz.func27 (by kernel_rfl) rfl #[.slice A0_1 l0_1.length c0_1, .slice A1_1 l1_1.length c1_1] rfl zd13_3 ?_; (with_reducible refine (spec_magCmp.calls kj12 _ _ l0_1 _ _ l1_1 t248 _ ?side1 ?side2 ?side3 ?side4 A26.out).mono ?_); (case side1 => repeat (first | exact (Kd.C_below HR0_1.out HB.out) | (with_reducible refine Kd.C_alloc ?_ _) | (with_reducible refine Kd.C_drewN ?_ _) | (with_reducible refine Kd.C_drew ?_))); (case side2 => exact HC0_1.out); (case side3 => repeat (first | exact (Kd.C_below HR1_1.out HB.out) | (with_reducible refine Kd.C_alloc ?_ _) | (with_reducible refine Kd.C_drewN ?_ _) | (with_reducible refine Kd.C_drew ?_))); (case side4 => exact HC1_1.out); rintro e w' ⟨rfl, ⟨nd, rfl⟩⟩; refine ⟨_, rfl, ?_⟩))
        go_ret
        exact ⟨by first | rfl | (simp [errW_none, errW_some] <;> rfl) | (simp [*, errW_none, errW_some] <;> rfl), by repeat (first | (with_reducible first | exact HB.out | apply below_alloc | apply pw_below_drewN | apply below_drew1 | refine below_set ?_ GE245.out | refine below_set ?_ GE246.out) | exact HB.out)⟩

end Go.Proofs.YtoaibapjnedhlaaGreat.QAll
