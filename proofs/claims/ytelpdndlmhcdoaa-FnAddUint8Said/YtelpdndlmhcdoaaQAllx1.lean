/- Printed by a program of this session (print2.py) over the kit's print: the functions that a law reaches, over contracts proved by hand. Lean checks it. -/
import Derived.Test.YtelpdndlmhcdoaaQAllx0
namespace Go.Proofs.Ytelpdndlmhcdoaa.QAll
open Go.RowKit Go.Proofs.YtelpdndlmhcdoaaW.PrintWords Go.Proofs.YtelpdndlmhcdoaaW.PrintLast Go.Proofs.YtelpdndlmhcdoaaW.PrintMore
attribute [local go_sem] max2_int min2_int max_two min_two max_three min_three max_four min_four   -- for this text's walks alone
set_option linter.unusedVariables false
set_option linter.unusedSimpArgs false

theorem zz1_0 {p : Prop} (h : p := by first | (with_reducible assumption) | assumption) : p := h
theorem zz1_1 {p : Prop} (h : p := by repeat (first | (with_reducible first | exact HB.out | apply qwA | apply qwN | apply qwD) | exact HB.out)) : p := h
theorem zz1_2 {p : Prop} (h : p := by repeat (first | (with_reducible first | exact HB.out | apply qwA | apply qwN | apply qwD | refine qwS ?_ GE107.out) | exact HB.out)) : p := h
theorem zz1_3 {p : Prop} (h : p := by first | rfl | (simp; done) | (simp [*]; done)) : p := h
theorem zz1_4 {p : Prop} (h : p := by (with_reducible repeat (first | refine qbN ?_ _ | refine qbD ?_ | refine qbA ?_ _)); exact BK107.out) : p := h
theorem zz1_5 {p : Prop} (h : p := by (with_reducible repeat (first | apply qrA | apply qrN | apply qrD)); exact HO_5.out) : p := h
theorem zz1_6 {p : Prop} (h : p := by (with_reducible repeat (first | apply qvA | apply qvN | apply qvD)); exact HO1.out) : p := h
theorem zz1_7 {p : Prop} (h : p := by (try simp only [List.map_toArray, List.map_cons, List.map_nil]); first | done | rfl | (simp only [List.length_drop, List.length_take]; rfl)) : p := h
/-! ### spec_trim: function 42 -/
def spec_trim.l0 : Nat → List Int → Option (List Int)
 | 0, _ => none
 | k + 1, x0 => if (x0.length : Int) > 0 then (if 0 ≤ (wrap64 ((x0.length : Int) - 1)) then (if (wrap64 ((x0.length : Int) - 1)) < (x0.length : Int) then (if (rd x0 (wrap64 ((x0.length : Int) - 1))) = 0 then (if (wrap64 ((x0.length : Int) - 1)) ≤ (x0.length : Int) then (spec_trim.l0 k (x0.take ((wrap64 ((x0.length : Int) - 1)) : Int).toNat)) else (none)) else (some x0)) else (none)) else (none)) else (some x0)
def spec_trim.f (k : Nat) (l0 : List Int) : Option (List Int) := spec_trim.l0 k l0
theorem spec_trim.mono_l : ∀ k, (∀ y0, LeO (spec_trim.l0 k y0) (spec_trim.l0 (k + 1) y0))
 | 0 => fun _ r h => by simp [spec_trim.l0] at h
 | k + 1 => by
  have ih0 := spec_trim.mono_l k
  ·intro y0
   unfold spec_trim.l0
   repeat' first
   | (with_reducible exact ih0 _)
   | (with_reducible exact LeO.refl _)
   | (with_reducible exact LeO.none _)
   | (with_reducible refine LeO.ite ?_ ?_)
   | (with_reducible refine LeO.bind ?_ (fun _ => ?_))
   | exact ih0 _
   | exact LeO.none _
   | refine LeO.ite ?_ ?_
   | refine LeO.bind ?_ (fun _ => ?_)
theorem spec_trim.mono : ∀ a0 k, LeO (spec_trim.f k a0) (spec_trim.f (k + 1) a0) := by
 intro a0 k
 have ih0 := spec_trim.mono_l k
 unfold spec_trim.f
 repeat' first
   | (with_reducible exact ih0 _)
   | (with_reducible exact LeO.refl _)
   | (with_reducible exact LeO.none _)
   | (with_reducible refine LeO.ite ?_ ?_)
   | (with_reducible refine LeO.bind ?_ (fun _ => ?_))
   | exact ih0 _
   | exact LeO.none _
   | refine LeO.ite ?_ ?_
   | refine LeO.bind ?_ (fun _ => ?_)
set_option maxHeartbeats 8000000 in
set_option maxRecDepth 100000 in
theorem spec_trim.calls (k : Nat) (P0_ : Nat → Prop) (A0 : Option Addr) (c0 : Nat) (l0 : List Int) (r : List Int) (w : World) (hs0 : Kd.V (Kd.int .u32) 22 w w.heap.size (fun k_ => P0_ k_) (.slice A0 l0.length c0) l0) (h : spec_trim.f k l0 = some r) :
  Calls Try.prog 42 #[.slice A0 l0.length c0] w fun e w' => ∃ v0_ : Value, e = .returned (v0_) ∧ Kd.V (Kd.int .u32) 22 w' w.heap.size (fun k_ => (P0_ k_ ∨ w.heap.size ≤ k_)) v0_ r ∧ Below w.heap.size w w' := by
 have HO0 := qaM (show Kd.V (Kd.int .u32) 22 w w.heap.size (fun k_ => (P0_ k_ ∨ w.heap.size ≤ k_)) (.slice A0 l0.length c0) l0 from qvM hs0 (fun k_ hk => .inl hk))
 have HB := qaM (Below.refl w.heap.size w)
 have H : (spec_trim.l0 k l0) = some r := h
 clear h
 have H' := qaM H
 clear H
 go_enter Try.func42, Try.ntmps42
 go_wp2
 go_loopg [0] k (fun kq v0 w' => ∃ (x0_1 : List Int), Aside0 (spec_trim.l0 kq x0_1 = some r) ∧ Aside0 (kq ≤ k) ∧ Aside0 (Kd.V (Kd.int .u32) 22 w' w.heap.size (fun k_ => (P0_ k_ ∨ w.heap.size ≤ k_)) v0 x0_1) ∧ Aside0 (Below w.heap.size w w'))
 case atStart => exact ⟨(l0), H', ⟨Nat.le_refl _⟩, ⟨by (with_reducible repeat (first | apply qvA | apply qvN | apply qvD)); exact HO0.out⟩, ⟨by repeat (first | (with_reducible first | exact HB.out | apply qwA | apply qwN | apply qwD) | exact HB.out)⟩⟩
 case round =>
  clear H'
  obtain ⟨x0_1, HA, HK1, HO_0, HB⟩ := hrel
  cases gk with
  | zero => exact absurd HA.out (by simp [spec_trim.l0])
  | succ k1 =>
   have H := HA.out
   clear HA
   simp only [spec_trim.l0] at H
   by_cases c2 : (x0_1.length : Int) > 0
   ·rw [if_pos c2] at H
    have c2b0 : decide (0 < (x0_1.length : Int)) = true := decide_eq_true c2
    have c2b1 : decide (0 < x0_1.length) = true := decide_eq_true (by omega)
    clear c2
    obtain ⟨ji3, hji3⟩ : ∃ j_ : Int, (wrap64 ((x0_1.length : Int) - 1)) = j_ := ⟨_, rfl⟩
    replace H : (if 0 ≤ (ji3) then (if (ji3) < (x0_1.length : Int) then (if (rd x0_1 (ji3)) = 0 then (if (ji3) ≤ (x0_1.length : Int) then (spec_trim.l0 k1 (x0_1.take ((ji3) : Int).toNat)) else (none)) else (some x0_1)) else (none)) else (none)) = some r := by first | (rw [hji3] at H; exact H) | (simp only [hji3] at H ⊢; exact H)
    have hji3w : (IntKind.i64.wrap ((x0_1.length : Int) - 1)) = ji3 := (i64_w _).trans hji3
    by_cases c4 : 0 ≤ (ji3)
    ·rw [if_pos c4] at H
     have c4b0 : decide (0 ≤ (ji3)) = true := decide_eq_true c4
     clear c4
     by_cases c5 : (ji3) < (x0_1.length : Int)
     ·rw [if_pos c5] at H
      have c5b0 : decide ((ji3) < (x0_1.length : Int)) = true := decide_eq_true c5
      clear c5
      by_cases c6 : (rd x0_1 (ji3)) = 0
      ·rw [if_pos c6] at H
       have c6b0 : ((rd x0_1 (ji3)) == 0) = true := beq_iff_eq.mpr c6
       have c6b1 : ((rd x0_1 (ji3)) != 0) = false := bne_eq_false_iff_eq.mpr c6
       clear c6
       have c7b0 := eq_true (qoD zz1_0 : 0 ≤ (ji3))
       by_cases c8 : (ji3) ≤ (x0_1.length : Int)
       ·rw [if_pos c8] at H
        have c8b0 := eq_true c8
        have c8b1 : decide ((ji3) ≤ (x0_1.length : Int)) = true := decide_eq_true c8
        clear c8
        obtain ⟨y102, hy102⟩ : ∃ y_ : List Int, y_ = (x0_1.take ((ji3) : Int).toNat) := ⟨_, rfl⟩
        replace H : (spec_trim.l0 k1 y102) = some r := by first | (rw [hy102]; with_reducible exact H) | (have H2_ := (Option.bind_some _ _).symm.trans H; rw [hy102]; with_reducible exact H2_) | (have H2_ := (Option.bind_some _ _).symm.trans H; with_reducible exact H2_) | with_reducible exact H | (rw [hy102]; exact H) | exact H
        have Ny102 := qaM hy102
        clear hy102
        have H' := qaM H
        clear H
        obtain ⟨Ao9, co9, eo9⟩ := Kd.V_slice HO_0.out
        subst eo9
        have p101 : 0 ≤ ((ji3) : Int) := qoD zz1_0
        have q101 : (ji3) < (x0_1.length : Int) := qoD zz1_0
        obtain ⟨ad101, e101, hx101_0⟩ := Kd.at_int (qvR HO_0.out).2.2 (ji3) p101 q101
        cases e101
        replace p101 := eq_true p101
        replace q101 := eq_true q101
        have q10 : ((ji3) : Int) ≤ ((x0_1.length : Int) : Int) := qoD zz1_0
        obtain ⟨i010, hi010, _, hsz10, _⟩ := info_parts info22
        have hroom10 : x0_1.length ≤ co9 := (qvR HO_0.out).2.1
        have hC10 : Kd.F (Kd.int .u32) _ _ (some ad101) x0_1.length x0_1 := (Kd.V_at (base := w.heap.size) HO_0.out).2.2
        have hcut10 := cut_to (P := Try.prog) 23 22 .i64 Try.underlying23 hi010 (some ad101) x0_1.length co9 (ji3) (qoD zz1_0) q10 hroom10
        have hr10 := Kd.F_take (m := ((ji3) : Int).toNat) hC10 (by omega)
        have hy10 : y102.length = ((ji3) : Int).toNat := (by rw [Ny102.out, List.length_take]; omega)
        rw [← Ny102.out] at hr10
        rw [← hy10] at hcut10
        have HO106 := qaM (show Kd.V (Kd.int .u32) 22 _ w.heap.size _ (.slice (some ad101) y102.length co9) y102 from Kd.V_mk (by omega) hr10)
        have HC106 := qaM (show y102.length ≤ co9 from by omega)
        clear hr10 hC10 hroom10 hi010 hsz10
        have KY10 := qaM hy10
        clear hy10
        replace q10 := eq_true q10
        go_wp2
        go_roundg k1
        case measure => have := HK1.out; omega
        case rel => exact ⟨(y102), H', ⟨by have := HK1.out; omega⟩, ⟨by (with_reducible repeat (first | apply qvA | apply qvN | apply qvD)); exact HO106.out⟩, ⟨by repeat (first | (with_reducible first | exact HB.out | apply qwA | apply qwN | apply qwD) | exact HB.out)⟩⟩
       ·rw [if_neg c8] at H
        exact absurd H (by simp)
      ·rw [if_neg c6] at H
       have c6b0 : ((rd x0_1 (ji3)) == 0) = false := beq_eq_false_iff_ne.mpr c6
       have c6b1 : ((rd x0_1 (ji3)) != 0) = true := bne_iff_ne.mpr c6
       obtain rfl := Option.some.inj H
       obtain ⟨Ao11, co11, eo11⟩ := Kd.V_slice HO_0.out
       subst eo11
       have p101 : 0 ≤ ((ji3) : Int) := qoD zz1_0
       have q101 : (ji3) < (x0_1.length : Int) := qoD zz1_0
       obtain ⟨ad101, e101, hx101_0⟩ := Kd.at_int (qvR HO_0.out).2.2 (ji3) p101 q101
       cases e101
       replace p101 := eq_true p101
       replace q101 := eq_true q101
       go_wp2
       go_ret
       exact ⟨_, by first | rfl | (simp [errW_none, errW_some] <;> rfl) | (simp only [← hji3]; first | rfl | (simp [errW_none, errW_some] <;> rfl)) | (simp [*, errW_none, errW_some] <;> rfl), by (with_reducible repeat (first | apply qvA | apply qvN | apply qvD)); exact HO_0.out, by repeat (first | (with_reducible first | exact HB.out | apply qwA | apply qwN | apply qwD) | exact HB.out)⟩
     ·rw [if_neg c5] at H
      exact absurd H (by simp)
    ·rw [if_neg c4] at H
     exact absurd H (by simp)
   ·rw [if_neg c2] at H
    have c2b0 : decide (0 < (x0_1.length : Int)) = false := decide_eq_false c2
    have c2b1 : decide (0 < x0_1.length) = false := decide_eq_false (by omega)
    clear c2
    obtain rfl := Option.some.inj H
    obtain ⟨Ao12, co12, eo12⟩ := Kd.V_slice HO_0.out
    subst eo12
    go_wp2
    go_ret
    exact ⟨_, by first | rfl | (simp [errW_none, errW_some] <;> rfl) | (simp [*, errW_none, errW_some] <;> rfl), by (with_reducible repeat (first | apply qvA | apply qvN | apply qvD)); exact HO_0.out, by repeat (first | (with_reducible first | exact HB.out | apply qwA | apply qwN | apply qwD) | exact HB.out)⟩

/-! ### spec_wide: function 27 -/
def spec_wide.f (k : Nat) (a0 : Bool) (l1 : List Int) : Option (Bool × List Int) := (spec_trim.f k l1).bind fun t108 => (if a0 = true then (some (decide (0 < t108.length), t108)) else (some (false, t108)))
theorem spec_wide.mono : ∀ a0 a1 k, LeO (spec_wide.f k a0 a1) (spec_wide.f (k + 1) a0 a1) := by
 intro a0 a1 k
 unfold spec_wide.f
 repeat' first
   | (with_reducible exact spec_trim.mono _ _)
   | (with_reducible exact LeO.refl _)
   | (with_reducible exact LeO.none _)
   | (with_reducible refine LeO.ite ?_ ?_)
   | (with_reducible refine LeO.bind ?_ (fun _ => ?_))
   | exact spec_trim.mono _ _
   | exact LeO.none _
   | refine LeO.ite ?_ ?_
   | refine LeO.bind ?_ (fun _ => ?_)
set_option maxHeartbeats 8000000 in
set_option maxRecDepth 100000 in
theorem spec_wide.calls (k : Nat) (a0 : Bool) (P1_ : Nat → Prop) (A1 : Option Addr) (c1 : Nat) (l1 : List Int) (r1 : Bool) (r2 : List Int) (w : World) (hs1 : Kd.V (Kd.int .u32) 22 w w.heap.size (fun k_ => P1_ k_) (.slice A1 l1.length c1) l1) (h : spec_wide.f k a0 l1 = some (r1, r2)) :
  Calls Try.prog 27 #[.bool a0, .slice A1 l1.length c1] w fun e w' => ∃ v1_ : Value, e = .returned (.agg #[.bool r1, v1_]) ∧ Kd.V (Kd.int .u32) 22 w' w.heap.size (fun k_ => (P1_ k_ ∨ w.heap.size ≤ k_)) v1_ r2 ∧ Below w.heap.size w w' := by
 have hu25 := Try.underlying25
 have HO1 := qaM (show Kd.V (Kd.int .u32) 22 w w.heap.size (fun k_ => (P1_ k_ ∨ w.heap.size ≤ k_)) (.slice A1 l1.length c1) l1 from qvM hs1 (fun k_ hk => .inl hk))
 have HB := qaM (Below.refl w.heap.size w)
 have H : ((spec_trim.f k l1).bind fun t108 => (if a0 = true then (some (decide (0 < t108.length), t108)) else (some (false, t108)))) = some (r1, r2) := h
 clear h
 replace H := Option.bind_eq_some_iff.mp H
 obtain ⟨t108, A30, H⟩ := H
 replace H : (if a0 = true then (some (decide (0 < t108.length), t108)) else (some (false, t108))) = some (r1, r2) := H
 have A3 := qaM A30
 clear A30
 by_cases c4 : a0 = true
 ·subst c4
  have H1 : (some (decide (0 < t108.length), t108)) = some (r1, r2) := by rw [if_pos rfl] at H; exact H
  clear H
  have H := H1
  clear H1
  simp only [Option.some.injEq, Prod.mk.injEq] at H
  obtain ⟨rfl, rfl⟩ := H
  go_enter Try.func27, Try.ntmps27
  go_wp2_with (first | ((with_reducible refine gate_dst (N := 4) rfl ?_); refine box_event ?hg (N := 4) ?hd (cs := #[.bool false, .slice none 0 0]) (t := 25) ?hr ?_; (case hd => rfl); (case hg => rfl); (case hr => first | (go_simp; done) | (go_simp; rfl)); intro gb107 hg w5 hbox hb; have n0_ := qaM (qvB (qvE zz1_6 gb107 (Nat.le_of_eq hg.symm)) hb); have n1_ := qaM (qbT zz1_1 hb); have n2_ := qaM (hbox); have n3_ := qaM ((by rw [hg]; exact (qbS zz1_1) : w.heap.size ≤ gb107)); have n4_ := qaM ((by rw [hg]; exact (qbS zz1_1) : w.heap.size ≤ gb107)); clear HO1; clear HB; have HO1 := n0_; have HB := n1_; have BK107 := n2_; have GW107 := n3_; have GE107 := n4_; clear n0_ n1_ n2_ n3_ n4_; clear hb hbox hg) | ((with_reducible refine gate_callee (f := 42) rfl ?_); refine goesL_ (some 6) rfl rfl Try.func42 (by kernel_rfl) rfl #[.slice A1 l1.length c1] rfl zz1_7 ?_; (with_reducible refine (spec_trim.calls k (fun k_ => ((P1_ k_ ∨ w.heap.size ≤ k_) ∧ k_ ≠ gb107)) _ _ l1 t108 _ ?side1 A3.out).mono ?_); (case side1 => exact HO1.out); rintro e w6 ⟨v109, rfl, ho0, hb⟩; refine ⟨_, rfl, ?_⟩; have n0_ := qaM (qvB zz1_6 hb); have n1_ := qaM (qvL (qvM (ok' := fun k_ => (P1_ k_ ∨ w.heap.size ≤ k_) ∧ k_ ≠ gb107) ho0 (fun k_ hk_ => ⟨Or.elim hk_ (fun hs_ => hs_.1) (fun hn_ => (.inr (Nat.le_trans (qbS zz1_2) hn_))), Or.elim hk_ (fun hs_ => hs_.2) (fun hn_ => (qfB (g := gb107) (o := .cells #[.bool false, .slice none 0 0] 25 (0, 0)) zz1_4 k_ hn_))⟩)) (qbS zz1_2)); have n2_ := qaM (qbB (g := gb107) (o := .cells #[.bool false, .slice none 0 0] 25 (0, 0)) zz1_4 hb); have n3_ := qaM (qbT zz1_2 hb); clear HO1; clear BK107; clear HB; have HO1 := n0_; have HO110 := n1_; have BK107 := n2_; have HB := n3_; clear n0_ n1_ n2_ n3_; (try clear hb); (try clear hb2); (try clear hk); (try clear hi); (try clear ho0); obtain ⟨Ao7, co7, eo7⟩ := Kd.V_slice HO110.out; subst eo7; have hcz8_0 : w6.cell? ⟨gb107, 0, none⟩ = some (.bool false) := (qbC BK107.out 0).trans rfl; have hcz8_1 : w6.cell? ⟨gb107, 1, none⟩ = some (.slice none 0 0) := (qbC BK107.out 1).trans rfl; have hfz8_0 := blk_frozen BK107.out 0; have hfz8_1 := blk_frozen BK107.out 1))
  refine bodyPost_ret (results_cell_row rfl _ _ gb107 25 #[.bool (decide (0 < t108.length)), .slice Ao7 t108.length co7] (0, 0) _ rfl (by (with_reducible repeat (first | refine qbN ?_ _ | refine qbD ?_ | refine qbA ?_ _)); refine qbP (cs := #[.bool (decide (0 < t108.length)), .slice none 0 0]) ?_ 1 _ rfl; (with_reducible repeat (first | refine qbN ?_ _ | refine qbD ?_ | refine qbA ?_ _)); refine qbP (cs := #[.bool false, .slice none 0 0]) ?_ 0 _ rfl; (with_reducible repeat (first | refine qbN ?_ _ | refine qbD ?_ | refine qbA ?_ _)); exact BK107.out) Try.underlying25 rfl (by kernel_rfl)) rfl ?_
  exact ⟨_, by first | rfl | (simp [errW_none, errW_some] <;> rfl) | (simp [*, errW_none, errW_some] <;> rfl), by (with_reducible repeat (first | apply qvA | apply qvN | apply qvD)); exact qvM (qvF (p := ⟨gb107, 1, none⟩) (qvF (p := ⟨gb107, 0, none⟩) (qvM HO110.out (fun k_ hk => (⟨hk, hk.2⟩ : _ ∧ k_ ≠ gb107))) (fun _ hk => hk.2) (.bool (decide (0 < t108.length)))) (fun _ hk => hk.2) (.slice Ao7 t108.length co7)) (fun _ hk => hk.1.1), by repeat (first | (with_reducible first | exact HB.out | apply qwA | apply qwN | apply qwD | refine qwS ?_ GE107.out) | exact HB.out)⟩
 ·replace c4 := Bool.eq_false_iff.mpr c4
  subst c4
  have H1 : (some (false, t108)) = some (r1, r2) := by rw [if_neg (show ¬ (false = true) by decide)] at H; exact H
  clear H
  have H := H1
  clear H1
  simp only [Option.some.injEq, Prod.mk.injEq] at H
  obtain ⟨rfl, rfl⟩ := H
  go_enter Try.func27, Try.ntmps27
  go_wp2_with (first | ((with_reducible refine gate_dst (N := 4) rfl ?_); refine box_event ?hg (N := 4) ?hd (cs := #[.bool false, .slice none 0 0]) (t := 25) ?hr ?_; (case hd => rfl); (case hg => rfl); (case hr => first | (go_simp; done) | (go_simp; rfl)); intro gb107 hg w9 hbox hb; have n0_ := qaM (qvB (qvE zz1_6 gb107 (Nat.le_of_eq hg.symm)) hb); have n1_ := qaM (qbT zz1_1 hb); have n2_ := qaM (hbox); have n3_ := qaM ((by rw [hg]; exact (qbS zz1_1) : w.heap.size ≤ gb107)); have n4_ := qaM ((by rw [hg]; exact (qbS zz1_1) : w.heap.size ≤ gb107)); clear HO1; clear HB; have HO1 := n0_; have HB := n1_; have BK107 := n2_; have GW107 := n3_; have GE107 := n4_; clear n0_ n1_ n2_ n3_ n4_; clear hb hbox hg) | ((with_reducible refine gate_callee (f := 42) rfl ?_); refine goesL_ (some 6) rfl rfl Try.func42 (by kernel_rfl) rfl #[.slice A1 l1.length c1] rfl zz1_7 ?_; (with_reducible refine (spec_trim.calls k (fun k_ => ((P1_ k_ ∨ w.heap.size ≤ k_) ∧ k_ ≠ gb107)) _ _ l1 t108 _ ?side1 A3.out).mono ?_); (case side1 => exact HO1.out); rintro e w10 ⟨v109, rfl, ho0, hb⟩; refine ⟨_, rfl, ?_⟩; have n0_ := qaM (qvB zz1_6 hb); have n1_ := qaM (qvL (qvM (ok' := fun k_ => (P1_ k_ ∨ w.heap.size ≤ k_) ∧ k_ ≠ gb107) ho0 (fun k_ hk_ => ⟨Or.elim hk_ (fun hs_ => hs_.1) (fun hn_ => (.inr (Nat.le_trans (qbS zz1_2) hn_))), Or.elim hk_ (fun hs_ => hs_.2) (fun hn_ => (qfB (g := gb107) (o := .cells #[.bool false, .slice none 0 0] 25 (0, 0)) zz1_4 k_ hn_))⟩)) (qbS zz1_2)); have n2_ := qaM (qbB (g := gb107) (o := .cells #[.bool false, .slice none 0 0] 25 (0, 0)) zz1_4 hb); have n3_ := qaM (qbT zz1_2 hb); clear HO1; clear BK107; clear HB; have HO1 := n0_; have HO110 := n1_; have BK107 := n2_; have HB := n3_; clear n0_ n1_ n2_ n3_; (try clear hb); (try clear hb2); (try clear hk); (try clear hi); (try clear ho0); obtain ⟨Ao11, co11, eo11⟩ := Kd.V_slice HO110.out; subst eo11; have hcz12_0 : w10.cell? ⟨gb107, 0, none⟩ = some (.bool false) := (qbC BK107.out 0).trans rfl; have hcz12_1 : w10.cell? ⟨gb107, 1, none⟩ = some (.slice none 0 0) := (qbC BK107.out 1).trans rfl; have hfz12_0 := blk_frozen BK107.out 0; have hfz12_1 := blk_frozen BK107.out 1))
  refine bodyPost_ret (results_cell_row rfl _ _ gb107 25 #[.bool false, .slice Ao11 t108.length co11] (0, 0) _ rfl (by (with_reducible repeat (first | refine qbN ?_ _ | refine qbD ?_ | refine qbA ?_ _)); refine qbP (cs := #[.bool false, .slice none 0 0]) ?_ 1 _ rfl; (with_reducible repeat (first | refine qbN ?_ _ | refine qbD ?_ | refine qbA ?_ _)); refine qbP (cs := #[.bool false, .slice none 0 0]) ?_ 0 _ rfl; (with_reducible repeat (first | refine qbN ?_ _ | refine qbD ?_ | refine qbA ?_ _)); exact BK107.out) Try.underlying25 rfl (by kernel_rfl)) rfl ?_
  exact ⟨_, by first | rfl | (simp [errW_none, errW_some] <;> rfl) | (simp [*, errW_none, errW_some] <;> rfl), by (with_reducible repeat (first | apply qvA | apply qvN | apply qvD)); exact qvM (qvF (p := ⟨gb107, 1, none⟩) (qvF (p := ⟨gb107, 0, none⟩) (qvM HO110.out (fun k_ hk => (⟨hk, hk.2⟩ : _ ∧ k_ ≠ gb107))) (fun _ hk => hk.2) (.bool false)) (fun _ hk => hk.2) (.slice Ao11 t108.length co11)) (fun _ hk => hk.1.1), by repeat (first | (with_reducible first | exact HB.out | apply qwA | apply qwN | apply qwD | refine qwS ?_ GE107.out) | exact HB.out)⟩

/-! ### spec_magAdd: function 28 -/
mutual
def spec_magAdd.l0 : Nat → List Int → List Int → List Int → Int → Int → Option (List Int)
 | 0, _, _, _, _, _ => none
 | k + 1, x0, x1, x5, x6, x7 => if x7 < (x0.length : Int) then (spec_magAdd.j1 k x0 x1 x5 x6 x7 true) else (if x7 < (x1.length : Int) then (spec_magAdd.j1 k x0 x1 x5 x6 x7 true) else (spec_magAdd.j1 k x0 x1 x5 x6 x7 (decide (x6 > 0))))
def spec_magAdd.j1 : Nat → List Int → List Int → List Int → Int → Int → Bool → Option (List Int)
 | 0, _, _, _, _, _, _ => none
 | k + 1, x0, x1, x5, x6, x7, x21 => if x21 = true then (if x7 < (x0.length : Int) then (if 0 ≤ x7 then (if x7 < (x1.length : Int) then (if x5.length < 35184372088832 then (spec_magAdd.l0 k x0 x1 (x5 ++ [(IntKind.u64.wrap ((IntKind.u64.wrap (x6 + (IntKind.u64.wrap (rd x0 x7)))) + (IntKind.u64.wrap (rd x1 x7)))) % 4294967296]) ((IntKind.u64.wrap ((IntKind.u64.wrap (x6 + (IntKind.u64.wrap (rd x0 x7)))) + (IntKind.u64.wrap (rd x1 x7)))) / 4294967296) (wrap64 (x7 + 1))) else (none)) else (if x5.length < 35184372088832 then (spec_magAdd.l0 k x0 x1 (x5 ++ [(IntKind.u64.wrap (x6 + (IntKind.u64.wrap (rd x0 x7)))) % 4294967296]) ((IntKind.u64.wrap (x6 + (IntKind.u64.wrap (rd x0 x7)))) / 4294967296) (wrap64 (x7 + 1))) else (none))) else (none)) else (if x7 < (x1.length : Int) then (if 0 ≤ x7 then (if x5.length < 35184372088832 then (spec_magAdd.l0 k x0 x1 (x5 ++ [(IntKind.u64.wrap (x6 + (IntKind.u64.wrap (rd x1 x7)))) % 4294967296]) ((IntKind.u64.wrap (x6 + (IntKind.u64.wrap (rd x1 x7)))) / 4294967296) (wrap64 (x7 + 1))) else (none)) else (none)) else (if x5.length < 35184372088832 then (spec_magAdd.l0 k x0 x1 (x5 ++ [(x6) % 4294967296]) (x6 / 4294967296) (wrap64 (x7 + 1))) else (none)))) else (some x5)
end
def spec_magAdd.f (k : Nat) (l0 : List Int) (l1 : List Int) : Option (List Int) := spec_magAdd.l0 k l0 l1 ([] : List Int) 0 0
theorem spec_magAdd.mono_l : ∀ k, (∀ y0 y1 y2 y3 y4, LeO (spec_magAdd.l0 k y0 y1 y2 y3 y4) (spec_magAdd.l0 (k + 1) y0 y1 y2 y3 y4)) ∧ (∀ y0 y1 y2 y3 y4 y5, LeO (spec_magAdd.j1 k y0 y1 y2 y3 y4 y5) (spec_magAdd.j1 (k + 1) y0 y1 y2 y3 y4 y5))
 | 0 => ⟨fun _ _ _ _ _ r h => by simp [spec_magAdd.l0] at h, fun _ _ _ _ _ _ r h => by simp [spec_magAdd.j1] at h⟩
 | k + 1 => by
  obtain ⟨ih0, ih1⟩ := spec_magAdd.mono_l k
  refine ⟨?_, ?_⟩
  ·intro y0 y1 y2 y3 y4
   unfold spec_magAdd.l0
   repeat' first
   | (with_reducible exact ih0 _ _ _ _ _)
   | (with_reducible exact ih1 _ _ _ _ _ _)
   | (with_reducible exact LeO.refl _)
   | (with_reducible exact LeO.none _)
   | (with_reducible refine LeO.ite ?_ ?_)
   | (with_reducible refine LeO.bind ?_ (fun _ => ?_))
   | exact ih0 _ _ _ _ _
   | exact ih1 _ _ _ _ _ _
   | exact LeO.none _
   | refine LeO.ite ?_ ?_
   | refine LeO.bind ?_ (fun _ => ?_)
  ·intro y0 y1 y2 y3 y4 y5
   unfold spec_magAdd.j1
   repeat' first
   | (with_reducible exact ih0 _ _ _ _ _)
   | (with_reducible exact ih1 _ _ _ _ _ _)
   | (with_reducible exact LeO.refl _)
   | (with_reducible exact LeO.none _)
   | (with_reducible refine LeO.ite ?_ ?_)
   | (with_reducible refine LeO.bind ?_ (fun _ => ?_))
   | exact ih0 _ _ _ _ _
   | exact ih1 _ _ _ _ _ _
   | exact LeO.none _
   | refine LeO.ite ?_ ?_
   | refine LeO.bind ?_ (fun _ => ?_)
theorem spec_magAdd.mono : ∀ a0 a1 k, LeO (spec_magAdd.f k a0 a1) (spec_magAdd.f (k + 1) a0 a1) := by
 intro a0 a1 k
 obtain ⟨ih0, ih1⟩ := spec_magAdd.mono_l k
 unfold spec_magAdd.f
 repeat' first
   | (with_reducible exact ih0 _ _ _ _ _)
   | (with_reducible exact ih1 _ _ _ _ _ _)
   | (with_reducible exact LeO.refl _)
   | (with_reducible exact LeO.none _)
   | (with_reducible refine LeO.ite ?_ ?_)
   | (with_reducible refine LeO.bind ?_ (fun _ => ?_))
   | exact ih0 _ _ _ _ _
   | exact ih1 _ _ _ _ _ _
   | exact LeO.none _
   | refine LeO.ite ?_ ?_
   | refine LeO.bind ?_ (fun _ => ?_)
set_option maxHeartbeats 8000000 in
set_option maxRecDepth 100000 in
theorem spec_magAdd.calls (k : Nat) (A0 : Option Addr) (c0 : Nat) (l0 : List Int) (A1 : Option Addr) (c1 : Nat) (l1 : List Int) (r : List Int) (w : World) (hr0 : Kd.C (Kd.int .u32) w A0 l0.length l0) (hc0 : l0.length ≤ c0) (hr1 : Kd.C (Kd.int .u32) w A1 l1.length l1) (hc1 : l1.length ≤ c1) (h : spec_magAdd.f k l0 l1 = some r) :
  Calls Try.prog 28 #[.slice A0 l0.length c0, .slice A1 l1.length c1] w fun e w' => ∃ v0_ : Value, e = .returned (v0_) ∧ Kd.R (Kd.int .u32) 22 w' w.heap.size (fun _ => True) v0_ r ∧ Below w.heap.size w w' := by
 have HR0 := qaM hr0
 have HC0 := qaM hc0
 clear hr0 hc0
 have HR1 := qaM hr1
 have HC1 := qaM hc1
 clear hr1 hc1
 have HB := qaM (Below.refl w.heap.size w)
 have H : (spec_magAdd.l0 k l0 l1 ([] : List Int) 0 0) = some r := h
 clear h
 have H' := qaM H
 clear H
 go_enter Try.func28, Try.ntmps28
 go_wp2
 go_loopg [5, 6, 7] k (fun kq v5 v6 v7 w' => ∃ (x5_1 : List Int) (x6_1 : Int) (x7_1 : Int), v6 = .int .u64 x6_1 ∧ v7 = .int .i64 x7_1 ∧ Aside0 (spec_magAdd.l0 kq l0 l1 x5_1 x6_1 x7_1 = some r) ∧ Aside0 (kq ≤ k) ∧ Aside0 (Kd.R (Kd.int .u32) 22 w' w.heap.size (fun _ => True) v5 x5_1) ∧ Aside0 (Below w.heap.size w w'))
 case atStart => exact ⟨(([] : List Int)), (0), (0), zz1_3, zz1_3, H', ⟨Nat.le_refl _⟩, ⟨by first | exact Kd.R_nil _ _ _ _ _ | exact Kd.N_nil _ _ _ _ _ | exact Kd.V_nil _ _ _ _ _ | exact Kd.Q_nil _ _ _ _ _ | exact Kd.S_nil _ _ _ _ _⟩, ⟨by repeat (first | (with_reducible first | exact HB.out | apply qwA | apply qwN | apply qwD) | exact HB.out)⟩⟩
 case round =>
  clear H'
  try clear c1
  try clear c2
  try clear p2
  obtain ⟨x5_1, x6_1, x7_1, rfl, rfl, HA, HK1, HO_5, HB⟩ := hrel
  cases gk with
  | zero => exact absurd HA.out (by simp [spec_magAdd.l0])
  | succ k1 =>
   have H := HA.out
   clear HA
   simp only [spec_magAdd.l0] at H
   have HC3 := qaM H
   clear H
   go_upto_region 4 with (fail)
   go_cut [21] (fun v21 wc => ∃ (kq : Nat) (x21_2 : Bool), v21 = .bool x21_2 ∧ Aside0 (spec_magAdd.j1 kq l0 l1 x5_1 x6_1 x7_1 x21_2 = some r) ∧ Aside0 (kq ≤ k1) ∧ Aside0 (Kd.R (Kd.int .u32) 22 wc w.heap.size (fun _ => True) u5 x5_1) ∧ Aside0 (Below w.heap.size w wc))
   case first =>
    have H := HC3.out
    clear HC3
    by_cases c4 : x7_1 < (l0.length : Int)
    ·rw [if_pos c4] at H
     have c4b0 : decide (x7_1 < (l0.length : Int)) = true := decide_eq_true c4
     clear c4
     (first | rw [c4b0] | (simp only [i64_w, i32_w]; rw [c4b0]) | skip)
     have H' := qaM H
     clear H
     go_wp2
     go_meet
     case rel => exact ⟨_, (true), zz1_3, H', ⟨by have := HK1.out; first | omega | exact Nat.le_refl _⟩, ⟨by (with_reducible repeat (first | apply qrA | apply qrN | apply qrD)); exact HO_5.out⟩, ⟨by repeat (first | (with_reducible first | exact HB.out | apply qwA | apply qwN | apply qwD) | exact HB.out)⟩⟩
    ·rw [if_neg c4] at H
     have c4b0 : decide (x7_1 < (l0.length : Int)) = false := decide_eq_false c4
     clear c4
     (first | rw [c4b0] | (simp only [i64_w, i32_w]; rw [c4b0]) | skip)
     by_cases c5 : x7_1 < (l1.length : Int)
     ·rw [if_pos c5] at H
      have c5b0 : decide (x7_1 < (l1.length : Int)) = true := decide_eq_true c5
      clear c5
      have H' := qaM H
      clear H
      go_wp2
      go_meet
      case rel => exact ⟨_, (true), zz1_3, H', ⟨by have := HK1.out; first | omega | exact Nat.le_refl _⟩, ⟨by (with_reducible repeat (first | apply qrA | apply qrN | apply qrD)); exact HO_5.out⟩, ⟨by repeat (first | (with_reducible first | exact HB.out | apply qwA | apply qwN | apply qwD) | exact HB.out)⟩⟩
     ·rw [if_neg c5] at H
      have c5b0 : decide (x7_1 < (l1.length : Int)) = false := decide_eq_false c5
      clear c5
      have H' := qaM H
      clear H
      go_wp2
      go_meet
      case rel => exact ⟨_, (decide (x6_1 > 0)), zz1_3, H', ⟨by have := HK1.out; first | omega | exact Nat.le_refl _⟩, ⟨by (with_reducible repeat (first | apply qrA | apply qrN | apply qrD)); exact HO_5.out⟩, ⟨by repeat (first | (with_reducible first | exact HB.out | apply qwA | apply qwN | apply qwD) | exact HB.out)⟩⟩
   case rest =>
    clear HC3
    try clear c1
    try clear c2
    try clear p2
    try clear c4
    try clear c4b0
    try clear c5
    try clear c5b0
    try clear p2
    obtain ⟨kq, x21_2, rfl, HA, HJ2, HO_5, HB⟩ := hcut
    cases kq with
    | zero => exact absurd HA.out (by simp [spec_magAdd.j1])
    | succ kj2 =>
     have H := HA.out
     clear HA
     simp only [spec_magAdd.j1] at H
     by_cases c6 : x21_2 = true
     ·subst c6
      have H1 : (if x7_1 < (l0.length : Int) then (if 0 ≤ x7_1 then (if x7_1 < (l1.length : Int) then (if x5_1.length < 35184372088832 then (spec_magAdd.l0 kj2 l0 l1 (x5_1 ++ [(IntKind.u64.wrap ((IntKind.u64.wrap (x6_1 + (IntKind.u64.wrap (rd l0 x7_1)))) + (IntKind.u64.wrap (rd l1 x7_1)))) % 4294967296]) ((IntKind.u64.wrap ((IntKind.u64.wrap (x6_1 + (IntKind.u64.wrap (rd l0 x7_1)))) + (IntKind.u64.wrap (rd l1 x7_1)))) / 4294967296) (wrap64 (x7_1 + 1))) else (none)) else (if x5_1.length < 35184372088832 then (spec_magAdd.l0 kj2 l0 l1 (x5_1 ++ [(IntKind.u64.wrap (x6_1 + (IntKind.u64.wrap (rd l0 x7_1)))) % 4294967296]) ((IntKind.u64.wrap (x6_1 + (IntKind.u64.wrap (rd l0 x7_1)))) / 4294967296) (wrap64 (x7_1 + 1))) else (none))) else (none)) else (if x7_1 < (l1.length : Int) then (if 0 ≤ x7_1 then (if x5_1.length < 35184372088832 then (spec_magAdd.l0 kj2 l0 l1 (x5_1 ++ [(IntKind.u64.wrap (x6_1 + (IntKind.u64.wrap (rd l1 x7_1)))) % 4294967296]) ((IntKind.u64.wrap (x6_1 + (IntKind.u64.wrap (rd l1 x7_1)))) / 4294967296) (wrap64 (x7_1 + 1))) else (none)) else (none)) else (if x5_1.length < 35184372088832 then (spec_magAdd.l0 kj2 l0 l1 (x5_1 ++ [(x6_1) % 4294967296]) (x6_1 / 4294967296) (wrap64 (x7_1 + 1))) else (none)))) = some r := by rw [if_pos rfl] at H; exact H
      clear H
      have H := H1
      clear H1
      by_cases c7 : x7_1 < (l0.length : Int)
      ·rw [if_pos c7] at H
       have c7b0 : decide (x7_1 < (l0.length : Int)) = true := decide_eq_true c7
       clear c7
       by_cases c8 : 0 ≤ x7_1
       ·rw [if_pos c8] at H
        have c8b0 : decide (0 ≤ x7_1) = true := decide_eq_true c8
        clear c8
        by_cases c9 : x7_1 < (l1.length : Int)
        ·rw [if_pos c9] at H
         have c9b0 : decide (x7_1 < (l1.length : Int)) = true := decide_eq_true c9
         clear c9
         by_cases c10 : x5_1.length < 35184372088832
         ·rw [if_pos c10] at H
          have LMc10 := qaM c10
          clear c10
          obtain ⟨y113, hy113⟩ : ∃ y_ : List Int, y_ = (x5_1 ++ [(IntKind.u64.wrap ((IntKind.u64.wrap (x6_1 + (IntKind.u64.wrap (rd l0 x7_1)))) + (IntKind.u64.wrap (rd l1 x7_1)))) % 4294967296]) := ⟨_, rfl⟩
          replace H : (spec_magAdd.l0 kj2 l0 l1 y113 ((IntKind.u64.wrap ((IntKind.u64.wrap (x6_1 + (IntKind.u64.wrap (rd l0 x7_1)))) + (IntKind.u64.wrap (rd l1 x7_1)))) / 4294967296) (wrap64 (x7_1 + 1))) = some r := by first | (rw [hy113]; with_reducible exact H) | (have H2_ := (Option.bind_some _ _).symm.trans H; rw [hy113]; with_reducible exact H2_) | (have H2_ := (Option.bind_some _ _).symm.trans H; with_reducible exact H2_) | with_reducible exact H | (rw [hy113]; exact H) | exact H
          have Ny113 := qaM hy113
          clear hy113
          have H' := qaM H
          clear H
          have p111 : 0 ≤ (x7_1 : Int) := qoD zz1_0
          have q111 : x7_1 < (l0.length : Int) := qoD zz1_0
          obtain ⟨ad111, e111, hx111_0⟩ := Kd.at_int HR0.out x7_1 p111 q111
          cases e111
          replace hx111_0 := (HB.out.cell (World.block_lt_of_cell? w _ hx111_0)).trans hx111_0
          replace p111 := eq_true p111
          replace q111 := eq_true q111
          have p112 : 0 ≤ (x7_1 : Int) := qoD zz1_0
          have q112 : x7_1 < (l1.length : Int) := qoD zz1_0
          obtain ⟨ad112, e112, hx112_0⟩ := Kd.at_int HR1.out x7_1 p112 q112
          cases e112
          replace hx112_0 := (HB.out.cell (World.block_lt_of_cell? w _ hx112_0)).trans hx112_0
          replace p112 := eq_true p112
          replace q112 := eq_true q112
          go_wp2_with (first | ((with_reducible refine gate_builtin (b := .append) (xs := #[.tmp 46, .tmp 49]) rfl ?_); at_builtin; refine Kd.R_append (Kd.int .u32) (w0 := w) w.heap.size rfl (.tmp 46) (.tmp 49) 23 22 (.int .u32 0) 4 rfl Try.underlying23 info22 rfl (by decide) (by omega) u5 x5_1 ((IntKind.u64.wrap ((IntKind.u64.wrap (x6_1 + (IntKind.u64.wrap (rd l0 x7_1)))) + (IntKind.u64.wrap (rd l1 x7_1)))) % 4294967296) [.int .u32 ((IntKind.u64.wrap ((IntKind.u64.wrap (x6_1 + (IntKind.u64.wrap (rd l0 x7_1)))) + (IntKind.u64.wrap (rd l1 x7_1)))) % 4294967296)] (fun _ => True) (fun _ => False) rfl rfl ?aP (fun _ hk => hk.elim) ?aF ?aO ?aB ?aS ?aL ?_; (case aP => exact rfl); (case aB => exact zz1_1); (case aF => exact (fun _ _ => trivial)); (case aO => exact zz1_5); (case aS => exact (qbS zz1_1)); (case aL => have := LMc10.out; omega); intro v114 w11 ho hb hg hat; rw [← Ny113.out] at ho; have n0_ := qaM (hb); have n1_ := qaM (ho); clear HB; clear HO_5; have HB := n0_; have HO115 := n1_; clear n0_ n1_; clear ho hb hg hat))
          go_roundg kj2
          case measure => have := HK1.out; have := HJ2.out; omega
          case rel => exact ⟨(y113), ((IntKind.u64.wrap ((IntKind.u64.wrap (x6_1 + (IntKind.u64.wrap (rd l0 x7_1)))) + (IntKind.u64.wrap (rd l1 x7_1)))) / 4294967296), (wrap64 (x7_1 + 1)), zz1_3, zz1_3, H', ⟨by have := HK1.out; have := HJ2.out; omega⟩, ⟨by (with_reducible repeat (first | apply qrA | apply qrN | apply qrD)); exact HO115.out⟩, ⟨by repeat (first | (with_reducible first | exact HB.out | apply qwA | apply qwN | apply qwD) | exact HB.out)⟩⟩
         ·rw [if_neg c10] at H
          exact absurd H (by simp)
        ·rw [if_neg c9] at H
         have c9b0 : decide (x7_1 < (l1.length : Int)) = false := decide_eq_false c9
         clear c9
         by_cases c12 : x5_1.length < 35184372088832
         ·rw [if_pos c12] at H
          have LMc12 := qaM c12
          clear c12
          obtain ⟨y116, hy116⟩ : ∃ y_ : List Int, y_ = (x5_1 ++ [(IntKind.u64.wrap (x6_1 + (IntKind.u64.wrap (rd l0 x7_1)))) % 4294967296]) := ⟨_, rfl⟩
          replace H : (spec_magAdd.l0 kj2 l0 l1 y116 ((IntKind.u64.wrap (x6_1 + (IntKind.u64.wrap (rd l0 x7_1)))) / 4294967296) (wrap64 (x7_1 + 1))) = some r := by first | (rw [hy116]; with_reducible exact H) | (have H2_ := (Option.bind_some _ _).symm.trans H; rw [hy116]; with_reducible exact H2_) | (have H2_ := (Option.bind_some _ _).symm.trans H; with_reducible exact H2_) | with_reducible exact H | (rw [hy116]; exact H) | exact H
          have Ny116 := qaM hy116
          clear hy116
          have H' := qaM H
          clear H
          have p111 : 0 ≤ (x7_1 : Int) := qoD zz1_0
          have q111 : x7_1 < (l0.length : Int) := qoD zz1_0
          obtain ⟨ad111, e111, hx111_0⟩ := Kd.at_int HR0.out x7_1 p111 q111
          cases e111
          replace hx111_0 := (HB.out.cell (World.block_lt_of_cell? w _ hx111_0)).trans hx111_0
          replace p111 := eq_true p111
          replace q111 := eq_true q111
          go_wp2_with (first | ((with_reducible refine gate_builtin (b := .append) (xs := #[.tmp 46, .tmp 49]) rfl ?_); at_builtin; refine Kd.R_append (Kd.int .u32) (w0 := w) w.heap.size rfl (.tmp 46) (.tmp 49) 23 22 (.int .u32 0) 4 rfl Try.underlying23 info22 rfl (by decide) (by omega) u5 x5_1 ((IntKind.u64.wrap (x6_1 + (IntKind.u64.wrap (rd l0 x7_1)))) % 4294967296) [.int .u32 ((IntKind.u64.wrap (x6_1 + (IntKind.u64.wrap (rd l0 x7_1)))) % 4294967296)] (fun _ => True) (fun _ => False) rfl rfl ?aP (fun _ hk => hk.elim) ?aF ?aO ?aB ?aS ?aL ?_; (case aP => exact rfl); (case aB => exact zz1_1); (case aF => exact (fun _ _ => trivial)); (case aO => exact zz1_5); (case aS => exact (qbS zz1_1)); (case aL => have := LMc12.out; omega); intro v117 w13 ho hb hg hat; rw [← Ny116.out] at ho; have n0_ := qaM (hb); have n1_ := qaM (ho); clear HB; clear HO_5; have HB := n0_; have HO118 := n1_; clear n0_ n1_; clear ho hb hg hat))
          go_roundg kj2
          case measure => have := HK1.out; have := HJ2.out; omega
          case rel => exact ⟨(y116), ((IntKind.u64.wrap (x6_1 + (IntKind.u64.wrap (rd l0 x7_1)))) / 4294967296), (wrap64 (x7_1 + 1)), zz1_3, zz1_3, H', ⟨by have := HK1.out; have := HJ2.out; omega⟩, ⟨by (with_reducible repeat (first | apply qrA | apply qrN | apply qrD)); exact HO118.out⟩, ⟨by repeat (first | (with_reducible first | exact HB.out | apply qwA | apply qwN | apply qwD) | exact HB.out)⟩⟩
         ·rw [if_neg c12] at H
          exact absurd H (by simp)
       ·rw [if_neg c8] at H
        exact absurd H (by simp)
      ·rw [if_neg c7] at H
       have c7b0 : decide (x7_1 < (l0.length : Int)) = false := decide_eq_false c7
       clear c7
       by_cases c14 : x7_1 < (l1.length : Int)
       ·rw [if_pos c14] at H
        have c14b0 : decide (x7_1 < (l1.length : Int)) = true := decide_eq_true c14
        clear c14
        by_cases c15 : 0 ≤ x7_1
        ·rw [if_pos c15] at H
         have c15b0 : decide (0 ≤ x7_1) = true := decide_eq_true c15
         clear c15
         by_cases c16 : x5_1.length < 35184372088832
         ·rw [if_pos c16] at H
          have LMc16 := qaM c16
          clear c16
          obtain ⟨y120, hy120⟩ : ∃ y_ : List Int, y_ = (x5_1 ++ [(IntKind.u64.wrap (x6_1 + (IntKind.u64.wrap (rd l1 x7_1)))) % 4294967296]) := ⟨_, rfl⟩
          replace H : (spec_magAdd.l0 kj2 l0 l1 y120 ((IntKind.u64.wrap (x6_1 + (IntKind.u64.wrap (rd l1 x7_1)))) / 4294967296) (wrap64 (x7_1 + 1))) = some r := by first | (rw [hy120]; with_reducible exact H) | (have H2_ := (Option.bind_some _ _).symm.trans H; rw [hy120]; with_reducible exact H2_) | (have H2_ := (Option.bind_some _ _).symm.trans H; with_reducible exact H2_) | with_reducible exact H | (rw [hy120]; exact H) | exact H
          have Ny120 := qaM hy120
          clear hy120
          have H' := qaM H
          clear H
          have p119 : 0 ≤ (x7_1 : Int) := qoD zz1_0
          have q119 : x7_1 < (l1.length : Int) := qoD zz1_0
          obtain ⟨ad119, e119, hx119_0⟩ := Kd.at_int HR1.out x7_1 p119 q119
          cases e119
          replace hx119_0 := (HB.out.cell (World.block_lt_of_cell? w _ hx119_0)).trans hx119_0
          replace p119 := eq_true p119
          replace q119 := eq_true q119
          go_wp2_with (first | ((with_reducible refine gate_builtin (b := .append) (xs := #[.tmp 46, .tmp 49]) rfl ?_); at_builtin; refine Kd.R_append (Kd.int .u32) (w0 := w) w.heap.size rfl (.tmp 46) (.tmp 49) 23 22 (.int .u32 0) 4 rfl Try.underlying23 info22 rfl (by decide) (by omega) u5 x5_1 ((IntKind.u64.wrap (x6_1 + (IntKind.u64.wrap (rd l1 x7_1)))) % 4294967296) [.int .u32 ((IntKind.u64.wrap (x6_1 + (IntKind.u64.wrap (rd l1 x7_1)))) % 4294967296)] (fun _ => True) (fun _ => False) rfl rfl ?aP (fun _ hk => hk.elim) ?aF ?aO ?aB ?aS ?aL ?_; (case aP => exact rfl); (case aB => exact zz1_1); (case aF => exact (fun _ _ => trivial)); (case aO => exact zz1_5); (case aS => exact (qbS zz1_1)); (case aL => have := LMc16.out; omega); intro v121 w17 ho hb hg hat; rw [← Ny120.out] at ho; have n0_ := qaM (hb); have n1_ := qaM (ho); clear HB; clear HO_5; have HB := n0_; have HO122 := n1_; clear n0_ n1_; clear ho hb hg hat))
          go_roundg kj2
          case measure => have := HK1.out; have := HJ2.out; omega
          case rel => exact ⟨(y120), ((IntKind.u64.wrap (x6_1 + (IntKind.u64.wrap (rd l1 x7_1)))) / 4294967296), (wrap64 (x7_1 + 1)), zz1_3, zz1_3, H', ⟨by have := HK1.out; have := HJ2.out; omega⟩, ⟨by (with_reducible repeat (first | apply qrA | apply qrN | apply qrD)); exact HO122.out⟩, ⟨by repeat (first | (with_reducible first | exact HB.out | apply qwA | apply qwN | apply qwD) | exact HB.out)⟩⟩
         ·rw [if_neg c16] at H
          exact absurd H (by simp)
        ·rw [if_neg c15] at H
         exact absurd H (by simp)
       ·rw [if_neg c14] at H
        have c14b0 : decide (x7_1 < (l1.length : Int)) = false := decide_eq_false c14
        clear c14
        by_cases c18 : x5_1.length < 35184372088832
        ·rw [if_pos c18] at H
         have LMc18 := qaM c18
         clear c18
         obtain ⟨y123, hy123⟩ : ∃ y_ : List Int, y_ = (x5_1 ++ [(x6_1) % 4294967296]) := ⟨_, rfl⟩
         replace H : (spec_magAdd.l0 kj2 l0 l1 y123 (x6_1 / 4294967296) (wrap64 (x7_1 + 1))) = some r := by first | (rw [hy123]; with_reducible exact H) | (have H2_ := (Option.bind_some _ _).symm.trans H; rw [hy123]; with_reducible exact H2_) | (have H2_ := (Option.bind_some _ _).symm.trans H; with_reducible exact H2_) | with_reducible exact H | (rw [hy123]; exact H) | exact H
         have Ny123 := qaM hy123
         clear hy123
         have H' := qaM H
         clear H
         go_wp2_with (first | ((with_reducible refine gate_builtin (b := .append) (xs := #[.tmp 46, .tmp 49]) rfl ?_); at_builtin; refine Kd.R_append (Kd.int .u32) (w0 := w) w.heap.size rfl (.tmp 46) (.tmp 49) 23 22 (.int .u32 0) 4 rfl Try.underlying23 info22 rfl (by decide) (by omega) u5 x5_1 ((x6_1) % 4294967296) [.int .u32 ((x6_1) % 4294967296)] (fun _ => True) (fun _ => False) rfl rfl ?aP (fun _ hk => hk.elim) ?aF ?aO ?aB ?aS ?aL ?_; (case aP => exact rfl); (case aB => exact zz1_1); (case aF => exact (fun _ _ => trivial)); (case aO => exact zz1_5); (case aS => exact (qbS zz1_1)); (case aL => have := LMc18.out; omega); intro v124 w19 ho hb hg hat; rw [← Ny123.out] at ho; have n0_ := qaM (hb); have n1_ := qaM (ho); clear HB; clear HO_5; have HB := n0_; have HO125 := n1_; clear n0_ n1_; clear ho hb hg hat))
         go_roundg kj2
         case measure => have := HK1.out; have := HJ2.out; omega
         case rel => exact ⟨(y123), (x6_1 / 4294967296), (wrap64 (x7_1 + 1)), zz1_3, zz1_3, H', ⟨by have := HK1.out; have := HJ2.out; omega⟩, ⟨by (with_reducible repeat (first | apply qrA | apply qrN | apply qrD)); exact HO125.out⟩, ⟨by repeat (first | (with_reducible first | exact HB.out | apply qwA | apply qwN | apply qwD) | exact HB.out)⟩⟩
        ·rw [if_neg c18] at H
         exact absurd H (by simp)
     ·replace c6 := Bool.eq_false_iff.mpr c6
      subst c6
      have H1 : (some x5_1) = some r := by rw [if_neg (show ¬ (false = true) by decide)] at H; exact H
      clear H
      have H := H1
      clear H1
      obtain rfl := Option.some.inj H
      go_wp2
      go_ret
      exact ⟨_, by first | rfl | (simp [errW_none, errW_some] <;> rfl) | (simp [*, errW_none, errW_some] <;> rfl), by (with_reducible repeat (first | apply qrA | apply qrN | apply qrD)); exact HO_5.out, by repeat (first | (with_reducible first | exact HB.out | apply qwA | apply qwN | apply qwD) | exact HB.out)⟩

/-! ### spec_magCmp: function 29 -/
def spec_magCmp.l0 : Nat → List Int → List Int → Int → Option (Int)
 | 0, _, _, _ => none
 | k + 1, x0, x1, x5 => if x5 ≥ 0 then (if 0 ≤ x5 then (if x5 < (x0.length : Int) then (if x5 < (x1.length : Int) then (if (rd x0 x5) < (rd x1 x5) then (some (-1)) else (if (rd x0 x5) > (rd x1 x5) then (some 1) else (spec_magCmp.l0 k x0 x1 (wrap64 (x5 - 1))))) else (none)) else (none)) else (none)) else (some 0)
def spec_magCmp.f (k : Nat) (l0 : List Int) (l1 : List Int) : Option (Int) := if (l0.length : Int) = (l1.length : Int) then (spec_magCmp.l0 k l0 l1 (wrap64 ((l0.length : Int) - 1))) else (if (l0.length : Int) < (l1.length : Int) then (some (-1)) else (some 1))
theorem spec_magCmp.mono_l : ∀ k, (∀ y0 y1 y2, LeO (spec_magCmp.l0 k y0 y1 y2) (spec_magCmp.l0 (k + 1) y0 y1 y2))
 | 0 => fun _ _ _ r h => by simp [spec_magCmp.l0] at h
 | k + 1 => by
  have ih0 := spec_magCmp.mono_l k
  ·intro y0 y1 y2
   unfold spec_magCmp.l0
   repeat' first
   | (with_reducible exact ih0 _ _ _)
   | (with_reducible exact LeO.refl _)
   | (with_reducible exact LeO.none _)
   | (with_reducible refine LeO.ite ?_ ?_)
   | (with_reducible refine LeO.bind ?_ (fun _ => ?_))
   | exact ih0 _ _ _
   | exact LeO.none _
   | refine LeO.ite ?_ ?_
   | refine LeO.bind ?_ (fun _ => ?_)
theorem spec_magCmp.mono : ∀ a0 a1 k, LeO (spec_magCmp.f k a0 a1) (spec_magCmp.f (k + 1) a0 a1) := by
 intro a0 a1 k
 have ih0 := spec_magCmp.mono_l k
 unfold spec_magCmp.f
 repeat' first
   | (with_reducible exact ih0 _ _ _)
   | (with_reducible exact LeO.refl _)
   | (with_reducible exact LeO.none _)
   | (with_reducible refine LeO.ite ?_ ?_)
   | (with_reducible refine LeO.bind ?_ (fun _ => ?_))
   | exact ih0 _ _ _
   | exact LeO.none _
   | refine LeO.ite ?_ ?_
   | refine LeO.bind ?_ (fun _ => ?_)
set_option maxHeartbeats 8000000 in
set_option maxRecDepth 100000 in
theorem spec_magCmp.calls (k : Nat) (A0 : Option Addr) (c0 : Nat) (l0 : List Int) (A1 : Option Addr) (c1 : Nat) (l1 : List Int) (r : Int) (w : World) (hr0 : Kd.C (Kd.int .u32) w A0 l0.length l0) (hc0 : l0.length ≤ c0) (hr1 : Kd.C (Kd.int .u32) w A1 l1.length l1) (hc1 : l1.length ≤ c1) (h : spec_magCmp.f k l0 l1 = some r) :
  Calls Try.prog 29 #[.slice A0 l0.length c0, .slice A1 l1.length c1] w fun e w' => e = .returned (.int .i64 r) ∧ Drawn0 w w' := by
 have HR0 := qaM hr0
 have HC0 := qaM hc0
 clear hr0 hc0
 have HR1 := qaM hr1
 have HC1 := qaM hc1
 clear hr1 hc1
 have H : (if (l0.length : Int) = (l1.length : Int) then (spec_magCmp.l0 k l0 l1 (wrap64 ((l0.length : Int) - 1))) else (if (l0.length : Int) < (l1.length : Int) then (some (-1)) else (some 1))) = some r := h
 clear h
 by_cases c3 : (l0.length : Int) = (l1.length : Int)
 ·rw [if_pos c3] at H
  have c3b0 : ((l0.length : Int) == (l1.length : Int)) = true := beq_iff_eq.mpr c3
  have c3b1 : ((l0.length : Int) != (l1.length : Int)) = false := bne_eq_false_iff_eq.mpr c3
  have c3b2 : (l0.length == l1.length) = true := by first | simpa using c3 | (simp at c3 ⊢; omega)
  clear c3
  have H' := qaM H
  clear H
  go_enter Try.func29, Try.ntmps29
  go_wp2
  repeat (go_quiet (fail); try go_wp2)
  go_loopg [5] k (fun kq v5 w' => ∃ (x5_1 : Int), v5 = .int .i64 x5_1 ∧ Aside0 (spec_magCmp.l0 kq l0 l1 x5_1 = some r) ∧ Aside0 (kq ≤ k) ∧ Drawn0 w w')
  case atStart => exact ⟨(wrap64 ((l0.length : Int) - 1)), zz1_3, H', ⟨Nat.le_refl _⟩, by repeat (first | exact Drawn0.refl _ | apply Drawn0.step)⟩
  case round =>
   clear H'
   try clear c1
   try clear c2
   try clear p2
   try clear c3
   try clear c3b0
   try clear c3b1
   try clear c3b2
   obtain ⟨x5_1, rfl, HA, HK1, ⟨m1, rfl⟩⟩ := hrel
   cases gk with
   | zero => exact absurd HA.out (by simp [spec_magCmp.l0])
   | succ k1 =>
    have H := HA.out
    clear HA
    simp only [spec_magCmp.l0] at H
    by_cases c4 : x5_1 ≥ 0
    ·rw [if_pos c4] at H
     have c4b0 : decide (0 ≤ x5_1) = true := decide_eq_true c4
     clear c4
     by_cases c5 : 0 ≤ x5_1
     ·rw [if_pos c5] at H
      have c5b0 : decide (0 ≤ x5_1) = true := decide_eq_true c5
      clear c5
      by_cases c6 : x5_1 < (l0.length : Int)
      ·rw [if_pos c6] at H
       have c6b0 : decide (x5_1 < (l0.length : Int)) = true := decide_eq_true c6
       clear c6
       by_cases c7 : x5_1 < (l1.length : Int)
       ·rw [if_pos c7] at H
        have c7b0 : decide (x5_1 < (l1.length : Int)) = true := decide_eq_true c7
        clear c7
        by_cases c8 : (rd l0 x5_1) < (rd l1 x5_1)
        ·rw [if_pos c8] at H
         have c8b0 : decide ((rd l0 x5_1) < (rd l1 x5_1)) = true := decide_eq_true c8
         clear c8
         obtain rfl := Option.some.inj H
         have p126 : 0 ≤ (x5_1 : Int) := qoD zz1_0
         have q126 : x5_1 < (l0.length : Int) := qoD zz1_0
         obtain ⟨ad126, e126, hx126_0⟩ := Kd.at_int HR0.out x5_1 p126 q126
         cases e126
         replace p126 := eq_true p126
         replace q126 := eq_true q126
         have p127 : 0 ≤ (x5_1 : Int) := qoD zz1_0
         have q127 : x5_1 < (l1.length : Int) := qoD zz1_0
         obtain ⟨ad127, e127, hx127_0⟩ := Kd.at_int HR1.out x5_1 p127 q127
         cases e127
         replace p127 := eq_true p127
         replace q127 := eq_true q127
         go_wp2
         repeat (go_quiet (fail); try go_wp2)
         go_ret
         exact ⟨by first | rfl | (simp; done) | (simp [*]; done), by repeat (first | exact Drawn0.refl _ | apply Drawn0.step)⟩
        ·rw [if_neg c8] at H
         have c8b0 : decide ((rd l0 x5_1) < (rd l1 x5_1)) = false := decide_eq_false c8
         clear c8
         by_cases c9 : (rd l0 x5_1) > (rd l1 x5_1)
         ·rw [if_pos c9] at H
          have c9b0 : decide ((rd l1 x5_1) < (rd l0 x5_1)) = true := decide_eq_true c9
          clear c9
          obtain rfl := Option.some.inj H
          have p126 : 0 ≤ (x5_1 : Int) := qoD zz1_0
          have q126 : x5_1 < (l0.length : Int) := qoD zz1_0
          obtain ⟨ad126, e126, hx126_0⟩ := Kd.at_int HR0.out x5_1 p126 q126
          cases e126
          replace p126 := eq_true p126
          replace q126 := eq_true q126
          have p127 : 0 ≤ (x5_1 : Int) := qoD zz1_0
          have q127 : x5_1 < (l1.length : Int) := qoD zz1_0
          obtain ⟨ad127, e127, hx127_0⟩ := Kd.at_int HR1.out x5_1 p127 q127
          cases e127
          replace p127 := eq_true p127
          replace q127 := eq_true q127
          have p128 : 0 ≤ (x5_1 : Int) := qoD zz1_0
          have q128 : x5_1 < (l0.length : Int) := qoD zz1_0
          obtain ⟨ad128, e128, hx128_0⟩ := Kd.at_int HR0.out x5_1 p128 q128
          obtain rfl : ad126 = ad128 := (by injection e128)
          replace p128 := eq_true p128
          replace q128 := eq_true q128
          have p129 : 0 ≤ (x5_1 : Int) := qoD zz1_0
          have q129 : x5_1 < (l1.length : Int) := qoD zz1_0
          obtain ⟨ad129, e129, hx129_0⟩ := Kd.at_int HR1.out x5_1 p129 q129
          obtain rfl : ad127 = ad129 := (by injection e129)
          replace p129 := eq_true p129
          replace q129 := eq_true q129
          go_wp2
          repeat (go_quiet (fail); try go_wp2)
          go_ret
          exact ⟨by first | rfl | (simp; done) | (simp [*]; done), by repeat (first | exact Drawn0.refl _ | apply Drawn0.step)⟩
         ·rw [if_neg c9] at H
          have c9b0 : decide ((rd l1 x5_1) < (rd l0 x5_1)) = false := decide_eq_false c9
          clear c9
          have H' := qaM H
          clear H
          have p126 : 0 ≤ (x5_1 : Int) := qoD zz1_0
          have q126 : x5_1 < (l0.length : Int) := qoD zz1_0
          obtain ⟨ad126, e126, hx126_0⟩ := Kd.at_int HR0.out x5_1 p126 q126
          cases e126
          replace p126 := eq_true p126
          replace q126 := eq_true q126
          have p127 : 0 ≤ (x5_1 : Int) := qoD zz1_0
          have q127 : x5_1 < (l1.length : Int) := qoD zz1_0
          obtain ⟨ad127, e127, hx127_0⟩ := Kd.at_int HR1.out x5_1 p127 q127
          cases e127
          replace p127 := eq_true p127
          replace q127 := eq_true q127
          have p128 : 0 ≤ (x5_1 : Int) := qoD zz1_0
          have q128 : x5_1 < (l0.length : Int) := qoD zz1_0
          obtain ⟨ad128, e128, hx128_0⟩ := Kd.at_int HR0.out x5_1 p128 q128
          obtain rfl : ad126 = ad128 := (by injection e128)
          replace p128 := eq_true p128
          replace q128 := eq_true q128
          have p129 : 0 ≤ (x5_1 : Int) := qoD zz1_0
          have q129 : x5_1 < (l1.length : Int) := qoD zz1_0
          obtain ⟨ad129, e129, hx129_0⟩ := Kd.at_int HR1.out x5_1 p129 q129
          obtain rfl : ad127 = ad129 := (by injection e129)
          replace p129 := eq_true p129
          replace q129 := eq_true q129
          go_wp2
          repeat (go_quiet (fail); try go_wp2)
          go_roundg k1
          case measure => have := HK1.out; omega
          case rel => exact ⟨(wrap64 (x5_1 - 1)), zz1_3, H', ⟨by have := HK1.out; omega⟩, by repeat (first | exact Drawn0.refl _ | apply Drawn0.step)⟩
       ·rw [if_neg c7] at H
        exact absurd H (by simp)
      ·rw [if_neg c6] at H
       exact absurd H (by simp)
     ·rw [if_neg c5] at H
      exact absurd H (by simp)
    ·rw [if_neg c4] at H
     have c4b0 : decide (0 ≤ x5_1) = false := decide_eq_false c4
     clear c4
     obtain rfl := Option.some.inj H
     go_wp2
     repeat (go_quiet (fail); try go_wp2)
     go_ret
     exact ⟨by first | rfl | (simp; done) | (simp [*]; done), by repeat (first | exact Drawn0.refl _ | apply Drawn0.step)⟩
 ·rw [if_neg c3] at H
  have c3b0 : ((l0.length : Int) == (l1.length : Int)) = false := beq_eq_false_iff_ne.mpr c3
  have c3b1 : ((l0.length : Int) != (l1.length : Int)) = true := bne_iff_ne.mpr c3
  have c3b2 : (l0.length == l1.length) = false := by first | simpa using c3 | (simp at c3 ⊢; omega)
  by_cases c10 : (l0.length : Int) < (l1.length : Int)
  ·rw [if_pos c10] at H
   have c10b0 : decide ((l0.length : Int) < (l1.length : Int)) = true := decide_eq_true c10
   have c10b1 : decide (l0.length < l1.length) = true := decide_eq_true (Int.ofNat_lt.mp c10)
   clear c10
   obtain rfl := Option.some.inj H
   go_enter Try.func29, Try.ntmps29
   go_wp2
   repeat (go_quiet (fail); try go_wp2)
   go_ret
   exact ⟨by first | rfl | (simp; done) | (simp [*]; done), by repeat (first | exact Drawn0.refl _ | apply Drawn0.step)⟩
  ·rw [if_neg c10] at H
   have c10b0 : decide ((l0.length : Int) < (l1.length : Int)) = false := decide_eq_false c10
   have c10b1 : decide (l0.length < l1.length) = false := decide_eq_false (fun h => c10 (Int.ofNat_lt.mpr h))
   clear c10
   obtain rfl := Option.some.inj H
   go_enter Try.func29, Try.ntmps29
   go_wp2
   repeat (go_quiet (fail); try go_wp2)
   go_ret
   exact ⟨by first | rfl | (simp; done) | (simp [*]; done), by repeat (first | exact Drawn0.refl _ | apply Drawn0.step)⟩

end Go.Proofs.Ytelpdndlmhcdoaa.QAll
