/- Printed by a program of this session (print2.py) over the kit's print: the functions that a law reaches, over contracts proved by hand. Lean checks it. -/
import Derived.Test.YtoaibapjnedhlaaGreatQAllx0
import Derived.Test.YtoaibapjnedhlaaGreatQAllx2
namespace Go.Proofs.YtoaibapjnedhlaaGreat.QAll
open Go.RowKit Go.Proofs.YtoaibapjnedhlaaGreatW.PrintWords Go.Proofs.YtoaibapjnedhlaaGreatW.PrintLast Go.Proofs.YtoaibapjnedhlaaGreatW.PrintMore
attribute [local go_sem] max2_int min2_int max_two min_two max_three min_three max_four min_four   -- for this text's walks alone
set_option linter.unusedVariables false
set_option linter.unusedSimpArgs false

theorem zd8_0 {p : Prop} (h : p := by first | (with_reducible assumption) | assumption) : p := h
theorem zd8_1 {p : Prop} (h : p := by repeat (first | (with_reducible first | exact HB.out | apply qwA | apply qwN | apply qwD) | exact HB.out)) : p := h
theorem zd8_2 {p : Prop} (h : p := by first | rfl | (simp; done) | (simp [*]; done)) : p := h
/-! ### spec_magSub: function 54 -/
def spec_magSub.l0 : Nat → List Int → List Int → Int → Int → Int → Option (List Int)
 | 0, _, _, _, _, _ => none
 | k + 1, x1, x5, x6, x13, x14 => if x14 < x13 then (if 0 ≤ x14 then (if x14 < (x5.length : Int) then (if x14 < (x1.length : Int) then (if (wrap64 ((wrap64 ((wrap64 (rd x5 x14)) - x6)) - (wrap64 (rd x1 x14)))) < 0 then (spec_magSub.l0 k x1 (x5.set (x14 : Int).toNat ((wrap64 ((wrap64 ((wrap64 ((wrap64 (rd x5 x14)) - x6)) - (wrap64 (rd x1 x14)))) + 4294967296)) % 4294967296)) 1 x13 (wrap64 (x14 + 1))) else (spec_magSub.l0 k x1 (x5.set (x14 : Int).toNat ((wrap64 ((wrap64 ((wrap64 (rd x5 x14)) - x6)) - (wrap64 (rd x1 x14)))) % 4294967296)) 0 x13 (wrap64 (x14 + 1)))) else (if (wrap64 ((wrap64 (rd x5 x14)) - x6)) < 0 then (spec_magSub.l0 k x1 (x5.set (x14 : Int).toNat ((wrap64 ((wrap64 ((wrap64 (rd x5 x14)) - x6)) + 4294967296)) % 4294967296)) 1 x13 (wrap64 (x14 + 1))) else (spec_magSub.l0 k x1 (x5.set (x14 : Int).toNat ((wrap64 ((wrap64 (rd x5 x14)) - x6)) % 4294967296)) 0 x13 (wrap64 (x14 + 1))))) else (none)) else (none)) else ((spec_trim.f k x5).bind fun t151 => (some t151))
def spec_magSub.f (k : Nat) (l0 : List Int) (l1 : List Int) : Option (List Int) := (some (([] : List Int) : List Int)).bind fun y145 => (if y145.length + l0.length < 35184372088832 then ((some (y145 ++ l0 : List Int)).bind fun y148 => (spec_magSub.l0 k l1 y148 0 (y148.length : Int) 0)) else (none))
theorem spec_magSub.mono_l : ∀ k, (∀ y0 y1 y2 y3 y4, LeO (spec_magSub.l0 k y0 y1 y2 y3 y4) (spec_magSub.l0 (k + 1) y0 y1 y2 y3 y4))
 | 0 => fun _ _ _ _ _ r h => by simp [spec_magSub.l0] at h
 | k + 1 => by
  have ih0 := spec_magSub.mono_l k
  ·intro y0 y1 y2 y3 y4
   unfold spec_magSub.l0
   repeat' first
   | (with_reducible exact ih0 _ _ _ _ _)
   | (with_reducible exact spec_trim.mono _ _)
   | (with_reducible exact LeO.refl _)
   | (with_reducible exact LeO.none _)
   | (with_reducible refine LeO.ite ?_ ?_)
   | (with_reducible refine LeO.bind ?_ (fun _ => ?_))
   | exact ih0 _ _ _ _ _
   | exact spec_trim.mono _ _
   | exact LeO.none _
   | refine LeO.ite ?_ ?_
   | refine LeO.bind ?_ (fun _ => ?_)
theorem spec_magSub.mono : ∀ a0 a1 k, LeO (spec_magSub.f k a0 a1) (spec_magSub.f (k + 1) a0 a1) := by
 intro a0 a1 k
 have ih0 := spec_magSub.mono_l k
 unfold spec_magSub.f
 repeat' first
   | (with_reducible exact ih0 _ _ _ _ _)
   | (with_reducible exact spec_trim.mono _ _)
   | (with_reducible exact LeO.refl _)
   | (with_reducible exact LeO.none _)
   | (with_reducible refine LeO.ite ?_ ?_)
   | (with_reducible refine LeO.bind ?_ (fun _ => ?_))
   | exact ih0 _ _ _ _ _
   | exact spec_trim.mono _ _
   | exact LeO.none _
   | refine LeO.ite ?_ ?_
   | refine LeO.bind ?_ (fun _ => ?_)
set_option maxHeartbeats 8000000 in
set_option maxRecDepth 100000 in
theorem spec_magSub.calls (k : Nat) (A0 : Option Addr) (c0 : Nat) (l0 : List Int) (A1 : Option Addr) (c1 : Nat) (l1 : List Int) (r : List Int) (w : World) (hr0 : Kd.C (Kd.int .u32) w A0 l0.length l0) (hc0 : l0.length ≤ c0) (hr1 : Kd.C (Kd.int .u32) w A1 l1.length l1) (hc1 : l1.length ≤ c1) (h : spec_magSub.f k l0 l1 = some r) :
  Calls Tryz.prog 54 #[.slice A0 l0.length c0, .slice A1 l1.length c1] w fun e w' => ∃ v0_ : Value, e = .returned (v0_) ∧ Kd.V (Kd.int .u32) 104 w' w.heap.size (fun k_ => (w.heap.size ≤ k_)) v0_ r ∧ Below w.heap.size w w' := by
 have HR0 := qaM hr0
 have HC0 := qaM hc0
 clear hr0 hc0
 have HR1 := qaM hr1
 have HC1 := qaM hc1
 clear hr1 hc1
 have HB := qaM (Below.refl w.heap.size w)
 have H : ((some (([] : List Int) : List Int)).bind fun y145 => (if y145.length + l0.length < 35184372088832 then ((some (y145 ++ l0 : List Int)).bind fun y148 => (spec_magSub.l0 k l1 y148 0 (y148.length : Int) 0)) else (none))) = some r := h
 clear h
 obtain ⟨y145, hy145⟩ : ∃ y_ : List Int, y_ = (([] : List Int)) := ⟨_, rfl⟩
 replace H : (if y145.length + l0.length < 35184372088832 then ((some (y145 ++ l0 : List Int)).bind fun y148 => (spec_magSub.l0 k l1 y148 0 (y148.length : Int) 0)) else (none)) = some r := by first | (rw [hy145]; with_reducible exact H) | (have H2_ := (Option.bind_some _ _).symm.trans H; rw [hy145]; with_reducible exact H2_) | (have H2_ := (Option.bind_some _ _).symm.trans H; with_reducible exact H2_) | with_reducible exact H | (rw [hy145]; exact H) | exact H
 have Ny145 := qaM hy145
 clear hy145
 by_cases c3 : y145.length + l0.length < 35184372088832
 ·rw [if_pos c3] at H
  have LMc3 := qaM c3
  clear c3
  obtain ⟨y148, hy148⟩ : ∃ y_ : List Int, y_ = (y145 ++ l0) := ⟨_, rfl⟩
  replace H : (spec_magSub.l0 k l1 y148 0 (y148.length : Int) 0) = some r := by first | (rw [hy148]; with_reducible exact H) | (have H2_ := (Option.bind_some _ _).symm.trans H; rw [hy148]; with_reducible exact H2_) | (have H2_ := (Option.bind_some _ _).symm.trans H; with_reducible exact H2_) | with_reducible exact H | (rw [hy148]; exact H) | exact H
  have Ny148 := qaM hy148
  clear hy148
  have H' := qaM H
  clear H
  go_enter Tryz.func54, Tryz.ntmps54
  go_wp2_with (first | ((with_reducible refine gate_dst (N := 9) rfl ?_); refine Kd.R_lit (Kd.int .u32) _ 104 ?hg (N := 9) ?hd (xs := ([] : List Int)) (inner := []) (ok := fun _ => True) (okp := fun _ => True) ?hr ?hp (fun _ hk => hk) trivial (Below.refl _ _) (Nat.le_refl _) (by simp) ?_; (case hd => rfl); (case hg => rfl); (case hr => first | (go_simp; done) | (go_simp; rfl)); (case hp => exact (Reps.none _ _)); intro v146 w4 ho5 hb hg_ hnew_; clear hg_ hnew_; (first | rw [← Ny145.out] at ho5 | (simp only [Int.reduceToNat] at ho5; rw [← Ny145.out] at ho5)); have n0_ := qaM (Kd.R_lower (Kd.R_newM (M := fun k_ => (w.heap.size ≤ k_)) ho5 (qbS zd8_1) (fun k_ h_ => h_)) (qbS zd8_1)); have n1_ := qaM (qbT zd8_1 hb); clear HB; have HO147 := n0_; have HB := n1_; clear n0_ n1_; clear hb ho5) | ((with_reducible refine gate_builtin (b := .append) (xs := #[.tmp 9, .tmp 10]) rfl ?_); at_builtin; refine Kd.R_append_rows (Kd.int .u32) (w0 := w) w.heap.size rfl (.tmp 9) (.tmp 10) 25 104 (.int .u32 0) 4 rfl Tryz.underlying25 info104 rfl (by decide) (by omega) v146 y145 l0 _ _ _ (fun k_ => (w.heap.size ≤ k_)) (fun _ => False) rfl rfl ?aO ?aR (fun _ _ h => h) (fun _ h => h.elim) ?aF ?aB ?aS ?aL ?_; (case aR => repeat (first | exact (Kd.C_below HR0.out HB.out) | (with_reducible refine Kd.C_alloc ?_ _) | (with_reducible refine Kd.C_drewN ?_ _) | (with_reducible refine Kd.C_drew ?_))); (case aB => exact zd8_1); (case aF => exact (fun k_ hk => (Nat.le_trans (qbS zd8_1) hk))); (case aO => exact (by (with_reducible repeat (first | apply qrA | apply qrN | apply qrD)); exact qrM HO147.out (fun _ hk => hk.1))); (case aS => exact (qbS zd8_1)); (case aL => have := LMc3.out; omega); intro v149 w6 ho hb hg hat; rw [← Ny148.out] at ho; have n0_ := qaM (hb); have n1_ := qaM (ho); clear HB; clear HO147; have HB := n0_; have HO150 := n1_; clear n0_ n1_; clear ho hb hg hat; obtain ⟨Ao7, co7, eo7⟩ := Kd.R_slice HO150.out; subst eo7))
  go_loopg [6, 14] k (fun kq v6 v14 w' => ∃ (x5_1 : List Int) (x6_1 : Int) (x14_1 : Int), v6 = .int .i64 x6_1 ∧ v14 = .int .i64 x14_1 ∧ Aside0 (spec_magSub.l0 kq l1 x5_1 x6_1 (y148.length : Int) x14_1 = some r) ∧ Aside0 (kq ≤ k) ∧ Aside0 (Kd.R (Kd.int .u32) 104 w' w.heap.size (fun k_ => (w.heap.size ≤ k_)) (.slice Ao7 y148.length co7) x5_1) ∧ Aside0 (Below w.heap.size w w'))
  case atStart => exact ⟨(y148), (0), (0), zd8_2, zd8_2, H', ⟨Nat.le_refl _⟩, ⟨by (with_reducible repeat (first | apply qrA | apply qrN | apply qrD)); exact HO150.out⟩, ⟨by repeat (first | (with_reducible first | exact HB.out | apply qwA | apply qwN | apply qwD) | exact HB.out)⟩⟩
  case round =>
   clear H'
   try clear c1
   try clear p2
   try clear c3
   try clear c5
   obtain ⟨x5_1, x6_1, x14_1, rfl, rfl, HA, HK1, HO_5, HB⟩ := hrel
   have hl5_1 := (qrR HO_5.out).1
   rw [hl5_1] at HO_5
   (try simp only [hl5_1])
   cases gk with
   | zero => exact absurd HA.out (by simp [spec_magSub.l0])
   | succ k1 =>
    have H := HA.out
    clear HA
    simp only [spec_magSub.l0] at H
    by_cases c8 : x14_1 < (y148.length : Int)
    ·rw [if_pos c8] at H
     have c8b0 : decide (x14_1 < (y148.length : Int)) = true := decide_eq_true c8
     have c8b0h := c8b0
     (try simp only [hl5_1] at c8b0h)
     clear c8
     by_cases c9 : 0 ≤ x14_1
     ·rw [if_pos c9] at H
      have c9b0 : decide (0 ≤ x14_1) = true := decide_eq_true c9
      clear c9
      by_cases c10 : x14_1 < (x5_1.length : Int)
      ·rw [if_pos c10] at H
       have c10b0 : decide (x14_1 < (x5_1.length : Int)) = true := decide_eq_true c10
       have c10b0h := c10b0
       (try simp only [hl5_1] at c10b0h)
       clear c10
       by_cases c11 : x14_1 < (l1.length : Int)
       ·rw [if_pos c11] at H
        have c11b0 : decide (x14_1 < (l1.length : Int)) = true := decide_eq_true c11
        have c11b0h := c11b0
        (try simp only [hl5_1] at c11b0h)
        clear c11
        by_cases c12 : (wrap64 ((wrap64 ((wrap64 (rd x5_1 x14_1)) - x6_1)) - (wrap64 (rd l1 x14_1)))) < 0
        ·rw [if_pos c12] at H
         have c12b0 : decide ((wrap64 ((wrap64 ((wrap64 (rd x5_1 x14_1)) - x6_1)) - (wrap64 (rd l1 x14_1)))) < 0) = true := decide_eq_true c12
         clear c12
         obtain ⟨y156, hy156⟩ : ∃ y_ : List Int, y_ = (x5_1.set (x14_1 : Int).toNat ((wrap64 ((wrap64 ((wrap64 ((wrap64 (rd x5_1 x14_1)) - x6_1)) - (wrap64 (rd l1 x14_1)))) + 4294967296)) % 4294967296)) := ⟨_, rfl⟩
         replace H : (spec_magSub.l0 k1 l1 y156 1 (y148.length : Int) (wrap64 (x14_1 + 1))) = some r := by first | (rw [hy156]; with_reducible exact H) | (have H2_ := (Option.bind_some _ _).symm.trans H; rw [hy156]; with_reducible exact H2_) | (have H2_ := (Option.bind_some _ _).symm.trans H; with_reducible exact H2_) | with_reducible exact H | (rw [hy156]; exact H) | exact H
         have Ny156 := qaM hy156
         clear hy156
         have H' := qaM H
         clear H
         have p154 : 0 ≤ (x14_1 : Int) := qoD zd8_0
         have q154 : x14_1 < (x5_1.length : Int) := qoD zd8_0
         obtain ⟨ad154, e154, hx154_0⟩ := Kd.at_int (qrR HO_5.out).2.2 x14_1 p154 q154
         cases e154
         replace p154 := eq_true p154
         replace q154 := eq_true q154
         have p155 : 0 ≤ (x14_1 : Int) := qoD zd8_0
         have q155 : x14_1 < (l1.length : Int) := qoD zd8_0
         obtain ⟨ad155, e155, hx155_0⟩ := Kd.at_int HR1.out x14_1 p155 q155
         cases e155
         replace hx155_0 := (HB.out.cell (World.block_lt_of_cell? w _ hx155_0)).trans hx155_0
         replace p155 := eq_true p155
         replace q155 := eq_true q155
         have p13 : 0 ≤ (x14_1 : Int) := qoD zd8_0
         have q13 : (x14_1 : Int) < ((x5_1.length : Int) : Int) := qoD zd8_0
         obtain ⟨go13, co13, eo13, gb13, gl13, cl13, HG13⟩ := Kd.R_form HO_5.out (by omega)
         (first | cases eo13 | (injection eo13 with ea_ en_ ec_; (first | subst ea_ | (injection ea_ with ea_; subst ea_)); subst ec_; clear en_))
         have GB13 := qaM gb13
         have GG13 := qaM HG13
         clear gb13 gl13 HG13
         (first | simp only [add_plain] at hx154_0 | skip)
         obtain ⟨hx13_0, hf13_0⟩ := Kd.R_celln 0 HO_5.out (x14_1 : Int) p13 q13
         replace p13 := eq_true p13
         replace q13 := eq_true q13
         have HP14 := Kd.R_putg HO_5.out (x14_1 : Int) ((wrap64 ((wrap64 ((wrap64 ((wrap64 (rd x5_1 x14_1)) - x6_1)) - (wrap64 (rd l1 x14_1)))) + 4294967296)) % 4294967296)
         go_wp2_with (first | ((with_reducible refine gate_store (t := 104) (p := 43) rfl ?_); refine store_event (t := 104) (p := 43) (v := ?vo_w15) (w1 := (wr.setCell ⟨go13, (x14_1 : Int).toNat, none⟩ (.int .u32 ((wrap64 ((wrap64 ((wrap64 ((wrap64 (rd x5_1 x14_1)) - x6_1)) - (wrap64 (rd l1 x14_1)))) + 4294967296)) % 4294967296)))) ?hg ?ho ?hn ?hr ?_; (case ho => rfl); (case hg => rfl); (case hn => rfl); (case hr => first | (go_simp; done) | (go_simp; rfl)); intro w15 hw; have hg : wr.grownBy w15 (some go13) := (by rw [hw]; exact HP14.2); have hp_ : Kd.R (Kd.int .u32) 104 w15 w.heap.size (fun k_ => (w.heap.size ≤ k_)) (.slice (some ⟨go13, 0, none⟩) x5_1.length co7) y156 := (by rw [hw, Ny156.out]; exact HP14.1); clear HP14; have n0_ := qaM (hp_); have n1_ := qaM ((by rw [hw]; exact qwS (HB.out) GB13.out : Below w.heap.size w w15)); clear HO_5; clear HB; have HO_5 := n0_; have HB := n1_; clear n0_ n1_; clear hg hw hp_))
         (try simp only [← hl5_1])
         go_roundg k1
         case measure => have := HK1.out; omega
         case rel => exact ⟨(y156), (1), (wrap64 (x14_1 + 1)), zd8_2, zd8_2, H', ⟨by have := HK1.out; omega⟩, ⟨by (try simp only [hl5_1]); (with_reducible repeat (first | apply qrA | apply qrN | apply qrD)); exact HO_5.out⟩, ⟨by repeat (first | (with_reducible first | exact HB.out | apply qwA | apply qwN | apply qwD) | exact HB.out)⟩⟩
        ·rw [if_neg c12] at H
         have c12b0 : decide ((wrap64 ((wrap64 ((wrap64 (rd x5_1 x14_1)) - x6_1)) - (wrap64 (rd l1 x14_1)))) < 0) = false := decide_eq_false c12
         clear c12
         obtain ⟨y157, hy157⟩ : ∃ y_ : List Int, y_ = (x5_1.set (x14_1 : Int).toNat ((wrap64 ((wrap64 ((wrap64 (rd x5_1 x14_1)) - x6_1)) - (wrap64 (rd l1 x14_1)))) % 4294967296)) := ⟨_, rfl⟩
         replace H : (spec_magSub.l0 k1 l1 y157 0 (y148.length : Int) (wrap64 (x14_1 + 1))) = some r := by first | (rw [hy157]; with_reducible exact H) | (have H2_ := (Option.bind_some _ _).symm.trans H; rw [hy157]; with_reducible exact H2_) | (have H2_ := (Option.bind_some _ _).symm.trans H; with_reducible exact H2_) | with_reducible exact H | (rw [hy157]; exact H) | exact H
         have Ny157 := qaM hy157
         clear hy157
         have H' := qaM H
         clear H
         have p154 : 0 ≤ (x14_1 : Int) := qoD zd8_0
         have q154 : x14_1 < (x5_1.length : Int) := qoD zd8_0
         obtain ⟨ad154, e154, hx154_0⟩ := Kd.at_int (qrR HO_5.out).2.2 x14_1 p154 q154
         cases e154
         replace p154 := eq_true p154
         replace q154 := eq_true q154
         have p155 : 0 ≤ (x14_1 : Int) := qoD zd8_0
         have q155 : x14_1 < (l1.length : Int) := qoD zd8_0
         obtain ⟨ad155, e155, hx155_0⟩ := Kd.at_int HR1.out x14_1 p155 q155
         cases e155
         replace hx155_0 := (HB.out.cell (World.block_lt_of_cell? w _ hx155_0)).trans hx155_0
         replace p155 := eq_true p155
         replace q155 := eq_true q155
         have p16 : 0 ≤ (x14_1 : Int) := qoD zd8_0
         have q16 : (x14_1 : Int) < ((x5_1.length : Int) : Int) := qoD zd8_0
         obtain ⟨go16, co16, eo16, gb16, gl16, cl16, HG16⟩ := Kd.R_form HO_5.out (by omega)
         (first | cases eo16 | (injection eo16 with ea_ en_ ec_; (first | subst ea_ | (injection ea_ with ea_; subst ea_)); subst ec_; clear en_))
         have GB16 := qaM gb16
         have GG16 := qaM HG16
         clear gb16 gl16 HG16
         (first | simp only [add_plain] at hx154_0 | skip)
         obtain ⟨hx16_0, hf16_0⟩ := Kd.R_celln 0 HO_5.out (x14_1 : Int) p16 q16
         replace p16 := eq_true p16
         replace q16 := eq_true q16
         have HP17 := Kd.R_putg HO_5.out (x14_1 : Int) ((wrap64 ((wrap64 ((wrap64 (rd x5_1 x14_1)) - x6_1)) - (wrap64 (rd l1 x14_1)))) % 4294967296)
         go_wp2_with (first | ((with_reducible refine gate_store (t := 104) (p := 43) rfl ?_); refine store_event (t := 104) (p := 43) (v := ?vo_w18) (w1 := (wr.setCell ⟨go16, (x14_1 : Int).toNat, none⟩ (.int .u32 ((wrap64 ((wrap64 ((wrap64 (rd x5_1 x14_1)) - x6_1)) - (wrap64 (rd l1 x14_1)))) % 4294967296)))) ?hg ?ho ?hn ?hr ?_; (case ho => rfl); (case hg => rfl); (case hn => rfl); (case hr => first | (go_simp; done) | (go_simp; rfl)); intro w18 hw; have hg : wr.grownBy w18 (some go16) := (by rw [hw]; exact HP17.2); have hp_ : Kd.R (Kd.int .u32) 104 w18 w.heap.size (fun k_ => (w.heap.size ≤ k_)) (.slice (some ⟨go16, 0, none⟩) x5_1.length co7) y157 := (by rw [hw, Ny157.out]; exact HP17.1); clear HP17; have n0_ := qaM (hp_); have n1_ := qaM ((by rw [hw]; exact qwS (HB.out) GB16.out : Below w.heap.size w w18)); clear HO_5; clear HB; have HO_5 := n0_; have HB := n1_; clear n0_ n1_; clear hg hw hp_))
         (try simp only [← hl5_1])
         go_roundg k1
         case measure => have := HK1.out; omega
         case rel => exact ⟨(y157), (0), (wrap64 (x14_1 + 1)), zd8_2, zd8_2, H', ⟨by have := HK1.out; omega⟩, ⟨by (try simp only [hl5_1]); (with_reducible repeat (first | apply qrA | apply qrN | apply qrD)); exact HO_5.out⟩, ⟨by repeat (first | (with_reducible first | exact HB.out | apply qwA | apply qwN | apply qwD) | exact HB.out)⟩⟩
       ·rw [if_neg c11] at H
        have c11b0 : decide (x14_1 < (l1.length : Int)) = false := decide_eq_false c11
        have c11b0h := c11b0
        (try simp only [hl5_1] at c11b0h)
        clear c11
        by_cases c19 : (wrap64 ((wrap64 (rd x5_1 x14_1)) - x6_1)) < 0
        ·rw [if_pos c19] at H
         have c19b0 : decide ((wrap64 ((wrap64 (rd x5_1 x14_1)) - x6_1)) < 0) = true := decide_eq_true c19
         clear c19
         obtain ⟨y158, hy158⟩ : ∃ y_ : List Int, y_ = (x5_1.set (x14_1 : Int).toNat ((wrap64 ((wrap64 ((wrap64 (rd x5_1 x14_1)) - x6_1)) + 4294967296)) % 4294967296)) := ⟨_, rfl⟩
         replace H : (spec_magSub.l0 k1 l1 y158 1 (y148.length : Int) (wrap64 (x14_1 + 1))) = some r := by first | (rw [hy158]; with_reducible exact H) | (have H2_ := (Option.bind_some _ _).symm.trans H; rw [hy158]; with_reducible exact H2_) | (have H2_ := (Option.bind_some _ _).symm.trans H; with_reducible exact H2_) | with_reducible exact H | (rw [hy158]; exact H) | exact H
         have Ny158 := qaM hy158
         clear hy158
         have H' := qaM H
         clear H
         have p154 : 0 ≤ (x14_1 : Int) := qoD zd8_0
         have q154 : x14_1 < (x5_1.length : Int) := qoD zd8_0
         obtain ⟨ad154, e154, hx154_0⟩ := Kd.at_int (qrR HO_5.out).2.2 x14_1 p154 q154
         cases e154
         replace p154 := eq_true p154
         replace q154 := eq_true q154
         have p20 : 0 ≤ (x14_1 : Int) := qoD zd8_0
         have q20 : (x14_1 : Int) < ((x5_1.length : Int) : Int) := qoD zd8_0
         obtain ⟨go20, co20, eo20, gb20, gl20, cl20, HG20⟩ := Kd.R_form HO_5.out (by omega)
         (first | cases eo20 | (injection eo20 with ea_ en_ ec_; (first | subst ea_ | (injection ea_ with ea_; subst ea_)); subst ec_; clear en_))
         have GB20 := qaM gb20
         have GG20 := qaM HG20
         clear gb20 gl20 HG20
         (first | simp only [add_plain] at hx154_0 | skip)
         obtain ⟨hx20_0, hf20_0⟩ := Kd.R_celln 0 HO_5.out (x14_1 : Int) p20 q20
         replace p20 := eq_true p20
         replace q20 := eq_true q20
         have HP21 := Kd.R_putg HO_5.out (x14_1 : Int) ((wrap64 ((wrap64 ((wrap64 (rd x5_1 x14_1)) - x6_1)) + 4294967296)) % 4294967296)
         go_wp2_with (first | ((with_reducible refine gate_store (t := 104) (p := 43) rfl ?_); refine store_event (t := 104) (p := 43) (v := ?vo_w22) (w1 := (wr.setCell ⟨go20, (x14_1 : Int).toNat, none⟩ (.int .u32 ((wrap64 ((wrap64 ((wrap64 (rd x5_1 x14_1)) - x6_1)) + 4294967296)) % 4294967296)))) ?hg ?ho ?hn ?hr ?_; (case ho => rfl); (case hg => rfl); (case hn => rfl); (case hr => first | (go_simp; done) | (go_simp; rfl)); intro w22 hw; have hg : wr.grownBy w22 (some go20) := (by rw [hw]; exact HP21.2); have hp_ : Kd.R (Kd.int .u32) 104 w22 w.heap.size (fun k_ => (w.heap.size ≤ k_)) (.slice (some ⟨go20, 0, none⟩) x5_1.length co7) y158 := (by rw [hw, Ny158.out]; exact HP21.1); clear HP21; have n0_ := qaM (hp_); have n1_ := qaM ((by rw [hw]; exact qwS (HB.out) GB20.out : Below w.heap.size w w22)); clear HO_5; clear HB; have HO_5 := n0_; have HB := n1_; clear n0_ n1_; clear hg hw hp_))
         (try simp only [← hl5_1])
         go_roundg k1
         case measure => have := HK1.out; omega
         case rel => exact ⟨(y158), (1), (wrap64 (x14_1 + 1)), zd8_2, zd8_2, H', ⟨by have := HK1.out; omega⟩, ⟨by (try simp only [hl5_1]); (with_reducible repeat (first | apply qrA | apply qrN | apply qrD)); exact HO_5.out⟩, ⟨by repeat (first | (with_reducible first | exact HB.out | apply qwA | apply qwN | apply qwD) | exact HB.out)⟩⟩
        ·rw [if_neg c19] at H
         have c19b0 : decide ((wrap64 ((wrap64 (rd x5_1 x14_1)) - x6_1)) < 0) = false := decide_eq_false c19
         clear c19
         obtain ⟨y159, hy159⟩ : ∃ y_ : List Int, y_ = (x5_1.set (x14_1 : Int).toNat ((wrap64 ((wrap64 (rd x5_1 x14_1)) - x6_1)) % 4294967296)) := ⟨_, rfl⟩
         replace H : (spec_magSub.l0 k1 l1 y159 0 (y148.length : Int) (wrap64 (x14_1 + 1))) = some r := by first | (rw [hy159]; with_reducible exact H) | (have H2_ := (Option.bind_some _ _).symm.trans H; rw [hy159]; with_reducible exact H2_) | (have H2_ := (Option.bind_some _ _).symm.trans H; with_reducible exact H2_) | with_reducible exact H | (rw [hy159]; exact H) | exact H
         have Ny159 := qaM hy159
         clear hy159
         have H' := qaM H
         clear H
         have p154 : 0 ≤ (x14_1 : Int) := qoD zd8_0
         have q154 : x14_1 < (x5_1.length : Int) := qoD zd8_0
         obtain ⟨ad154, e154, hx154_0⟩ := Kd.at_int (qrR HO_5.out).2.2 x14_1 p154 q154
         cases e154
         replace p154 := eq_true p154
         replace q154 := eq_true q154
         have p23 : 0 ≤ (x14_1 : Int) := qoD zd8_0
         have q23 : (x14_1 : Int) < ((x5_1.length : Int) : Int) := qoD zd8_0
         obtain ⟨go23, co23, eo23, gb23, gl23, cl23, HG23⟩ := Kd.R_form HO_5.out (by omega)
         (first | cases eo23 | (injection eo23 with ea_ en_ ec_; (first | subst ea_ | (injection ea_ with ea_; subst ea_)); subst ec_; clear en_))
         have GB23 := qaM gb23
         have GG23 := qaM HG23
         clear gb23 gl23 HG23
         (first | simp only [add_plain] at hx154_0 | skip)
         obtain ⟨hx23_0, hf23_0⟩ := Kd.R_celln 0 HO_5.out (x14_1 : Int) p23 q23
         replace p23 := eq_true p23
         replace q23 := eq_true q23
         have HP24 := Kd.R_putg HO_5.out (x14_1 : Int) ((wrap64 ((wrap64 (rd x5_1 x14_1)) - x6_1)) % 4294967296)
         go_wp2_with (first | ((with_reducible refine gate_store (t := 104) (p := 43) rfl ?_); refine store_event (t := 104) (p := 43) (v := ?vo_w25) (w1 := (wr.setCell ⟨go23, (x14_1 : Int).toNat, none⟩ (.int .u32 ((wrap64 ((wrap64 (rd x5_1 x14_1)) - x6_1)) % 4294967296)))) ?hg ?ho ?hn ?hr ?_; (case ho => rfl); (case hg => rfl); (case hn => rfl); (case hr => first | (go_simp; done) | (go_simp; rfl)); intro w25 hw; have hg : wr.grownBy w25 (some go23) := (by rw [hw]; exact HP24.2); have hp_ : Kd.R (Kd.int .u32) 104 w25 w.heap.size (fun k_ => (w.heap.size ≤ k_)) (.slice (some ⟨go23, 0, none⟩) x5_1.length co7) y159 := (by rw [hw, Ny159.out]; exact HP24.1); clear HP24; have n0_ := qaM (hp_); have n1_ := qaM ((by rw [hw]; exact qwS (HB.out) GB23.out : Below w.heap.size w w25)); clear HO_5; clear HB; have HO_5 := n0_; have HB := n1_; clear n0_ n1_; clear hg hw hp_))
         (try simp only [← hl5_1])
         go_roundg k1
         case measure => have := HK1.out; omega
         case rel => exact ⟨(y159), (0), (wrap64 (x14_1 + 1)), zd8_2, zd8_2, H', ⟨by have := HK1.out; omega⟩, ⟨by (try simp only [hl5_1]); (with_reducible repeat (first | apply qrA | apply qrN | apply qrD)); exact HO_5.out⟩, ⟨by repeat (first | (with_reducible first | exact HB.out | apply qwA | apply qwN | apply qwD) | exact HB.out)⟩⟩
      ·rw [if_neg c10] at H
       exact absurd H (by simp)
     ·rw [if_neg c9] at H
      exact absurd H (by simp)
    ·rw [if_neg c8] at H
     have c8b0 : decide (x14_1 < (y148.length : Int)) = false := decide_eq_false c8
     have c8b0h := c8b0
     (try simp only [hl5_1] at c8b0h)
     clear c8
     replace H := Option.bind_eq_some_iff.mp H
     obtain ⟨t151, A260, H⟩ := H
     replace H : (some t151) = some r := H
     have A26 := qaM A260
     clear A260
     obtain rfl := Option.some.inj H
     go_wp2_with (first | ((with_reducible refine gate_callee (f := 52) rfl ?_); refine goesL_ (some 46) rfl rfl Tryz.func52 (by kernel_rfl) rfl #[.slice Ao7 x5_1.length co7] rfl (by (try simp only [List.map_toArray, List.map_cons, List.map_nil]); first | done | rfl | (simp only [List.length_drop, List.length_take]; rfl)) ?_; (with_reducible refine (spec_trim.calls k1 (fun k_ => some k_ = (.slice Ao7 x5_1.length co7 : Value).ownBlock) _ _ x5_1 t151 _ ?side1 A26.out).mono ?_); (case side1 => exact qrV (Kd.R_tight rfl (HO_5.out))); rintro e w27 ⟨v152, rfl, ho0, hb⟩; refine ⟨_, rfl, ?_⟩; have n0_ := qaM (qrB (by (with_reducible repeat (first | apply qrA | apply qrN | apply qrD)); exact HO_5.out) hb); have n1_ := qaM (qvL (qvM (ok' := fun k_ => (w.heap.size ≤ k_)) ho0 (fun k_ hk_ => Or.elim hk_ (fun hs_ => ((HO_5.out).1 k_ hs_.symm)) (fun hn_ => (Nat.le_trans (qbS zd8_1) hn_)))) (qbS zd8_1)); have n2_ := qaM (qbT zd8_1 hb); clear HO_5; clear HB; have HO_5 := n0_; have HO153 := n1_; have HB := n2_; clear n0_ n1_ n2_; (try clear hb); (try clear hb2); (try clear hk); (try clear hi); (try clear ho0)))
     go_ret
     exact ⟨_, by first | rfl | (simp [errW_none, errW_some] <;> rfl) | (simp [*, errW_none, errW_some] <;> rfl), by (with_reducible repeat (first | apply qvA | apply qvN | apply qvD)); exact HO153.out, by repeat (first | (with_reducible first | exact HB.out | apply qwA | apply qwN | apply qwD) | exact HB.out)⟩
 ·rw [if_neg c3] at H
  exact absurd H (by simp)

end Go.Proofs.YtoaibapjnedhlaaGreat.QAll
