/- Printed by a program of this session (print2.py) over the kit's print: the functions that a law reaches, over contracts proved by hand. Lean checks it. -/
import Derived.Test.YtlnbkmkdapeicaaDoorQTx0
import Derived.Test.YtlnbkmkdapeicaaDoorQTx1
import Derived.Test.YtlnbkmkdapeicaaDoorQTx2
namespace Go.Proofs.YtlnbkmkdapeicaaDoor.QT
open Go.RowKit Go.Proofs.YtlnbkmkdapeicaaDoorW.PrintWords Go.Proofs.YtlnbkmkdapeicaaDoorW.PrintLast Go.Proofs.YtlnbkmkdapeicaaDoorW.PrintMore
attribute [local go_sem] max2_int min2_int max_two min_two max_three min_three max_four min_four   -- for this text's walks alone
set_option linter.unusedVariables false
set_option linter.unusedSimpArgs false

/-! ### spec_magSub: function 63 -/
def spec_magSub.l0 : Nat → List Int → List Int → Int → Int → Int → Option (List Int)
 | 0, _, _, _, _, _ => none
 | k + 1, x1, x5, x6, x13, x14 => if x14 < x13 then (if 0 ≤ x14 then (if x14 < (x5.length : Int) then (if x14 < (x1.length : Int) then (if (wrap64 ((wrap64 ((wrap64 (rd x5 x14)) - x6)) - (wrap64 (rd x1 x14)))) < 0 then (spec_magSub.l0 k x1 (x5.set (x14 : Int).toNat ((wrap64 ((wrap64 ((wrap64 ((wrap64 (rd x5 x14)) - x6)) - (wrap64 (rd x1 x14)))) + 4294967296)) % 4294967296)) 1 x13 (wrap64 (x14 + 1))) else (spec_magSub.l0 k x1 (x5.set (x14 : Int).toNat ((wrap64 ((wrap64 ((wrap64 (rd x5 x14)) - x6)) - (wrap64 (rd x1 x14)))) % 4294967296)) 0 x13 (wrap64 (x14 + 1)))) else (if (wrap64 ((wrap64 (rd x5 x14)) - x6)) < 0 then (spec_magSub.l0 k x1 (x5.set (x14 : Int).toNat ((wrap64 ((wrap64 ((wrap64 (rd x5 x14)) - x6)) + 4294967296)) % 4294967296)) 1 x13 (wrap64 (x14 + 1))) else (spec_magSub.l0 k x1 (x5.set (x14 : Int).toNat ((wrap64 ((wrap64 (rd x5 x14)) - x6)) % 4294967296)) 0 x13 (wrap64 (x14 + 1))))) else (none)) else (none)) else ((spec_trim.f k x5).bind fun t155 => (some t155))
def spec_magSub.f (k : Nat) (l0 : List Int) (l1 : List Int) : Option (List Int) := (some (([] : List Int) : List Int)).bind fun y149 => (if y149.length + l0.length < 35184372088832 then ((some (y149 ++ l0 : List Int)).bind fun y152 => (spec_magSub.l0 k l1 y152 0 (y152.length : Int) 0)) else (none))
theorem spec_magSub.mono_l : ∀ k, (∀ y0 y1 y2 y3 y4, LeO (spec_magSub.l0 k y0 y1 y2 y3 y4) (spec_magSub.l0 (k + 1) y0 y1 y2 y3 y4))
 | 0 => fun _ _ _ _ _ r h => by simp [spec_magSub.l0] at h
 | k + 1 => by
  have ih0 := spec_magSub.mono_l k
  ·intro y0 y1 y2 y3 y4
   unfold spec_magSub.l0
   repeat' first
   | (with_reducible exact ih0 _ _ _ _ _)
   | (with_reducible exact spec_trim.mono _ _)
   | (with_reducible exact LeO.refl _)
   | (with_reducible exact LeO.none _)
   | (with_reducible refine LeO.ite ?_ ?_)
   | (with_reducible refine LeO.bind ?_ (fun _ => ?_))
   | exact ih0 _ _ _ _ _
   | exact spec_trim.mono _ _
   | exact LeO.none _
   | refine LeO.ite ?_ ?_
   | refine LeO.bind ?_ (fun _ => ?_)
theorem spec_magSub.mono : ∀ a0 a1 k, LeO (spec_magSub.f k a0 a1) (spec_magSub.f (k + 1) a0 a1) := by
 intro a0 a1 k
 have ih0 := spec_magSub.mono_l k
 unfold spec_magSub.f
 repeat' first
   | (with_reducible exact ih0 _ _ _ _ _)
   | (with_reducible exact spec_trim.mono _ _)
   | (with_reducible exact LeO.refl _)
   | (with_reducible exact LeO.none _)
   | (with_reducible refine LeO.ite ?_ ?_)
   | (with_reducible refine LeO.bind ?_ (fun _ => ?_))
   | exact ih0 _ _ _ _ _
   | exact spec_trim.mono _ _
   | exact LeO.none _
   | refine LeO.ite ?_ ?_
   | refine LeO.bind ?_ (fun _ => ?_)
set_option maxHeartbeats 8000000 in
set_option maxRecDepth 100000 in
theorem spec_magSub.calls (k : Nat) (A0 : Option Addr) (c0 : Nat) (l0 : List Int) (A1 : Option Addr) (c1 : Nat) (l1 : List Int) (r : List Int) (w : World) (hr0 : Kd.C (Kd.int .u32) w A0 l0.length l0) (hc0 : l0.length ≤ c0) (hr1 : Kd.C (Kd.int .u32) w A1 l1.length l1) (hc1 : l1.length ≤ c1) (h : spec_magSub.f k l0 l1 = some r) :
  Calls Tryd.prog 63 #[.slice A0 l0.length c0, .slice A1 l1.length c1] w fun e w' => ∃ v0_ : Value, e = .returned (v0_) ∧ Kd.V (Kd.int .u32) 57 w' w.heap.size (fun k_ => (w.heap.size ≤ k_)) v0_ r ∧ Below w.heap.size w w' := by
 have HR0 := qaM hr0
 have HC0 := qaM hc0
 clear hr0 hc0
 have HR1 := qaM hr1
 have HC1 := qaM hc1
 clear hr1 hc1
 have HB := qaM (Below.refl w.heap.size w)
 have H : ((some (([] : List Int) : List Int)).bind fun y149 => (if y149.length + l0.length < 35184372088832 then ((some (y149 ++ l0 : List Int)).bind fun y152 => (spec_magSub.l0 k l1 y152 0 (y152.length : Int) 0)) else (none))) = some r := h
 clear h
 obtain ⟨y149, hy149⟩ : ∃ y_ : List Int, y_ = (([] : List Int)) := ⟨_, rfl⟩
 replace H : (if y149.length + l0.length < 35184372088832 then ((some (y149 ++ l0 : List Int)).bind fun y152 => (spec_magSub.l0 k l1 y152 0 (y152.length : Int) 0)) else (none)) = some r := by first | (rw [hy149]; with_reducible exact H) | (have H2_ := (Option.bind_some _ _).symm.trans H; rw [hy149]; with_reducible exact H2_) | (have H2_ := (Option.bind_some _ _).symm.trans H; with_reducible exact H2_) | with_reducible exact H | (rw [hy149]; exact H) | exact H
 have Ny149 := qaM hy149
 clear hy149
 by_cases c3 : y149.length + l0.length < 35184372088832
 ·rw [if_pos c3] at H
  have LMc3 := qaM c3
  clear c3
  obtain ⟨y152, hy152⟩ : ∃ y_ : List Int, y_ = (y149 ++ l0) := ⟨_, rfl⟩
  replace H : (spec_magSub.l0 k l1 y152 0 (y152.length : Int) 0) = some r := by first | (rw [hy152]; with_reducible exact H) | (have H2_ := (Option.bind_some _ _).symm.trans H; rw [hy152]; with_reducible exact H2_) | (have H2_ := (Option.bind_some _ _).symm.trans H; with_reducible exact H2_) | with_reducible exact H | (rw [hy152]; exact H) | exact H
  have Ny152 := qaM hy152
  clear hy152
  have H' := qaM H
  clear H
  go_enter Tryd.func63, Tryd.ntmps63
  go_wp2_with (first | ((with_reducible refine gate_dst (N := 9) rfl ?_); refine Kd.R_lit (Kd.int .u32) _ 57 ?hg (N := 9) ?hd (xs := ([] : List Int)) (inner := []) (ok := fun _ => True) (okp := fun _ => True) ?hr ?hp (fun _ hk => hk) trivial (Below.refl _ _) (Nat.le_refl _) (by simp) ?_; (case hd => rfl); (case hg => rfl); (case hr => first | (go_simp; done) | (go_simp; rfl)); (case hp => exact (Reps.none _ _)); intro v150 w4 ho5 hb hg_ hnew_; clear hg_ hnew_; (first | rw [← Ny149.out] at ho5 | (simp only [Int.reduceToNat] at ho5; rw [← Ny149.out] at ho5)); have n0_ := qaM (Kd.R_lower (Kd.R_newM (M := fun k_ => (w.heap.size ≤ k_)) ho5 (qbS (by repeat (first | (with_reducible first | exact HB.out | apply qwA | apply qwN | apply qwD) | exact HB.out))) (fun k_ h_ => h_)) (qbS (by repeat (first | (with_reducible first | exact HB.out | apply qwA | apply qwN | apply qwD) | exact HB.out)))); have n1_ := qaM (qbT (by repeat (first | (with_reducible first | exact HB.out | apply qwA | apply qwN | apply qwD) | exact HB.out)) hb); clear HB; have HO151 := n0_; have HB := n1_; clear n0_ n1_; clear hb ho5) | ((with_reducible refine gate_builtin (b := .append) (xs := #[.tmp 9, .tmp 10]) rfl ?_); at_builtin; refine Kd.R_append_rows (Kd.int .u32) (w0 := w) w.heap.size rfl (.tmp 9) (.tmp 10) 38 57 (.int .u32 0) 4 rfl Tryd.underlying38 info57 rfl (by decide) (by omega) v150 y149 l0 _ _ _ (fun k_ => (w.heap.size ≤ k_)) (fun _ => False) rfl rfl ?aO ?aR (fun _ _ h => h) (fun _ h => h.elim) ?aF ?aB ?aS ?aL ?_; (case aR => repeat (first | exact (Kd.C_below HR0.out HB.out) | (with_reducible refine Kd.C_alloc ?_ _) | (with_reducible refine Kd.C_drewN ?_ _) | (with_reducible refine Kd.C_drew ?_))); (case aB => exact (by repeat (first | (with_reducible first | exact HB.out | apply qwA | apply qwN | apply qwD) | exact HB.out))); (case aF => exact (fun k_ hk => (Nat.le_trans (qbS (by repeat (first | (with_reducible first | exact HB.out | apply qwA | apply qwN | apply qwD) | exact HB.out))) hk))); (case aO => exact (by (with_reducible repeat (first | apply qrA | apply qrN | apply qrD)); exact qrM HO151.out (fun _ hk => hk.1))); (case aS => exact (qbS (by repeat (first | (with_reducible first | exact HB.out | apply qwA | apply qwN | apply qwD) | exact HB.out)))); (case aL => have := LMc3.out; omega); intro v153 w6 ho hb hg hat; rw [← Ny152.out] at ho; have n0_ := qaM (hb); have n1_ := qaM (ho); clear HB; clear HO151; have HB := n0_; have HO154 := n1_; clear n0_ n1_; clear ho hb hg hat; obtain ⟨Ao7, co7, eo7⟩ := Kd.R_slice HO154.out; subst eo7))
  go_loopg [6, 14] k (fun kq v6 v14 w' => ∃ (x5_1 : List Int) (x6_1 : Int) (x14_1 : Int), v6 = .int .i64 x6_1 ∧ v14 = .int .i64 x14_1 ∧ Aside0 (spec_magSub.l0 kq l1 x5_1 x6_1 (y152.length : Int) x14_1 = some r) ∧ Aside0 (kq ≤ k) ∧ Aside0 (Kd.R (Kd.int .u32) 57 w' w.heap.size (fun k_ => (w.heap.size ≤ k_)) (.slice Ao7 y152.length co7) x5_1) ∧ Aside0 (Below w.heap.size w w'))
  case atStart => exact ⟨(y152), (0), (0), (by first | rfl | (simp; done) | (simp [*]; done)), (by first | rfl | (simp; done) | (simp [*]; done)), H', ⟨Nat.le_refl _⟩, ⟨by (with_reducible repeat (first | apply qrA | apply qrN | apply qrD)); exact HO154.out⟩, ⟨by repeat (first | (with_reducible first | exact HB.out | apply qwA | apply qwN | apply qwD) | exact HB.out)⟩⟩
  case round =>
   clear H'
   try clear c1
   try clear p2
   try clear c3
   try clear c6
   obtain ⟨x5_1, x6_1, x14_1, rfl, rfl, HA, HK1, HO_5, HB⟩ := hrel
   have hl5_1 := (qrR HO_5.out).1
   rw [hl5_1] at HO_5
   (try simp only [hl5_1])
   cases gk with
   | zero => exact absurd HA.out (by simp [spec_magSub.l0])
   | succ k1 =>
    have H := HA.out
    clear HA
    simp only [spec_magSub.l0] at H
    by_cases c8 : x14_1 < (y152.length : Int)
    ·rw [if_pos c8] at H
     have c8b0 : decide (x14_1 < (y152.length : Int)) = true := decide_eq_true c8
     have c8b0h := c8b0
     (try simp only [hl5_1] at c8b0h)
     clear c8
     by_cases c9 : 0 ≤ x14_1
     ·rw [if_pos c9] at H
      have c9b0 : decide (0 ≤ x14_1) = true := decide_eq_true c9
      clear c9
      by_cases c10 : x14_1 < (x5_1.length : Int)
      ·rw [if_pos c10] at H
       have c10b0 : decide (x14_1 < (x5_1.length : Int)) = true := decide_eq_true c10
       have c10b0h := c10b0
       (try simp only [hl5_1] at c10b0h)
       clear c10
       by_cases c11 : x14_1 < (l1.length : Int)
       ·rw [if_pos c11] at H
        have c11b0 : decide (x14_1 < (l1.length : Int)) = true := decide_eq_true c11
        have c11b0h := c11b0
        (try simp only [hl5_1] at c11b0h)
        clear c11
        by_cases c12 : (wrap64 ((wrap64 ((wrap64 (rd x5_1 x14_1)) - x6_1)) - (wrap64 (rd l1 x14_1)))) < 0
        ·rw [if_pos c12] at H
         have c12b0 : decide ((wrap64 ((wrap64 ((wrap64 (rd x5_1 x14_1)) - x6_1)) - (wrap64 (rd l1 x14_1)))) < 0) = true := decide_eq_true c12
         clear c12
         obtain ⟨y160, hy160⟩ : ∃ y_ : List Int, y_ = (x5_1.set (x14_1 : Int).toNat ((wrap64 ((wrap64 ((wrap64 ((wrap64 (rd x5_1 x14_1)) - x6_1)) - (wrap64 (rd l1 x14_1)))) + 4294967296)) % 4294967296)) := ⟨_, rfl⟩
         replace H : (spec_magSub.l0 k1 l1 y160 1 (y152.length : Int) (wrap64 (x14_1 + 1))) = some r := by first | (rw [hy160]; with_reducible exact H) | (have H2_ := (Option.bind_some _ _).symm.trans H; rw [hy160]; with_reducible exact H2_) | (have H2_ := (Option.bind_some _ _).symm.trans H; with_reducible exact H2_) | with_reducible exact H | (rw [hy160]; exact H) | exact H
         have Ny160 := qaM hy160
         clear hy160
         have H' := qaM H
         clear H
         have p158 : 0 ≤ (x14_1 : Int) := qoD (by first | (with_reducible assumption) | assumption)
         have q158 : x14_1 < (x5_1.length : Int) := qoD (by first | (with_reducible assumption) | assumption)
         obtain ⟨ad158, e158, hx158_0⟩ := Kd.at_int (qrR HO_5.out).2.2 x14_1 p158 q158
         cases e158
         replace p158 := eq_true p158
         replace q158 := eq_true q158
         have p159 : 0 ≤ (x14_1 : Int) := qoD (by first | (with_reducible assumption) | assumption)
         have q159 : x14_1 < (l1.length : Int) := qoD (by first | (with_reducible assumption) | assumption)
         obtain ⟨ad159, e159, hx159_0⟩ := Kd.at_int HR1.out x14_1 p159 q159
         cases e159
         replace hx159_0 := (HB.out.cell (World.block_lt_of_cell? w _ hx159_0)).trans hx159_0
         replace p159 := eq_true p159
         replace q159 := eq_true q159
         have p13 : 0 ≤ (x14_1 : Int) := qoD (by first | (with_reducible assumption) | assumption)
         have q13 : (x14_1 : Int) < ((x5_1.length : Int) : Int) := qoD (by first | (with_reducible assumption) | assumption)
         obtain ⟨go13, co13, eo13, gb13, gl13, cl13, HG13⟩ := Kd.R_form HO_5.out (by omega)
         (first | cases eo13 | (injection eo13 with ea_ en_ ec_; (first | subst ea_ | (injection ea_ with ea_; subst ea_)); subst ec_; clear en_))
         have GB13 := qaM gb13
         have GG13 := qaM HG13
         clear gb13 gl13 HG13
         (first | simp only [add_plain] at hx158_0 | skip)
         obtain ⟨hx13_0, hf13_0⟩ := Kd.R_celln 0 HO_5.out (x14_1 : Int) p13 q13
         replace p13 := eq_true p13
         replace q13 := eq_true q13
         have HP14 := Kd.R_putg HO_5.out (x14_1 : Int) ((wrap64 ((wrap64 ((wrap64 ((wrap64 (rd x5_1 x14_1)) - x6_1)) - (wrap64 (rd l1 x14_1)))) + 4294967296)) % 4294967296)
         go_wp2_with (first | ((with_reducible refine gate_store (t := 57) (p := 43) rfl ?_); refine store_event (t := 57) (p := 43) (v := ?vo_w15) (w1 := (wr.setCell ⟨go13, (x14_1 : Int).toNat, none⟩ (.int .u32 ((wrap64 ((wrap64 ((wrap64 ((wrap64 (rd x5_1 x14_1)) - x6_1)) - (wrap64 (rd l1 x14_1)))) + 4294967296)) % 4294967296)))) ?hg ?ho ?hn ?hr ?_; (case ho => rfl); (case hg => rfl); (case hn => rfl); (case hr => first | (go_simp; done) | (go_simp; rfl)); intro w15 hw; have hg : wr.grownBy w15 (some go13) := (by rw [hw]; exact HP14.2); have hp_ : Kd.R (Kd.int .u32) 57 w15 w.heap.size (fun k_ => (w.heap.size ≤ k_)) (.slice (some ⟨go13, 0, none⟩) x5_1.length co7) y160 := (by rw [hw, Ny160.out]; exact HP14.1); clear HP14; have n0_ := qaM (hp_); have n1_ := qaM ((by rw [hw]; exact qwS (HB.out) GB13.out : Below w.heap.size w w15)); clear HO_5; clear HB; have HO_5 := n0_; have HB := n1_; clear n0_ n1_; clear hg hw hp_))
         (try simp only [← hl5_1])
         go_roundg k1
         case measure => have := HK1.out; omega
         case rel => exact ⟨(y160), (1), (wrap64 (x14_1 + 1)), (by first | rfl | (simp; done) | (simp [*]; done)), (by first | rfl | (simp; done) | (simp [*]; done)), H', ⟨by have := HK1.out; omega⟩, ⟨by (try simp only [hl5_1]); (with_reducible repeat (first | apply qrA | apply qrN | apply qrD)); exact HO_5.out⟩, ⟨by repeat (first | (with_reducible first | exact HB.out | apply qwA | apply qwN | apply qwD) | exact HB.out)⟩⟩
        ·rw [if_neg c12] at H
         have c12b0 : decide ((wrap64 ((wrap64 ((wrap64 (rd x5_1 x14_1)) - x6_1)) - (wrap64 (rd l1 x14_1)))) < 0) = false := decide_eq_false c12
         clear c12
         obtain ⟨y161, hy161⟩ : ∃ y_ : List Int, y_ = (x5_1.set (x14_1 : Int).toNat ((wrap64 ((wrap64 ((wrap64 (rd x5_1 x14_1)) - x6_1)) - (wrap64 (rd l1 x14_1)))) % 4294967296)) := ⟨_, rfl⟩
         replace H : (spec_magSub.l0 k1 l1 y161 0 (y152.length : Int) (wrap64 (x14_1 + 1))) = some r := by first | (rw [hy161]; with_reducible exact H) | (have H2_ := (Option.bind_some _ _).symm.trans H; rw [hy161]; with_reducible exact H2_) | (have H2_ := (Option.bind_some _ _).symm.trans H; with_reducible exact H2_) | with_reducible exact H | (rw [hy161]; exact H) | exact H
         have Ny161 := qaM hy161
         clear hy161
         have H' := qaM H
         clear H
         have p158 : 0 ≤ (x14_1 : Int) := qoD (by first | (with_reducible assumption) | assumption)
         have q158 : x14_1 < (x5_1.length : Int) := qoD (by first | (with_reducible assumption) | assumption)
         obtain ⟨ad158, e158, hx158_0⟩ := Kd.at_int (qrR HO_5.out).2.2 x14_1 p158 q158
         cases e158
         replace p158 := eq_true p158
         replace q158 := eq_true q158
         have p159 : 0 ≤ (x14_1 : Int) := qoD (by first | (with_reducible assumption) | assumption)
         have q159 : x14_1 < (l1.length : Int) := qoD (by first | (with_reducible assumption) | assumption)
         obtain ⟨ad159, e159, hx159_0⟩ := Kd.at_int HR1.out x14_1 p159 q159
         cases e159
         replace hx159_0 := (HB.out.cell (World.block_lt_of_cell? w _ hx159_0)).trans hx159_0
         replace p159 := eq_true p159
         replace q159 := eq_true q159
         have p16 : 0 ≤ (x14_1 : Int) := qoD (by first | (with_reducible assumption) | assumption)
         have q16 : (x14_1 : Int) < ((x5_1.length : Int) : Int) := qoD (by first | (with_reducible assumption) | assumption)
         obtain ⟨go16, co16, eo16, gb16, gl16, cl16, HG16⟩ := Kd.R_form HO_5.out (by omega)
         (first | cases eo16 | (injection eo16 with ea_ en_ ec_; (first | subst ea_ | (injection ea_ with ea_; subst ea_)); subst ec_; clear en_))
         have GB16 := qaM gb16
         have GG16 := qaM HG16
         clear gb16 gl16 HG16
         (first | simp only [add_plain] at hx158_0 | skip)
         obtain ⟨hx16_0, hf16_0⟩ := Kd.R_celln 0 HO_5.out (x14_1 : Int) p16 q16
         replace p16 := eq_true p16
         replace q16 := eq_true q16
         have HP17 := Kd.R_putg HO_5.out (x14_1 : Int) ((wrap64 ((wrap64 ((wrap64 (rd x5_1 x14_1)) - x6_1)) - (wrap64 (rd l1 x14_1)))) % 4294967296)
         go_wp2_with (first | ((with_reducible refine gate_store (t := 57) (p := 43) rfl ?_); refine store_event (t := 57) (p := 43) (v := ?vo_w18) (w1 := (wr.setCell ⟨go16, (x14_1 : Int).toNat, none⟩ (.int .u32 ((wrap64 ((wrap64 ((wrap64 (rd x5_1 x14_1)) - x6_1)) - (wrap64 (rd l1 x14_1)))) % 4294967296)))) ?hg ?ho ?hn ?hr ?_; (case ho => rfl); (case hg => rfl); (case hn => rfl); (case hr => first | (go_simp; done) | (go_simp; rfl)); intro w18 hw; have hg : wr.grownBy w18 (some go16) := (by rw [hw]; exact HP17.2); have hp_ : Kd.R (Kd.int .u32) 57 w18 w.heap.size (fun k_ => (w.heap.size ≤ k_)) (.slice (some ⟨go16, 0, none⟩) x5_1.length co7) y161 := (by rw [hw, Ny161.out]; exact HP17.1); clear HP17; have n0_ := qaM (hp_); have n1_ := qaM ((by rw [hw]; exact qwS (HB.out) GB16.out : Below w.heap.size w w18)); clear HO_5; clear HB; have HO_5 := n0_; have HB := n1_; clear n0_ n1_; clear hg hw hp_))
         (try simp only [← hl5_1])
         go_roundg k1
         case measure => have := HK1.out; omega
         case rel => exact ⟨(y161), (0), (wrap64 (x14_1 + 1)), (by first | rfl | (simp; done) | (simp [*]; done)), (by first | rfl | (simp; done) | (simp [*]; done)), H', ⟨by have := HK1.out; omega⟩, ⟨by (try simp only [hl5_1]); (with_reducible repeat (first | apply qrA | apply qrN | apply qrD)); exact HO_5.out⟩, ⟨by repeat (first | (with_reducible first | exact HB.out | apply qwA | apply qwN | apply qwD) | exact HB.out)⟩⟩
       ·rw [if_neg c11] at H
        have c11b0 : decide (x14_1 < (l1.length : Int)) = false := decide_eq_false c11
        have c11b0h := c11b0
        (try simp only [hl5_1] at c11b0h)
        clear c11
        by_cases c19 : (wrap64 ((wrap64 (rd x5_1 x14_1)) - x6_1)) < 0
        ·rw [if_pos c19] at H
         have c19b0 : decide ((wrap64 ((wrap64 (rd x5_1 x14_1)) - x6_1)) < 0) = true := decide_eq_true c19
         clear c19
         obtain ⟨y162, hy162⟩ : ∃ y_ : List Int, y_ = (x5_1.set (x14_1 : Int).toNat ((wrap64 ((wrap64 ((wrap64 (rd x5_1 x14_1)) - x6_1)) + 4294967296)) % 4294967296)) := ⟨_, rfl⟩
         replace H : (spec_magSub.l0 k1 l1 y162 1 (y152.length : Int) (wrap64 (x14_1 + 1))) = some r := by first | (rw [hy162]; with_reducible exact H) | (have H2_ := (Option.bind_some _ _).symm.trans H; rw [hy162]; with_reducible exact H2_) | (have H2_ := (Option.bind_some _ _).symm.trans H; with_reducible exact H2_) | with_reducible exact H | (rw [hy162]; exact H) | exact H
         have Ny162 := qaM hy162
         clear hy162
         have H' := qaM H
         clear H
         have p158 : 0 ≤ (x14_1 : Int) := qoD (by first | (with_reducible assumption) | assumption)
         have q158 : x14_1 < (x5_1.length : Int) := qoD (by first | (with_reducible assumption) | assumption)
         obtain ⟨ad158, e158, hx158_0⟩ := Kd.at_int (qrR HO_5.out).2.2 x14_1 p158 q158
         cases e158
         replace p158 := eq_true p158
         replace q158 := eq_true q158
         have p20 : 0 ≤ (x14_1 : Int) := qoD (by first | (with_reducible assumption) | assumption)
         have q20 : (x14_1 : Int) < ((x5_1.length : Int) : Int) := qoD (by first | (with_reducible assumption) | assumption)
         obtain ⟨go20, co20, eo20, gb20, gl20, cl20, HG20⟩ := Kd.R_form HO_5.out (by omega)
         (first | cases eo20 | (injection eo20 with ea_ en_ ec_; (first | subst ea_ | (injection ea_ with ea_; subst ea_)); subst ec_; clear en_))
         have GB20 := qaM gb20
         have GG20 := qaM HG20
         clear gb20 gl20 HG20
         (first | simp only [add_plain] at hx158_0 | skip)
         obtain ⟨hx20_0, hf20_0⟩ := Kd.R_celln 0 HO_5.out (x14_1 : Int) p20 q20
         replace p20 := eq_true p20
         replace q20 := eq_true q20
         have HP21 := Kd.R_putg HO_5.out (x14_1 : Int) ((wrap64 ((wrap64 ((wrap64 (rd x5_1 x14_1)) - x6_1)) + 4294967296)) % 4294967296)
         go_wp2_with (first | ((with_reducible refine gate_store (t := 57) (p := 43) rfl ?_); refine store_event (t := 57) (p := 43) (v := ?vo_w22) (w1 := (wr.setCell ⟨go20, (x14_1 : Int).toNat, none⟩ (.int .u32 ((wrap64 ((wrap64 ((wrap64 (rd x5_1 x14_1)) - x6_1)) + 4294967296)) % 4294967296)))) ?hg ?ho ?hn ?hr ?_; (case ho => rfl); (case hg => rfl); (case hn => rfl); (case hr => first | (go_simp; done) | (go_simp; rfl)); intro w22 hw; have hg : wr.grownBy w22 (some go20) := (by rw [hw]; exact HP21.2); have hp_ : Kd.R (Kd.int .u32) 57 w22 w.heap.size (fun k_ => (w.heap.size ≤ k_)) (.slice (some ⟨go20, 0, none⟩) x5_1.length co7) y162 := (by rw [hw, Ny162.out]; exact HP21.1); clear HP21; have n0_ := qaM (hp_); have n1_ := qaM ((by rw [hw]; exact qwS (HB.out) GB20.out : Below w.heap.size w w22)); clear HO_5; clear HB; have HO_5 := n0_; have HB := n1_; clear n0_ n1_; clear hg hw hp_))
         (try simp only [← hl5_1])
         go_roundg k1
         case measure => have := HK1.out; omega
         case rel => exact ⟨(y162), (1), (wrap64 (x14_1 + 1)), (by first | rfl | (simp; done) | (simp [*]; done)), (by first | rfl | (simp; done) | (simp [*]; done)), H', ⟨by have := HK1.out; omega⟩, ⟨by (try simp only [hl5_1]); (with_reducible repeat (first | apply qrA | apply qrN | apply qrD)); exact HO_5.out⟩, ⟨by repeat (first | (with_reducible first | exact HB.out | apply qwA | apply qwN | apply qwD) | exact HB.out)⟩⟩
        ·rw [if_neg c19] at H
         have c19b0 : decide ((wrap64 ((wrap64 (rd x5_1 x14_1)) - x6_1)) < 0) = false := decide_eq_false c19
         clear c19
         obtain ⟨y163, hy163⟩ : ∃ y_ : List Int, y_ = (x5_1.set (x14_1 : Int).toNat ((wrap64 ((wrap64 (rd x5_1 x14_1)) - x6_1)) % 4294967296)) := ⟨_, rfl⟩
         replace H : (spec_magSub.l0 k1 l1 y163 0 (y152.length : Int) (wrap64 (x14_1 + 1))) = some r := by first | (rw [hy163]; with_reducible exact H) | (have H2_ := (Option.bind_some _ _).symm.trans H; rw [hy163]; with_reducible exact H2_) | (have H2_ := (Option.bind_some _ _).symm.trans H; with_reducible exact H2_) | with_reducible exact H | (rw [hy163]; exact H) | exact H
         have Ny163 := qaM hy163
         clear hy163
         have H' := qaM H
         clear H
         have p158 : 0 ≤ (x14_1 : Int) := qoD (by first | (with_reducible assumption) | assumption)
         have q158 : x14_1 < (x5_1.length : Int) := qoD (by first | (with_reducible assumption) | assumption)
         obtain ⟨ad158, e158, hx158_0⟩ := Kd.at_int (qrR HO_5.out).2.2 x14_1 p158 q158
         cases e158
         replace p158 := eq_true p158
         replace q158 := eq_true q158
         have p23 : 0 ≤ (x14_1 : Int) := qoD (by first | (with_reducible assumption) | assumption)
         have q23 : (x14_1 : Int) < ((x5_1.length : Int) : Int) := qoD (by first | (with_reducible assumption) | assumption)
         obtain ⟨go23, co23, eo23, gb23, gl23, cl23, HG23⟩ := Kd.R_form HO_5.out (by omega)
         (first | cases eo23 | (injection eo23 with ea_ en_ ec_; (first | subst ea_ | (injection ea_ with ea_; subst ea_)); subst ec_; clear en_))
         have GB23 := qaM gb23
         have GG23 := qaM HG23
         clear gb23 gl23 HG23
         (first | simp only [add_plain] at hx158_0 | skip)
         obtain ⟨hx23_0, hf23_0⟩ := Kd.R_celln 0 HO_5.out (x14_1 : Int) p23 q23
         replace p23 := eq_true p23
         replace q23 := eq_true q23
         have HP24 := Kd.R_putg HO_5.out (x14_1 : Int) ((wrap64 ((wrap64 (rd x5_1 x14_1)) - x6_1)) % 4294967296)
         go_wp2_with (first | ((with_reducible refine gate_store (t := 57) (p := 43) rfl ?_); refine store_event (t := 57) (p := 43) (v := ?vo_w25) (w1 := (wr.setCell ⟨go23, (x14_1 : Int).toNat, none⟩ (.int .u32 ((wrap64 ((wrap64 (rd x5_1 x14_1)) - x6_1)) % 4294967296)))) ?hg ?ho ?hn ?hr ?_; (case ho => rfl); (case hg => rfl); (case hn => rfl); (case hr => first | (go_simp; done) | (go_simp; rfl)); intro w25 hw; have hg : wr.grownBy w25 (some go23) := (by rw [hw]; exact HP24.2); have hp_ : Kd.R (Kd.int .u32) 57 w25 w.heap.size (fun k_ => (w.heap.size ≤ k_)) (.slice (some ⟨go23, 0, none⟩) x5_1.length co7) y163 := (by rw [hw, Ny163.out]; exact HP24.1); clear HP24; have n0_ := qaM (hp_); have n1_ := qaM ((by rw [hw]; exact qwS (HB.out) GB23.out : Below w.heap.size w w25)); clear HO_5; clear HB; have HO_5 := n0_; have HB := n1_; clear n0_ n1_; clear hg hw hp_))
         (try simp only [← hl5_1])
         go_roundg k1
         case measure => have := HK1.out; omega
         case rel => exact ⟨(y163), (0), (wrap64 (x14_1 + 1)), (by first | rfl | (simp; done) | (simp [*]; done)), (by first | rfl | (simp; done) | (simp [*]; done)), H', ⟨by have := HK1.out; omega⟩, ⟨by (try simp only [hl5_1]); (with_reducible repeat (first | apply qrA | apply qrN | apply qrD)); exact HO_5.out⟩, ⟨by repeat (first | (with_reducible first | exact HB.out | apply qwA | apply qwN | apply qwD) | exact HB.out)⟩⟩
      ·rw [if_neg c10] at H
       exact absurd H (by simp)
     ·rw [if_neg c9] at H
      exact absurd H (by simp)
    ·rw [if_neg c8] at H
     have c8b0 : decide (x14_1 < (y152.length : Int)) = false := decide_eq_false c8
     have c8b0h := c8b0
     (try simp only [hl5_1] at c8b0h)
     clear c8
     replace H := Option.bind_eq_some_iff.mp H
     obtain ⟨t155, A260, H⟩ := H
     replace H : (some t155) = some r := H
     have A26 := qaM A260
     clear A260
     obtain rfl := Option.some.inj H
     go_wp2_with (first | ((with_reducible refine gate_callee (f := 30) rfl ?_); refine goesL_ (some 46) rfl rfl Tryd.func30 (by kernel_rfl) rfl #[.slice Ao7 x5_1.length co7] rfl (by (try simp only [List.map_toArray, List.map_cons, List.map_nil]); first | done | rfl | (simp only [List.length_drop, List.length_take]; rfl)) ?_; (with_reducible refine (spec_trim.calls k1 (fun k_ => some k_ = (.slice Ao7 x5_1.length co7 : Value).ownBlock) _ _ x5_1 t155 _ ?side1 A26.out).mono ?_); (case side1 => exact qrV (Kd.R_tight rfl (HO_5.out))); rintro e w27 ⟨v156, rfl, ho0, hb⟩; refine ⟨_, rfl, ?_⟩; have n0_ := qaM (qrB (by (with_reducible repeat (first | apply qrA | apply qrN | apply qrD)); exact HO_5.out) hb); have n1_ := qaM (qvL (qvM (ok' := fun k_ => (w.heap.size ≤ k_)) ho0 (fun k_ hk_ => Or.elim hk_ (fun hs_ => ((HO_5.out).1 k_ hs_.symm)) (fun hn_ => (Nat.le_trans (qbS (by repeat (first | (with_reducible first | exact HB.out | apply qwA | apply qwN | apply qwD) | exact HB.out))) hn_)))) (qbS (by repeat (first | (with_reducible first | exact HB.out | apply qwA | apply qwN | apply qwD) | exact HB.out)))); have n2_ := qaM (qbT (by repeat (first | (with_reducible first | exact HB.out | apply qwA | apply qwN | apply qwD) | exact HB.out)) hb); clear HO_5; clear HB; have HO_5 := n0_; have HO157 := n1_; have HB := n2_; clear n0_ n1_ n2_; (try clear hb); (try clear hb2); (try clear hk); (try clear hi); (try clear ho0)))
     go_ret
     exact ⟨_, by first | rfl | (simp [errW_none, errW_some] <;> rfl) | (simp [*, errW_none, errW_some] <;> rfl), by (with_reducible repeat (first | apply qvA | apply qvN | apply qvD)); exact HO157.out, by repeat (first | (with_reducible first | exact HB.out | apply qwA | apply qwN | apply qwD) | exact HB.out)⟩
 ·rw [if_neg c3] at H
  exact absurd H (by simp)

/-! ### spec_WideAdd: function 31 -/
def spec_WideAdd.f (k : Nat) (a0_0 : Bool) (l0_1 : List Int) (a1_0 : Bool) (l1_1 : List Int) : Option (Bool × List Int) := if (a0_0 == a1_0) = true then ((spec_magAdd.f k l0_1 l1_1).bind fun t167 => ((spec_wide.f k a0_0 t167).bind fun bt170 => (some (bt170.1, bt170.2)))) else ((spec_magCmp.f k l0_1 l1_1).bind fun t174 => (if t174 ≥ 0 then ((spec_magSub.f k l0_1 l1_1).bind fun t175 => ((spec_wide.f k a0_0 t175).bind fun bt178 => (some (bt178.1, bt178.2)))) else ((spec_magSub.f k l1_1 l0_1).bind fun t182 => ((spec_wide.f k a1_0 t182).bind fun bt185 => (some (bt185.1, bt185.2))))))
theorem spec_WideAdd.mono : ∀ a0 a1 a2 a3 k, LeO (spec_WideAdd.f k a0 a1 a2 a3) (spec_WideAdd.f (k + 1) a0 a1 a2 a3) := by
 intro a0 a1 a2 a3 k
 unfold spec_WideAdd.f
 repeat' first
   | (with_reducible exact spec_magAdd.mono _ _ _)
   | (with_reducible exact spec_magCmp.mono _ _ _)
   | (with_reducible exact spec_magSub.mono _ _ _)
   | (with_reducible exact spec_wide.mono _ _ _)
   | (with_reducible exact LeO.refl _)
   | (with_reducible exact LeO.none _)
   | (with_reducible refine LeO.ite ?_ ?_)
   | (with_reducible refine LeO.bind ?_ (fun _ => ?_))
   | exact spec_magAdd.mono _ _ _
   | exact spec_magCmp.mono _ _ _
   | exact spec_magSub.mono _ _ _
   | exact spec_wide.mono _ _ _
   | exact LeO.none _
   | refine LeO.ite ?_ ?_
   | refine LeO.bind ?_ (fun _ => ?_)
def spec_WideAdd.T2 : Bool × List (List Nat × List Nat) := (true, [([], []), ([0], [0]), ([], []), ([2], [2]), ([], []), ([4], [4]), ([3, 5], [3, 5]), ([1, 6, 6], [1, 6]), ([7, 7, 0, 1, 2, 3, 4, 5, 6, 7], [7])])
def spec_WideAdd.B2 : List Nat := [0, 1, 0, 4, 0, 16, 60, 127, 255]
theorem spec_WideAdd.tab2 : rtab .any (opsOf Tryd.f31 2) = spec_WideAdd.T2 := by kernel_rfl
theorem spec_WideAdd.bits2 : waitsOk spec_WideAdd.T2.2 spec_WideAdd.B2 = true := by kernel_rfl
def spec_WideAdd.T4 : Bool × List (List Nat × List Nat) := (true, [([], []), ([0], [0]), ([], []), ([2], [2]), ([], []), ([4], [4]), ([3, 5], [3, 5]), ([1, 6, 6], [1, 6]), ([7, 7, 0, 1, 2, 3, 4, 5, 6, 7], [7])])
def spec_WideAdd.B4 : List Nat := [0, 1, 0, 4, 0, 16, 60, 127, 255]
theorem spec_WideAdd.tab4 : rtab .any (opsOf Tryd.f31 4) = spec_WideAdd.T4 := by kernel_rfl
theorem spec_WideAdd.bits4 : waitsOk spec_WideAdd.T4.2 spec_WideAdd.B4 = true := by kernel_rfl
def spec_WideAdd.T5 : Bool × List (List Nat × List Nat) := (true, [([], []), ([0], [0]), ([], []), ([2], [2]), ([], []), ([4], [4]), ([3, 5], [3, 5]), ([1, 6, 6], [1, 6]), ([7, 7, 0, 1, 2, 3, 4, 5, 6, 7], [7])])
def spec_WideAdd.B5 : List Nat := [0, 1, 0, 4, 0, 16, 60, 127, 255]
theorem spec_WideAdd.tab5 : rtab .any (opsOf Tryd.f31 5) = spec_WideAdd.T5 := by kernel_rfl
theorem spec_WideAdd.bits5 : waitsOk spec_WideAdd.T5.2 spec_WideAdd.B5 = true := by kernel_rfl
set_option maxHeartbeats 8000000 in
set_option maxRecDepth 100000 in
theorem spec_WideAdd.calls (k : Nat) (a0_0 : Bool) (A0_1 : Option Addr) (c0_1 : Nat) (l0_1 : List Int) (a1_0 : Bool) (A1_1 : Option Addr) (c1_1 : Nat) (l1_1 : List Int) (r1 : Bool) (r2 : List Int) (w : World) (hr0_1 : Kd.C (Kd.int .u32) w A0_1 l0_1.length l0_1) (hc0_1 : l0_1.length ≤ c0_1) (hr1_1 : Kd.C (Kd.int .u32) w A1_1 l1_1.length l1_1) (hc1_1 : l1_1.length ≤ c1_1) (h : spec_WideAdd.f k a0_0 l0_1 a1_0 l1_1 = some (r1, r2)) :
  Calls Tryd.prog 31 #[.agg #[.bool a0_0, .slice A0_1 l0_1.length c0_1], .agg #[.bool a1_0, .slice A1_1 l1_1.length c1_1]] w fun e w' => ∃ v1_ : Value, e = .returned (.agg #[.bool r1, v1_]) ∧ Kd.V (Kd.int .u32) 57 w' w.heap.size (fun k_ => (w.heap.size ≤ k_)) v1_ r2 ∧ Below w.heap.size w w' := by
 have hu40 := Tryd.underlying40
 have HR0_1 := qaM hr0_1
 have HC0_1 := qaM hc0_1
 clear hr0_1 hc0_1
 have HR1_1 := qaM hr1_1
 have HC1_1 := qaM hc1_1
 clear hr1_1 hc1_1
 have HB := qaM (Below.refl w.heap.size w)
 have H : (if (a0_0 == a1_0) = true then ((spec_magAdd.f k l0_1 l1_1).bind fun t167 => ((spec_wide.f k a0_0 t167).bind fun bt170 => (some (bt170.1, bt170.2)))) else ((spec_magCmp.f k l0_1 l1_1).bind fun t174 => (if t174 ≥ 0 then ((spec_magSub.f k l0_1 l1_1).bind fun t175 => ((spec_wide.f k a0_0 t175).bind fun bt178 => (some (bt178.1, bt178.2)))) else ((spec_magSub.f k l1_1 l0_1).bind fun t182 => ((spec_wide.f k a1_0 t182).bind fun bt185 => (some (bt185.1, bt185.2))))))) = some (r1, r2) := h
 clear h
 by_cases c3 : (a0_0 == a1_0) = true
 ·rw [if_pos c3] at H
  have c3b0 : (a0_0 == a1_0) = true := c3
  (try (have c3b1 : decide (a0_0 = a1_0) = true := by simpa using c3))
  (try (have c3b2 : (a0_0 == a1_0) = true := by simpa using c3))
  clear c3
  replace H := Option.bind_eq_some_iff.mp H
  obtain ⟨t167, A40, H⟩ := H
  replace H : ((spec_wide.f k a0_0 t167).bind fun bt170 => (some (bt170.1, bt170.2))) = some (r1, r2) := H
  have A4 := qaM A40
  clear A40
  replace H := Option.bind_eq_some_iff.mp H
  obtain ⟨⟨t170, t171⟩, A50, H⟩ := H
  replace H : (some (t170, t171)) = some (r1, r2) := H
  have A5 := qaM A50
  clear A50
  simp only [Option.some.injEq, Prod.mk.injEq] at H
  obtain ⟨rfl, rfl⟩ := H
  go_enter Tryd.func31, Tryd.ntmps31
  try go_wp2_with (first | ((with_reducible refine gate_dst (N := 2) rfl ?_); refine box_event ?hg (N := 2) ?hd (cs := #[.bool a0_0, .slice A0_1 l0_1.length c0_1]) (t := 40) ?hr ?_; (case hd => rfl); (case hg => rfl); (case hr => first | (go_simp; done) | (go_simp; rfl)); intro gb164 hg w6 hbox hb; have n0_ := qaM (qbT (by repeat (first | (with_reducible first | exact HB.out | apply qwA | apply qwN | apply qwD) | exact HB.out)) hb); have n1_ := qaM (hbox); have n2_ := qaM ((by rw [hg]; exact (qbS (by repeat (first | (with_reducible first | exact HB.out | apply qwA | apply qwN | apply qwD) | exact HB.out))) : w.heap.size ≤ gb164)); have n3_ := qaM ((by rw [hg]; exact (qbS (by repeat (first | (with_reducible first | exact HB.out | apply qwA | apply qwN | apply qwD) | exact HB.out))) : w.heap.size ≤ gb164)); clear HB; have HB := n0_; have BK164 := n1_; have GW164 := n2_; have GE164 := n3_; clear n0_ n1_ n2_ n3_; clear hb hbox hg) | ((with_reducible refine gate_dst (N := 3) rfl ?_); refine box_event ?hg (N := 3) ?hd (cs := #[.bool a1_0, .slice A1_1 l1_1.length c1_1]) (t := 40) ?hr ?_; (case hd => rfl); (case hg => rfl); (case hr => first | (go_simp; done) | (go_simp; rfl)); intro gb165 hg w7 hbox hb; have n0_ := qaM (qbB (g := gb164) (o := .cells #[.bool a0_0, .slice A0_1 l0_1.length c0_1] 40 (0, 0)) (by (with_reducible repeat (first | refine qbN ?_ _ | refine qbD ?_ | refine qbA ?_ _)); exact BK164.out) hb); have n1_ := qaM (qbT (by repeat (first | (with_reducible first | exact HB.out | apply qwA | apply qwN | apply qwD | refine qwS ?_ GE164.out) | exact HB.out)) hb); have n2_ := qaM (hbox); have n3_ := qaM ((by rw [hg]; exact (qbS (by repeat (first | (with_reducible first | exact HB.out | apply qwA | apply qwN | apply qwD | refine qwS ?_ GE164.out) | exact HB.out))) : w.heap.size ≤ gb165)); have n4_ := qaM ((by rw [hg]; exact (qbS (by repeat (first | (with_reducible first | exact HB.out | apply qwA | apply qwN | apply qwD | refine qwS ?_ GE164.out) | exact HB.out))) : w.heap.size ≤ gb165)); have n5_ := qaM ((by rw [hg]; exact qnL (qbL (g := gb164) (o := .cells #[.bool a0_0, .slice A0_1 l0_1.length c0_1] 40 (0, 0)) (by (with_reducible repeat (first | refine qbN ?_ _ | refine qbD ?_ | refine qbA ?_ _)); exact BK164.out)) : gb164 ≠ gb165)); have n6_ := qaM ((by rw [hg]; exact qnG (qbL (g := gb164) (o := .cells #[.bool a0_0, .slice A0_1 l0_1.length c0_1] 40 (0, 0)) (by (with_reducible repeat (first | refine qbN ?_ _ | refine qbD ?_ | refine qbA ?_ _)); exact BK164.out)) : gb165 ≠ gb164)); clear BK164; clear HB; have BK164 := n0_; have HB := n1_; have BK165 := n2_; have GW165 := n3_; have GE165 := n4_; have NB164_165 := n5_; have NB165_164 := n6_; clear n0_ n1_ n2_ n3_ n4_ n5_ n6_; clear hb hbox hg) | ((with_reducible refine gate_dst (N := 4) rfl ?_); refine box_event ?hg (N := 4) ?hd (cs := #[.bool false, .slice none 0 0]) (t := 40) ?hr ?_; (case hd => rfl); (case hg => rfl); (case hr => first | (go_simp; done) | (go_simp; rfl)); intro gb166 hg w8 hbox hb; have n0_ := qaM (qbB (g := gb164) (o := .cells #[.bool a0_0, .slice A0_1 l0_1.length c0_1] 40 (0, 0)) (by (with_reducible repeat (first | refine qbN ?_ _ | refine qbD ?_ | refine qbA ?_ _)); exact BK164.out) hb); have n1_ := qaM (qbB (g := gb165) (o := .cells #[.bool a1_0, .slice A1_1 l1_1.length c1_1] 40 (0, 0)) (by (with_reducible repeat (first | refine qbN ?_ _ | refine qbD ?_ | refine qbA ?_ _)); exact BK165.out) hb); have n2_ := qaM (qbT (by repeat (first | (with_reducible first | exact HB.out | apply qwA | apply qwN | apply qwD | refine qwS ?_ GE164.out | refine qwS ?_ GE165.out) | exact HB.out)) hb); have n3_ := qaM (hbox); have n4_ := qaM ((by rw [hg]; exact (qbS (by repeat (first | (with_reducible first | exact HB.out | apply qwA | apply qwN | apply qwD | refine qwS ?_ GE164.out | refine qwS ?_ GE165.out) | exact HB.out))) : w.heap.size ≤ gb166)); have n5_ := qaM ((by rw [hg]; exact (qbS (by repeat (first | (with_reducible first | exact HB.out | apply qwA | apply qwN | apply qwD | refine qwS ?_ GE164.out | refine qwS ?_ GE165.out) | exact HB.out))) : w.heap.size ≤ gb166)); have n6_ := qaM ((by rw [hg]; exact qnL (qbL (g := gb164) (o := .cells #[.bool a0_0, .slice A0_1 l0_1.length c0_1] 40 (0, 0)) (by (with_reducible repeat (first | refine qbN ?_ _ | refine qbD ?_ | refine qbA ?_ _)); exact BK164.out)) : gb164 ≠ gb166)); have n7_ := qaM ((by rw [hg]; exact qnG (qbL (g := gb164) (o := .cells #[.bool a0_0, .slice A0_1 l0_1.length c0_1] 40 (0, 0)) (by (with_reducible repeat (first | refine qbN ?_ _ | refine qbD ?_ | refine qbA ?_ _)); exact BK164.out)) : gb166 ≠ gb164)); have n8_ := qaM ((by rw [hg]; exact qnL (qbL (g := gb165) (o := .cells #[.bool a1_0, .slice A1_1 l1_1.length c1_1] 40 (0, 0)) (by (with_reducible repeat (first | refine qbN ?_ _ | refine qbD ?_ | refine qbA ?_ _)); exact BK165.out)) : gb165 ≠ gb166)); have n9_ := qaM ((by rw [hg]; exact qnG (qbL (g := gb165) (o := .cells #[.bool a1_0, .slice A1_1 l1_1.length c1_1] 40 (0, 0)) (by (with_reducible repeat (first | refine qbN ?_ _ | refine qbD ?_ | refine qbA ?_ _)); exact BK165.out)) : gb166 ≠ gb165)); clear BK164; clear BK165; clear HB; have BK164 := n0_; have BK165 := n1_; have HB := n2_; have BK166 := n3_; have GW166 := n4_; have GE166 := n5_; have NB164_166 := n6_; have NB166_164 := n7_; have NB165_166 := n8_; have NB166_165 := n9_; clear n0_ n1_ n2_ n3_ n4_ n5_ n6_ n7_ n8_ n9_; clear hb hbox hg; have hnb9 := NB164_165.out; have hnc9 := NB165_164.out; have hnb10 := NB164_166.out; have hnc10 := NB166_164.out; have hcz11_0 : w8.cell? ⟨gb164, 0, none⟩ = some (.bool a0_0) := (qbC BK164.out 0).trans rfl; have hcz11_1 : w8.cell? ⟨gb164, 1, none⟩ = some (.slice A0_1 l0_1.length c0_1) := (qbC BK164.out 1).trans rfl; have hfz11_0 := blk_frozen BK164.out 0; have hfz11_1 := blk_frozen BK164.out 1; have hnb12 := NB165_166.out; have hnc12 := NB166_165.out; have hcz13_0 : w8.cell? ⟨gb165, 0, none⟩ = some (.bool a1_0) := (qbC BK165.out 0).trans rfl; have hcz13_1 : w8.cell? ⟨gb165, 1, none⟩ = some (.slice A1_1 l1_1.length c1_1) := (qbC BK165.out 1).trans rfl; have hfz13_0 := blk_frozen BK165.out 0; have hfz13_1 := blk_frozen BK165.out 1))
  have n0_ := qaM (qbD BK164.out)
  have n1_ := qaM (qbD BK165.out)
  have n2_ := qaM (qbD BK166.out)
  have n3_ := qaM (qwD HB.out)
  clear BK164
  clear BK165
  clear BK166
  clear HB
  have BK164 := n0_
  have BK165 := n1_
  have BK166 := n2_
  have HB := n3_
  clear n0_ n1_ n2_ n3_
  refine start_ (n := 9) (S := fun w' => w'.cell? ⟨gb164, 0, none⟩ = some (.bool a0_0) ∧ w'.cell? ⟨gb164, 1, none⟩ = some (.slice A0_1 l0_1.length c0_1) ∧ w'.cell? ⟨gb165, 0, none⟩ = some (.bool a1_0) ∧ w'.cell? ⟨gb165, 1, none⟩ = some (.slice A1_1 l1_1.length c1_1)) (ds := []) #[false, false, false, false, false, false, false, false, false] (by kernel_rfl) rfl rfl ⟨(qbC BK164.out 0).trans rfl, (qbC BK164.out 1).trans rfl, (qbC BK165.out 0).trans rfl, (qbC BK165.out 1).trans rfl⟩ (fun hHeld => ?_); refine with_tabW spec_WideAdd.tab2 spec_WideAdd.bits2 (fun HT_ HW_ => ?_)
  generalize w8.drew = w14 at BK164 BK165 BK166 HB hHeld ⊢
  refine pure_ (i := 0) (N := some 10) (v := ?_) (a' := ?_) #[true, false, false, false, false, false, false, false, false] rfl rfl (any_of HT_.out (by kernel_rfl)) (fun _ _ _ h => h) (Or.inl ⟨by rfl, ?_⟩) ?_ ?_
  rotate_left
  ·intro w'
   go_simp
   with_reducible rfl
  rotate_left
  ·simp only [Act.put, qsA, qsZ, qsS, i64_w, i32_w]
   rfl
  refine pure_ (i := 2) (N := some 12) (v := ?_) (a' := ?_) #[true, false, true, false, false, false, false, false, false] rfl rfl (any_of HT_.out (by kernel_rfl)) (fun _ _ _ h => h) (Or.inl ⟨by rfl, ?_⟩) ?_ ?_
  rotate_left
  ·intro w'
   go_simp
   with_reducible rfl
  rotate_left
  ·simp only [Act.put, qsA, qsZ, qsS, i64_w, i32_w]
   rfl
  refine pure_ (i := 4) (N := some 14) (v := ?_) (a' := ?_) #[true, false, true, false, true, false, false, false, false] rfl rfl (any_of HT_.out (by kernel_rfl)) (fun _ _ _ h => h) (Or.inl ⟨by rfl, ?_⟩) ?_ ?_
  rotate_left
  ·intro w'
   go_simp
   with_reducible rfl
  rotate_left
  ·simp only [Act.put, qsA, qsZ, qsS, i64_w, i32_w]
   rfl
  refine take_ (i := 1) (N := some 11) (v := ?_) (a' := ?_) #[true, true, true, false, true, false, false, false, false] rfl rfl (take_ofW HT_.out HW_.out (by kernel_rfl)) (fun _ _ _ h => h) (Or.inl ⟨by rfl, ?_⟩) hHeld ?_ ?_
  rotate_left
  ·rintro w' ⟨s0, s1, s2, s3⟩
   go_simp
   with_reducible rfl
  rotate_left
  ·simp only [Act.put, qsA, qsZ, qsS, i64_w, i32_w]
   rfl
  refine take_ (i := 3) (N := some 13) (v := ?_) (a' := ?_) #[true, true, true, true, true, false, false, false, false] rfl rfl (take_ofW HT_.out HW_.out (by kernel_rfl)) (fun _ _ _ h => h) (Or.inl ⟨by rfl, ?_⟩) hHeld ?_ ?_
  rotate_left
  ·rintro w' ⟨s0, s1, s2, s3⟩
   go_simp
   with_reducible rfl
  rotate_left
  ·simp only [Act.put, qsA, qsZ, qsS, i64_w, i32_w]
   rfl
  refine take_ (i := 5) (N := some 15) (v := ?_) (a' := ?_) #[true, true, true, true, true, true, false, false, false] rfl rfl (take_ofW HT_.out HW_.out (by kernel_rfl)) (fun _ _ _ h => h) (Or.inl ⟨by rfl, ?_⟩) hHeld ?_ ?_
  rotate_left
  ·rintro w' ⟨s0, s1, s2, s3⟩
   go_simp
   with_reducible rfl
  rotate_left
  ·simp only [Act.put, qsA, qsZ, qsS, i64_w, i32_w]
   rfl
  refine one_ (i := 6) (N := some 16) #[true, true, true, true, true, true, true, false, false] rfl rfl (one_of HT_.out (by kernel_rfl)) (by decide) (fun K hK => ?_)
  refine goes_ Tryd.func62 (by kernel_rfl) rfl #[.slice A0_1 l0_1.length c0_1, .slice A1_1 l1_1.length c1_1] (by rfl) rfl rfl (by (try simp only [List.map_toArray, List.map_cons, List.map_nil]); first | done | rfl | (simp only [List.length_drop, List.length_take]; rfl)) ?_
  with_reducible refine (spec_magAdd.calls k _ _ l0_1 _ _ l1_1 t167 _ ?side1 ?side2 ?side3 ?side4 A4.out).mono ?_
  (case side1 => repeat (first | exact (Kd.C_below HR0_1.out HB.out) | (with_reducible refine Kd.C_alloc ?_ _) | (with_reducible refine Kd.C_drewN ?_ _) | (with_reducible refine Kd.C_drew ?_)))
  (case side2 => exact HC0_1.out)
  (case side3 => repeat (first | exact (Kd.C_below HR1_1.out HB.out) | (with_reducible refine Kd.C_alloc ?_ _) | (with_reducible refine Kd.C_drewN ?_ _) | (with_reducible refine Kd.C_drew ?_)))
  (case side4 => exact HC1_1.out)
  rintro e w15 ⟨v168, rfl, ho0, hb⟩
  refine ⟨_, rfl, ?_⟩
  have n0_ := qaM (Kd.R_lower (Kd.R_newM (M := fun k_ => (w.heap.size ≤ k_)) ho0 (qbS (by repeat (first | (with_reducible first | exact HB.out | apply qwA | apply qwN | apply qwD | refine qwS ?_ GE164.out | refine qwS ?_ GE165.out | refine qwS ?_ GE166.out) | exact HB.out))) (fun k_ h_ => h_)) (qbS (by repeat (first | (with_reducible first | exact HB.out | apply qwA | apply qwN | apply qwD | refine qwS ?_ GE164.out | refine qwS ?_ GE165.out | refine qwS ?_ GE166.out) | exact HB.out))))
  have n1_ := qaM (qbB (g := gb164) (o := .cells #[.bool a0_0, .slice A0_1 l0_1.length c0_1] 40 (0, 0)) (by (with_reducible repeat (first | refine qbN ?_ _ | refine qbD ?_ | refine qbA ?_ _)); exact BK164.out) hb)
  have n2_ := qaM (qbB (g := gb165) (o := .cells #[.bool a1_0, .slice A1_1 l1_1.length c1_1] 40 (0, 0)) (by (with_reducible repeat (first | refine qbN ?_ _ | refine qbD ?_ | refine qbA ?_ _)); exact BK165.out) hb)
  have n3_ := qaM (qbB (g := gb166) (o := .cells #[.bool false, .slice none 0 0] 40 (0, 0)) (by (with_reducible repeat (first | refine qbN ?_ _ | refine qbD ?_ | refine qbA ?_ _)); exact BK166.out) hb)
  have n4_ := qaM (qbT (by repeat (first | (with_reducible first | exact HB.out | apply qwA | apply qwN | apply qwD | refine qwS ?_ GE164.out | refine qwS ?_ GE165.out | refine qwS ?_ GE166.out) | exact HB.out)) hb)
  clear BK164
  clear BK165
  clear BK166
  clear HB
  have HO169 := n0_
  have BK164 := n1_
  have BK165 := n2_
  have BK166 := n3_
  have HB := n4_
  clear n0_ n1_ n2_ n3_ n4_
  (try clear hb)
  (try clear hb2)
  (try clear hk)
  (try clear hi)
  (try clear ho0)
  obtain ⟨Ao16, co16, eo16⟩ := Kd.R_slice HO169.out
  (first | subst eo16 | (injection eo16 with f1_ f2_ f3_; have f4_ := f1_.symm; have f5_ := f3_.symm; clear f1_ f2_ f3_; subst f4_; subst f5_))
  refine hK.out _ _ ⟨(qbC BK164.out 0).trans rfl, (qbC BK164.out 1).trans rfl, (qbC BK165.out 0).trans rfl, (qbC BK165.out 1).trans rfl⟩ (fun hHeld => ?_)
  clear hK K
  refine norm_ (a' := ?_) ?_ ?_
  rotate_left
  ·show Act.put _ (some 16) _ = _
   simp only [Act.put, qsA, qsZ, qsS, i64_w, i32_w]
   rfl
  refine one_ (i := 7) (N := some 17) #[true, true, true, true, true, true, true, true, false] rfl rfl (one_of HT_.out (by kernel_rfl)) (by decide) (fun K hK => ?_)
  refine goes_ Tryd.func20 (by kernel_rfl) rfl #[.bool a0_0, .slice Ao16 t167.length co16] (by rfl) rfl rfl (by (try simp only [List.map_toArray, List.map_cons, List.map_nil]); first | done | rfl | (simp only [List.length_drop, List.length_take]; rfl)) ?_
  with_reducible refine (spec_wide.calls k a0_0 (fun k_ => some k_ = (.slice Ao16 t167.length co16 : Value).ownBlock) _ _ t167 t170 t171 _ ?side1 A5.out).mono ?_
  (case side1 => exact qrV (Kd.R_tight rfl (qrT (qrT (qrT (HO169.out) BK164.out (by decide)) BK165.out (by decide)) BK166.out (by decide))))
  rintro e w17 ⟨v172, rfl, ho0, hb⟩
  refine ⟨_, rfl, ?_⟩
  have n0_ := qaM (qrB (by (with_reducible repeat (first | apply qrA | apply qrN | apply qrD)); exact HO169.out) hb)
  have n1_ := qaM (qvL (qvM (ok' := fun k_ => (w.heap.size ≤ k_) ∧ k_ ≠ gb164 ∧ k_ ≠ gb165 ∧ k_ ≠ gb166) ho0 (fun k_ hk_ => ⟨Or.elim hk_ (fun hs_ => ((qrT (qrT (qrT (HO169.out) BK164.out (by decide)) BK165.out (by decide)) BK166.out (by decide)).1 k_ hs_.symm).1.1.1.1) (fun hn_ => (Nat.le_trans (qbS (by repeat (first | (with_reducible first | exact HB.out | apply qwA | apply qwN | apply qwD | refine qwS ?_ GE164.out | refine qwS ?_ GE165.out | refine qwS ?_ GE166.out) | exact HB.out))) hn_)), Or.elim hk_ (fun hs_ => ((qrT (qrT (qrT (HO169.out) BK164.out (by decide)) BK165.out (by decide)) BK166.out (by decide)).1 k_ hs_.symm).1.1.2) (fun hn_ => (qfB (g := gb164) (o := .cells #[.bool a0_0, .slice A0_1 l0_1.length c0_1] 40 (0, 0)) (by (with_reducible repeat (first | refine qbN ?_ _ | refine qbD ?_ | refine qbA ?_ _)); exact BK164.out) k_ hn_)), Or.elim hk_ (fun hs_ => ((qrT (qrT (qrT (HO169.out) BK164.out (by decide)) BK165.out (by decide)) BK166.out (by decide)).1 k_ hs_.symm).1.2) (fun hn_ => (qfB (g := gb165) (o := .cells #[.bool a1_0, .slice A1_1 l1_1.length c1_1] 40 (0, 0)) (by (with_reducible repeat (first | refine qbN ?_ _ | refine qbD ?_ | refine qbA ?_ _)); exact BK165.out) k_ hn_)), Or.elim hk_ (fun hs_ => ((qrT (qrT (qrT (HO169.out) BK164.out (by decide)) BK165.out (by decide)) BK166.out (by decide)).1 k_ hs_.symm).2) (fun hn_ => (qfB (g := gb166) (o := .cells #[.bool false, .slice none 0 0] 40 (0, 0)) (by (with_reducible repeat (first | refine qbN ?_ _ | refine qbD ?_ | refine qbA ?_ _)); exact BK166.out) k_ hn_))⟩)) (qbS (by repeat (first | (with_reducible first | exact HB.out | apply qwA | apply qwN | apply qwD | refine qwS ?_ GE164.out | refine qwS ?_ GE165.out | refine qwS ?_ GE166.out) | exact HB.out))))
  have n2_ := qaM (qbB (g := gb164) (o := .cells #[.bool a0_0, .slice A0_1 l0_1.length c0_1] 40 (0, 0)) (by (with_reducible repeat (first | refine qbN ?_ _ | refine qbD ?_ | refine qbA ?_ _)); exact BK164.out) hb)
  have n3_ := qaM (qbB (g := gb165) (o := .cells #[.bool a1_0, .slice A1_1 l1_1.length c1_1] 40 (0, 0)) (by (with_reducible repeat (first | refine qbN ?_ _ | refine qbD ?_ | refine qbA ?_ _)); exact BK165.out) hb)
  have n4_ := qaM (qbB (g := gb166) (o := .cells #[.bool false, .slice none 0 0] 40 (0, 0)) (by (with_reducible repeat (first | refine qbN ?_ _ | refine qbD ?_ | refine qbA ?_ _)); exact BK166.out) hb)
  have n5_ := qaM (qbT (by repeat (first | (with_reducible first | exact HB.out | apply qwA | apply qwN | apply qwD | refine qwS ?_ GE164.out | refine qwS ?_ GE165.out | refine qwS ?_ GE166.out) | exact HB.out)) hb)
  clear HO169
  clear BK164
  clear BK165
  clear BK166
  clear HB
  have HO169 := n0_
  have HO173 := n1_
  have BK164 := n2_
  have BK165 := n3_
  have BK166 := n4_
  have HB := n5_
  clear n0_ n1_ n2_ n3_ n4_ n5_
  (try clear hb)
  (try clear hb2)
  (try clear hk)
  (try clear hi)
  (try clear ho0)
  obtain ⟨Ao19, co19, eo19⟩ := Kd.V_slice HO173.out
  (first | subst eo19 | (injection eo19 with f1_ f2_ f3_; have f4_ := f1_.symm; have f5_ := f3_.symm; clear f1_ f2_ f3_; subst f4_; subst f5_))
  refine hK.out _ _ ⟨(qbC BK164.out 0).trans rfl, (qbC BK164.out 1).trans rfl, (qbC BK165.out 0).trans rfl, (qbC BK165.out 1).trans rfl⟩ (fun hHeld => ?_)
  clear hK K
  refine norm_ (a' := ?_) ?_ ?_
  rotate_left
  ·show Act.put _ (some 17) _ = _
   simp only [Act.put, qsA, qsZ, qsS, i64_w, i32_w]
   rfl
  refine one_ (i := 8) (N := none) #[true, true, true, true, true, true, true, true, true] rfl rfl (one_of HT_.out (by kernel_rfl)) (by decide) (fun K hK => ?_)
  have hs18 : w17.cell? ⟨gb166, 0, none⟩ = some (.bool false) := (qbC BK166.out 0).trans rfl
  have hfs18 := blk_frozen BK166.out 0
  have hns18_0 := NB164_166.out
  have hns18_1 := NB165_166.out
  have hms18_0 := NB166_164.out
  have hms18_1 := NB166_165.out
  have hs20 : w17.cell? ⟨gb166, 1, none⟩ = some (.slice none 0 0) := (qbC BK166.out 1).trans rfl
  have hfs20 := blk_frozen BK166.out 1
  have hns20_0 := NB164_166.out
  have hns20_1 := NB165_166.out
  have hms20_0 := NB166_164.out
  have hms20_1 := NB166_165.out
  refine skip_ (w1 := ?_) (by rfl) rfl ?_ ?_
  rotate_left
  ·go_simp
   rfl
  refine hK.out _ _ ⟨((cell_far (p := ⟨gb166, _, none⟩) NB164_166.out _).trans (((cell_far (p := ⟨gb166, _, none⟩) NB164_166.out _).trans (hHeld.1)))), ((cell_far (p := ⟨gb166, _, none⟩) NB164_166.out _).trans (((cell_far (p := ⟨gb166, _, none⟩) NB164_166.out _).trans (hHeld.2.1)))), ((cell_far (p := ⟨gb166, _, none⟩) NB165_166.out _).trans (((cell_far (p := ⟨gb166, _, none⟩) NB165_166.out _).trans (hHeld.2.2.1)))), ((cell_far (p := ⟨gb166, _, none⟩) NB165_166.out _).trans (((cell_far (p := ⟨gb166, _, none⟩) NB165_166.out _).trans (hHeld.2.2.2))))⟩ (fun hHeld => ?_)
  clear hK K
  refine done_ (done_of HT_.out (by kernel_rfl)) ?_
  try go_wp2
  refine bodyPost_ret (results_cell_row rfl _ _ gb166 40 #[.bool t170, .slice Ao19 t171.length co19] (0, 0) _ rfl (by (with_reducible repeat (first | refine qbN ?_ _ | refine qbD ?_ | refine qbA ?_ _)); refine qbP (cs := #[.bool t170, .slice none 0 0]) ?_ 1 _ rfl; (with_reducible repeat (first | refine qbN ?_ _ | refine qbD ?_ | refine qbA ?_ _)); refine qbP (cs := #[.bool false, .slice none 0 0]) ?_ 0 _ rfl; (with_reducible repeat (first | refine qbN ?_ _ | refine qbD ?_ | refine qbA ?_ _)); exact BK166.out) Tryd.underlying40 rfl (by kernel_rfl)) rfl ?_
  exact ⟨_, by first | rfl | (simp [errW_none, errW_some] <;> rfl) | (simp [*, errW_none, errW_some] <;> rfl), by (with_reducible repeat (first | apply qvA | apply qvN | apply qvD)); exact qvM (qvF (p := ⟨gb166, 1, none⟩) (qvF (p := ⟨gb166, 0, none⟩) (qvM HO173.out (fun k_ hk => (⟨hk, hk.2.2.2⟩ : _ ∧ k_ ≠ gb166))) (fun _ hk => hk.2) (.bool t170)) (fun _ hk => hk.2) (.slice Ao19 t171.length co19)) (fun _ hk => hk.1.1), by repeat (first | (with_reducible first | exact HB.out | apply qwA | apply qwN | apply qwD | refine qwS ?_ GE164.out | refine qwS ?_ GE165.out | refine qwS ?_ GE166.out) | exact HB.out)⟩
 ·rw [if_neg c3] at H
  have c3b0 : (a0_0 == a1_0) = false := by simpa using c3
  (try (have c3b1 : decide (a0_0 = a1_0) = false := by simpa using c3))
  (try (have c3b2 : (a0_0 == a1_0) = false := by simpa using c3))
  (try (have c3b3 : ¬ (a0_0 = a1_0) := by simpa using c3))
  clear c3
  replace H := Option.bind_eq_some_iff.mp H
  obtain ⟨t174, A210, H⟩ := H
  replace H : (if t174 ≥ 0 then ((spec_magSub.f k l0_1 l1_1).bind fun t175 => ((spec_wide.f k a0_0 t175).bind fun bt178 => (some (bt178.1, bt178.2)))) else ((spec_magSub.f k l1_1 l0_1).bind fun t182 => ((spec_wide.f k a1_0 t182).bind fun bt185 => (some (bt185.1, bt185.2))))) = some (r1, r2) := H
  have A21 := qaM A210
  clear A210
  by_cases c22 : t174 ≥ 0
  ·rw [if_pos c22] at H
   have c22b0 : decide (0 ≤ t174) = true := decide_eq_true c22
   clear c22
   replace H := Option.bind_eq_some_iff.mp H
   obtain ⟨t175, A230, H⟩ := H
   replace H : ((spec_wide.f k a0_0 t175).bind fun bt178 => (some (bt178.1, bt178.2))) = some (r1, r2) := H
   have A23 := qaM A230
   clear A230
   replace H := Option.bind_eq_some_iff.mp H
   obtain ⟨⟨t178, t179⟩, A240, H⟩ := H
   replace H : (some (t178, t179)) = some (r1, r2) := H
   have A24 := qaM A240
   clear A240
   simp only [Option.some.injEq, Prod.mk.injEq] at H
   obtain ⟨rfl, rfl⟩ := H
   go_enter Tryd.func31, Tryd.ntmps31
   try go_wp2_with (first | ((with_reducible refine gate_dst (N := 2) rfl ?_); refine box_event ?hg (N := 2) ?hd (cs := #[.bool a0_0, .slice A0_1 l0_1.length c0_1]) (t := 40) ?hr ?_; (case hd => rfl); (case hg => rfl); (case hr => first | (go_simp; done) | (go_simp; rfl)); intro gb164 hg w25 hbox hb; have n0_ := qaM (qbT (by repeat (first | (with_reducible first | exact HB.out | apply qwA | apply qwN | apply qwD) | exact HB.out)) hb); have n1_ := qaM (hbox); have n2_ := qaM ((by rw [hg]; exact (qbS (by repeat (first | (with_reducible first | exact HB.out | apply qwA | apply qwN | apply qwD) | exact HB.out))) : w.heap.size ≤ gb164)); have n3_ := qaM ((by rw [hg]; exact (qbS (by repeat (first | (with_reducible first | exact HB.out | apply qwA | apply qwN | apply qwD) | exact HB.out))) : w.heap.size ≤ gb164)); clear HB; have HB := n0_; have BK164 := n1_; have GW164 := n2_; have GE164 := n3_; clear n0_ n1_ n2_ n3_; clear hb hbox hg) | ((with_reducible refine gate_dst (N := 3) rfl ?_); refine box_event ?hg (N := 3) ?hd (cs := #[.bool a1_0, .slice A1_1 l1_1.length c1_1]) (t := 40) ?hr ?_; (case hd => rfl); (case hg => rfl); (case hr => first | (go_simp; done) | (go_simp; rfl)); intro gb165 hg w26 hbox hb; have n0_ := qaM (qbB (g := gb164) (o := .cells #[.bool a0_0, .slice A0_1 l0_1.length c0_1] 40 (0, 0)) (by (with_reducible repeat (first | refine qbN ?_ _ | refine qbD ?_ | refine qbA ?_ _)); exact BK164.out) hb); have n1_ := qaM (qbT (by repeat (first | (with_reducible first | exact HB.out | apply qwA | apply qwN | apply qwD | refine qwS ?_ GE164.out) | exact HB.out)) hb); have n2_ := qaM (hbox); have n3_ := qaM ((by rw [hg]; exact (qbS (by repeat (first | (with_reducible first | exact HB.out | apply qwA | apply qwN | apply qwD | refine qwS ?_ GE164.out) | exact HB.out))) : w.heap.size ≤ gb165)); have n4_ := qaM ((by rw [hg]; exact (qbS (by repeat (first | (with_reducible first | exact HB.out | apply qwA | apply qwN | apply qwD | refine qwS ?_ GE164.out) | exact HB.out))) : w.heap.size ≤ gb165)); have n5_ := qaM ((by rw [hg]; exact qnL (qbL (g := gb164) (o := .cells #[.bool a0_0, .slice A0_1 l0_1.length c0_1] 40 (0, 0)) (by (with_reducible repeat (first | refine qbN ?_ _ | refine qbD ?_ | refine qbA ?_ _)); exact BK164.out)) : gb164 ≠ gb165)); have n6_ := qaM ((by rw [hg]; exact qnG (qbL (g := gb164) (o := .cells #[.bool a0_0, .slice A0_1 l0_1.length c0_1] 40 (0, 0)) (by (with_reducible repeat (first | refine qbN ?_ _ | refine qbD ?_ | refine qbA ?_ _)); exact BK164.out)) : gb165 ≠ gb164)); clear BK164; clear HB; have BK164 := n0_; have HB := n1_; have BK165 := n2_; have GW165 := n3_; have GE165 := n4_; have NB164_165 := n5_; have NB165_164 := n6_; clear n0_ n1_ n2_ n3_ n4_ n5_ n6_; clear hb hbox hg) | ((with_reducible refine gate_dst (N := 4) rfl ?_); refine box_event ?hg (N := 4) ?hd (cs := #[.bool false, .slice none 0 0]) (t := 40) ?hr ?_; (case hd => rfl); (case hg => rfl); (case hr => first | (go_simp; done) | (go_simp; rfl)); intro gb166 hg w27 hbox hb; have n0_ := qaM (qbB (g := gb164) (o := .cells #[.bool a0_0, .slice A0_1 l0_1.length c0_1] 40 (0, 0)) (by (with_reducible repeat (first | refine qbN ?_ _ | refine qbD ?_ | refine qbA ?_ _)); exact BK164.out) hb); have n1_ := qaM (qbB (g := gb165) (o := .cells #[.bool a1_0, .slice A1_1 l1_1.length c1_1] 40 (0, 0)) (by (with_reducible repeat (first | refine qbN ?_ _ | refine qbD ?_ | refine qbA ?_ _)); exact BK165.out) hb); have n2_ := qaM (qbT (by repeat (first | (with_reducible first | exact HB.out | apply qwA | apply qwN | apply qwD | refine qwS ?_ GE164.out | refine qwS ?_ GE165.out) | exact HB.out)) hb); have n3_ := qaM (hbox); have n4_ := qaM ((by rw [hg]; exact (qbS (by repeat (first | (with_reducible first | exact HB.out | apply qwA | apply qwN | apply qwD | refine qwS ?_ GE164.out | refine qwS ?_ GE165.out) | exact HB.out))) : w.heap.size ≤ gb166)); have n5_ := qaM ((by rw [hg]; exact (qbS (by repeat (first | (with_reducible first | exact HB.out | apply qwA | apply qwN | apply qwD | refine qwS ?_ GE164.out | refine qwS ?_ GE165.out) | exact HB.out))) : w.heap.size ≤ gb166)); have n6_ := qaM ((by rw [hg]; exact qnL (qbL (g := gb164) (o := .cells #[.bool a0_0, .slice A0_1 l0_1.length c0_1] 40 (0, 0)) (by (with_reducible repeat (first | refine qbN ?_ _ | refine qbD ?_ | refine qbA ?_ _)); exact BK164.out)) : gb164 ≠ gb166)); have n7_ := qaM ((by rw [hg]; exact qnG (qbL (g := gb164) (o := .cells #[.bool a0_0, .slice A0_1 l0_1.length c0_1] 40 (0, 0)) (by (with_reducible repeat (first | refine qbN ?_ _ | refine qbD ?_ | refine qbA ?_ _)); exact BK164.out)) : gb166 ≠ gb164)); have n8_ := qaM ((by rw [hg]; exact qnL (qbL (g := gb165) (o := .cells #[.bool a1_0, .slice A1_1 l1_1.length c1_1] 40 (0, 0)) (by (with_reducible repeat (first | refine qbN ?_ _ | refine qbD ?_ | refine qbA ?_ _)); exact BK165.out)) : gb165 ≠ gb166)); have n9_ := qaM ((by rw [hg]; exact qnG (qbL (g := gb165) (o := .cells #[.bool a1_0, .slice A1_1 l1_1.length c1_1] 40 (0, 0)) (by (with_reducible repeat (first | refine qbN ?_ _ | refine qbD ?_ | refine qbA ?_ _)); exact BK165.out)) : gb166 ≠ gb165)); clear BK164; clear BK165; clear HB; have BK164 := n0_; have BK165 := n1_; have HB := n2_; have BK166 := n3_; have GW166 := n4_; have GE166 := n5_; have NB164_166 := n6_; have NB166_164 := n7_; have NB165_166 := n8_; have NB166_165 := n9_; clear n0_ n1_ n2_ n3_ n4_ n5_ n6_ n7_ n8_ n9_; clear hb hbox hg; have hnb28 := NB164_165.out; have hnc28 := NB165_164.out; have hnb29 := NB164_166.out; have hnc29 := NB166_164.out; have hcz30_0 : w27.cell? ⟨gb164, 0, none⟩ = some (.bool a0_0) := (qbC BK164.out 0).trans rfl; have hcz30_1 : w27.cell? ⟨gb164, 1, none⟩ = some (.slice A0_1 l0_1.length c0_1) := (qbC BK164.out 1).trans rfl; have hfz30_0 := blk_frozen BK164.out 0; have hfz30_1 := blk_frozen BK164.out 1; have hnb31 := NB165_166.out; have hnc31 := NB166_165.out; have hcz32_0 : w27.cell? ⟨gb165, 0, none⟩ = some (.bool a1_0) := (qbC BK165.out 0).trans rfl; have hcz32_1 : w27.cell? ⟨gb165, 1, none⟩ = some (.slice A1_1 l1_1.length c1_1) := (qbC BK165.out 1).trans rfl; have hfz32_0 := blk_frozen BK165.out 0; have hfz32_1 := blk_frozen BK165.out 1) | ((with_reducible refine gate_callee (f := 19) rfl ?_); refine goesL_ (some 22) rfl rfl Tryd.func19 (by kernel_rfl) rfl #[.slice A0_1 l0_1.length c0_1, .slice A1_1 l1_1.length c1_1] rfl (by (try simp only [List.map_toArray, List.map_cons, List.map_nil]); first | done | rfl | (simp only [List.length_drop, List.length_take]; rfl)) ?_; (with_reducible refine (spec_magCmp.calls k _ _ l0_1 _ _ l1_1 t174 _ ?side1 ?side2 ?side3 ?side4 A21.out).mono ?_); (case side1 => repeat (first | exact (Kd.C_below HR0_1.out HB.out) | (with_reducible refine Kd.C_alloc ?_ _) | (with_reducible refine Kd.C_drewN ?_ _) | (with_reducible refine Kd.C_drew ?_))); (case side2 => exact HC0_1.out); (case side3 => repeat (first | exact (Kd.C_below HR1_1.out HB.out) | (with_reducible refine Kd.C_alloc ?_ _) | (with_reducible refine Kd.C_drewN ?_ _) | (with_reducible refine Kd.C_drew ?_))); (case side4 => exact HC1_1.out); rintro e w' ⟨rfl, ⟨nd, rfl⟩⟩; refine ⟨_, rfl, ?_⟩; (try (rw [drewN_self w27]; generalize hq_ : World.drewN w27 _ = w27; have n0_ : Aside0 (w27.heap[gb164]? = some (.cells #[.bool a0_0, .slice A0_1 l0_1.length c0_1] 40 (0, 0))) := ⟨by rw [← hq_]; exact (by (with_reducible repeat (first | refine qbN ?_ _ | refine qbD ?_ | refine qbA ?_ _)); exact BK164.out)⟩; have n1_ : Aside0 (w27.heap[gb165]? = some (.cells #[.bool a1_0, .slice A1_1 l1_1.length c1_1] 40 (0, 0))) := ⟨by rw [← hq_]; exact (by (with_reducible repeat (first | refine qbN ?_ _ | refine qbD ?_ | refine qbA ?_ _)); exact BK165.out)⟩; have n2_ : Aside0 (w27.heap[gb166]? = some (.cells #[.bool false, .slice none 0 0] 40 (0, 0))) := ⟨by rw [← hq_]; exact (by (with_reducible repeat (first | refine qbN ?_ _ | refine qbD ?_ | refine qbA ?_ _)); exact BK166.out)⟩; have n3_ : Aside0 (Below w.heap.size w w27) := ⟨by rw [← hq_]; exact (by repeat (first | (with_reducible first | exact HB.out | apply qwA | apply qwN | apply qwD | refine qwS ?_ GE164.out | refine qwS ?_ GE165.out | refine qwS ?_ GE166.out) | exact HB.out))⟩; clear BK164 BK165 BK166 HB hq_; have BK164 := n0_; have BK165 := n1_; have BK166 := n2_; have HB := n3_; clear n0_ n1_ n2_ n3_))))
   have n0_ := qaM (qbD BK164.out)
   have n1_ := qaM (qbD BK165.out)
   have n2_ := qaM (qbD BK166.out)
   have n3_ := qaM (qwD HB.out)
   clear BK164
   clear BK165
   clear BK166
   clear HB
   have BK164 := n0_
   have BK165 := n1_
   have BK166 := n2_
   have HB := n3_
   clear n0_ n1_ n2_ n3_
   refine start_ (n := 9) (S := fun w' => w'.cell? ⟨gb164, 0, none⟩ = some (.bool a0_0) ∧ w'.cell? ⟨gb164, 1, none⟩ = some (.slice A0_1 l0_1.length c0_1) ∧ w'.cell? ⟨gb165, 0, none⟩ = some (.bool a1_0) ∧ w'.cell? ⟨gb165, 1, none⟩ = some (.slice A1_1 l1_1.length c1_1)) (ds := []) #[false, false, false, false, false, false, false, false, false] (by kernel_rfl) rfl rfl ⟨(qbC BK164.out 0).trans rfl, (qbC BK164.out 1).trans rfl, (qbC BK165.out 0).trans rfl, (qbC BK165.out 1).trans rfl⟩ (fun hHeld => ?_); refine with_tabW spec_WideAdd.tab4 spec_WideAdd.bits4 (fun HT_ HW_ => ?_)
   generalize w27.drew = w33 at BK164 BK165 BK166 HB hHeld ⊢
   refine pure_ (i := 0) (N := some 24) (v := ?_) (a' := ?_) #[true, false, false, false, false, false, false, false, false] rfl rfl (any_of HT_.out (by kernel_rfl)) (fun _ _ _ h => h) (Or.inl ⟨by rfl, ?_⟩) ?_ ?_
   rotate_left
   ·intro w'
    go_simp
    with_reducible rfl
   rotate_left
   ·simp only [Act.put, qsA, qsZ, qsS, i64_w, i32_w]
    rfl
   refine pure_ (i := 2) (N := some 26) (v := ?_) (a' := ?_) #[true, false, true, false, false, false, false, false, false] rfl rfl (any_of HT_.out (by kernel_rfl)) (fun _ _ _ h => h) (Or.inl ⟨by rfl, ?_⟩) ?_ ?_
   rotate_left
   ·intro w'
    go_simp
    with_reducible rfl
   rotate_left
   ·simp only [Act.put, qsA, qsZ, qsS, i64_w, i32_w]
    rfl
   refine pure_ (i := 4) (N := some 28) (v := ?_) (a' := ?_) #[true, false, true, false, true, false, false, false, false] rfl rfl (any_of HT_.out (by kernel_rfl)) (fun _ _ _ h => h) (Or.inl ⟨by rfl, ?_⟩) ?_ ?_
   rotate_left
   ·intro w'
    go_simp
    with_reducible rfl
   rotate_left
   ·simp only [Act.put, qsA, qsZ, qsS, i64_w, i32_w]
    rfl
   refine take_ (i := 1) (N := some 25) (v := ?_) (a' := ?_) #[true, true, true, false, true, false, false, false, false] rfl rfl (take_ofW HT_.out HW_.out (by kernel_rfl)) (fun _ _ _ h => h) (Or.inl ⟨by rfl, ?_⟩) hHeld ?_ ?_
   rotate_left
   ·rintro w' ⟨s0, s1, s2, s3⟩
    go_simp
    with_reducible rfl
   rotate_left
   ·simp only [Act.put, qsA, qsZ, qsS, i64_w, i32_w]
    rfl
   refine take_ (i := 3) (N := some 27) (v := ?_) (a' := ?_) #[true, true, true, true, true, false, false, false, false] rfl rfl (take_ofW HT_.out HW_.out (by kernel_rfl)) (fun _ _ _ h => h) (Or.inl ⟨by rfl, ?_⟩) hHeld ?_ ?_
   rotate_left
   ·rintro w' ⟨s0, s1, s2, s3⟩
    go_simp
    with_reducible rfl
   rotate_left
   ·simp only [Act.put, qsA, qsZ, qsS, i64_w, i32_w]
    rfl
   refine take_ (i := 5) (N := some 29) (v := ?_) (a' := ?_) #[true, true, true, true, true, true, false, false, false] rfl rfl (take_ofW HT_.out HW_.out (by kernel_rfl)) (fun _ _ _ h => h) (Or.inl ⟨by rfl, ?_⟩) hHeld ?_ ?_
   rotate_left
   ·rintro w' ⟨s0, s1, s2, s3⟩
    go_simp
    with_reducible rfl
   rotate_left
   ·simp only [Act.put, qsA, qsZ, qsS, i64_w, i32_w]
    rfl
   refine one_ (i := 6) (N := some 30) #[true, true, true, true, true, true, true, false, false] rfl rfl (one_of HT_.out (by kernel_rfl)) (by decide) (fun K hK => ?_)
   refine goes_ Tryd.func63 (by kernel_rfl) rfl #[.slice A0_1 l0_1.length c0_1, .slice A1_1 l1_1.length c1_1] (by rfl) rfl rfl (by (try simp only [List.map_toArray, List.map_cons, List.map_nil]); first | done | rfl | (simp only [List.length_drop, List.length_take]; rfl)) ?_
   with_reducible refine (spec_magSub.calls k _ _ l0_1 _ _ l1_1 t175 _ ?side1 ?side2 ?side3 ?side4 A23.out).mono ?_
   (case side1 => repeat (first | exact (Kd.C_below HR0_1.out HB.out) | (with_reducible refine Kd.C_alloc ?_ _) | (with_reducible refine Kd.C_drewN ?_ _) | (with_reducible refine Kd.C_drew ?_)))
   (case side2 => exact HC0_1.out)
   (case side3 => repeat (first | exact (Kd.C_below HR1_1.out HB.out) | (with_reducible refine Kd.C_alloc ?_ _) | (with_reducible refine Kd.C_drewN ?_ _) | (with_reducible refine Kd.C_drew ?_)))
   (case side4 => exact HC1_1.out)
   rintro e w34 ⟨v176, rfl, ho0, hb⟩
   refine ⟨_, rfl, ?_⟩
   have n0_ := qaM (qvL (qvM (ok' := fun k_ => (w.heap.size ≤ k_) ∧ k_ ≠ gb164 ∧ k_ ≠ gb165 ∧ k_ ≠ gb166) ho0 (fun k_ hk_ => ⟨(Nat.le_trans (qbS (by repeat (first | (with_reducible first | exact HB.out | apply qwA | apply qwN | apply qwD | refine qwS ?_ GE164.out | refine qwS ?_ GE165.out | refine qwS ?_ GE166.out) | exact HB.out))) hk_), (qfB (g := gb164) (o := .cells #[.bool a0_0, .slice A0_1 l0_1.length c0_1] 40 (0, 0)) (by (with_reducible repeat (first | refine qbN ?_ _ | refine qbD ?_ | refine qbA ?_ _)); exact BK164.out) k_ hk_), (qfB (g := gb165) (o := .cells #[.bool a1_0, .slice A1_1 l1_1.length c1_1] 40 (0, 0)) (by (with_reducible repeat (first | refine qbN ?_ _ | refine qbD ?_ | refine qbA ?_ _)); exact BK165.out) k_ hk_), (qfB (g := gb166) (o := .cells #[.bool false, .slice none 0 0] 40 (0, 0)) (by (with_reducible repeat (first | refine qbN ?_ _ | refine qbD ?_ | refine qbA ?_ _)); exact BK166.out) k_ hk_)⟩)) (qbS (by repeat (first | (with_reducible first | exact HB.out | apply qwA | apply qwN | apply qwD | refine qwS ?_ GE164.out | refine qwS ?_ GE165.out | refine qwS ?_ GE166.out) | exact HB.out))))
   have n1_ := qaM (qbB (g := gb164) (o := .cells #[.bool a0_0, .slice A0_1 l0_1.length c0_1] 40 (0, 0)) (by (with_reducible repeat (first | refine qbN ?_ _ | refine qbD ?_ | refine qbA ?_ _)); exact BK164.out) hb)
   have n2_ := qaM (qbB (g := gb165) (o := .cells #[.bool a1_0, .slice A1_1 l1_1.length c1_1] 40 (0, 0)) (by (with_reducible repeat (first | refine qbN ?_ _ | refine qbD ?_ | refine qbA ?_ _)); exact BK165.out) hb)
   have n3_ := qaM (qbB (g := gb166) (o := .cells #[.bool false, .slice none 0 0] 40 (0, 0)) (by (with_reducible repeat (first | refine qbN ?_ _ | refine qbD ?_ | refine qbA ?_ _)); exact BK166.out) hb)
   have n4_ := qaM (qbT (by repeat (first | (with_reducible first | exact HB.out | apply qwA | apply qwN | apply qwD | refine qwS ?_ GE164.out | refine qwS ?_ GE165.out | refine qwS ?_ GE166.out) | exact HB.out)) hb)
   clear BK164
   clear BK165
   clear BK166
   clear HB
   have HO177 := n0_
   have BK164 := n1_
   have BK165 := n2_
   have BK166 := n3_
   have HB := n4_
   clear n0_ n1_ n2_ n3_ n4_
   (try clear hb)
   (try clear hb2)
   (try clear hk)
   (try clear hi)
   (try clear ho0)
   obtain ⟨Ao35, co35, eo35⟩ := Kd.V_slice HO177.out
   (first | subst eo35 | (injection eo35 with f1_ f2_ f3_; have f4_ := f1_.symm; have f5_ := f3_.symm; clear f1_ f2_ f3_; subst f4_; subst f5_))
   refine hK.out _ _ ⟨(qbC BK164.out 0).trans rfl, (qbC BK164.out 1).trans rfl, (qbC BK165.out 0).trans rfl, (qbC BK165.out 1).trans rfl⟩ (fun hHeld => ?_)
   clear hK K
   refine norm_ (a' := ?_) ?_ ?_
   rotate_left
   ·show Act.put _ (some 30) _ = _
    simp only [Act.put, qsA, qsZ, qsS, i64_w, i32_w]
    rfl
   refine one_ (i := 7) (N := some 31) #[true, true, true, true, true, true, true, true, false] rfl rfl (one_of HT_.out (by kernel_rfl)) (by decide) (fun K hK => ?_)
   refine goes_ Tryd.func20 (by kernel_rfl) rfl #[.bool a0_0, .slice Ao35 t175.length co35] (by rfl) rfl rfl (by (try simp only [List.map_toArray, List.map_cons, List.map_nil]); first | done | rfl | (simp only [List.length_drop, List.length_take]; rfl)) ?_
   with_reducible refine (spec_wide.calls k a0_0 (fun k_ => ((w.heap.size ≤ k_) ∧ (k_ ≠ gb164 ∧ (k_ ≠ gb165 ∧ k_ ≠ gb166)))) _ _ t175 t178 t179 _ ?side1 A24.out).mono ?_
   (case side1 => exact HO177.out)
   rintro e w36 ⟨v180, rfl, ho0, hb⟩
   refine ⟨_, rfl, ?_⟩
   have n0_ := qaM (qvB (by (with_reducible repeat (first | apply qvA | apply qvN | apply qvD)); exact HO177.out) hb)
   have n1_ := qaM (qvL (qvM (ok' := fun k_ => (w.heap.size ≤ k_) ∧ k_ ≠ gb164 ∧ k_ ≠ gb165 ∧ k_ ≠ gb166) ho0 (fun k_ hk_ => ⟨Or.elim hk_ (fun hs_ => hs_.1) (fun hn_ => (Nat.le_trans (qbS (by repeat (first | (with_reducible first | exact HB.out | apply qwA | apply qwN | apply qwD | refine qwS ?_ GE164.out | refine qwS ?_ GE165.out | refine qwS ?_ GE166.out) | exact HB.out))) hn_)), Or.elim hk_ (fun hs_ => hs_.2.1) (fun hn_ => (qfB (g := gb164) (o := .cells #[.bool a0_0, .slice A0_1 l0_1.length c0_1] 40 (0, 0)) (by (with_reducible repeat (first | refine qbN ?_ _ | refine qbD ?_ | refine qbA ?_ _)); exact BK164.out) k_ hn_)), Or.elim hk_ (fun hs_ => hs_.2.2.1) (fun hn_ => (qfB (g := gb165) (o := .cells #[.bool a1_0, .slice A1_1 l1_1.length c1_1] 40 (0, 0)) (by (with_reducible repeat (first | refine qbN ?_ _ | refine qbD ?_ | refine qbA ?_ _)); exact BK165.out) k_ hn_)), Or.elim hk_ (fun hs_ => hs_.2.2.2) (fun hn_ => (qfB (g := gb166) (o := .cells #[.bool false, .slice none 0 0] 40 (0, 0)) (by (with_reducible repeat (first | refine qbN ?_ _ | refine qbD ?_ | refine qbA ?_ _)); exact BK166.out) k_ hn_))⟩)) (qbS (by repeat (first | (with_reducible first | exact HB.out | apply qwA | apply qwN | apply qwD | refine qwS ?_ GE164.out | refine qwS ?_ GE165.out | refine qwS ?_ GE166.out) | exact HB.out))))
   have n2_ := qaM (qbB (g := gb164) (o := .cells #[.bool a0_0, .slice A0_1 l0_1.length c0_1] 40 (0, 0)) (by (with_reducible repeat (first | refine qbN ?_ _ | refine qbD ?_ | refine qbA ?_ _)); exact BK164.out) hb)
   have n3_ := qaM (qbB (g := gb165) (o := .cells #[.bool a1_0, .slice A1_1 l1_1.length c1_1] 40 (0, 0)) (by (with_reducible repeat (first | refine qbN ?_ _ | refine qbD ?_ | refine qbA ?_ _)); exact BK165.out) hb)
   have n4_ := qaM (qbB (g := gb166) (o := .cells #[.bool false, .slice none 0 0] 40 (0, 0)) (by (with_reducible repeat (first | refine qbN ?_ _ | refine qbD ?_ | refine qbA ?_ _)); exact BK166.out) hb)
   have n5_ := qaM (qbT (by repeat (first | (with_reducible first | exact HB.out | apply qwA | apply qwN | apply qwD | refine qwS ?_ GE164.out | refine qwS ?_ GE165.out | refine qwS ?_ GE166.out) | exact HB.out)) hb)
   clear HO177
   clear BK164
   clear BK165
   clear BK166
   clear HB
   have HO177 := n0_
   have HO181 := n1_
   have BK164 := n2_
   have BK165 := n3_
   have BK166 := n4_
   have HB := n5_
   clear n0_ n1_ n2_ n3_ n4_ n5_
   (try clear hb)
   (try clear hb2)
   (try clear hk)
   (try clear hi)
   (try clear ho0)
   obtain ⟨Ao38, co38, eo38⟩ := Kd.V_slice HO181.out
   (first | subst eo38 | (injection eo38 with f1_ f2_ f3_; have f4_ := f1_.symm; have f5_ := f3_.symm; clear f1_ f2_ f3_; subst f4_; subst f5_))
   refine hK.out _ _ ⟨(qbC BK164.out 0).trans rfl, (qbC BK164.out 1).trans rfl, (qbC BK165.out 0).trans rfl, (qbC BK165.out 1).trans rfl⟩ (fun hHeld => ?_)
   clear hK K
   refine norm_ (a' := ?_) ?_ ?_
   rotate_left
   ·show Act.put _ (some 31) _ = _
    simp only [Act.put, qsA, qsZ, qsS, i64_w, i32_w]
    rfl
   refine one_ (i := 8) (N := none) #[true, true, true, true, true, true, true, true, true] rfl rfl (one_of HT_.out (by kernel_rfl)) (by decide) (fun K hK => ?_)
   have hs37 : w36.cell? ⟨gb166, 0, none⟩ = some (.bool false) := (qbC BK166.out 0).trans rfl
   have hfs37 := blk_frozen BK166.out 0
   have hns37_0 := NB164_166.out
   have hns37_1 := NB165_166.out
   have hms37_0 := NB166_164.out
   have hms37_1 := NB166_165.out
   have hs39 : w36.cell? ⟨gb166, 1, none⟩ = some (.slice none 0 0) := (qbC BK166.out 1).trans rfl
   have hfs39 := blk_frozen BK166.out 1
   have hns39_0 := NB164_166.out
   have hns39_1 := NB165_166.out
   have hms39_0 := NB166_164.out
   have hms39_1 := NB166_165.out
   refine skip_ (w1 := ?_) (by rfl) rfl ?_ ?_
   rotate_left
   ·go_simp
    rfl
   refine hK.out _ _ ⟨((cell_far (p := ⟨gb166, _, none⟩) NB164_166.out _).trans (((cell_far (p := ⟨gb166, _, none⟩) NB164_166.out _).trans (hHeld.1)))), ((cell_far (p := ⟨gb166, _, none⟩) NB164_166.out _).trans (((cell_far (p := ⟨gb166, _, none⟩) NB164_166.out _).trans (hHeld.2.1)))), ((cell_far (p := ⟨gb166, _, none⟩) NB165_166.out _).trans (((cell_far (p := ⟨gb166, _, none⟩) NB165_166.out _).trans (hHeld.2.2.1)))), ((cell_far (p := ⟨gb166, _, none⟩) NB165_166.out _).trans (((cell_far (p := ⟨gb166, _, none⟩) NB165_166.out _).trans (hHeld.2.2.2))))⟩ (fun hHeld => ?_)
   clear hK K
   refine done_ (done_of HT_.out (by kernel_rfl)) ?_
   try go_wp2
   refine bodyPost_ret (results_cell_row rfl _ _ gb166 40 #[.bool t178, .slice Ao38 t179.length co38] (0, 0) _ rfl (by (with_reducible repeat (first | refine qbN ?_ _ | refine qbD ?_ | refine qbA ?_ _)); refine qbP (cs := #[.bool t178, .slice none 0 0]) ?_ 1 _ rfl; (with_reducible repeat (first | refine qbN ?_ _ | refine qbD ?_ | refine qbA ?_ _)); refine qbP (cs := #[.bool false, .slice none 0 0]) ?_ 0 _ rfl; (with_reducible repeat (first | refine qbN ?_ _ | refine qbD ?_ | refine qbA ?_ _)); exact BK166.out) Tryd.underlying40 rfl (by kernel_rfl)) rfl ?_
   exact ⟨_, by first | rfl | (simp [errW_none, errW_some] <;> rfl) | (simp [*, errW_none, errW_some] <;> rfl), by (with_reducible repeat (first | apply qvA | apply qvN | apply qvD)); exact qvM (qvF (p := ⟨gb166, 1, none⟩) (qvF (p := ⟨gb166, 0, none⟩) (qvM HO181.out (fun k_ hk => (⟨hk, hk.2.2.2⟩ : _ ∧ k_ ≠ gb166))) (fun _ hk => hk.2) (.bool t178)) (fun _ hk => hk.2) (.slice Ao38 t179.length co38)) (fun _ hk => hk.1.1), by repeat (first | (with_reducible first | exact HB.out | apply qwA | apply qwN | apply qwD | refine qwS ?_ GE164.out | refine qwS ?_ GE165.out | refine qwS ?_ GE166.out) | exact HB.out)⟩
  ·rw [if_neg c22] at H
   have c22b0 : decide (0 ≤ t174) = false := decide_eq_false c22
   clear c22
   replace H := Option.bind_eq_some_iff.mp H
   obtain ⟨t182, A400, H⟩ := H
   replace H : ((spec_wide.f k a1_0 t182).bind fun bt185 => (some (bt185.1, bt185.2))) = some (r1, r2) := H
   have A40 := qaM A400
   clear A400
   replace H := Option.bind_eq_some_iff.mp H
   obtain ⟨⟨t185, t186⟩, A410, H⟩ := H
   replace H : (some (t185, t186)) = some (r1, r2) := H
   have A41 := qaM A410
   clear A410
   simp only [Option.some.injEq, Prod.mk.injEq] at H
   obtain ⟨rfl, rfl⟩ := H
   go_enter Tryd.func31, Tryd.ntmps31
   try go_wp2_with (first | ((with_reducible refine gate_dst (N := 2) rfl ?_); refine box_event ?hg (N := 2) ?hd (cs := #[.bool a0_0, .slice A0_1 l0_1.length c0_1]) (t := 40) ?hr ?_; (case hd => rfl); (case hg => rfl); (case hr => first | (go_simp; done) | (go_simp; rfl)); intro gb164 hg w42 hbox hb; have n0_ := qaM (qbT (by repeat (first | (with_reducible first | exact HB.out | apply qwA | apply qwN | apply qwD) | exact HB.out)) hb); have n1_ := qaM (hbox); have n2_ := qaM ((by rw [hg]; exact (qbS (by repeat (first | (with_reducible first | exact HB.out | apply qwA | apply qwN | apply qwD) | exact HB.out))) : w.heap.size ≤ gb164)); have n3_ := qaM ((by rw [hg]; exact (qbS (by repeat (first | (with_reducible first | exact HB.out | apply qwA | apply qwN | apply qwD) | exact HB.out))) : w.heap.size ≤ gb164)); clear HB; have HB := n0_; have BK164 := n1_; have GW164 := n2_; have GE164 := n3_; clear n0_ n1_ n2_ n3_; clear hb hbox hg) | ((with_reducible refine gate_dst (N := 3) rfl ?_); refine box_event ?hg (N := 3) ?hd (cs := #[.bool a1_0, .slice A1_1 l1_1.length c1_1]) (t := 40) ?hr ?_; (case hd => rfl); (case hg => rfl); (case hr => first | (go_simp; done) | (go_simp; rfl)); intro gb165 hg w43 hbox hb; have n0_ := qaM (qbB (g := gb164) (o := .cells #[.bool a0_0, .slice A0_1 l0_1.length c0_1] 40 (0, 0)) (by (with_reducible repeat (first | refine qbN ?_ _ | refine qbD ?_ | refine qbA ?_ _)); exact BK164.out) hb); have n1_ := qaM (qbT (by repeat (first | (with_reducible first | exact HB.out | apply qwA | apply qwN | apply qwD | refine qwS ?_ GE164.out) | exact HB.out)) hb); have n2_ := qaM (hbox); have n3_ := qaM ((by rw [hg]; exact (qbS (by repeat (first | (with_reducible first | exact HB.out | apply qwA | apply qwN | apply qwD | refine qwS ?_ GE164.out) | exact HB.out))) : w.heap.size ≤ gb165)); have n4_ := qaM ((by rw [hg]; exact (qbS (by repeat (first | (with_reducible first | exact HB.out | apply qwA | apply qwN | apply qwD | refine qwS ?_ GE164.out) | exact HB.out))) : w.heap.size ≤ gb165)); have n5_ := qaM ((by rw [hg]; exact qnL (qbL (g := gb164) (o := .cells #[.bool a0_0, .slice A0_1 l0_1.length c0_1] 40 (0, 0)) (by (with_reducible repeat (first | refine qbN ?_ _ | refine qbD ?_ | refine qbA ?_ _)); exact BK164.out)) : gb164 ≠ gb165)); have n6_ := qaM ((by rw [hg]; exact qnG (qbL (g := gb164) (o := .cells #[.bool a0_0, .slice A0_1 l0_1.length c0_1] 40 (0, 0)) (by (with_reducible repeat (first | refine qbN ?_ _ | refine qbD ?_ | refine qbA ?_ _)); exact BK164.out)) : gb165 ≠ gb164)); clear BK164; clear HB; have BK164 := n0_; have HB := n1_; have BK165 := n2_; have GW165 := n3_; have GE165 := n4_; have NB164_165 := n5_; have NB165_164 := n6_; clear n0_ n1_ n2_ n3_ n4_ n5_ n6_; clear hb hbox hg) | ((with_reducible refine gate_dst (N := 4) rfl ?_); refine box_event ?hg (N := 4) ?hd (cs := #[.bool false, .slice none 0 0]) (t := 40) ?hr ?_; (case hd => rfl); (case hg => rfl); (case hr => first | (go_simp; done) | (go_simp; rfl)); intro gb166 hg w44 hbox hb; have n0_ := qaM (qbB (g := gb164) (o := .cells #[.bool a0_0, .slice A0_1 l0_1.length c0_1] 40 (0, 0)) (by (with_reducible repeat (first | refine qbN ?_ _ | refine qbD ?_ | refine qbA ?_ _)); exact BK164.out) hb); have n1_ := qaM (qbB (g := gb165) (o := .cells #[.bool a1_0, .slice A1_1 l1_1.length c1_1] 40 (0, 0)) (by (with_reducible repeat (first | refine qbN ?_ _ | refine qbD ?_ | refine qbA ?_ _)); exact BK165.out) hb); have n2_ := qaM (qbT (by repeat (first | (with_reducible first | exact HB.out | apply qwA | apply qwN | apply qwD | refine qwS ?_ GE164.out | refine qwS ?_ GE165.out) | exact HB.out)) hb); have n3_ := qaM (hbox); have n4_ := qaM ((by rw [hg]; exact (qbS (by repeat (first | (with_reducible first | exact HB.out | apply qwA | apply qwN | apply qwD | refine qwS ?_ GE164.out | refine qwS ?_ GE165.out) | exact HB.out))) : w.heap.size ≤ gb166)); have n5_ := qaM ((by rw [hg]; exact (qbS (by repeat (first | (with_reducible first | exact HB.out | apply qwA | apply qwN | apply qwD | refine qwS ?_ GE164.out | refine qwS ?_ GE165.out) | exact HB.out))) : w.heap.size ≤ gb166)); have n6_ := qaM ((by rw [hg]; exact qnL (qbL (g := gb164) (o := .cells #[.bool a0_0, .slice A0_1 l0_1.length c0_1] 40 (0, 0)) (by (with_reducible repeat (first | refine qbN ?_ _ | refine qbD ?_ | refine qbA ?_ _)); exact BK164.out)) : gb164 ≠ gb166)); have n7_ := qaM ((by rw [hg]; exact qnG (qbL (g := gb164) (o := .cells #[.bool a0_0, .slice A0_1 l0_1.length c0_1] 40 (0, 0)) (by (with_reducible repeat (first | refine qbN ?_ _ | refine qbD ?_ | refine qbA ?_ _)); exact BK164.out)) : gb166 ≠ gb164)); have n8_ := qaM ((by rw [hg]; exact qnL (qbL (g := gb165) (o := .cells #[.bool a1_0, .slice A1_1 l1_1.length c1_1] 40 (0, 0)) (by (with_reducible repeat (first | refine qbN ?_ _ | refine qbD ?_ | refine qbA ?_ _)); exact BK165.out)) : gb165 ≠ gb166)); have n9_ := qaM ((by rw [hg]; exact qnG (qbL (g := gb165) (o := .cells #[.bool a1_0, .slice A1_1 l1_1.length c1_1] 40 (0, 0)) (by (with_reducible repeat (first | refine qbN ?_ _ | refine qbD ?_ | refine qbA ?_ _)); exact BK165.out)) : gb166 ≠ gb165)); clear BK164; clear BK165; clear HB; have BK164 := n0_; have BK165 := n1_; have HB := n2_; have BK166 := n3_; have GW166 := n4_; have GE166 := n5_; have NB164_166 := n6_; have NB166_164 := n7_; have NB165_166 := n8_; have NB166_165 := n9_; clear n0_ n1_ n2_ n3_ n4_ n5_ n6_ n7_ n8_ n9_; clear hb hbox hg; have hnb45 := NB164_165.out; have hnc45 := NB165_164.out; have hnb46 := NB164_166.out; have hnc46 := NB166_164.out; have hcz47_0 : w44.cell? ⟨gb164, 0, none⟩ = some (.bool a0_0) := (qbC BK164.out 0).trans rfl; have hcz47_1 : w44.cell? ⟨gb164, 1, none⟩ = some (.slice A0_1 l0_1.length c0_1) := (qbC BK164.out 1).trans rfl; have hfz47_0 := blk_frozen BK164.out 0; have hfz47_1 := blk_frozen BK164.out 1; have hnb48 := NB165_166.out; have hnc48 := NB166_165.out; have hcz49_0 : w44.cell? ⟨gb165, 0, none⟩ = some (.bool a1_0) := (qbC BK165.out 0).trans rfl; have hcz49_1 : w44.cell? ⟨gb165, 1, none⟩ = some (.slice A1_1 l1_1.length c1_1) := (qbC BK165.out 1).trans rfl; have hfz49_0 := blk_frozen BK165.out 0; have hfz49_1 := blk_frozen BK165.out 1) | ((with_reducible refine gate_callee (f := 19) rfl ?_); refine goesL_ (some 22) rfl rfl Tryd.func19 (by kernel_rfl) rfl #[.slice A0_1 l0_1.length c0_1, .slice A1_1 l1_1.length c1_1] rfl (by (try simp only [List.map_toArray, List.map_cons, List.map_nil]); first | done | rfl | (simp only [List.length_drop, List.length_take]; rfl)) ?_; (with_reducible refine (spec_magCmp.calls k _ _ l0_1 _ _ l1_1 t174 _ ?side1 ?side2 ?side3 ?side4 A21.out).mono ?_); (case side1 => repeat (first | exact (Kd.C_below HR0_1.out HB.out) | (with_reducible refine Kd.C_alloc ?_ _) | (with_reducible refine Kd.C_drewN ?_ _) | (with_reducible refine Kd.C_drew ?_))); (case side2 => exact HC0_1.out); (case side3 => repeat (first | exact (Kd.C_below HR1_1.out HB.out) | (with_reducible refine Kd.C_alloc ?_ _) | (with_reducible refine Kd.C_drewN ?_ _) | (with_reducible refine Kd.C_drew ?_))); (case side4 => exact HC1_1.out); rintro e w' ⟨rfl, ⟨nd, rfl⟩⟩; refine ⟨_, rfl, ?_⟩; (try (rw [drewN_self w44]; generalize hq_ : World.drewN w44 _ = w44; have n0_ : Aside0 (w44.heap[gb164]? = some (.cells #[.bool a0_0, .slice A0_1 l0_1.length c0_1] 40 (0, 0))) := ⟨by rw [← hq_]; exact (by (with_reducible repeat (first | refine qbN ?_ _ | refine qbD ?_ | refine qbA ?_ _)); exact BK164.out)⟩; have n1_ : Aside0 (w44.heap[gb165]? = some (.cells #[.bool a1_0, .slice A1_1 l1_1.length c1_1] 40 (0, 0))) := ⟨by rw [← hq_]; exact (by (with_reducible repeat (first | refine qbN ?_ _ | refine qbD ?_ | refine qbA ?_ _)); exact BK165.out)⟩; have n2_ : Aside0 (w44.heap[gb166]? = some (.cells #[.bool false, .slice none 0 0] 40 (0, 0))) := ⟨by rw [← hq_]; exact (by (with_reducible repeat (first | refine qbN ?_ _ | refine qbD ?_ | refine qbA ?_ _)); exact BK166.out)⟩; have n3_ : Aside0 (Below w.heap.size w w44) := ⟨by rw [← hq_]; exact (by repeat (first | (with_reducible first | exact HB.out | apply qwA | apply qwN | apply qwD | refine qwS ?_ GE164.out | refine qwS ?_ GE165.out | refine qwS ?_ GE166.out) | exact HB.out))⟩; clear BK164 BK165 BK166 HB hq_; have BK164 := n0_; have BK165 := n1_; have BK166 := n2_; have HB := n3_; clear n0_ n1_ n2_ n3_))))
   have n0_ := qaM (qbD BK164.out)
   have n1_ := qaM (qbD BK165.out)
   have n2_ := qaM (qbD BK166.out)
   have n3_ := qaM (qwD HB.out)
   clear BK164
   clear BK165
   clear BK166
   clear HB
   have BK164 := n0_
   have BK165 := n1_
   have BK166 := n2_
   have HB := n3_
   clear n0_ n1_ n2_ n3_
   refine start_ (n := 9) (S := fun w' => w'.cell? ⟨gb165, 0, none⟩ = some (.bool a1_0) ∧ w'.cell? ⟨gb165, 1, none⟩ = some (.slice A1_1 l1_1.length c1_1) ∧ w'.cell? ⟨gb164, 0, none⟩ = some (.bool a0_0) ∧ w'.cell? ⟨gb164, 1, none⟩ = some (.slice A0_1 l0_1.length c0_1)) (ds := []) #[false, false, false, false, false, false, false, false, false] (by kernel_rfl) rfl rfl ⟨(qbC BK165.out 0).trans rfl, (qbC BK165.out 1).trans rfl, (qbC BK164.out 0).trans rfl, (qbC BK164.out 1).trans rfl⟩ (fun hHeld => ?_); refine with_tabW spec_WideAdd.tab5 spec_WideAdd.bits5 (fun HT_ HW_ => ?_)
   generalize w44.drew = w50 at BK164 BK165 BK166 HB hHeld ⊢
   refine pure_ (i := 0) (N := some 32) (v := ?_) (a' := ?_) #[true, false, false, false, false, false, false, false, false] rfl rfl (any_of HT_.out (by kernel_rfl)) (fun _ _ _ h => h) (Or.inl ⟨by rfl, ?_⟩) ?_ ?_
   rotate_left
   ·intro w'
    go_simp
    with_reducible rfl
   rotate_left
   ·simp only [Act.put, qsA, qsZ, qsS, i64_w, i32_w]
    rfl
   refine pure_ (i := 2) (N := some 34) (v := ?_) (a' := ?_) #[true, false, true, false, false, false, false, false, false] rfl rfl (any_of HT_.out (by kernel_rfl)) (fun _ _ _ h => h) (Or.inl ⟨by rfl, ?_⟩) ?_ ?_
   rotate_left
   ·intro w'
    go_simp
    with_reducible rfl
   rotate_left
   ·simp only [Act.put, qsA, qsZ, qsS, i64_w, i32_w]
    rfl
   refine pure_ (i := 4) (N := some 36) (v := ?_) (a' := ?_) #[true, false, true, false, true, false, false, false, false] rfl rfl (any_of HT_.out (by kernel_rfl)) (fun _ _ _ h => h) (Or.inl ⟨by rfl, ?_⟩) ?_ ?_
   rotate_left
   ·intro w'
    go_simp
    with_reducible rfl
   rotate_left
   ·simp only [Act.put, qsA, qsZ, qsS, i64_w, i32_w]
    rfl
   refine take_ (i := 1) (N := some 33) (v := ?_) (a' := ?_) #[true, true, true, false, true, false, false, false, false] rfl rfl (take_ofW HT_.out HW_.out (by kernel_rfl)) (fun _ _ _ h => h) (Or.inl ⟨by rfl, ?_⟩) hHeld ?_ ?_
   rotate_left
   ·rintro w' ⟨s0, s1, s2, s3⟩
    go_simp
    with_reducible rfl
   rotate_left
   ·simp only [Act.put, qsA, qsZ, qsS, i64_w, i32_w]
    rfl
   refine take_ (i := 3) (N := some 35) (v := ?_) (a' := ?_) #[true, true, true, true, true, false, false, false, false] rfl rfl (take_ofW HT_.out HW_.out (by kernel_rfl)) (fun _ _ _ h => h) (Or.inl ⟨by rfl, ?_⟩) hHeld ?_ ?_
   rotate_left
   ·rintro w' ⟨s0, s1, s2, s3⟩
    go_simp
    with_reducible rfl
   rotate_left
   ·simp only [Act.put, qsA, qsZ, qsS, i64_w, i32_w]
    rfl
   refine take_ (i := 5) (N := some 37) (v := ?_) (a' := ?_) #[true, true, true, true, true, true, false, false, false] rfl rfl (take_ofW HT_.out HW_.out (by kernel_rfl)) (fun _ _ _ h => h) (Or.inl ⟨by rfl, ?_⟩) hHeld ?_ ?_
   rotate_left
   ·rintro w' ⟨s0, s1, s2, s3⟩
    go_simp
    with_reducible rfl
   rotate_left
   ·simp only [Act.put, qsA, qsZ, qsS, i64_w, i32_w]
    rfl
   refine one_ (i := 6) (N := some 38) #[true, true, true, true, true, true, true, false, false] rfl rfl (one_of HT_.out (by kernel_rfl)) (by decide) (fun K hK => ?_)
   refine goes_ Tryd.func63 (by kernel_rfl) rfl #[.slice A1_1 l1_1.length c1_1, .slice A0_1 l0_1.length c0_1] (by rfl) rfl rfl (by (try simp only [List.map_toArray, List.map_cons, List.map_nil]); first | done | rfl | (simp only [List.length_drop, List.length_take]; rfl)) ?_
   with_reducible refine (spec_magSub.calls k _ _ l1_1 _ _ l0_1 t182 _ ?side1 ?side2 ?side3 ?side4 A40.out).mono ?_
   (case side1 => repeat (first | exact (Kd.C_below HR1_1.out HB.out) | (with_reducible refine Kd.C_alloc ?_ _) | (with_reducible refine Kd.C_drewN ?_ _) | (with_reducible refine Kd.C_drew ?_)))
   (case side2 => exact HC1_1.out)
   (case side3 => repeat (first | exact (Kd.C_below HR0_1.out HB.out) | (with_reducible refine Kd.C_alloc ?_ _) | (with_reducible refine Kd.C_drewN ?_ _) | (with_reducible refine Kd.C_drew ?_)))
   (case side4 => exact HC0_1.out)
   rintro e w51 ⟨v183, rfl, ho0, hb⟩
   refine ⟨_, rfl, ?_⟩
   have n0_ := qaM (qvL (qvM (ok' := fun k_ => (w.heap.size ≤ k_) ∧ k_ ≠ gb164 ∧ k_ ≠ gb165 ∧ k_ ≠ gb166) ho0 (fun k_ hk_ => ⟨(Nat.le_trans (qbS (by repeat (first | (with_reducible first | exact HB.out | apply qwA | apply qwN | apply qwD | refine qwS ?_ GE164.out | refine qwS ?_ GE165.out | refine qwS ?_ GE166.out) | exact HB.out))) hk_), (qfB (g := gb164) (o := .cells #[.bool a0_0, .slice A0_1 l0_1.length c0_1] 40 (0, 0)) (by (with_reducible repeat (first | refine qbN ?_ _ | refine qbD ?_ | refine qbA ?_ _)); exact BK164.out) k_ hk_), (qfB (g := gb165) (o := .cells #[.bool a1_0, .slice A1_1 l1_1.length c1_1] 40 (0, 0)) (by (with_reducible repeat (first | refine qbN ?_ _ | refine qbD ?_ | refine qbA ?_ _)); exact BK165.out) k_ hk_), (qfB (g := gb166) (o := .cells #[.bool false, .slice none 0 0] 40 (0, 0)) (by (with_reducible repeat (first | refine qbN ?_ _ | refine qbD ?_ | refine qbA ?_ _)); exact BK166.out) k_ hk_)⟩)) (qbS (by repeat (first | (with_reducible first | exact HB.out | apply qwA | apply qwN | apply qwD | refine qwS ?_ GE164.out | refine qwS ?_ GE165.out | refine qwS ?_ GE166.out) | exact HB.out))))
   have n1_ := qaM (qbB (g := gb164) (o := .cells #[.bool a0_0, .slice A0_1 l0_1.length c0_1] 40 (0, 0)) (by (with_reducible repeat (first | refine qbN ?_ _ | refine qbD ?_ | refine qbA ?_ _)); exact BK164.out) hb)
   have n2_ := qaM (qbB (g := gb165) (o := .cells #[.bool a1_0, .slice A1_1 l1_1.length c1_1] 40 (0, 0)) (by (with_reducible repeat (first | refine qbN ?_ _ | refine qbD ?_ | refine qbA ?_ _)); exact BK165.out) hb)
   have n3_ := qaM (qbB (g := gb166) (o := .cells #[.bool false, .slice none 0 0] 40 (0, 0)) (by (with_reducible repeat (first | refine qbN ?_ _ | refine qbD ?_ | refine qbA ?_ _)); exact BK166.out) hb)
   have n4_ := qaM (qbT (by repeat (first | (with_reducible first | exact HB.out | apply qwA | apply qwN | apply qwD | refine qwS ?_ GE164.out | refine qwS ?_ GE165.out | refine qwS ?_ GE166.out) | exact HB.out)) hb)
   clear BK164
   clear BK165
   clear BK166
   clear HB
   have HO184 := n0_
   have BK164 := n1_
   have BK165 := n2_
   have BK166 := n3_
   have HB := n4_
   clear n0_ n1_ n2_ n3_ n4_
   (try clear hb)
   (try clear hb2)
   (try clear hk)
   (try clear hi)
   (try clear ho0)
   obtain ⟨Ao52, co52, eo52⟩ := Kd.V_slice HO184.out
   (first | subst eo52 | (injection eo52 with f1_ f2_ f3_; have f4_ := f1_.symm; have f5_ := f3_.symm; clear f1_ f2_ f3_; subst f4_; subst f5_))
   refine hK.out _ _ ⟨(qbC BK165.out 0).trans rfl, (qbC BK165.out 1).trans rfl, (qbC BK164.out 0).trans rfl, (qbC BK164.out 1).trans rfl⟩ (fun hHeld => ?_)
   clear hK K
   refine norm_ (a' := ?_) ?_ ?_
   rotate_left
   ·show Act.put _ (some 38) _ = _
    simp only [Act.put, qsA, qsZ, qsS, i64_w, i32_w]
    rfl
   refine one_ (i := 7) (N := some 39) #[true, true, true, true, true, true, true, true, false] rfl rfl (one_of HT_.out (by kernel_rfl)) (by decide) (fun K hK => ?_)
   refine goes_ Tryd.func20 (by kernel_rfl) rfl #[.bool a1_0, .slice Ao52 t182.length co52] (by rfl) rfl rfl (by (try simp only [List.map_toArray, List.map_cons, List.map_nil]); first | done | rfl | (simp only [List.length_drop, List.length_take]; rfl)) ?_
   with_reducible refine (spec_wide.calls k a1_0 (fun k_ => ((w.heap.size ≤ k_) ∧ (k_ ≠ gb164 ∧ (k_ ≠ gb165 ∧ k_ ≠ gb166)))) _ _ t182 t185 t186 _ ?side1 A41.out).mono ?_
   (case side1 => exact HO184.out)
   rintro e w53 ⟨v187, rfl, ho0, hb⟩
   refine ⟨_, rfl, ?_⟩
   have n0_ := qaM (qvB (by (with_reducible repeat (first | apply qvA | apply qvN | apply qvD)); exact HO184.out) hb)
   have n1_ := qaM (qvL (qvM (ok' := fun k_ => (w.heap.size ≤ k_) ∧ k_ ≠ gb164 ∧ k_ ≠ gb165 ∧ k_ ≠ gb166) ho0 (fun k_ hk_ => ⟨Or.elim hk_ (fun hs_ => hs_.1) (fun hn_ => (Nat.le_trans (qbS (by repeat (first | (with_reducible first | exact HB.out | apply qwA | apply qwN | apply qwD | refine qwS ?_ GE164.out | refine qwS ?_ GE165.out | refine qwS ?_ GE166.out) | exact HB.out))) hn_)), Or.elim hk_ (fun hs_ => hs_.2.1) (fun hn_ => (qfB (g := gb164) (o := .cells #[.bool a0_0, .slice A0_1 l0_1.length c0_1] 40 (0, 0)) (by (with_reducible repeat (first | refine qbN ?_ _ | refine qbD ?_ | refine qbA ?_ _)); exact BK164.out) k_ hn_)), Or.elim hk_ (fun hs_ => hs_.2.2.1) (fun hn_ => (qfB (g := gb165) (o := .cells #[.bool a1_0, .slice A1_1 l1_1.length c1_1] 40 (0, 0)) (by (with_reducible repeat (first | refine qbN ?_ _ | refine qbD ?_ | refine qbA ?_ _)); exact BK165.out) k_ hn_)), Or.elim hk_ (fun hs_ => hs_.2.2.2) (fun hn_ => (qfB (g := gb166) (o := .cells #[.bool false, .slice none 0 0] 40 (0, 0)) (by (with_reducible repeat (first | refine qbN ?_ _ | refine qbD ?_ | refine qbA ?_ _)); exact BK166.out) k_ hn_))⟩)) (qbS (by repeat (first | (with_reducible first | exact HB.out | apply qwA | apply qwN | apply qwD | refine qwS ?_ GE164.out | refine qwS ?_ GE165.out | refine qwS ?_ GE166.out) | exact HB.out))))
   have n2_ := qaM (qbB (g := gb164) (o := .cells #[.bool a0_0, .slice A0_1 l0_1.length c0_1] 40 (0, 0)) (by (with_reducible repeat (first | refine qbN ?_ _ | refine qbD ?_ | refine qbA ?_ _)); exact BK164.out) hb)
   have n3_ := qaM (qbB (g := gb165) (o := .cells #[.bool a1_0, .slice A1_1 l1_1.length c1_1] 40 (0, 0)) (by (with_reducible repeat (first | refine qbN ?_ _ | refine qbD ?_ | refine qbA ?_ _)); exact BK165.out) hb)
   have n4_ := qaM (qbB (g := gb166) (o := .cells #[.bool false, .slice none 0 0] 40 (0, 0)) (by (with_reducible repeat (first | refine qbN ?_ _ | refine qbD ?_ | refine qbA ?_ _)); exact BK166.out) hb)
   have n5_ := qaM (qbT (by repeat (first | (with_reducible first | exact HB.out | apply qwA | apply qwN | apply qwD | refine qwS ?_ GE164.out | refine qwS ?_ GE165.out | refine qwS ?_ GE166.out) | exact HB.out)) hb)
   clear HO184
   clear BK164
   clear BK165
   clear BK166
   clear HB
   have HO184 := n0_
   have HO188 := n1_
   have BK164 := n2_
   have BK165 := n3_
   have BK166 := n4_
   have HB := n5_
   clear n0_ n1_ n2_ n3_ n4_ n5_
   (try clear hb)
   (try clear hb2)
   (try clear hk)
   (try clear hi)
   (try clear ho0)
   obtain ⟨Ao55, co55, eo55⟩ := Kd.V_slice HO188.out
   (first | subst eo55 | (injection eo55 with f1_ f2_ f3_; have f4_ := f1_.symm; have f5_ := f3_.symm; clear f1_ f2_ f3_; subst f4_; subst f5_))
   refine hK.out _ _ ⟨(qbC BK165.out 0).trans rfl, (qbC BK165.out 1).trans rfl, (qbC BK164.out 0).trans rfl, (qbC BK164.out 1).trans rfl⟩ (fun hHeld => ?_)
   clear hK K
   refine norm_ (a' := ?_) ?_ ?_
   rotate_left
   ·show Act.put _ (some 39) _ = _
    simp only [Act.put, qsA, qsZ, qsS, i64_w, i32_w]
    rfl
   refine one_ (i := 8) (N := none) #[true, true, true, true, true, true, true, true, true] rfl rfl (one_of HT_.out (by kernel_rfl)) (by decide) (fun K hK => ?_)
   have hs54 : w53.cell? ⟨gb166, 0, none⟩ = some (.bool false) := (qbC BK166.out 0).trans rfl
   have hfs54 := blk_frozen BK166.out 0
   have hns54_0 := NB164_166.out
   have hns54_1 := NB165_166.out
   have hms54_0 := NB166_164.out
   have hms54_1 := NB166_165.out
   have hs56 : w53.cell? ⟨gb166, 1, none⟩ = some (.slice none 0 0) := (qbC BK166.out 1).trans rfl
   have hfs56 := blk_frozen BK166.out 1
   have hns56_0 := NB164_166.out
   have hns56_1 := NB165_166.out
   have hms56_0 := NB166_164.out
   have hms56_1 := NB166_165.out
   refine skip_ (w1 := ?_) (by rfl) rfl ?_ ?_
   rotate_left
   ·go_simp
    rfl
   refine hK.out _ _ ⟨((cell_far (p := ⟨gb166, _, none⟩) NB165_166.out _).trans (((cell_far (p := ⟨gb166, _, none⟩) NB165_166.out _).trans (hHeld.1)))), ((cell_far (p := ⟨gb166, _, none⟩) NB165_166.out _).trans (((cell_far (p := ⟨gb166, _, none⟩) NB165_166.out _).trans (hHeld.2.1)))), ((cell_far (p := ⟨gb166, _, none⟩) NB164_166.out _).trans (((cell_far (p := ⟨gb166, _, none⟩) NB164_166.out _).trans (hHeld.2.2.1)))), ((cell_far (p := ⟨gb166, _, none⟩) NB164_166.out _).trans (((cell_far (p := ⟨gb166, _, none⟩) NB164_166.out _).trans (hHeld.2.2.2))))⟩ (fun hHeld => ?_)
   clear hK K
   refine done_ (done_of HT_.out (by kernel_rfl)) ?_
   try go_wp2
   refine bodyPost_ret (results_cell_row rfl _ _ gb166 40 #[.bool t185, .slice Ao55 t186.length co55] (0, 0) _ rfl (by (with_reducible repeat (first | refine qbN ?_ _ | refine qbD ?_ | refine qbA ?_ _)); refine qbP (cs := #[.bool t185, .slice none 0 0]) ?_ 1 _ rfl; (with_reducible repeat (first | refine qbN ?_ _ | refine qbD ?_ | refine qbA ?_ _)); refine qbP (cs := #[.bool false, .slice none 0 0]) ?_ 0 _ rfl; (with_reducible repeat (first | refine qbN ?_ _ | refine qbD ?_ | refine qbA ?_ _)); exact BK166.out) Tryd.underlying40 rfl (by kernel_rfl)) rfl ?_
   exact ⟨_, by first | rfl | (simp [errW_none, errW_some] <;> rfl) | (simp [*, errW_none, errW_some] <;> rfl), by (with_reducible repeat (first | apply qvA | apply qvN | apply qvD)); exact qvM (qvF (p := ⟨gb166, 1, none⟩) (qvF (p := ⟨gb166, 0, none⟩) (qvM HO188.out (fun k_ hk => (⟨hk, hk.2.2.2⟩ : _ ∧ k_ ≠ gb166))) (fun _ hk => hk.2) (.bool t185)) (fun _ hk => hk.2) (.slice Ao55 t186.length co55)) (fun _ hk => hk.1.1), by repeat (first | (with_reducible first | exact HB.out | apply qwA | apply qwN | apply qwD | refine qwS ?_ GE164.out | refine qwS ?_ GE165.out | refine qwS ?_ GE166.out) | exact HB.out)⟩

end Go.Proofs.YtlnbkmkdapeicaaDoor.QT
