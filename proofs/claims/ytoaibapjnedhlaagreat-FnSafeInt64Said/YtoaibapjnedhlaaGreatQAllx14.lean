/- Printed by a program of this session (print2.py) over the kit's print: the functions that a law reaches, over contracts proved by hand. Lean checks it. -/
import Derived.Test.YtoaibapjnedhlaaGreatQAllx0
import Derived.Test.YtoaibapjnedhlaaGreatQAllx2
import Derived.Test.YtoaibapjnedhlaaGreatQAllx6
import Derived.Test.YtoaibapjnedhlaaGreatQAllx7
import Derived.Test.YtoaibapjnedhlaaGreatQAllx8
namespace Go.Proofs.YtoaibapjnedhlaaGreat.QAll
open Go.RowKit Go.Proofs.YtoaibapjnedhlaaGreatW.PrintWords Go.Proofs.YtoaibapjnedhlaaGreatW.PrintLast Go.Proofs.YtoaibapjnedhlaaGreatW.PrintMore
attribute [local go_sem] max2_int min2_int max_two min_two max_three min_three max_four min_four   -- for this text's walks alone
set_option linter.unusedVariables false
set_option linter.unusedSimpArgs false

theorem zd14_0 {p : Prop} (h : p := by repeat (first | (with_reducible first | exact HB.out | apply qwA | apply qwN | apply qwD) | exact HB.out)) : p := h
theorem zd14_1 {p : Prop} (h : p := by (with_reducible repeat (first | apply qrA | apply qrN | apply qrD)); exact HO_4.out) : p := h
theorem zd14_2 {p : Prop} (h : p := by (try simp only [List.map_toArray, List.map_cons, List.map_nil]); first | done | rfl | (simp only [List.length_drop, List.length_take]; rfl)) : p := h
theorem zd14_3 {p : Prop} (h : p := by first | (with_reducible assumption) | assumption) : p := h
theorem zd14_4 {p : Prop} (h : p := by (with_reducible repeat (first | apply qrA | apply qrN | apply qrD)); exact HO_5.out) : p := h
theorem zd14_5 {p : Prop} (h : p := by (with_reducible repeat (first | apply qrA | apply qrN | apply qrD)); exact HO257.out) : p := h
theorem zd14_6 {p : Prop} (h : p := by (with_reducible repeat (first | apply qvA | apply qvN | apply qvD)); exact HO_5.out) : p := h
theorem zd14_7 {p : Prop} (h : p := by kernel_rfl) : p := h
/-! ### spec_magDiv: function 55 -/
mutual
def spec_magDiv.l0 : Nat → List Int → List Int → List Int → List Int → Int → Option (List Int × List Int)
 | 0, _, _, _, _, _ => none
 | k + 1, x0, x1, x4, x5, x6 => if x6 ≥ 0 then ((spec_magAdd.f k x5 x5).bind fun t255 => (if 0 ≤ (wrap64 (Int.tdiv x6 32)) then (if (wrap64 (Int.tdiv x6 32)) < (x0.length : Int) then (if 0 ≤ (Int.tmod x6 32) then (if (Go.bits .and .u32 (shr .u32 (rd x0 (wrap64 (Int.tdiv x6 32))) (Int.tmod x6 32)) 1) = 1 then ((spec_magAdd.f k t255 (([1] : List Int))).bind fun t262 => (spec_magDiv.j1 k x0 x1 x4 t262 x6)) else (spec_magDiv.j1 k x0 x1 x4 t255 x6)) else (none)) else (none)) else (none))) else ((spec_trim.f k x4).bind fun t252 => (some (t252, x5)))
def spec_magDiv.j1 : Nat → List Int → List Int → List Int → List Int → Int → Option (List Int × List Int)
 | 0, _, _, _, _, _ => none
 | k + 1, x0, x1, x4, x5, x6 => (spec_trim.f k x5).bind fun t265 => ((spec_magCmp.f k t265 x1).bind fun t268 => (if t268 ≥ 0 then ((spec_magSub.f k t265 x1).bind fun t269 => (if 0 ≤ (wrap64 (Int.tdiv x6 32)) then (if (wrap64 (Int.tdiv x6 32)) < (x4.length : Int) then (if 0 ≤ (Int.tmod x6 32) then (spec_magDiv.l0 k x0 x1 (x4.set ((wrap64 (Int.tdiv x6 32)) : Int).toNat (Go.bits .or .u32 (rd x4 (wrap64 (Int.tdiv x6 32))) (shl .u32 1 (Int.tmod x6 32)))) t269 (wrap64 (x6 - 1))) else (none)) else (none)) else (none))) else (spec_magDiv.l0 k x0 x1 x4 t265 (wrap64 (x6 - 1)))))
end
def spec_magDiv.f (k : Nat) (l0 : List Int) (l1 : List Int) : Option (List Int × List Int) := if 0 ≤ (l0.length : Int) then (if ((l0.length : Int) : Int).toNat ≤ 70368744177664 then (spec_magDiv.l0 k l0 l1 (List.replicate ((l0.length : Int) : Int).toNat 0) ([] : List Int) (wrap64 ((wrap64 (32 * (l0.length : Int))) - 1))) else (none)) else (none)
theorem spec_magDiv.mono_l : ∀ k, (∀ y0 y1 y2 y3 y4, LeO (spec_magDiv.l0 k y0 y1 y2 y3 y4) (spec_magDiv.l0 (k + 1) y0 y1 y2 y3 y4)) ∧ (∀ y0 y1 y2 y3 y4, LeO (spec_magDiv.j1 k y0 y1 y2 y3 y4) (spec_magDiv.j1 (k + 1) y0 y1 y2 y3 y4))
 | 0 => ⟨fun _ _ _ _ _ r h => by simp [spec_magDiv.l0] at h, fun _ _ _ _ _ r h => by simp [spec_magDiv.j1] at h⟩
 | k + 1 => by
  obtain ⟨ih0, ih1⟩ := spec_magDiv.mono_l k
  refine ⟨?_, ?_⟩
  ·intro y0 y1 y2 y3 y4
   unfold spec_magDiv.l0
   repeat' first
   | (with_reducible exact ih0 _ _ _ _ _)
   | (with_reducible exact ih1 _ _ _ _ _)
   | (with_reducible exact spec_magAdd.mono _ _ _)
   | (with_reducible exact spec_magCmp.mono _ _ _)
   | (with_reducible exact spec_magSub.mono _ _ _)
   | (with_reducible exact spec_trim.mono _ _)
   | (with_reducible exact LeO.refl _)
   | (with_reducible exact LeO.none _)
   | (with_reducible refine LeO.ite ?_ ?_)
   | (with_reducible refine LeO.bind ?_ (fun _ => ?_))
   | exact ih0 _ _ _ _ _
   | exact ih1 _ _ _ _ _
   | exact spec_magAdd.mono _ _ _
   | exact spec_magCmp.mono _ _ _
   | exact spec_magSub.mono _ _ _
   | exact spec_trim.mono _ _
   | exact LeO.none _
   | refine LeO.ite ?_ ?_
   | refine LeO.bind ?_ (fun _ => ?_)
  ·intro y0 y1 y2 y3 y4
   unfold spec_magDiv.j1
   repeat' first
   | (with_reducible exact ih0 _ _ _ _ _)
   | (with_reducible exact ih1 _ _ _ _ _)
   | (with_reducible exact spec_magAdd.mono _ _ _)
   | (with_reducible exact spec_magCmp.mono _ _ _)
   | (with_reducible exact spec_magSub.mono _ _ _)
   | (with_reducible exact spec_trim.mono _ _)
   | (with_reducible exact LeO.refl _)
   | (with_reducible exact LeO.none _)
   | (with_reducible refine LeO.ite ?_ ?_)
   | (with_reducible refine LeO.bind ?_ (fun _ => ?_))
   | exact ih0 _ _ _ _ _
   | exact ih1 _ _ _ _ _
   | exact spec_magAdd.mono _ _ _
   | exact spec_magCmp.mono _ _ _
   | exact spec_magSub.mono _ _ _
   | exact spec_trim.mono _ _
   | exact LeO.none _
   | refine LeO.ite ?_ ?_
   | refine LeO.bind ?_ (fun _ => ?_)
theorem spec_magDiv.mono : ∀ a0 a1 k, LeO (spec_magDiv.f k a0 a1) (spec_magDiv.f (k + 1) a0 a1) := by
 intro a0 a1 k
 obtain ⟨ih0, ih1⟩ := spec_magDiv.mono_l k
 unfold spec_magDiv.f
 repeat' first
   | (with_reducible exact ih0 _ _ _ _ _)
   | (with_reducible exact ih1 _ _ _ _ _)
   | (with_reducible exact spec_magAdd.mono _ _ _)
   | (with_reducible exact spec_magCmp.mono _ _ _)
   | (with_reducible exact spec_magSub.mono _ _ _)
   | (with_reducible exact spec_trim.mono _ _)
   | (with_reducible exact LeO.refl _)
   | (with_reducible exact LeO.none _)
   | (with_reducible refine LeO.ite ?_ ?_)
   | (with_reducible refine LeO.bind ?_ (fun _ => ?_))
   | exact ih0 _ _ _ _ _
   | exact ih1 _ _ _ _ _
   | exact spec_magAdd.mono _ _ _
   | exact spec_magCmp.mono _ _ _
   | exact spec_magSub.mono _ _ _
   | exact spec_trim.mono _ _
   | exact LeO.none _
   | refine LeO.ite ?_ ?_
   | refine LeO.bind ?_ (fun _ => ?_)
def spec_magDiv.T11 : Bool × List (List Nat × List Nat) := (true, [([], []), ([], []), ([1], [1]), ([0, 2], [0, 2]), ([3], [3]), ([], []), ([5], [5]), ([6], [6]), ([4, 7], [4, 7]), ([0, 2, 0, 1, 2, 3, 4, 5, 6, 7, 8], [0, 2]), ([9, 8, 0, 1, 2, 3, 4, 5, 6, 7, 8], [8, 9])])
def spec_magDiv.B11 : List Nat := [0, 0, 2, 7, 15, 0, 32, 96, 255, 511, 1023]
theorem spec_magDiv.tab11 : rtab .any (opsOf Tryz.f55 11) = spec_magDiv.T11 := by kernel_rfl
theorem spec_magDiv.bits11 : waitsOk spec_magDiv.T11.2 spec_magDiv.B11 = true := by kernel_rfl
set_option maxHeartbeats 8000000 in
set_option maxRecDepth 100000 in
theorem spec_magDiv.calls (k : Nat) (A0 : Option Addr) (c0 : Nat) (l0 : List Int) (A1 : Option Addr) (c1 : Nat) (l1 : List Int) (r1 : List Int) (r2 : List Int) (w : World) (hr0 : Kd.C (Kd.int .u32) w A0 l0.length l0) (hc0 : l0.length ≤ c0) (hr1 : Kd.C (Kd.int .u32) w A1 l1.length l1) (hc1 : l1.length ≤ c1) (h : spec_magDiv.f k l0 l1 = some (r1, r2)) :
  Calls Tryz.prog 55 #[.slice A0 l0.length c0, .slice A1 l1.length c1] w fun e w' => ∃ v0_ v1_ : Value, e = .returned (.tuple #[v0_, v1_]) ∧ Kd.V (Kd.int .u32) 104 w' w.heap.size (fun k_ => (w.heap.size ≤ k_)) v0_ r1 ∧ Kd.V (Kd.int .u32) 104 w' w.heap.size (fun k_ => (w.heap.size ≤ k_)) v1_ r2 ∧ Below w.heap.size w w' := by
 have HR0 := qaM hr0
 have HC0 := qaM hc0
 clear hr0 hc0
 have HR1 := qaM hr1
 have HC1 := qaM hc1
 clear hr1 hc1
 have HB := qaM (Below.refl w.heap.size w)
 have H : (if 0 ≤ (l0.length : Int) then (if ((l0.length : Int) : Int).toNat ≤ 70368744177664 then (spec_magDiv.l0 k l0 l1 (List.replicate ((l0.length : Int) : Int).toNat 0) ([] : List Int) (wrap64 ((wrap64 (32 * (l0.length : Int))) - 1))) else (none)) else (none)) = some (r1, r2) := h
 clear h
 by_cases c3 : 0 ≤ (l0.length : Int)
 ·rw [if_pos c3] at H
  have c3b0 := eq_true c3
  have c3b1 : decide (0 ≤ (l0.length : Int)) = true := decide_eq_true c3
  clear c3
  by_cases c4 : ((l0.length : Int) : Int).toNat ≤ 70368744177664
  ·rw [if_pos c4] at H
   have c4b0 := eq_true c4
   have c4b1 : decide (((l0.length : Int) : Int).toNat ≤ 70368744177664) = true := decide_eq_true c4
   clear c4
   obtain ⟨y249, hy249⟩ : ∃ y_ : List Int, y_ = (List.replicate ((l0.length : Int) : Int).toNat 0) := ⟨_, rfl⟩
   replace H : (spec_magDiv.l0 k l0 l1 y249 ([] : List Int) (wrap64 ((wrap64 (32 * (l0.length : Int))) - 1))) = some (r1, r2) := by first | (rw [hy249]; with_reducible exact H) | (have H2_ := (Option.bind_some _ _).symm.trans H; rw [hy249]; with_reducible exact H2_) | (have H2_ := (Option.bind_some _ _).symm.trans H; with_reducible exact H2_) | with_reducible exact H | (rw [hy249]; exact H) | exact H
   have Ny249 := qaM hy249
   clear hy249
   have H' := qaM H
   clear H
   go_enter Tryz.func55, Tryz.ntmps55
   go_wp2_with (first | ((with_reducible refine gate_dst (N := 9) rfl ?_); refine Kd.R_make (Kd.int .u32) _ 104 rfl (N := 9) rfl 25 _ _ rfl (l0.length : Int) rfl rfl Tryz.underlying25 (.int .u32 0) 4 info104 rfl (by decide) (by omega) 0 (ok := fun _ => True) (okp := fun _ => True) rfl (fun _ hk => hk) trivial (qoD zd14_3) (Nat.le_trans (Nat.mul_le_mul_right _ (qoD zd14_3 : (l0.length : Int).toNat ≤ 70368744177664)) (by omega)) (Below.refl _ _) (Nat.le_refl _) ?_; intro v250 w5 ho6 hb hg_ hnew_; clear hg_ hnew_; (first | rw [← Ny249.out] at ho6 | (simp only [Int.reduceToNat] at ho6; rw [← Ny249.out] at ho6)); have n0_ := qaM (Kd.R_lower (Kd.R_newM (M := fun k_ => (w.heap.size ≤ k_)) ho6 (qbS zd14_0) (fun k_ h_ => h_)) (qbS zd14_0)); have n1_ := qaM (qbT zd14_0 hb); clear HB; have HO251 := n0_; have HB := n1_; clear n0_ n1_; clear hb ho6))
   go_loopg [5, 6] k (fun kq v5 v6 w' => ∃ (x4_1 : List Int) (x5_1 : List Int) (x6_1 : Int), v6 = .int .i64 x6_1 ∧ Aside0 (spec_magDiv.l0 kq l0 l1 x4_1 x5_1 x6_1 = some (r1, r2)) ∧ Aside0 (kq ≤ k) ∧ Aside0 (Kd.R (Kd.int .u32) 104 w' w.heap.size (fun k_ => (w.heap.size ≤ k_)) v250 x4_1) ∧ Aside0 (Kd.V (Kd.int .u32) 104 w' w.heap.size (fun k_ => (w.heap.size ≤ k_) ∧ some k_ ≠ (v250 : Value).ownBlock) v5 x5_1) ∧ Aside0 (Below w.heap.size w w'))
   case atStart => exact ⟨(y249), (([] : List Int)), (wrap64 ((wrap64 (32 * (l0.length : Int))) - 1)), (by first | rfl | (simp; done) | (simp [*]; done)), H', ⟨Nat.le_refl _⟩, ⟨by (with_reducible repeat (first | apply qrA | apply qrN | apply qrD)); exact qrM HO251.out (fun _ hk => hk.1)⟩, ⟨Kd.V_nil _ _ _ _ _⟩, ⟨by repeat (first | (with_reducible first | exact HB.out | apply qwA | apply qwN | apply qwD) | exact HB.out)⟩⟩
   case round =>
    clear H'
    try clear c1
    try clear p2
    try clear c3
    try clear c3b0
    try clear c3b1
    try clear c4
    try clear c4b0
    try clear c4b1
    try clear c5
    try clear p6
    obtain ⟨x4_1, x5_1, x6_1, rfl, HA, HK1, HO_4, HO_5, HB⟩ := hrel
    cases gk with
    | zero => exact absurd HA.out (by simp [spec_magDiv.l0])
    | succ k1 =>
     have H := HA.out
     clear HA
     simp only [spec_magDiv.l0] at H
     by_cases c7 : x6_1 ≥ 0
     ·rw [if_pos c7] at H
      have c7b0 : decide (0 ≤ x6_1) = true := decide_eq_true c7
      clear c7
      replace H := Option.bind_eq_some_iff.mp H
      obtain ⟨t255, A80, H⟩ := H
      replace H : (if 0 ≤ (wrap64 (Int.tdiv x6_1 32)) then (if (wrap64 (Int.tdiv x6_1 32)) < (l0.length : Int) then (if 0 ≤ (Int.tmod x6_1 32) then (if (Go.bits .and .u32 (shr .u32 (rd l0 (wrap64 (Int.tdiv x6_1 32))) (Int.tmod x6_1 32)) 1) = 1 then ((spec_magAdd.f k1 t255 (([1] : List Int))).bind fun t262 => (spec_magDiv.j1 k1 l0 l1 x4_1 t262 x6_1)) else (spec_magDiv.j1 k1 l0 l1 x4_1 t255 x6_1)) else (none)) else (none)) else (none)) = some (r1, r2) := H
      have A8 := qaM A80
      clear A80
      obtain ⟨ji9, hji9⟩ : ∃ j_ : Int, (wrap64 (Int.tdiv x6_1 32)) = j_ := ⟨_, rfl⟩
      replace H : (if 0 ≤ (ji9) then (if (ji9) < (l0.length : Int) then (if 0 ≤ (Int.tmod x6_1 32) then (if (Go.bits .and .u32 (shr .u32 (rd l0 (ji9)) (Int.tmod x6_1 32)) 1) = 1 then ((spec_magAdd.f k1 t255 (([1] : List Int))).bind fun t262 => (spec_magDiv.j1 k1 l0 l1 x4_1 t262 x6_1)) else (spec_magDiv.j1 k1 l0 l1 x4_1 t255 x6_1)) else (none)) else (none)) else (none)) = some (r1, r2) := by first | (rw [hji9] at H; exact H) | (simp only [hji9] at H ⊢; exact H)
      (try rw [hji9] at A8)
      have hji9w : (IntKind.i64.wrap (Int.tdiv x6_1 32)) = ji9 := (i64_w _).trans hji9
      by_cases c10 : 0 ≤ (ji9)
      ·rw [if_pos c10] at H
       have c10b0 : decide (0 ≤ (ji9)) = true := decide_eq_true c10
       clear c10
       by_cases c11 : (ji9) < (l0.length : Int)
       ·rw [if_pos c11] at H
        have c11b0 : decide ((ji9) < (l0.length : Int)) = true := decide_eq_true c11
        clear c11
        obtain ⟨ji12, hji12⟩ : ∃ j_ : Int, (Int.tmod x6_1 32) = j_ := ⟨_, rfl⟩
        replace H : (if 0 ≤ (ji12) then (if (Go.bits .and .u32 (shr .u32 (rd l0 (ji9)) (ji12)) 1) = 1 then ((spec_magAdd.f k1 t255 (([1] : List Int))).bind fun t262 => (spec_magDiv.j1 k1 l0 l1 x4_1 t262 x6_1)) else (spec_magDiv.j1 k1 l0 l1 x4_1 t255 x6_1)) else (none)) = some (r1, r2) := by first | (rw [hji12] at H; exact H) | (simp only [hji12] at H ⊢; exact H)
        (try rw [hji12] at A8)
        by_cases c13 : 0 ≤ (ji12)
        ·rw [if_pos c13] at H
         have c13b0 := eq_true c13
         have c13b1 : decide (0 ≤ (ji12)) = true := decide_eq_true c13
         clear c13
         obtain ⟨ji14, hji14⟩ : ∃ j_ : Int, (shr .u32 (rd l0 (ji9)) (ji12)) = j_ := ⟨_, rfl⟩
         replace H : (if (Go.bits .and .u32 (ji14) 1) = 1 then ((spec_magAdd.f k1 t255 (([1] : List Int))).bind fun t262 => (spec_magDiv.j1 k1 l0 l1 x4_1 t262 x6_1)) else (spec_magDiv.j1 k1 l0 l1 x4_1 t255 x6_1)) = some (r1, r2) := by first | (rw [hji14] at H; exact H) | (simp only [hji14] at H ⊢; exact H)
         (try rw [hji14] at A8)
         have hji14_ : ((rd l0 (ji9)) / 2 ^ min (ji12).toNat 32) = ji14 := hji14
         have hji14z : (ji12) ≤ 32 → ((rd l0 (ji9)) / 2 ^ (ji12).toNat) = ji14 := shr_small hji14
         have HC15 := qaM H
         clear H
         obtain ⟨Ao16, co16, eo16⟩ := Kd.V_slice HO_5.out
         subst eo16
         go_upto_if 30 with (first | ((with_reducible refine gate_callee (f := 53) rfl ?_); refine goesL_ (some 20) rfl rfl Tryz.func53 zd14_7 rfl #[.slice Ao16 x5_1.length co16, .slice Ao16 x5_1.length co16] rfl zd14_2 ?_; (with_reducible refine (spec_magAdd.calls k1 _ _ x5_1 _ _ x5_1 t255 _ ?side1 ?side2 ?side3 ?side4 A8.out).mono ?_); (case side1 => repeat (first | exact (qvR HO_5.out).2.2 | (with_reducible refine Kd.C_alloc ?_ _) | (with_reducible refine Kd.C_drewN ?_ _) | (with_reducible refine Kd.C_drew ?_))); (case side2 => exact (qvR HO_5.out).2.1); (case side3 => repeat (first | exact (qvR HO_5.out).2.2 | (with_reducible refine Kd.C_alloc ?_ _) | (with_reducible refine Kd.C_drewN ?_ _) | (with_reducible refine Kd.C_drew ?_))); (case side4 => exact (qvR HO_5.out).2.1); rintro e w17 ⟨v256, rfl, ho0, hb⟩; refine ⟨_, rfl, ?_⟩; have n0_ := qaM (Kd.R_elder' zd14_1 (Kd.R_base ho0) hb); have n1_ := qaM (Kd.V_elder' zd14_6 (Kd.R_base ho0) hb); have n2_ := qaM (Kd.R_lower (Kd.R_new' (Kd.R_newM (M := fun k_ => (w.heap.size ≤ k_)) ho0 (qbS zd14_0) (fun k_ h_ => h_)) (Kd.R_lt zd14_1)) (qbS zd14_0)); have n3_ := qaM (qbT zd14_0 hb); clear HO_4; clear HO_5; clear HB; have HO_4 := n0_; have HO_5 := n1_; have HO257 := n2_; have HB := n3_; clear n0_ n1_ n2_ n3_; (try clear hb); (try clear hb2); (try clear hk); (try clear hi); (try clear ho0); have p258 : 0 ≤ ((ji9) : Int) := qoD zd14_3; have q258 : (ji9) < (l0.length : Int) := qoD zd14_3; obtain ⟨ad258, e258, hx258_0⟩ := Kd.at_int HR0.out (ji9) p258 q258; cases e258; replace hx258_0 := (HB.out.cell (World.block_lt_of_cell? w _ hx258_0)).trans hx258_0; replace p258 := eq_true p258; replace q258 := eq_true q258))
         (try simp only [Act.put, qsA, qsZ, qsS])
         go_cut [5] (fun v5 wc => ∃ (kq : Nat) (x5_14 : List Int), Aside0 (spec_magDiv.j1 kq l0 l1 x4_1 x5_14 x6_1 = some (r1, r2)) ∧ Aside0 (kq ≤ k1) ∧ Aside0 (Kd.R (Kd.int .u32) 104 wc w.heap.size (fun k_ => (w.heap.size ≤ k_) ∧ some k_ ≠ (v5 : Value).ownBlock) v250 x4_1) ∧ Aside0 (Kd.R (Kd.int .u32) 104 wc w.heap.size (fun k_ => (w.heap.size ≤ k_) ∧ some k_ ≠ (v250 : Value).ownBlock) v5 x5_14) ∧ Aside0 (Below w.heap.size w wc))
         case first =>
          have H := HC15.out
          clear HC15
          by_cases c18 : (Go.bits .and .u32 (ji14) 1) = 1
          ·rw [if_pos c18] at H
           have c18b0 : ((Go.bits .and .u32 (ji14) 1) == 1) = true := beq_iff_eq.mpr c18
           have c18b1 : ((Go.bits .and .u32 (ji14) 1) != 1) = false := bne_eq_false_iff_eq.mpr c18
           clear c18
           (first | rw [c18b0] | (simp only [i64_w, i32_w]; rw [c18b0]) | skip)
           obtain ⟨y259, hy259⟩ : ∃ y_ : List Int, y_ = (([1] : List Int)) := ⟨_, rfl⟩
           replace H : ((spec_magAdd.f k1 t255 y259).bind fun t262 => (spec_magDiv.j1 k1 l0 l1 x4_1 t262 x6_1)) = some (r1, r2) := by first | (rw [hy259]; with_reducible exact H) | (have H2_ := (Option.bind_some _ _).symm.trans H; rw [hy259]; with_reducible exact H2_) | (have H2_ := (Option.bind_some _ _).symm.trans H; with_reducible exact H2_) | with_reducible exact H | (rw [hy259]; exact H) | exact H
           have Ny259 := qaM hy259
           clear hy259
           replace H := Option.bind_eq_some_iff.mp H
           obtain ⟨t262, A190, H⟩ := H
           replace H : (spec_magDiv.j1 k1 l0 l1 x4_1 t262 x6_1) = some (r1, r2) := H
           have A19 := qaM A190
           clear A190
           have H' := qaM H
           clear H
           go_wp2_with (first | ((with_reducible refine gate_dst (N := 32) rfl ?_); refine Kd.R_lit (Kd.int .u32) _ 104 ?hg (N := 32) ?hd (xs := ([1] : List Int)) (inner := [.int .u32 1]) (ok := fun _ => True) (okp := fun _ => True) ?hr ?hp (fun _ hk => hk) trivial (Below.refl _ _) (Nat.le_refl _) (by simp) ?_; (case hd => rfl); (case hg => rfl); (case hr => first | (go_simp; done) | (go_simp; rfl)); (case hp => exact (Reps.one (show Kd.M (Kd.int .u32) _ _ _ 1 [.int .u32 1] from rfl) (Reps.none _ _))); intro v260 w20 ho21 hb hg_ hnew_; clear hg_ hnew_; (first | rw [← Ny259.out] at ho21 | (simp only [Int.reduceToNat] at ho21; rw [← Ny259.out] at ho21)); have n0_ := qaM (Kd.R_elder' zd14_1 (Kd.R_base ho21) hb); have n1_ := qaM (Kd.V_elder' zd14_6 (Kd.R_base ho21) hb); have n2_ := qaM (Kd.R_elder' zd14_5 (Kd.R_base ho21) hb); have n3_ := qaM (Kd.R_lower (Kd.R_new' (Kd.R_new' (Kd.R_newM (M := fun k_ => (w.heap.size ≤ k_)) ho21 (qbS zd14_0) (fun k_ h_ => h_)) (Kd.R_lt zd14_1)) (Kd.R_lt zd14_5)) (qbS zd14_0)); have n4_ := qaM (qbT zd14_0 hb); clear HO_4; clear HO_5; clear HO257; clear HB; have HO_4 := n0_; have HO_5 := n1_; have HO257 := n2_; have HO261 := n3_; have HB := n4_; clear n0_ n1_ n2_ n3_ n4_; clear hb ho21; obtain ⟨Ao22, co22, eo22⟩ := Kd.R_slice HO257.out; subst eo22; obtain ⟨Ao23, co23, eo23⟩ := Kd.R_slice HO261.out; subst eo23) | ((with_reducible refine gate_callee (f := 53) rfl ?_); refine goesL_ (some 33) rfl rfl Tryz.func53 zd14_7 rfl #[.slice Ao22 t255.length co22, .slice Ao23 y259.length co23] rfl zd14_2 ?_; (with_reducible refine (spec_magAdd.calls k1 _ _ t255 _ _ y259 t262 _ ?side1 ?side2 ?side3 ?side4 A19.out).mono ?_); (case side1 => repeat (first | exact (qrR HO257.out).2.2 | (with_reducible refine Kd.C_alloc ?_ _) | (with_reducible refine Kd.C_drewN ?_ _) | (with_reducible refine Kd.C_drew ?_))); (case side2 => exact (qrR HO257.out).2.1); (case side3 => repeat (first | exact (qrR HO261.out).2.2 | (with_reducible refine Kd.C_alloc ?_ _) | (with_reducible refine Kd.C_drewN ?_ _) | (with_reducible refine Kd.C_drew ?_))); (case side4 => exact (qrR HO261.out).2.1); rintro e w24 ⟨v263, rfl, ho0, hb⟩; refine ⟨_, rfl, ?_⟩; have n0_ := qaM (Kd.R_elder' zd14_1 (Kd.R_base ho0) hb); have n1_ := qaM (Kd.V_elder' zd14_6 (Kd.R_base ho0) hb); have n2_ := qaM (Kd.R_elder' zd14_5 (Kd.R_base ho0) hb); have n3_ := qaM (Kd.R_elder' (by (with_reducible repeat (first | apply qrA | apply qrN | apply qrD)); exact HO261.out) (Kd.R_base ho0) hb); have n4_ := qaM (Kd.R_lower (Kd.R_new' (Kd.R_new' (Kd.R_new' (Kd.R_newM (M := fun k_ => (w.heap.size ≤ k_)) ho0 (qbS zd14_0) (fun k_ h_ => h_)) (Kd.R_lt zd14_1)) (Kd.R_lt zd14_5)) (Kd.R_lt (by (with_reducible repeat (first | apply qrA | apply qrN | apply qrD)); exact HO261.out))) (qbS zd14_0)); have n5_ := qaM (qbT zd14_0 hb); clear HO_4; clear HO_5; clear HO257; clear HO261; clear HB; have HO_4 := n0_; have HO_5 := n1_; have HO257 := n2_; have HO261 := n3_; have HO264 := n4_; have HB := n5_; clear n0_ n1_ n2_ n3_ n4_ n5_; (try clear hb); (try clear hb2); (try clear hk); (try clear hi); (try clear ho0)))
           go_meet
           case rel => exact ⟨_, (t262), H', ⟨by have := HK1.out; first | omega | exact Nat.le_refl _⟩, ⟨by (with_reducible repeat (first | apply qrA | apply qrN | apply qrD)); exact qrM HO_4.out (fun _ hk => ⟨hk.1.1.1, hk.2⟩)⟩, ⟨by (with_reducible repeat (first | apply qrA | apply qrN | apply qrD)); exact qrM HO264.out (fun _ hk => ⟨hk.1.1.1.1, hk.1.1.2⟩)⟩, ⟨by repeat (first | (with_reducible first | exact HB.out | apply qwA | apply qwN | apply qwD) | exact HB.out)⟩⟩
          ·rw [if_neg c18] at H
           have c18b0 : ((Go.bits .and .u32 (ji14) 1) == 1) = false := beq_eq_false_iff_ne.mpr c18
           have c18b1 : ((Go.bits .and .u32 (ji14) 1) != 1) = true := bne_iff_ne.mpr c18
           (first | rw [c18b0] | (simp only [i64_w, i32_w]; rw [c18b0]) | skip)
           have H' := qaM H
           clear H
           go_wp2
           go_meet
           case rel => exact ⟨_, (t255), H', ⟨by have := HK1.out; first | omega | exact Nat.le_refl _⟩, ⟨by (with_reducible repeat (first | apply qrA | apply qrN | apply qrD)); exact HO_4.out⟩, ⟨by (with_reducible repeat (first | apply qrA | apply qrN | apply qrD)); exact qrM HO257.out (fun _ hk => ⟨hk.1.1, hk.2⟩)⟩, ⟨by repeat (first | (with_reducible first | exact HB.out | apply qwA | apply qwN | apply qwD) | exact HB.out)⟩⟩
         case rest =>
          clear HC15
          try clear c1
          try clear p2
          try clear q2
          try clear hx2
          try clear c3
          try clear c3b0
          try clear c3b1
          try clear c4
          try clear c4b0
          try clear c4b1
          try clear c5
          try clear p6
          try clear c7
          try clear c7b0
          try clear c10
          try clear c10b0
          try clear c11
          try clear c11b0
          try clear c13
          try clear c13b0
          try clear c13b1
          try clear c18
          try clear c18b0
          try clear c18b1
          try clear hx258_0
          try clear p2
          try clear p258
          try clear p6
          try clear q258
          obtain ⟨kq, x5_14, HA, HJ14, HO_4, HO_5, HB⟩ := hcut
          cases kq with
          | zero => exact absurd HA.out (by simp [spec_magDiv.j1])
          | succ kj14 =>
           have H := HA.out
           clear HA
           simp only [spec_magDiv.j1] at H
           replace H := Option.bind_eq_some_iff.mp H
           obtain ⟨t265, A250, H⟩ := H
           replace H : ((spec_magCmp.f kj14 t265 l1).bind fun t268 => (if t268 ≥ 0 then ((spec_magSub.f kj14 t265 l1).bind fun t269 => (if 0 ≤ (wrap64 (Int.tdiv x6_1 32)) then (if (wrap64 (Int.tdiv x6_1 32)) < (x4_1.length : Int) then (if 0 ≤ (Int.tmod x6_1 32) then (spec_magDiv.l0 kj14 l0 l1 (x4_1.set ((wrap64 (Int.tdiv x6_1 32)) : Int).toNat (Go.bits .or .u32 (rd x4_1 (wrap64 (Int.tdiv x6_1 32))) (shl .u32 1 (Int.tmod x6_1 32)))) t269 (wrap64 (x6_1 - 1))) else (none)) else (none)) else (none))) else (spec_magDiv.l0 kj14 l0 l1 x4_1 t265 (wrap64 (x6_1 - 1))))) = some (r1, r2) := H
           have A25 := qaM A250
           clear A250
           replace H := Option.bind_eq_some_iff.mp H
           obtain ⟨t268, A260, H⟩ := H
           replace H : (if t268 ≥ 0 then ((spec_magSub.f kj14 t265 l1).bind fun t269 => (if 0 ≤ (wrap64 (Int.tdiv x6_1 32)) then (if (wrap64 (Int.tdiv x6_1 32)) < (x4_1.length : Int) then (if 0 ≤ (Int.tmod x6_1 32) then (spec_magDiv.l0 kj14 l0 l1 (x4_1.set ((wrap64 (Int.tdiv x6_1 32)) : Int).toNat (Go.bits .or .u32 (rd x4_1 (wrap64 (Int.tdiv x6_1 32))) (shl .u32 1 (Int.tmod x6_1 32)))) t269 (wrap64 (x6_1 - 1))) else (none)) else (none)) else (none))) else (spec_magDiv.l0 kj14 l0 l1 x4_1 t265 (wrap64 (x6_1 - 1)))) = some (r1, r2) := H
           have A26 := qaM A260
           clear A260
           by_cases c27 : t268 ≥ 0
           ·rw [if_pos c27] at H
            have c27b0 : decide (0 ≤ t268) = true := decide_eq_true c27
            clear c27
            replace H := Option.bind_eq_some_iff.mp H
            obtain ⟨t269, A280, H⟩ := H
            replace H : (if 0 ≤ (wrap64 (Int.tdiv x6_1 32)) then (if (wrap64 (Int.tdiv x6_1 32)) < (x4_1.length : Int) then (if 0 ≤ (Int.tmod x6_1 32) then (spec_magDiv.l0 kj14 l0 l1 (x4_1.set ((wrap64 (Int.tdiv x6_1 32)) : Int).toNat (Go.bits .or .u32 (rd x4_1 (wrap64 (Int.tdiv x6_1 32))) (shl .u32 1 (Int.tmod x6_1 32)))) t269 (wrap64 (x6_1 - 1))) else (none)) else (none)) else (none)) = some (r1, r2) := H
            have A28 := qaM A280
            clear A280
            obtain ⟨ji29, hji29⟩ : ∃ j_ : Int, (wrap64 (Int.tdiv x6_1 32)) = j_ := ⟨_, rfl⟩
            (try clear hji9w)
            (try clear hji9)
            replace H : (if 0 ≤ (ji29) then (if (ji29) < (x4_1.length : Int) then (if 0 ≤ (Int.tmod x6_1 32) then (spec_magDiv.l0 kj14 l0 l1 (x4_1.set ((ji29) : Int).toNat (Go.bits .or .u32 (rd x4_1 (ji29)) (shl .u32 1 (Int.tmod x6_1 32)))) t269 (wrap64 (x6_1 - 1))) else (none)) else (none)) else (none)) = some (r1, r2) := by first | (rw [hji29] at H; exact H) | (simp only [hji29] at H ⊢; exact H)
            (try rw [hji29] at A25)
            (try rw [hji29] at A26)
            (try rw [hji29] at A28)
            have hji29w : (IntKind.i64.wrap (Int.tdiv x6_1 32)) = ji29 := (i64_w _).trans hji29
            by_cases c30 : 0 ≤ (ji29)
            ·rw [if_pos c30] at H
             have c30b0 : decide (0 ≤ (ji29)) = true := decide_eq_true c30
             clear c30
             by_cases c31 : (ji29) < (x4_1.length : Int)
             ·rw [if_pos c31] at H
              have c31b0 : decide ((ji29) < (x4_1.length : Int)) = true := decide_eq_true c31
              clear c31
              obtain ⟨ji32, hji32⟩ : ∃ j_ : Int, (Int.tmod x6_1 32) = j_ := ⟨_, rfl⟩
              (try clear hji12w)
              (try clear hji12)
              replace H : (if 0 ≤ (ji32) then (spec_magDiv.l0 kj14 l0 l1 (x4_1.set ((ji29) : Int).toNat (Go.bits .or .u32 (rd x4_1 (ji29)) (shl .u32 1 (ji32)))) t269 (wrap64 (x6_1 - 1))) else (none)) = some (r1, r2) := by first | (rw [hji32] at H; exact H) | (simp only [hji32] at H ⊢; exact H)
              (try rw [hji32] at A25)
              (try rw [hji32] at A26)
              (try rw [hji32] at A28)
              by_cases c33 : 0 ≤ (ji32)
              ·rw [if_pos c33] at H
               have c33b0 := eq_true c33
               have c33b1 : decide (0 ≤ (ji32)) = true := decide_eq_true c33
               clear c33
               obtain ⟨ji34, hji34⟩ : ∃ j_ : Int, (shl .u32 1 (ji32)) = j_ := ⟨_, rfl⟩
               replace H : (spec_magDiv.l0 kj14 l0 l1 (x4_1.set ((ji29) : Int).toNat (Go.bits .or .u32 (rd x4_1 (ji29)) (ji34))) t269 (wrap64 (x6_1 - 1))) = some (r1, r2) := by first | (rw [hji34] at H; exact H) | (simp only [hji34] at H ⊢; exact H)
               (try rw [hji34] at A25)
               (try rw [hji34] at A26)
               (try rw [hji34] at A28)
               have hji34_ : (IntKind.u32.wrap (1 * 2 ^ min (ji32).toNat 32)) = ji34 := hji34
               have hji34z : (ji32) ≤ 32 → (IntKind.u32.wrap (1 * 2 ^ (ji32).toNat)) = ji34 := shl_small hji34
               have hji34u : (IntKind.u32.wrap (2 ^ min (ji32).toNat 32)) = ji34 := by have h_ := hji34_; rw [Int.one_mul] at h_; exact h_
               have hji34v : (ji32) ≤ 32 → (IntKind.u32.wrap (2 ^ (ji32).toNat)) = ji34 := fun hle_ => by have h_ := hji34z hle_; rw [Int.one_mul] at h_; exact h_
               obtain ⟨y273, hy273⟩ : ∃ y_ : List Int, y_ = (x4_1.set ((ji29) : Int).toNat (Go.bits .or .u32 (rd x4_1 (ji29)) (ji34))) := ⟨_, rfl⟩
               replace H : (spec_magDiv.l0 kj14 l0 l1 y273 t269 (wrap64 (x6_1 - 1))) = some (r1, r2) := by first | (rw [hy273]; with_reducible exact H) | (have H2_ := (Option.bind_some _ _).symm.trans H; rw [hy273]; with_reducible exact H2_) | (have H2_ := (Option.bind_some _ _).symm.trans H; with_reducible exact H2_) | with_reducible exact H | (rw [hy273]; exact H) | exact H
               have Ny273 := qaM hy273
               clear hy273
               have H' := qaM H
               clear H
               obtain ⟨Ao36, co36, eo36⟩ := Kd.R_slice HO_5.out
               subst eo36
               try go_wp2_with (first | ((with_reducible refine gate_callee (f := 52) rfl ?_); refine goesL_ (some 35) rfl rfl Tryz.func52 zd14_7 rfl #[.slice Ao36 x5_14.length co36] rfl zd14_2 ?_; (with_reducible refine (spec_trim.calls kj14 (fun k_ => some k_ = (.slice Ao36 x5_14.length co36 : Value).ownBlock) _ _ x5_14 t265 _ ?side1 A25.out).mono ?_); (case side1 => exact qrV (Kd.R_tight rfl (HO_5.out))); rintro e w37 ⟨v266, rfl, ho0, hb⟩; refine ⟨_, rfl, ?_⟩; have n0_ := qaM (qrB zd14_1 hb); have n1_ := qaM (qrB zd14_4 hb); have n2_ := qaM (qvL (qvM (ok' := fun k_ => (w.heap.size ≤ k_) ∧ some k_ ≠ (v250 : Value).ownBlock) ho0 (fun k_ hk_ => ⟨Or.elim hk_ (fun hs_ => ((HO_5.out).1 k_ hs_.symm).1) (fun hn_ => (Nat.le_trans (qbS zd14_0) hn_)), Or.elim hk_ (fun hs_ => ((HO_5.out).1 k_ hs_.symm).2) (fun hn_ => (Kd.fresh' (Kd.R_lt zd14_1) k_ hn_))⟩)) (qbS zd14_0)); have n3_ := qaM (qbT zd14_0 hb); clear HO_4; clear HO_5; clear HB; have HO_4 := n0_; have HO_5 := n1_; have HO267 := n2_; have HB := n3_; clear n0_ n1_ n2_ n3_; (try clear hb); (try clear hb2); (try clear hk); (try clear hi); (try clear ho0); obtain ⟨Ao38, co38, eo38⟩ := Kd.V_slice HO267.out; subst eo38) | ((with_reducible refine gate_callee (f := 27) rfl ?_); refine goesL_ (some 38) rfl rfl Tryz.func27 zd14_7 rfl #[.slice Ao38 t265.length co38, .slice A1 l1.length c1] rfl zd14_2 ?_; (with_reducible refine (spec_magCmp.calls kj14 _ _ t265 _ _ l1 t268 _ ?side1 ?side2 ?side3 ?side4 A26.out).mono ?_); (case side1 => repeat (first | exact (qvR HO267.out).2.2 | (with_reducible refine Kd.C_alloc ?_ _) | (with_reducible refine Kd.C_drewN ?_ _) | (with_reducible refine Kd.C_drew ?_))); (case side2 => exact (qvR HO267.out).2.1); (case side3 => repeat (first | exact (Kd.C_below HR1.out HB.out) | (with_reducible refine Kd.C_alloc ?_ _) | (with_reducible refine Kd.C_drewN ?_ _) | (with_reducible refine Kd.C_drew ?_))); (case side4 => exact HC1.out); rintro e w' ⟨rfl, ⟨nd, rfl⟩⟩; refine ⟨_, rfl, ?_⟩; (try (rw [drewN_self w37]; generalize hq_ : World.drewN w37 _ = w37; have n0_ : Aside0 (Kd.V (Kd.int .u32) 104 w37 w.heap.size (fun k_ => (w.heap.size ≤ k_) ∧ some k_ ≠ (v250 : Value).ownBlock) (.slice Ao38 t265.length co38) t265) := ⟨by rw [← hq_]; exact (by (with_reducible repeat (first | apply qvA | apply qvN | apply qvD)); exact HO267.out)⟩; have n1_ : Aside0 (Kd.R (Kd.int .u32) 104 w37 w.heap.size (fun k_ => (w.heap.size ≤ k_) ∧ some k_ ≠ (.slice Ao36 x5_14.length co36 : Value).ownBlock) v250 x4_1) := ⟨by rw [← hq_]; exact zd14_1⟩; have n2_ : Aside0 (Kd.R (Kd.int .u32) 104 w37 w.heap.size (fun k_ => (w.heap.size ≤ k_) ∧ some k_ ≠ (v250 : Value).ownBlock) (.slice Ao36 x5_14.length co36) x5_14) := ⟨by rw [← hq_]; exact zd14_4⟩; have n3_ : Aside0 (Below w.heap.size w w37) := ⟨by rw [← hq_]; exact zd14_0⟩; clear HO267 HO_4 HO_5 HB hq_; have HO267 := n0_; have HO_4 := n1_; have HO_5 := n2_; have HB := n3_; clear n0_ n1_ n2_ n3_))) | ((with_reducible refine gate_callee (f := 54) rfl ?_); refine goesL_ (some 42) rfl rfl Tryz.func54 zd14_7 rfl #[.slice Ao38 t265.length co38, .slice A1 l1.length c1] rfl zd14_2 ?_; (with_reducible refine (spec_magSub.calls kj14 _ _ t265 _ _ l1 t269 _ ?side1 ?side2 ?side3 ?side4 A28.out).mono ?_); (case side1 => repeat (first | exact (qvR HO267.out).2.2 | (with_reducible refine Kd.C_alloc ?_ _) | (with_reducible refine Kd.C_drewN ?_ _) | (with_reducible refine Kd.C_drew ?_))); (case side2 => exact (qvR HO267.out).2.1); (case side3 => repeat (first | exact (Kd.C_below HR1.out HB.out) | (with_reducible refine Kd.C_alloc ?_ _) | (with_reducible refine Kd.C_drewN ?_ _) | (with_reducible refine Kd.C_drew ?_))); (case side4 => exact HC1.out); rintro e w39 ⟨v270, rfl, ho0, hb⟩; refine ⟨_, rfl, ?_⟩; have n0_ := qaM (qrB zd14_1 hb); have n1_ := qaM (qrB zd14_4 hb); have n2_ := qaM (qvB (by (with_reducible repeat (first | apply qvA | apply qvN | apply qvD)); exact HO267.out) hb); have n3_ := qaM (qvL (qvM (ok' := fun k_ => (w.heap.size ≤ k_) ∧ some k_ ≠ (v250 : Value).ownBlock ∧ some k_ ≠ (.slice Ao36 x5_14.length co36 : Value).ownBlock) ho0 (fun k_ hk_ => ⟨(Nat.le_trans (qbS zd14_0) hk_), (Kd.fresh' (Kd.R_lt zd14_1) k_ hk_), (Kd.fresh' (Kd.R_lt zd14_4) k_ hk_)⟩)) (qbS zd14_0)); have n4_ := qaM (qbT zd14_0 hb); clear HO_4; clear HO_5; clear HO267; clear HB; have HO_4 := n0_; have HO_5 := n1_; have HO267 := n2_; have HO271 := n3_; have HB := n4_; clear n0_ n1_ n2_ n3_ n4_; (try clear hb); (try clear hb2); (try clear hk); (try clear hi); (try clear ho0)))
               have n0_ := qaM (qrD HO_4.out)
               have n1_ := qaM (qrD HO_5.out)
               have n2_ := qaM (qvD HO267.out)
               have n3_ := qaM (qvD HO271.out)
               have n4_ := qaM (qwD HB.out)
               clear HO_4
               clear HO_5
               clear HO267
               clear HO271
               clear HB
               have HO_4 := n0_
               have HO_5 := n1_
               have HO267 := n2_
               have HO271 := n3_
               have HB := n4_
               clear n0_ n1_ n2_ n3_ n4_
               obtain ⟨Ao41, co41, eo41⟩ := Kd.R_slice HO_4.out
               (first | subst eo41 | (injection eo41 with f1_ f2_ f3_; have f4_ := f1_.symm; have f5_ := f3_.symm; clear f1_ f2_ f3_; subst f4_; subst f5_))
               have p272 : 0 ≤ ((ji29) : Int) := qoD zd14_3
               have q272 : (ji29) < (x4_1.length : Int) := qoD zd14_3
               obtain ⟨ad272, e272, hx272_0⟩ := Kd.at_int (qrR HO_4.out).2.2 (ji29) p272 q272
               cases e272
               replace p272 := eq_true p272
               replace q272 := eq_true q272
               have p35 : 0 ≤ ((ji29) : Int) := qoD zd14_3
               have q35 : ((ji29) : Int) < ((x4_1.length : Int) : Int) := qoD zd14_3
               obtain ⟨go35, co35, eo35, gb35, gl35, cl35, HG35⟩ := Kd.R_form HO_4.out (by omega)
               (first | cases eo35 | (injection eo35 with ea_ en_ ec_; (first | subst ea_ | (injection ea_ with ea_; subst ea_)); subst ec_; clear en_))
               have GB35 := qaM gb35
               have GG35 := qaM HG35
               clear gb35 gl35 HG35
               (first | simp only [add_plain] at hx272_0 | skip)
               obtain ⟨hx35_0, hf35_0⟩ := Kd.R_celln 0 HO_4.out ((ji29) : Int) p35 q35
               replace p35 := eq_true p35
               replace q35 := eq_true q35
               have HP42 := Kd.R_putn HO_4.out ((ji29) : Int) (Go.bits .or .u32 (rd x4_1 (ji29)) (ji34))
               rw [← Ny273.out] at HP42
               have HQ42 := qaM HP42
               clear HP42
               refine start_ (n := 11) (S := fun w' => w'.cell? ⟨go35, ((ji29)).toNat, none⟩ = some (.int .u32 (rd x4_1 (ji29)))) (ds := [10]) #[false, false, false, false, false, false, false, false, false, false, false] zd14_7 rfl rfl (hx272_0) (fun hHeld => ?_); refine with_tabW spec_magDiv.tab11 spec_magDiv.bits11 (fun HT_ HW_ => ?_)
               generalize w39.drew = w40 at HO_4 HO_5 HO267 HO271 HB GG35 HQ42 hf35_0 hx272_0 hx35_0 hHeld ⊢
               refine pure_ (i := 0) (N := some 43) (v := ?_) (a' := ?_) #[true, false, false, false, false, false, false, false, false, false, false] rfl rfl (any_of HT_.out zd14_7) (fun _ _ _ h => h) (Or.inl ⟨by rfl, ?_⟩) ?_ ?_
               rotate_left
               ·intro w'
                go_simp
                with_reducible rfl
               rotate_left
               ·simp only [Act.put, qsA, qsZ, qsS, i64_w, i32_w]
                rfl
               refine pure_ (i := 1) (N := some 44) (v := ?_) (a' := ?_) #[true, true, false, false, false, false, false, false, false, false, false] rfl rfl (any_of HT_.out zd14_7) (fun _ _ _ h => h) (Or.inl ⟨by rfl, ?_⟩) ?_ ?_
               rotate_left
               ·intro w'
                go_simp
                with_reducible rfl
               rotate_left
               ·simp only [Act.put, qsA, qsZ, qsS, i64_w, i32_w]
                rfl
               refine pure_ (i := 2) (N := some 45) (v := ?_) (a' := ?_) #[true, true, true, false, false, false, false, false, false, false, false] rfl rfl (any_of HT_.out zd14_7) (fun _ _ _ h => h) (Or.inl ⟨by rfl, ?_⟩) ?_ ?_
               rotate_left
               ·intro w'
                go_simp
                with_reducible rfl
               rotate_left
               ·simp only [Act.put, qsA, qsZ, qsS, i64_w, i32_w]
                rfl
               refine pure_ (i := 3) (N := some 46) (v := ?_) (a' := ?_) #[true, true, true, true, false, false, false, false, false, false, false] rfl rfl (any_of HT_.out zd14_7) (fun _ _ _ h => h) (Or.inl ⟨by rfl, ?_⟩) ?_ ?_
               rotate_left
               ·intro w'
                go_simp
                with_reducible rfl
               rotate_left
               ·simp only [Act.put, qsA, qsZ, qsS, i64_w, i32_w]
                rfl
               refine pure_ (i := 5) (N := some 48) (v := ?_) (a' := ?_) #[true, true, true, true, false, true, false, false, false, false, false] rfl rfl (any_of HT_.out zd14_7) (fun _ _ _ h => h) (Or.inl ⟨by rfl, ?_⟩) ?_ ?_
               rotate_left
               ·intro w'
                go_simp
                with_reducible rfl
               rotate_left
               ·simp only [Act.put, qsA, qsZ, qsS, i64_w, i32_w]
                rfl
               refine pure_ (i := 6) (N := some 49) (v := ?_) (a' := ?_) #[true, true, true, true, false, true, true, false, false, false, false] rfl rfl (any_of HT_.out zd14_7) (fun _ _ _ h => h) (Or.inl ⟨by rfl, ?_⟩) ?_ ?_
               rotate_left
               ·intro w'
                go_simp
                with_reducible rfl
               rotate_left
               ·simp only [Act.put, qsA, qsZ, qsS, i64_w, i32_w]
                rfl
               refine pure_ (i := 7) (N := some 50) (v := ?_) (a' := ?_) #[true, true, true, true, false, true, true, true, false, false, false] rfl rfl (any_of HT_.out zd14_7) (fun _ _ _ h => h) (Or.inl ⟨by rfl, ?_⟩) ?_ ?_
               rotate_left
               ·intro w'
                go_simp
                with_reducible rfl
               rotate_left
               ·simp only [Act.put, qsA, qsZ, qsS, i64_w, i32_w]
                rfl
               refine take_ (i := 4) (N := some 47) (v := ?_) (a' := ?_) #[true, true, true, true, true, true, true, true, false, false, false] rfl rfl (take_ofW HT_.out HW_.out zd14_7) (fun _ _ _ h => h) (Or.inl ⟨by rfl, ?_⟩) hHeld ?_ ?_
               rotate_left
               ·intro w' s0
                go_simp
                with_reducible rfl
               rotate_left
               ·simp only [Act.put, qsA, qsZ, qsS, i64_w, i32_w]
                rfl
               refine pure_ (i := 8) (N := some 51) (v := ?_) (a' := ?_) #[true, true, true, true, true, true, true, true, true, false, false] rfl rfl (any_of HT_.out zd14_7) (fun _ _ _ h => h) (Or.inl ⟨by rfl, ?_⟩) ?_ ?_
               rotate_left
               ·intro w'
                go_simp
                with_reducible rfl
               rotate_left
               ·simp only [Act.put, qsA, qsZ, qsS, i64_w, i32_w]
                rfl
               refine pure_ (i := 9) (N := some 52) (v := ?_) (a' := ?_) #[true, true, true, true, true, true, true, true, true, true, false] rfl rfl (any_of HT_.out zd14_7) (fun _ _ _ h => h) (Or.inl ⟨by rfl, ?_⟩) ?_ ?_
               rotate_left
               ·intro w'
                go_simp
                with_reducible rfl
               rotate_left
               ·simp only [Act.put, qsA, qsZ, qsS, i64_w, i32_w]
                rfl
               refine last_ (i := 10) (N := none) #[true, true, true, true, true, true, true, true, true, true, true] rfl rfl (one_of HT_.out zd14_7) (by decide) (fun K hK => ?_)
               refine skip_ (w1 := ?_) (by rfl) rfl ?_ ?_
               rotate_left
               ·go_simp
                rfl
               refine hK.out _ _ ?_
               clear hK K
               refine done_ (done_of HT_.out zd14_7) ?_
               try go_wp2
               go_roundg kj14
               case measure => have := HK1.out; have := HJ14.out; omega
               case rel => exact ⟨(y273), (t269), (wrap64 (x6_1 - 1)), (by first | rfl | (simp; done) | (simp [*]; done)), H', ⟨by have := HK1.out; have := HJ14.out; omega⟩, ⟨by (with_reducible repeat (first | apply qrA | apply qrN | apply qrD)); exact qrM HQ42.out (fun _ hk => hk.1)⟩, ⟨by (with_reducible repeat (first | apply qvA | apply qvN | apply qvD)); exact qvM (qvF (p := ⟨go35, ((ji29) : Int).toNat, none⟩) (qvM HO271.out (fun k_ hk => (⟨hk, fun e_ => hk.2.1 (by rw [e_]; rfl)⟩ : _ ∧ k_ ≠ go35))) (fun _ hk => hk.2) (.int .u32 (Go.bits .or .u32 (rd x4_1 (ji29)) (ji34)))) (fun _ hk => ⟨hk.1.1, hk.1.2.1⟩)⟩, ⟨by repeat (first | (with_reducible first | exact HB.out | apply qwA | apply qwN | apply qwD | refine qwS ?_ GB35.out) | exact HB.out)⟩⟩
              ·rw [if_neg c33] at H
               exact absurd H (by simp)
             ·rw [if_neg c31] at H
              exact absurd H (by simp)
            ·rw [if_neg c30] at H
             exact absurd H (by simp)
           ·rw [if_neg c27] at H
            have c27b0 : decide (0 ≤ t268) = false := decide_eq_false c27
            clear c27
            have H' := qaM H
            clear H
            obtain ⟨Ao43, co43, eo43⟩ := Kd.R_slice HO_5.out
            subst eo43
            go_wp2_with (first | ((with_reducible refine gate_callee (f := 52) rfl ?_); refine goesL_ (some 35) rfl rfl Tryz.func52 zd14_7 rfl #[.slice Ao43 x5_14.length co43] rfl zd14_2 ?_; (with_reducible refine (spec_trim.calls kj14 (fun k_ => some k_ = (.slice Ao43 x5_14.length co43 : Value).ownBlock) _ _ x5_14 t265 _ ?side1 A25.out).mono ?_); (case side1 => exact qrV (Kd.R_tight rfl (HO_5.out))); rintro e w44 ⟨v266, rfl, ho0, hb⟩; refine ⟨_, rfl, ?_⟩; have n0_ := qaM (qrB zd14_1 hb); have n1_ := qaM (qrB zd14_4 hb); have n2_ := qaM (qvL (qvM (ok' := fun k_ => (w.heap.size ≤ k_) ∧ some k_ ≠ (v250 : Value).ownBlock) ho0 (fun k_ hk_ => ⟨Or.elim hk_ (fun hs_ => ((HO_5.out).1 k_ hs_.symm).1) (fun hn_ => (Nat.le_trans (qbS zd14_0) hn_)), Or.elim hk_ (fun hs_ => ((HO_5.out).1 k_ hs_.symm).2) (fun hn_ => (Kd.fresh' (Kd.R_lt zd14_1) k_ hn_))⟩)) (qbS zd14_0)); have n3_ := qaM (qbT zd14_0 hb); clear HO_4; clear HO_5; clear HB; have HO_4 := n0_; have HO_5 := n1_; have HO267 := n2_; have HB := n3_; clear n0_ n1_ n2_ n3_; (try clear hb); (try clear hb2); (try clear hk); (try clear hi); (try clear ho0); obtain ⟨Ao45, co45, eo45⟩ := Kd.V_slice HO267.out; subst eo45) | ((with_reducible refine gate_callee (f := 27) rfl ?_); refine goesL_ (some 38) rfl rfl Tryz.func27 zd14_7 rfl #[.slice Ao45 t265.length co45, .slice A1 l1.length c1] rfl zd14_2 ?_; (with_reducible refine (spec_magCmp.calls kj14 _ _ t265 _ _ l1 t268 _ ?side1 ?side2 ?side3 ?side4 A26.out).mono ?_); (case side1 => repeat (first | exact (qvR HO267.out).2.2 | (with_reducible refine Kd.C_alloc ?_ _) | (with_reducible refine Kd.C_drewN ?_ _) | (with_reducible refine Kd.C_drew ?_))); (case side2 => exact (qvR HO267.out).2.1); (case side3 => repeat (first | exact (Kd.C_below HR1.out HB.out) | (with_reducible refine Kd.C_alloc ?_ _) | (with_reducible refine Kd.C_drewN ?_ _) | (with_reducible refine Kd.C_drew ?_))); (case side4 => exact HC1.out); rintro e w' ⟨rfl, ⟨nd, rfl⟩⟩; refine ⟨_, rfl, ?_⟩))
            go_roundg kj14
            case measure => have := HK1.out; have := HJ14.out; omega
            case rel => exact ⟨(x4_1), (t265), (wrap64 (x6_1 - 1)), (by first | rfl | (simp; done) | (simp [*]; done)), H', ⟨by have := HK1.out; have := HJ14.out; omega⟩, ⟨by (with_reducible repeat (first | apply qrA | apply qrN | apply qrD)); exact qrM HO_4.out (fun _ hk => hk.1)⟩, ⟨by (with_reducible repeat (first | apply qvA | apply qvN | apply qvD)); exact HO267.out⟩, ⟨by repeat (first | (with_reducible first | exact HB.out | apply qwA | apply qwN | apply qwD) | exact HB.out)⟩⟩
        ·rw [if_neg c13] at H
         exact absurd H (by simp)
       ·rw [if_neg c11] at H
        exact absurd H (by simp)
      ·rw [if_neg c10] at H
       exact absurd H (by simp)
     ·rw [if_neg c7] at H
      have c7b0 : decide (0 ≤ x6_1) = false := decide_eq_false c7
      clear c7
      replace H := Option.bind_eq_some_iff.mp H
      obtain ⟨t252, A460, H⟩ := H
      replace H : (some (t252, x5_1)) = some (r1, r2) := H
      have A46 := qaM A460
      clear A460
      simp only [Option.some.injEq, Prod.mk.injEq] at H
      obtain ⟨rfl, rfl⟩ := H
      obtain ⟨Ao47, co47, eo47⟩ := Kd.R_slice HO_4.out
      subst eo47
      go_wp2_with (first | ((with_reducible refine gate_callee (f := 52) rfl ?_); refine goesL_ (some 54) rfl rfl Tryz.func52 zd14_7 rfl #[.slice Ao47 x4_1.length co47] rfl zd14_2 ?_; (with_reducible refine (spec_trim.calls k1 (fun k_ => some k_ = (.slice Ao47 x4_1.length co47 : Value).ownBlock) _ _ x4_1 t252 _ ?side1 A46.out).mono ?_); (case side1 => exact qrV (Kd.R_tight rfl (HO_4.out))); rintro e w48 ⟨v253, rfl, ho0, hb⟩; refine ⟨_, rfl, ?_⟩; have n0_ := qaM (qrB zd14_1 hb); have n1_ := qaM (qvB zd14_6 hb); have n2_ := qaM (qvL (qvM (ok' := fun k_ => (w.heap.size ≤ k_)) ho0 (fun k_ hk_ => Or.elim hk_ (fun hs_ => ((HO_4.out).1 k_ hs_.symm)) (fun hn_ => (Nat.le_trans (qbS zd14_0) hn_)))) (qbS zd14_0)); have n3_ := qaM (qbT zd14_0 hb); clear HO_4; clear HO_5; clear HB; have HO_4 := n0_; have HO_5 := n1_; have HO254 := n2_; have HB := n3_; clear n0_ n1_ n2_ n3_; (try clear hb); (try clear hb2); (try clear hk); (try clear hi); (try clear ho0)))
      go_ret2
      exact ⟨_, _, by first | rfl | (simp [errW_none, errW_some] <;> rfl) | (simp [*, errW_none, errW_some] <;> rfl), by (with_reducible repeat (first | apply qvA | apply qvN | apply qvD)); exact HO254.out, by (with_reducible repeat (first | apply qvA | apply qvN | apply qvD)); exact qvM HO_5.out (fun _ hk => hk.1), by repeat (first | (with_reducible first | exact HB.out | apply qwA | apply qwN | apply qwD) | exact HB.out)⟩
  ·rw [if_neg c4] at H
   exact absurd H (by simp)
 ·rw [if_neg c3] at H
  exact absurd H (by simp)

end Go.Proofs.YtoaibapjnedhlaaGreat.QAll
