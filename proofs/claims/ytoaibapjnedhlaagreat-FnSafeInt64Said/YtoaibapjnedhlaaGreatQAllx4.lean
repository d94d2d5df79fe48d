/- Printed by a program of this session (print2.py) over the kit's print: the functions that a law reaches, over contracts proved by hand. Lean checks it. -/
import Derived.Test.YtoaibapjnedhlaaGreatQAllx0
import Derived.Test.YtoaibapjnedhlaaGreatQAllx3
namespace Go.Proofs.YtoaibapjnedhlaaGreat.QAll
open Go.RowKit Go.Proofs.YtoaibapjnedhlaaGreatW.PrintWords Go.Proofs.YtoaibapjnedhlaaGreatW.PrintLast Go.Proofs.YtoaibapjnedhlaaGreatW.PrintMore
attribute [local go_sem] max2_int min2_int max_two min_two max_three min_three max_four min_four   -- for this text's walks alone
set_option linter.unusedVariables false
set_option linter.unusedSimpArgs false

theorem zd4_0 {p : Prop} (h : p := by repeat (first | (with_reducible first | exact HB.out | apply below_alloc | apply pw_below_drewN | apply below_drew1 | refine below_set ?_ GE111.out) | exact HB.out)) : p := h
theorem zd4_1 {p : Prop} (h : p := by (with_reducible repeat (first | refine blk_drewN ?_ _ | refine blk_drew ?_ | refine blk_alloc ?_ _)); exact BK111.out) : p := h
theorem zd4_2 {p : Prop} (h : p := by repeat (first | (with_reducible first | exact HB.out | apply below_alloc | apply pw_below_drewN | apply below_drew1) | exact HB.out)) : p := h
theorem zd4_3 {p : Prop} (h : p := by first | (with_reducible assumption) | assumption) : p := h
/-! ### spec_Two: function 13 -/
def spec_Two.f (k : Nat) (a0 : Int) : Option (Bool × List Int) := if 0 ≤ (wrap64 ((wrap64 (Int.tdiv a0 32)) + 1)) then (if (wrap64 ((wrap64 (Int.tdiv a0 32)) + 1) : Int).toNat ≤ 70368744177664 then ((some (List.replicate (wrap64 ((wrap64 (Int.tdiv a0 32)) + 1) : Int).toNat 0 : List Int)).bind fun y112 => (if 0 ≤ (Int.tmod a0 32) then (if 0 ≤ (wrap64 (Int.tdiv a0 32)) then (if (wrap64 (Int.tdiv a0 32)) < (y112.length : Int) then ((spec_wide.f k false (y112.set ((wrap64 (Int.tdiv a0 32)) : Int).toNat (shl .u32 1 (Int.tmod a0 32)))).bind fun bt116 => (some (bt116.1, bt116.2))) else (none)) else (none)) else (none))) else (none)) else (none)
theorem spec_Two.mono : ∀ a0 k, LeO (spec_Two.f k a0) (spec_Two.f (k + 1) a0) := by
 intro a0 k
 unfold spec_Two.f
 repeat' first
   | (with_reducible exact spec_wide.mono _ _ _)
   | (with_reducible exact LeO.refl _)
   | (with_reducible exact LeO.none _)
   | (with_reducible refine LeO.ite ?_ ?_)
   | (with_reducible refine LeO.bind ?_ (fun _ => ?_))
   | exact spec_wide.mono _ _ _
   | exact LeO.none _
   | refine LeO.ite ?_ ?_
   | refine LeO.bind ?_ (fun _ => ?_)
set_option maxHeartbeats 8000000 in
set_option maxRecDepth 100000 in
theorem spec_Two.calls (k : Nat) (a0 : Int) (r1 : Bool) (r2 : List Int) (w : World) (h : spec_Two.f k a0 = some (r1, r2)) :
  Calls Tryz.prog 13 #[.int .i64 a0] w fun e w' => ∃ v1_ : Value, e = .returned (.agg #[.bool r1, v1_]) ∧ Kd.V (Kd.int .u32) 104 w' w.heap.size (fun k_ => (w.heap.size ≤ k_)) v1_ r2 ∧ Below w.heap.size w w' := by
 have hu27 := Tryz.underlying27
 have HB := Aside0.mk (Below.refl w.heap.size w)
 have H : (if 0 ≤ (wrap64 ((wrap64 (Int.tdiv a0 32)) + 1)) then (if (wrap64 ((wrap64 (Int.tdiv a0 32)) + 1) : Int).toNat ≤ 70368744177664 then ((some (List.replicate (wrap64 ((wrap64 (Int.tdiv a0 32)) + 1) : Int).toNat 0 : List Int)).bind fun y112 => (if 0 ≤ (Int.tmod a0 32) then (if 0 ≤ (wrap64 (Int.tdiv a0 32)) then (if (wrap64 (Int.tdiv a0 32)) < (y112.length : Int) then ((spec_wide.f k false (y112.set ((wrap64 (Int.tdiv a0 32)) : Int).toNat (shl .u32 1 (Int.tmod a0 32)))).bind fun bt116 => (some (bt116.1, bt116.2))) else (none)) else (none)) else (none))) else (none)) else (none)) = some (r1, r2) := h
 clear h
 obtain ⟨ji2, hji2⟩ : ∃ j_ : Int, (wrap64 ((wrap64 (Int.tdiv a0 32)) + 1)) = j_ := ⟨_, rfl⟩
 replace H : (if 0 ≤ (ji2) then (if (ji2 : Int).toNat ≤ 70368744177664 then ((some (List.replicate (ji2 : Int).toNat 0 : List Int)).bind fun y112 => (if 0 ≤ (Int.tmod a0 32) then (if 0 ≤ (wrap64 (Int.tdiv a0 32)) then (if (wrap64 (Int.tdiv a0 32)) < (y112.length : Int) then ((spec_wide.f k false (y112.set ((wrap64 (Int.tdiv a0 32)) : Int).toNat (shl .u32 1 (Int.tmod a0 32)))).bind fun bt116 => (some (bt116.1, bt116.2))) else (none)) else (none)) else (none))) else (none)) else (none)) = some (r1, r2) := by first | (rw [hji2] at H; exact H) | (simp only [hji2] at H ⊢; exact H)
 have hji2w : (IntKind.i64.wrap ((wrap64 (Int.tdiv a0 32)) + 1)) = ji2 := (i64_w _).trans hji2
 by_cases c3 : 0 ≤ (ji2)
 ·rw [if_pos c3] at H
  have c3b0 := eq_true c3
  have c3b1 : decide (0 ≤ (ji2)) = true := decide_eq_true c3
  clear c3
  by_cases c4 : (ji2 : Int).toNat ≤ 70368744177664
  ·rw [if_pos c4] at H
   have c4b0 := eq_true c4
   have c4b1 : decide ((ji2 : Int).toNat ≤ 70368744177664) = true := decide_eq_true c4
   clear c4
   obtain ⟨y112, hy112⟩ : ∃ y_ : List Int, y_ = (List.replicate (ji2 : Int).toNat 0) := ⟨_, rfl⟩
   replace H : (if 0 ≤ (Int.tmod a0 32) then (if 0 ≤ (wrap64 (Int.tdiv a0 32)) then (if (wrap64 (Int.tdiv a0 32)) < (y112.length : Int) then ((spec_wide.f k false (y112.set ((wrap64 (Int.tdiv a0 32)) : Int).toNat (shl .u32 1 (Int.tmod a0 32)))).bind fun bt116 => (some (bt116.1, bt116.2))) else (none)) else (none)) else (none)) = some (r1, r2) := by first | (rw [hy112]; with_reducible exact H) | (have H2_ := (Option.bind_some _ _).symm.trans H; rw [hy112]; with_reducible exact H2_) | (have H2_ := (Option.bind_some _ _).symm.trans H; with_reducible exact H2_) | with_reducible exact H | (rw [hy112]; exact H) | exact H
   have Ny112 := Aside0.mk hy112
   clear hy112
   obtain ⟨ji5, hji5⟩ : ∃ j_ : Int, (Int.tmod a0 32) = j_ := ⟨_, rfl⟩
   replace H : (if 0 ≤ (ji5) then (if 0 ≤ (wrap64 (Int.tdiv a0 32)) then (if (wrap64 (Int.tdiv a0 32)) < (y112.length : Int) then ((spec_wide.f k false (y112.set ((wrap64 (Int.tdiv a0 32)) : Int).toNat (shl .u32 1 (ji5)))).bind fun bt116 => (some (bt116.1, bt116.2))) else (none)) else (none)) else (none)) = some (r1, r2) := by first | (rw [hji5] at H; exact H) | (simp only [hji5] at H ⊢; exact H)
   by_cases c6 : 0 ≤ (ji5)
   ·rw [if_pos c6] at H
    have c6b0 := eq_true c6
    have c6b1 : decide (0 ≤ (ji5)) = true := decide_eq_true c6
    clear c6
    obtain ⟨ji7, hji7⟩ : ∃ j_ : Int, (shl .u32 1 (ji5)) = j_ := ⟨_, rfl⟩
    replace H : (if 0 ≤ (wrap64 (Int.tdiv a0 32)) then (if (wrap64 (Int.tdiv a0 32)) < (y112.length : Int) then ((spec_wide.f k false (y112.set ((wrap64 (Int.tdiv a0 32)) : Int).toNat (ji7))).bind fun bt116 => (some (bt116.1, bt116.2))) else (none)) else (none)) = some (r1, r2) := by first | (rw [hji7] at H; exact H) | (simp only [hji7] at H ⊢; exact H)
    have hji7_ : (IntKind.u32.wrap (1 * 2 ^ min (ji5).toNat 32)) = ji7 := hji7
    have hji7z : (ji5) ≤ 32 → (IntKind.u32.wrap (1 * 2 ^ (ji5).toNat)) = ji7 := shl_small hji7
    have hji7u : (IntKind.u32.wrap (2 ^ min (ji5).toNat 32)) = ji7 := by have h_ := hji7_; rw [Int.one_mul] at h_; exact h_
    have hji7v : (ji5) ≤ 32 → (IntKind.u32.wrap (2 ^ (ji5).toNat)) = ji7 := fun hle_ => by have h_ := hji7z hle_; rw [Int.one_mul] at h_; exact h_
    obtain ⟨ji8, hji8⟩ : ∃ j_ : Int, (wrap64 (Int.tdiv a0 32)) = j_ := ⟨_, rfl⟩
    have hji2_8 : (wrap64 ((ji8) + 1)) = ji2 := by rw [← hji8]; exact hji2
    have hji2_8w : (IntKind.i64.wrap ((ji8) + 1)) = ji2 := (i64_w _).trans hji2_8
    replace H : (if 0 ≤ (ji8) then (if (ji8) < (y112.length : Int) then ((spec_wide.f k false (y112.set ((ji8) : Int).toNat (ji7))).bind fun bt116 => (some (bt116.1, bt116.2))) else (none)) else (none)) = some (r1, r2) := by first | (rw [hji8] at H; exact H) | (simp only [hji8] at H ⊢; exact H)
    have hji8w : (IntKind.i64.wrap (Int.tdiv a0 32)) = ji8 := (i64_w _).trans hji8
    by_cases c9 : 0 ≤ (ji8)
    ·rw [if_pos c9] at H
     have c9b0 : decide (0 ≤ (ji8)) = true := decide_eq_true c9
     clear c9
     by_cases c10 : (ji8) < (y112.length : Int)
     ·rw [if_pos c10] at H
      have c10b0 : decide ((ji8) < (y112.length : Int)) = true := decide_eq_true c10
      clear c10
      obtain ⟨y115, hy115⟩ : ∃ y_ : List Int, y_ = (y112.set ((ji8) : Int).toNat (ji7)) := ⟨_, rfl⟩
      replace H : ((spec_wide.f k false y115).bind fun bt116 => (some (bt116.1, bt116.2))) = some (r1, r2) := by first | (rw [hy115]; with_reducible exact H) | (have H2_ := (Option.bind_some _ _).symm.trans H; rw [hy115]; with_reducible exact H2_) | (have H2_ := (Option.bind_some _ _).symm.trans H; with_reducible exact H2_) | with_reducible exact H | (rw [hy115]; exact H) | exact H
      have Ny115 := Aside0.mk hy115
      clear hy115
      replace H := Option.bind_eq_some_iff.mp H
      obtain ⟨⟨t116, t117⟩, A120, H⟩ := H
      replace H : (some (t116, t117)) = some (r1, r2) := H
      have A12 := Aside0.mk A120
      clear A120
      simp only [Option.some.injEq, Prod.mk.injEq] at H
      obtain ⟨rfl, rfl⟩ := H
      go_enter Tryz.func13, Tryz.ntmps13
      go_wp2_with (first | ((with_reducible refine gate_dst (N := 2) rfl ?_); refine box_event ?hg (N := 2) ?hd (cs := #[.bool false, .slice none 0 0]) (t := 27) ?hr ?_; (case hd => rfl); (case hg => rfl); (case hr => first | (go_simp; done) | (go_simp; rfl)); intro gb111 hg w13 hbox hb; have n0_ := Aside0.mk (below_step zd4_2 hb); have n1_ := Aside0.mk (hbox); have n2_ := Aside0.mk ((by rw [hg]; exact (below_size zd4_2) : w.heap.size ≤ gb111)); have n3_ := Aside0.mk ((by rw [hg]; exact (below_size zd4_2) : w.heap.size ≤ gb111)); clear HB; have HB := n0_; have BK111 := n1_; have GW111 := n2_; have GE111 := n3_; clear n0_ n1_ n2_ n3_; clear hb hbox hg) | ((with_reducible refine gate_dst (N := 7) rfl ?_); refine Kd.R_make (Kd.int .u32) _ 104 rfl (N := 7) rfl 25 _ _ rfl ji2 rfl rfl Tryz.underlying25 (.int .u32 0) 4 info104 rfl (by decide) (by omega) 0 (ok := fun _ => True) (okp := fun _ => True) rfl (fun _ hk => hk) trivial (of_decide_eq_true zd4_3) (Nat.le_trans (Nat.mul_le_mul_right _ (of_decide_eq_true zd4_3 : ji2.toNat ≤ 70368744177664)) (by omega)) (Below.refl _ _) (Nat.le_refl _) ?_; intro v113 w14 ho15 hb hg_ hnew_; clear hg_ hnew_; (first | rw [← Ny112.out] at ho15 | (simp only [Int.reduceToNat] at ho15; rw [← Ny112.out] at ho15)); have n0_ := Aside0.mk (Kd.R_lower (Kd.R_newM (M := fun k_ => (w.heap.size ≤ k_)) ho15 (below_size zd4_0) (fun k_ h_ => h_)) (below_size zd4_0)); have n1_ := Aside0.mk (blk_below (g := gb111) (o := .cells #[.bool false, .slice none 0 0] 27 (0, 0)) zd4_1 hb); have n2_ := Aside0.mk (below_step zd4_0 hb); clear BK111; clear HB; have HO114 := n0_; have BK111 := n1_; have HB := n2_; clear n0_ n1_ n2_; clear hb ho15; have p11 : 0 ≤ ((ji8) : Int) := of_decide_eq_true zd4_3; have q11 : ((ji8) : Int) < ((y112.length : Int) : Int) := of_decide_eq_true zd4_3; obtain ⟨go11, co11, eo11, gb11, gl11, cl11, HG11⟩ := Kd.R_form HO114.out (by omega); (first | cases eo11 | (injection eo11 with ea_ en_ ec_; (first | subst ea_ | (injection ea_ with ea_; subst ea_)); subst ec_; clear en_)); have GB11 := Aside0.mk gb11; have GG11 := Aside0.mk HG11; clear gb11 gl11 HG11; obtain ⟨hx11_0, hf11_0⟩ := Kd.R_celln 0 HO114.out ((ji8) : Int) p11 q11; replace p11 := eq_true p11; replace q11 := eq_true q11; have n_ := Aside0.mk (Kd.R_mono (ok' := (fun k_ => (w.heap.size ≤ k_))) HO114.out (fun k_ hk => hk.1)); clear HO114; have HO114 := n_; clear n_; obtain ⟨hy16_, hz16_⟩ := Kd.R_celln 0 HO114.out ((ji8) : Int) (of_decide_eq_true zd4_3) (of_decide_eq_true zd4_3); have HP16 := Kd.R_putg HO114.out ((ji8) : Int) ji7) | ((with_reducible refine gate_store (t := 104) (p := 14) rfl ?_); refine store_event (t := 104) (p := 14) (v := ?vo_w17) (w1 := (w14.setCell ⟨go11, ((ji8) : Int).toNat, none⟩ (.int .u32 ji7))) ?hg ?ho ?hn ?hr ?_; (case ho => rfl); (case hg => rfl); (case hn => rfl); (case hr => first | (go_simp; done) | (go_simp; rfl)); intro w17 hw; have hg : w14.grownBy w17 (some go11) := (by rw [hw]; exact HP16.2); have hp_ : Kd.R (Kd.int .u32) 104 w17 w.heap.size (fun k_ => (w.heap.size ≤ k_)) (.slice (some ⟨go11, 0, none⟩) y112.length co11) y115 := (by rw [hw, Ny115.out]; exact HP16.1); clear HP16; have n0_ := Aside0.mk (blk_grown (g := gb111) (o := .cells #[.bool false, .slice none 0 0] 27 (0, 0)) zd4_1 hg (Kd.R_ne HO114.out BK111.out (by decide))); have n1_ := Aside0.mk (hp_); have n2_ := Aside0.mk ((by rw [hw]; exact below_set (HB.out) GB11.out : Below w.heap.size w w17)); clear BK111; clear HO114; clear HB; have BK111 := n0_; have HO114 := n1_; have HB := n2_; clear n0_ n1_ n2_; clear hg hw hp_) | ((with_reducible refine gate_callee (f := 24) rfl ?_); refine goesL_ (some 16) rfl rfl Tryz.func24 (by kernel_rfl) rfl #[.bool false, .slice (some ⟨go11, 0, none⟩) y115.length co11] rfl (by (try simp only [List.map_toArray, List.map_cons, List.map_nil]); first | done | (rw [show y115.length = y112.length from (Kd.R_reads' HO114.out).1.symm] <;> rfl) | rfl | (simp only [List.length_drop, List.length_take]; rfl)) ?_; (with_reducible refine (spec_wide.calls k false (fun k_ => some k_ = (.slice (some ⟨go11, 0, none⟩) y112.length co11 : Value).ownBlock) _ _ y115 t116 t117 _ ?side1 A12.out).mono ?_); (case side1 => rw [show y115.length = y112.length from (Kd.R_reads' HO114.out).1.symm]; exact Kd.R_V (Kd.R_tight rfl (Kd.R_types (HO114.out) BK111.out (by decide)))); rintro e w18 ⟨v118, rfl, ho0, hb⟩; refine ⟨_, rfl, ?_⟩; have n0_ := Aside0.mk (Kd.R_below (by (with_reducible repeat (first | apply Kd.R_alloc | apply Kd.R_drewN | apply Kd.R_drew)); exact HO114.out) hb); have n1_ := Aside0.mk (Kd.V_lower (Kd.V_mono (ok' := fun k_ => (w.heap.size ≤ k_) ∧ k_ ≠ gb111) ho0 (fun k_ hk_ => ⟨Or.elim hk_ (fun hs_ => ((Kd.R_types (HO114.out) BK111.out (by decide)).1 k_ hs_.symm).1) (fun hn_ => (Nat.le_trans (below_size zd4_0) hn_)), Or.elim hk_ (fun hs_ => ((Kd.R_types (HO114.out) BK111.out (by decide)).1 k_ hs_.symm).2) (fun hn_ => (Kd.freshB (g := gb111) (o := .cells #[.bool false, .slice none 0 0] 27 (0, 0)) zd4_1 k_ hn_))⟩)) (below_size zd4_0)); have n2_ := Aside0.mk (blk_below (g := gb111) (o := .cells #[.bool false, .slice none 0 0] 27 (0, 0)) zd4_1 hb); have n3_ := Aside0.mk (below_step zd4_0 hb); clear HO114; clear BK111; clear HB; have HO114 := n0_; have HO119 := n1_; have BK111 := n2_; have HB := n3_; clear n0_ n1_ n2_ n3_; (try clear hb); (try clear hb2); (try clear hk); (try clear hi); (try clear ho0); have hcz19_0 : w18.cell? ⟨gb111, 0, none⟩ = some (.bool false) := (blk_cell BK111.out 0).trans rfl; have hcz19_1 : w18.cell? ⟨gb111, 1, none⟩ = some (.slice none 0 0) := (blk_cell BK111.out 1).trans rfl; have hfz19_0 := blk_frozen BK111.out 0; have hfz19_1 := blk_frozen BK111.out 1; obtain ⟨Ao20, co20, eo20⟩ := Kd.V_slice HO119.out; subst eo20))
      refine bodyPost_ret (results_cell_row rfl _ _ gb111 27 #[.bool t116, .slice Ao20 t117.length co20] (0, 0) _ rfl (by (with_reducible repeat (first | refine blk_drewN ?_ _ | refine blk_drew ?_ | refine blk_alloc ?_ _)); refine blk_put (cs := #[.bool t116, .slice none 0 0]) ?_ 1 _ rfl; (with_reducible repeat (first | refine blk_drewN ?_ _ | refine blk_drew ?_ | refine blk_alloc ?_ _)); refine blk_put (cs := #[.bool false, .slice none 0 0]) ?_ 0 _ rfl; (with_reducible repeat (first | refine blk_drewN ?_ _ | refine blk_drew ?_ | refine blk_alloc ?_ _)); exact BK111.out) Tryz.underlying27 rfl (by kernel_rfl)) rfl ?_
      exact ⟨_, by first | rfl | (simp [errW_none, errW_some] <;> rfl) | (simp only [← hji2, ← hji5, ← hji7, ← hji8]; first | rfl | (simp [errW_none, errW_some] <;> rfl)) | (simp [*, errW_none, errW_some] <;> rfl), by (with_reducible repeat (first | apply Kd.V_alloc | apply Kd.V_drewN | apply Kd.V_drew)); exact Kd.V_mono (Kd.V_far (p := ⟨gb111, 1, none⟩) (Kd.V_far (p := ⟨gb111, 0, none⟩) (Kd.V_mono HO119.out (fun k_ hk => (⟨hk, hk.2⟩ : _ ∧ k_ ≠ gb111))) (fun _ hk => hk.2) (.bool t116)) (fun _ hk => hk.2) (.slice Ao20 t117.length co20)) (fun _ hk => hk.1.1), by repeat (first | (with_reducible first | exact HB.out | apply below_alloc | apply pw_below_drewN | apply below_drew1 | refine below_set ?_ GE111.out) | exact HB.out)⟩
     ·rw [if_neg c10] at H
      exact absurd H (by simp)
    ·rw [if_neg c9] at H
     exact absurd H (by simp)
   ·rw [if_neg c6] at H
    exact absurd H (by simp)
  ·rw [if_neg c4] at H
   exact absurd H (by simp)
 ·rw [if_neg c3] at H
  exact absurd H (by simp)

end Go.Proofs.YtoaibapjnedhlaaGreat.QAll
