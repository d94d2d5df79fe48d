/- Printed by a program of this session (print2.py) over the kit's print: the functions that a law reaches, over contracts proved by hand. Lean checks it. -/
import Derived.Test.YtelpdndlmhcdoaaQAllx0
import Derived.Test.YtelpdndlmhcdoaaQAllx1
namespace Go.Proofs.Ytelpdndlmhcdoaa.QAll
open Go.RowKit Go.Proofs.YtelpdndlmhcdoaaW.PrintWords Go.Proofs.YtelpdndlmhcdoaaW.PrintLast Go.Proofs.YtelpdndlmhcdoaaW.PrintMore
attribute [local go_sem] max2_int min2_int max_two min_two max_three min_three max_four min_four   -- for this text's walks alone
set_option linter.unusedVariables false
set_option linter.unusedSimpArgs false

theorem zz3_0 {p : Prop} (h : p := by repeat (first | (with_reducible first | exact HB.out | apply qwA | apply qwN | apply qwD) | exact HB.out)) : p := h
theorem zz3_1 {p : Prop} (h : p := by repeat (first | (with_reducible first | exact HB.out | apply qwA | apply qwN | apply qwD | refine qwS ?_ GE170.out) | exact HB.out)) : p := h
theorem zz3_2 {p : Prop} (h : p := by (with_reducible repeat (first | refine qbN ?_ _ | refine qbD ?_ | refine qbA ?_ _)); exact BK179.out) : p := h
theorem zz3_3 {p : Prop} (h : p := by repeat (first | (with_reducible first | exact HB.out | apply qwA | apply qwN | apply qwD | refine qwS ?_ GE179.out | refine qwS ?_ GE180.out) | exact HB.out)) : p := h
theorem zz3_4 {p : Prop} (h : p := by (with_reducible repeat (first | refine qbN ?_ _ | refine qbD ?_ | refine qbA ?_ _)); exact BK170.out) : p := h
theorem zz3_5 {p : Prop} (h : p := by (try simp only [List.map_toArray, List.map_cons, List.map_nil]); first | done | rfl | (simp only [List.length_drop, List.length_take]; rfl)) : p := h
theorem zz3_6 {p : Prop} (h : p := by repeat (first | (with_reducible first | exact HB.out | apply qwA | apply qwN | apply qwD | refine qwS ?_ GE179.out) | exact HB.out)) : p := h
theorem zz3_7 {p : Prop} (h : p := by repeat (first | (with_reducible first | exact HB.out | apply qwA | apply qwN | apply qwD | refine qwS ?_ GE185.out) | exact HB.out)) : p := h
theorem zz3_8 {p : Prop} (h : p := by first | (with_reducible assumption) | assumption) : p := h
theorem zz3_9 {p : Prop} (h : p := by (with_reducible repeat (first | refine qbN ?_ _ | refine qbD ?_ | refine qbA ?_ _)); exact BK185.out) : p := h
theorem zz3_10 {p : Prop} (h : p := by (with_reducible repeat (first | apply qvA | apply qvN | apply qvD)); exact HO0_1.out) : p := h
theorem zz3_11 {p : Prop} (h : p := by first | rfl | (simp; done) | (simp [*]; done)) : p := h
/-! ### spec_Two: function 23 -/
def spec_Two.f (k : Nat) (a0 : Int) : Option (Bool × List Int) := if 0 ≤ (wrap64 ((wrap64 (Int.tdiv a0 32)) + 1)) then (if (wrap64 ((wrap64 (Int.tdiv a0 32)) + 1) : Int).toNat ≤ 70368744177664 then ((some (List.replicate (wrap64 ((wrap64 (Int.tdiv a0 32)) + 1) : Int).toNat 0 : List Int)).bind fun y171 => (if 0 ≤ (Int.tmod a0 32) then (if 0 ≤ (wrap64 (Int.tdiv a0 32)) then (if (wrap64 (Int.tdiv a0 32)) < (y171.length : Int) then ((spec_wide.f k false (y171.set ((wrap64 (Int.tdiv a0 32)) : Int).toNat (shl .u32 1 (Int.tmod a0 32)))).bind fun bt175 => (some (bt175.1, bt175.2))) else (none)) else (none)) else (none))) else (none)) else (none)
theorem spec_Two.mono : ∀ a0 k, LeO (spec_Two.f k a0) (spec_Two.f (k + 1) a0) := by
 intro a0 k
 unfold spec_Two.f
 repeat' first
   | (with_reducible exact spec_wide.mono _ _ _)
   | (with_reducible exact LeO.refl _)
   | (with_reducible exact LeO.none _)
   | (with_reducible refine LeO.ite ?_ ?_)
   | (with_reducible refine LeO.bind ?_ (fun _ => ?_))
   | exact spec_wide.mono _ _ _
   | exact LeO.none _
   | refine LeO.ite ?_ ?_
   | refine LeO.bind ?_ (fun _ => ?_)
set_option maxHeartbeats 8000000 in
set_option maxRecDepth 100000 in
theorem spec_Two.calls (k : Nat) (a0 : Int) (r1 : Bool) (r2 : List Int) (w : World) (h : spec_Two.f k a0 = some (r1, r2)) :
  Calls Try.prog 23 #[.int .i64 a0] w fun e w' => ∃ v1_ : Value, e = .returned (.agg #[.bool r1, v1_]) ∧ Kd.V (Kd.int .u32) 22 w' w.heap.size (fun k_ => (w.heap.size ≤ k_)) v1_ r2 ∧ Below w.heap.size w w' := by
 have hu25 := Try.underlying25
 have HB := qaM (Below.refl w.heap.size w)
 have H : (if 0 ≤ (wrap64 ((wrap64 (Int.tdiv a0 32)) + 1)) then (if (wrap64 ((wrap64 (Int.tdiv a0 32)) + 1) : Int).toNat ≤ 70368744177664 then ((some (List.replicate (wrap64 ((wrap64 (Int.tdiv a0 32)) + 1) : Int).toNat 0 : List Int)).bind fun y171 => (if 0 ≤ (Int.tmod a0 32) then (if 0 ≤ (wrap64 (Int.tdiv a0 32)) then (if (wrap64 (Int.tdiv a0 32)) < (y171.length : Int) then ((spec_wide.f k false (y171.set ((wrap64 (Int.tdiv a0 32)) : Int).toNat (shl .u32 1 (Int.tmod a0 32)))).bind fun bt175 => (some (bt175.1, bt175.2))) else (none)) else (none)) else (none))) else (none)) else (none)) = some (r1, r2) := h
 clear h
 obtain ⟨ji2, hji2⟩ : ∃ j_ : Int, (wrap64 ((wrap64 (Int.tdiv a0 32)) + 1)) = j_ := ⟨_, rfl⟩
 replace H : (if 0 ≤ (ji2) then (if (ji2 : Int).toNat ≤ 70368744177664 then ((some (List.replicate (ji2 : Int).toNat 0 : List Int)).bind fun y171 => (if 0 ≤ (Int.tmod a0 32) then (if 0 ≤ (wrap64 (Int.tdiv a0 32)) then (if (wrap64 (Int.tdiv a0 32)) < (y171.length : Int) then ((spec_wide.f k false (y171.set ((wrap64 (Int.tdiv a0 32)) : Int).toNat (shl .u32 1 (Int.tmod a0 32)))).bind fun bt175 => (some (bt175.1, bt175.2))) else (none)) else (none)) else (none))) else (none)) else (none)) = some (r1, r2) := by first | (rw [hji2] at H; exact H) | (simp only [hji2] at H ⊢; exact H)
 have hji2w : (IntKind.i64.wrap ((wrap64 (Int.tdiv a0 32)) + 1)) = ji2 := (i64_w _).trans hji2
 by_cases c3 : 0 ≤ (ji2)
 ·rw [if_pos c3] at H
  have c3b0 := eq_true c3
  have c3b1 : decide (0 ≤ (ji2)) = true := decide_eq_true c3
  clear c3
  by_cases c4 : (ji2 : Int).toNat ≤ 70368744177664
  ·rw [if_pos c4] at H
   have c4b0 := eq_true c4
   have c4b1 : decide ((ji2 : Int).toNat ≤ 70368744177664) = true := decide_eq_true c4
   clear c4
   obtain ⟨y171, hy171⟩ : ∃ y_ : List Int, y_ = (List.replicate (ji2 : Int).toNat 0) := ⟨_, rfl⟩
   replace H : (if 0 ≤ (Int.tmod a0 32) then (if 0 ≤ (wrap64 (Int.tdiv a0 32)) then (if (wrap64 (Int.tdiv a0 32)) < (y171.length : Int) then ((spec_wide.f k false (y171.set ((wrap64 (Int.tdiv a0 32)) : Int).toNat (shl .u32 1 (Int.tmod a0 32)))).bind fun bt175 => (some (bt175.1, bt175.2))) else (none)) else (none)) else (none)) = some (r1, r2) := by first | (rw [hy171]; with_reducible exact H) | (have H2_ := (Option.bind_some _ _).symm.trans H; rw [hy171]; with_reducible exact H2_) | (have H2_ := (Option.bind_some _ _).symm.trans H; with_reducible exact H2_) | with_reducible exact H | (rw [hy171]; exact H) | exact H
   have Ny171 := qaM hy171
   clear hy171
   obtain ⟨ji5, hji5⟩ : ∃ j_ : Int, (Int.tmod a0 32) = j_ := ⟨_, rfl⟩
   replace H : (if 0 ≤ (ji5) then (if 0 ≤ (wrap64 (Int.tdiv a0 32)) then (if (wrap64 (Int.tdiv a0 32)) < (y171.length : Int) then ((spec_wide.f k false (y171.set ((wrap64 (Int.tdiv a0 32)) : Int).toNat (shl .u32 1 (ji5)))).bind fun bt175 => (some (bt175.1, bt175.2))) else (none)) else (none)) else (none)) = some (r1, r2) := by first | (rw [hji5] at H; exact H) | (simp only [hji5] at H ⊢; exact H)
   by_cases c6 : 0 ≤ (ji5)
   ·rw [if_pos c6] at H
    have c6b0 := eq_true c6
    have c6b1 : decide (0 ≤ (ji5)) = true := decide_eq_true c6
    clear c6
    obtain ⟨ji7, hji7⟩ : ∃ j_ : Int, (shl .u32 1 (ji5)) = j_ := ⟨_, rfl⟩
    replace H : (if 0 ≤ (wrap64 (Int.tdiv a0 32)) then (if (wrap64 (Int.tdiv a0 32)) < (y171.length : Int) then ((spec_wide.f k false (y171.set ((wrap64 (Int.tdiv a0 32)) : Int).toNat (ji7))).bind fun bt175 => (some (bt175.1, bt175.2))) else (none)) else (none)) = some (r1, r2) := by first | (rw [hji7] at H; exact H) | (simp only [hji7] at H ⊢; exact H)
    have hji7_ : (IntKind.u32.wrap (1 * 2 ^ min (ji5).toNat 32)) = ji7 := hji7
    have hji7z : (ji5) ≤ 32 → (IntKind.u32.wrap (1 * 2 ^ (ji5).toNat)) = ji7 := shl_small hji7
    have hji7u : (IntKind.u32.wrap (2 ^ min (ji5).toNat 32)) = ji7 := by have h_ := hji7_; rw [Int.one_mul] at h_; exact h_
    have hji7v : (ji5) ≤ 32 → (IntKind.u32.wrap (2 ^ (ji5).toNat)) = ji7 := fun hle_ => by have h_ := hji7z hle_; rw [Int.one_mul] at h_; exact h_
    obtain ⟨ji8, hji8⟩ : ∃ j_ : Int, (wrap64 (Int.tdiv a0 32)) = j_ := ⟨_, rfl⟩
    have hji2_8 : (wrap64 ((ji8) + 1)) = ji2 := by rw [← hji8]; exact hji2
    have hji2_8w : (IntKind.i64.wrap ((ji8) + 1)) = ji2 := (i64_w _).trans hji2_8
    replace H : (if 0 ≤ (ji8) then (if (ji8) < (y171.length : Int) then ((spec_wide.f k false (y171.set ((ji8) : Int).toNat (ji7))).bind fun bt175 => (some (bt175.1, bt175.2))) else (none)) else (none)) = some (r1, r2) := by first | (rw [hji8] at H; exact H) | (simp only [hji8] at H ⊢; exact H)
    have hji8w : (IntKind.i64.wrap (Int.tdiv a0 32)) = ji8 := (i64_w _).trans hji8
    by_cases c9 : 0 ≤ (ji8)
    ·rw [if_pos c9] at H
     have c9b0 : decide (0 ≤ (ji8)) = true := decide_eq_true c9
     clear c9
     by_cases c10 : (ji8) < (y171.length : Int)
     ·rw [if_pos c10] at H
      have c10b0 : decide ((ji8) < (y171.length : Int)) = true := decide_eq_true c10
      clear c10
      obtain ⟨y174, hy174⟩ : ∃ y_ : List Int, y_ = (y171.set ((ji8) : Int).toNat (ji7)) := ⟨_, rfl⟩
      replace H : ((spec_wide.f k false y174).bind fun bt175 => (some (bt175.1, bt175.2))) = some (r1, r2) := by first | (rw [hy174]; with_reducible exact H) | (have H2_ := (Option.bind_some _ _).symm.trans H; rw [hy174]; with_reducible exact H2_) | (have H2_ := (Option.bind_some _ _).symm.trans H; with_reducible exact H2_) | with_reducible exact H | (rw [hy174]; exact H) | exact H
      have Ny174 := qaM hy174
      clear hy174
      replace H := Option.bind_eq_some_iff.mp H
      obtain ⟨⟨t175, t176⟩, A120, H⟩ := H
      replace H : (some (t175, t176)) = some (r1, r2) := H
      have A12 := qaM A120
      clear A120
      simp only [Option.some.injEq, Prod.mk.injEq] at H
      obtain ⟨rfl, rfl⟩ := H
      go_enter Try.func23, Try.ntmps23
      go_wp2_with (first | ((with_reducible refine gate_dst (N := 2) rfl ?_); refine box_event ?hg (N := 2) ?hd (cs := #[.bool false, .slice none 0 0]) (t := 25) ?hr ?_; (case hd => rfl); (case hg => rfl); (case hr => first | (go_simp; done) | (go_simp; rfl)); intro gb170 hg w13 hbox hb; have n0_ := qaM (qbT zz3_0 hb); have n1_ := qaM (hbox); have n2_ := qaM ((by rw [hg]; exact (qbS zz3_0) : w.heap.size ≤ gb170)); have n3_ := qaM ((by rw [hg]; exact (qbS zz3_0) : w.heap.size ≤ gb170)); clear HB; have HB := n0_; have BK170 := n1_; have GW170 := n2_; have GE170 := n3_; clear n0_ n1_ n2_ n3_; clear hb hbox hg) | ((with_reducible refine gate_dst (N := 7) rfl ?_); refine Kd.R_make (Kd.int .u32) _ 22 rfl (N := 7) rfl 23 _ _ rfl ji2 rfl rfl Try.underlying23 (.int .u32 0) 4 info22 rfl (by decide) (by omega) 0 (ok := fun _ => True) (okp := fun _ => True) rfl (fun _ hk => hk) trivial (qoD zz3_8) (Nat.le_trans (Nat.mul_le_mul_right _ (qoD zz3_8 : ji2.toNat ≤ 70368744177664)) (by omega)) (Below.refl _ _) (Nat.le_refl _) ?_; intro v172 w14 ho15 hb hg_ hnew_; clear hg_ hnew_; (first | rw [← Ny171.out] at ho15 | (simp only [Int.reduceToNat] at ho15; rw [← Ny171.out] at ho15)); have n0_ := qaM (Kd.R_lower (Kd.R_newM (M := fun k_ => (w.heap.size ≤ k_)) ho15 (qbS zz3_1) (fun k_ h_ => h_)) (qbS zz3_1)); have n1_ := qaM (qbB (g := gb170) (o := .cells #[.bool false, .slice none 0 0] 25 (0, 0)) zz3_4 hb); have n2_ := qaM (qbT zz3_1 hb); clear BK170; clear HB; have HO173 := n0_; have BK170 := n1_; have HB := n2_; clear n0_ n1_ n2_; clear hb ho15; have p11 : 0 ≤ ((ji8) : Int) := qoD zz3_8; have q11 : ((ji8) : Int) < ((y171.length : Int) : Int) := qoD zz3_8; obtain ⟨go11, co11, eo11, gb11, gl11, cl11, HG11⟩ := Kd.R_form HO173.out (by omega); (first | cases eo11 | (injection eo11 with ea_ en_ ec_; (first | subst ea_ | (injection ea_ with ea_; subst ea_)); subst ec_; clear en_)); have GB11 := qaM gb11; have GG11 := qaM HG11; clear gb11 gl11 HG11; obtain ⟨hx11_0, hf11_0⟩ := Kd.R_celln 0 HO173.out ((ji8) : Int) p11 q11; replace p11 := eq_true p11; replace q11 := eq_true q11; have n_ := qaM (qrM (ok' := (fun k_ => (w.heap.size ≤ k_))) HO173.out (fun k_ hk => hk.1)); clear HO173; have HO173 := n_; clear n_; obtain ⟨hy16_, hz16_⟩ := Kd.R_celln 0 HO173.out ((ji8) : Int) (qoD zz3_8) (qoD zz3_8); have HP16 := Kd.R_putg HO173.out ((ji8) : Int) ji7) | ((with_reducible refine gate_store (t := 22) (p := 14) rfl ?_); refine store_event (t := 22) (p := 14) (v := ?vo_w17) (w1 := (w14.setCell ⟨go11, ((ji8) : Int).toNat, none⟩ (.int .u32 ji7))) ?hg ?ho ?hn ?hr ?_; (case ho => rfl); (case hg => rfl); (case hn => rfl); (case hr => first | (go_simp; done) | (go_simp; rfl)); intro w17 hw; have hg : w14.grownBy w17 (some go11) := (by rw [hw]; exact HP16.2); have hp_ : Kd.R (Kd.int .u32) 22 w17 w.heap.size (fun k_ => (w.heap.size ≤ k_)) (.slice (some ⟨go11, 0, none⟩) y171.length co11) y174 := (by rw [hw, Ny174.out]; exact HP16.1); clear HP16; have n0_ := qaM (blk_grown (g := gb170) (o := .cells #[.bool false, .slice none 0 0] 25 (0, 0)) zz3_4 hg (Kd.R_ne HO173.out BK170.out (by decide))); have n1_ := qaM (hp_); have n2_ := qaM ((by rw [hw]; exact qwS (HB.out) GB11.out : Below w.heap.size w w17)); clear BK170; clear HO173; clear HB; have BK170 := n0_; have HO173 := n1_; have HB := n2_; clear n0_ n1_ n2_; clear hg hw hp_) | ((with_reducible refine gate_callee (f := 27) rfl ?_); refine goesL_ (some 16) rfl rfl Try.func27 (by kernel_rfl) rfl #[.bool false, .slice (some ⟨go11, 0, none⟩) y174.length co11] rfl (by (try simp only [List.map_toArray, List.map_cons, List.map_nil]); first | done | (rw [show y174.length = y171.length from (qrR HO173.out).1.symm] <;> rfl) | rfl | (simp only [List.length_drop, List.length_take]; rfl)) ?_; (with_reducible refine (spec_wide.calls k false (fun k_ => some k_ = (.slice (some ⟨go11, 0, none⟩) y171.length co11 : Value).ownBlock) _ _ y174 t175 t176 _ ?side1 A12.out).mono ?_); (case side1 => rw [show y174.length = y171.length from (qrR HO173.out).1.symm]; exact qrV (Kd.R_tight rfl (qrT (HO173.out) BK170.out (by decide)))); rintro e w18 ⟨v177, rfl, ho0, hb⟩; refine ⟨_, rfl, ?_⟩; have n0_ := qaM (qrB (by (with_reducible repeat (first | apply qrA | apply qrN | apply qrD)); exact HO173.out) hb); have n1_ := qaM (qvL (qvM (ok' := fun k_ => (w.heap.size ≤ k_) ∧ k_ ≠ gb170) ho0 (fun k_ hk_ => ⟨Or.elim hk_ (fun hs_ => ((qrT (HO173.out) BK170.out (by decide)).1 k_ hs_.symm).1) (fun hn_ => (Nat.le_trans (qbS zz3_1) hn_)), Or.elim hk_ (fun hs_ => ((qrT (HO173.out) BK170.out (by decide)).1 k_ hs_.symm).2) (fun hn_ => (qfB (g := gb170) (o := .cells #[.bool false, .slice none 0 0] 25 (0, 0)) zz3_4 k_ hn_))⟩)) (qbS zz3_1)); have n2_ := qaM (qbB (g := gb170) (o := .cells #[.bool false, .slice none 0 0] 25 (0, 0)) zz3_4 hb); have n3_ := qaM (qbT zz3_1 hb); clear HO173; clear BK170; clear HB; have HO173 := n0_; have HO178 := n1_; have BK170 := n2_; have HB := n3_; clear n0_ n1_ n2_ n3_; (try clear hb); (try clear hb2); (try clear hk); (try clear hi); (try clear ho0); have hcz19_0 : w18.cell? ⟨gb170, 0, none⟩ = some (.bool false) := (qbC BK170.out 0).trans rfl; have hcz19_1 : w18.cell? ⟨gb170, 1, none⟩ = some (.slice none 0 0) := (qbC BK170.out 1).trans rfl; have hfz19_0 := blk_frozen BK170.out 0; have hfz19_1 := blk_frozen BK170.out 1; obtain ⟨Ao20, co20, eo20⟩ := Kd.V_slice HO178.out; subst eo20))
      refine bodyPost_ret (results_cell_row rfl _ _ gb170 25 #[.bool t175, .slice Ao20 t176.length co20] (0, 0) _ rfl (by (with_reducible repeat (first | refine qbN ?_ _ | refine qbD ?_ | refine qbA ?_ _)); refine qbP (cs := #[.bool t175, .slice none 0 0]) ?_ 1 _ rfl; (with_reducible repeat (first | refine qbN ?_ _ | refine qbD ?_ | refine qbA ?_ _)); refine qbP (cs := #[.bool false, .slice none 0 0]) ?_ 0 _ rfl; (with_reducible repeat (first | refine qbN ?_ _ | refine qbD ?_ | refine qbA ?_ _)); exact BK170.out) Try.underlying25 rfl (by kernel_rfl)) rfl ?_
      exact ⟨_, by first | rfl | (simp [errW_none, errW_some] <;> rfl) | (simp only [← hji2, ← hji5, ← hji7, ← hji8]; first | rfl | (simp [errW_none, errW_some] <;> rfl)) | (simp [*, errW_none, errW_some] <;> rfl), by (with_reducible repeat (first | apply qvA | apply qvN | apply qvD)); exact qvM (qvF (p := ⟨gb170, 1, none⟩) (qvF (p := ⟨gb170, 0, none⟩) (qvM HO178.out (fun k_ hk => (⟨hk, hk.2⟩ : _ ∧ k_ ≠ gb170))) (fun _ hk => hk.2) (.bool t175)) (fun _ hk => hk.2) (.slice Ao20 t176.length co20)) (fun _ hk => hk.1.1), by repeat (first | (with_reducible first | exact HB.out | apply qwA | apply qwN | apply qwD | refine qwS ?_ GE170.out) | exact HB.out)⟩
     ·rw [if_neg c10] at H
      exact absurd H (by simp)
    ·rw [if_neg c9] at H
     exact absurd H (by simp)
   ·rw [if_neg c6] at H
    exact absurd H (by simp)
  ·rw [if_neg c4] at H
   exact absurd H (by simp)
 ·rw [if_neg c3] at H
  exact absurd H (by simp)

/-! ### spec_Wide_Negated: function 24 -/
def spec_Wide_Negated.f (k : Nat) (a0_0 : Bool) (l0_1 : List Int) : Option (Bool × List Int) := (spec_wide.f k (!a0_0) l0_1).bind fun bt181 => (some (bt181.1, bt181.2))
theorem spec_Wide_Negated.mono : ∀ a0 a1 k, LeO (spec_Wide_Negated.f k a0 a1) (spec_Wide_Negated.f (k + 1) a0 a1) := by
 intro a0 a1 k
 unfold spec_Wide_Negated.f
 repeat' first
   | (with_reducible exact spec_wide.mono _ _ _)
   | (with_reducible exact LeO.refl _)
   | (with_reducible exact LeO.none _)
   | (with_reducible refine LeO.ite ?_ ?_)
   | (with_reducible refine LeO.bind ?_ (fun _ => ?_))
   | exact spec_wide.mono _ _ _
   | exact LeO.none _
   | refine LeO.ite ?_ ?_
   | refine LeO.bind ?_ (fun _ => ?_)
set_option maxHeartbeats 8000000 in
set_option maxRecDepth 100000 in
theorem spec_Wide_Negated.calls (k : Nat) (a0_0 : Bool) (P0_1_ : Nat → Prop) (A0_1 : Option Addr) (c0_1 : Nat) (l0_1 : List Int) (r1 : Bool) (r2 : List Int) (w : World) (hs0_1 : Kd.V (Kd.int .u32) 22 w w.heap.size (fun k_ => P0_1_ k_) (.slice A0_1 l0_1.length c0_1) l0_1) (h : spec_Wide_Negated.f k a0_0 l0_1 = some (r1, r2)) :
  Calls Try.prog 24 #[.agg #[.bool a0_0, .slice A0_1 l0_1.length c0_1]] w fun e w' => ∃ v1_ : Value, e = .returned (.agg #[.bool r1, v1_]) ∧ Kd.V (Kd.int .u32) 22 w' w.heap.size (fun k_ => (P0_1_ k_ ∨ w.heap.size ≤ k_)) v1_ r2 ∧ Below w.heap.size w w' := by
 have hu25 := Try.underlying25
 have HO0_1 := qaM (show Kd.V (Kd.int .u32) 22 w w.heap.size (fun k_ => (P0_1_ k_ ∨ w.heap.size ≤ k_)) (.slice A0_1 l0_1.length c0_1) l0_1 from qvM hs0_1 (fun k_ hk => .inl hk))
 have HB := qaM (Below.refl w.heap.size w)
 have H : ((spec_wide.f k (!a0_0) l0_1).bind fun bt181 => (some (bt181.1, bt181.2))) = some (r1, r2) := h
 clear h
 replace H := Option.bind_eq_some_iff.mp H
 obtain ⟨⟨t181, t182⟩, A20, H⟩ := H
 replace H : (some (t181, t182)) = some (r1, r2) := H
 have A2 := qaM A20
 clear A20
 simp only [Option.some.injEq, Prod.mk.injEq] at H
 obtain ⟨rfl, rfl⟩ := H
 go_enter Try.func24, Try.ntmps24
 go_wp2_with (first | ((with_reducible refine gate_dst (N := 1) rfl ?_); refine box_event ?hg (N := 1) ?hd (cs := #[.bool a0_0, .slice A0_1 l0_1.length c0_1]) (t := 25) ?hr ?_; (case hd => rfl); (case hg => rfl); (case hr => first | (go_simp; done) | (go_simp; rfl)); intro gb179 hg w3 hbox hb; have n0_ := qaM (qvB (qvE zz3_10 gb179 (Nat.le_of_eq hg.symm)) hb); have n1_ := qaM (qbT zz3_0 hb); have n2_ := qaM (hbox); have n3_ := qaM ((by rw [hg]; exact (qbS zz3_0) : w.heap.size ≤ gb179)); have n4_ := qaM ((by rw [hg]; exact (qbS zz3_0) : w.heap.size ≤ gb179)); clear HO0_1; clear HB; have HO0_1 := n0_; have HB := n1_; have BK179 := n2_; have GW179 := n3_; have GE179 := n4_; clear n0_ n1_ n2_ n3_ n4_; clear hb hbox hg) | ((with_reducible refine gate_dst (N := 2) rfl ?_); refine box_event ?hg (N := 2) ?hd (cs := #[.bool false, .slice none 0 0]) (t := 25) ?hr ?_; (case hd => rfl); (case hg => rfl); (case hr => first | (go_simp; done) | (go_simp; rfl)); intro gb180 hg w4 hbox hb; have n0_ := qaM (qvB (qvE zz3_10 gb180 (Nat.le_of_eq hg.symm)) hb); have n1_ := qaM (qbB (g := gb179) (o := .cells #[.bool a0_0, .slice A0_1 l0_1.length c0_1] 25 (0, 0)) zz3_2 hb); have n2_ := qaM (qbT zz3_6 hb); have n3_ := qaM (hbox); have n4_ := qaM ((by rw [hg]; exact (qbS zz3_6) : w.heap.size ≤ gb180)); have n5_ := qaM ((by rw [hg]; exact (qbS zz3_6) : w.heap.size ≤ gb180)); have n6_ := qaM ((by rw [hg]; exact qnL (qbL (g := gb179) (o := .cells #[.bool a0_0, .slice A0_1 l0_1.length c0_1] 25 (0, 0)) zz3_2) : gb179 ≠ gb180)); have n7_ := qaM ((by rw [hg]; exact qnG (qbL (g := gb179) (o := .cells #[.bool a0_0, .slice A0_1 l0_1.length c0_1] 25 (0, 0)) zz3_2) : gb180 ≠ gb179)); clear HO0_1; clear BK179; clear HB; have HO0_1 := n0_; have BK179 := n1_; have HB := n2_; have BK180 := n3_; have GW180 := n4_; have GE180 := n5_; have NB179_180 := n6_; have NB180_179 := n7_; clear n0_ n1_ n2_ n3_ n4_ n5_ n6_ n7_; clear hb hbox hg; have hnb5 := NB179_180.out; have hnc5 := NB180_179.out; have hcz6_0 : w4.cell? ⟨gb179, 0, none⟩ = some (.bool a0_0) := (qbC BK179.out 0).trans rfl; have hcz6_1 : w4.cell? ⟨gb179, 1, none⟩ = some (.slice A0_1 l0_1.length c0_1) := (qbC BK179.out 1).trans rfl; have hfz6_0 := blk_frozen BK179.out 0; have hfz6_1 := blk_frozen BK179.out 1) | ((with_reducible refine gate_callee (f := 27) rfl ?_); refine goesL_ (some 8) rfl rfl Try.func27 (by kernel_rfl) rfl #[.bool (!a0_0), .slice A0_1 l0_1.length c0_1] rfl zz3_5 ?_; (with_reducible refine (spec_wide.calls k (!a0_0) (fun k_ => (((P0_1_ k_ ∨ w.heap.size ≤ k_) ∧ k_ ≠ gb179) ∧ k_ ≠ gb180)) _ _ l0_1 t181 t182 _ ?side1 A2.out).mono ?_); (case side1 => exact HO0_1.out); rintro e w7 ⟨v183, rfl, ho0, hb⟩; refine ⟨_, rfl, ?_⟩; have n0_ := qaM (qvB zz3_10 hb); have n1_ := qaM (qvL (qvM (ok' := fun k_ => (P0_1_ k_ ∨ w.heap.size ≤ k_) ∧ k_ ≠ gb179 ∧ k_ ≠ gb180) ho0 (fun k_ hk_ => ⟨Or.elim hk_ (fun hs_ => hs_.1.1) (fun hn_ => (.inr (Nat.le_trans (qbS zz3_3) hn_))), Or.elim hk_ (fun hs_ => hs_.1.2) (fun hn_ => (qfB (g := gb179) (o := .cells #[.bool a0_0, .slice A0_1 l0_1.length c0_1] 25 (0, 0)) zz3_2 k_ hn_)), Or.elim hk_ (fun hs_ => hs_.2) (fun hn_ => (qfB (g := gb180) (o := .cells #[.bool false, .slice none 0 0] 25 (0, 0)) (by (with_reducible repeat (first | refine qbN ?_ _ | refine qbD ?_ | refine qbA ?_ _)); exact BK180.out) k_ hn_))⟩)) (qbS zz3_3)); have n2_ := qaM (qbB (g := gb179) (o := .cells #[.bool a0_0, .slice A0_1 l0_1.length c0_1] 25 (0, 0)) zz3_2 hb); have n3_ := qaM (qbB (g := gb180) (o := .cells #[.bool false, .slice none 0 0] 25 (0, 0)) (by (with_reducible repeat (first | refine qbN ?_ _ | refine qbD ?_ | refine qbA ?_ _)); exact BK180.out) hb); have n4_ := qaM (qbT zz3_3 hb); clear HO0_1; clear BK179; clear BK180; clear HB; have HO0_1 := n0_; have HO184 := n1_; have BK179 := n2_; have BK180 := n3_; have HB := n4_; clear n0_ n1_ n2_ n3_ n4_; (try clear hb); (try clear hb2); (try clear hk); (try clear hi); (try clear ho0); have hcz8_0 : w7.cell? ⟨gb180, 0, none⟩ = some (.bool false) := (qbC BK180.out 0).trans rfl; have hcz8_1 : w7.cell? ⟨gb180, 1, none⟩ = some (.slice none 0 0) := (qbC BK180.out 1).trans rfl; have hfz8_0 := blk_frozen BK180.out 0; have hfz8_1 := blk_frozen BK180.out 1; obtain ⟨Ao9, co9, eo9⟩ := Kd.V_slice HO184.out; subst eo9))
 refine bodyPost_ret (results_cell_row rfl _ _ gb180 25 #[.bool t181, .slice Ao9 t182.length co9] (0, 0) _ rfl (by (with_reducible repeat (first | refine qbN ?_ _ | refine qbD ?_ | refine qbA ?_ _)); refine qbP (cs := #[.bool t181, .slice none 0 0]) ?_ 1 _ rfl; (with_reducible repeat (first | refine qbN ?_ _ | refine qbD ?_ | refine qbA ?_ _)); refine qbP (cs := #[.bool false, .slice none 0 0]) ?_ 0 _ rfl; (with_reducible repeat (first | refine qbN ?_ _ | refine qbD ?_ | refine qbA ?_ _)); exact BK180.out) Try.underlying25 rfl (by kernel_rfl)) rfl ?_
 exact ⟨_, by first | rfl | (simp [errW_none, errW_some] <;> rfl) | (simp [*, errW_none, errW_some] <;> rfl), by (with_reducible repeat (first | apply qvA | apply qvN | apply qvD)); exact qvM (qvF (p := ⟨gb180, 1, none⟩) (qvF (p := ⟨gb180, 0, none⟩) (qvM HO184.out (fun k_ hk => (⟨hk, hk.2.2⟩ : _ ∧ k_ ≠ gb180))) (fun _ hk => hk.2) (.bool t181)) (fun _ hk => hk.2) (.slice Ao9 t182.length co9)) (fun _ hk => hk.1.1), by repeat (first | (with_reducible first | exact HB.out | apply qwA | apply qwN | apply qwD | refine qwS ?_ GE179.out | refine qwS ?_ GE180.out) | exact HB.out)⟩

/-! ### spec_WideCmp: function 26 -/
mutual
def spec_WideCmp.j0 : Nat → Bool → Bool → List Int → Bool → List Int → Option (Int)
 | 0, _, _, _, _, _ => none
 | k + 1, x5, x186000, x186001, x187000, x187001 => if x5 = true then (some (-1)) else (if x186000 = true then (spec_WideCmp.j1 k false x186000 x186001 x187000 x187001) else (spec_WideCmp.j1 k x187000 x186000 x186001 x187000 x187001))
def spec_WideCmp.j1 : Nat → Bool → Bool → List Int → Bool → List Int → Option (Int)
 | 0, _, _, _, _, _ => none
 | k + 1, x13, x186000, x186001, x187000, x187001 => if x13 = true then (some 1) else (if x186000 = true then ((spec_magCmp.f k x186001 x187001).bind fun t187 => (some (wrap64 (-t187)))) else ((spec_magCmp.f k x186001 x187001).bind fun t188 => (some t188)))
end
def spec_WideCmp.f (k : Nat) (a0_0 : Bool) (l0_1 : List Int) (a1_0 : Bool) (l1_1 : List Int) : Option (Int) := if a0_0 = true then (spec_WideCmp.j0 k (!a1_0) a0_0 l0_1 a1_0 l1_1) else (spec_WideCmp.j0 k false a0_0 l0_1 a1_0 l1_1)
theorem spec_WideCmp.mono_l : ∀ k, (∀ y0 y1 y2 y3 y4, LeO (spec_WideCmp.j0 k y0 y1 y2 y3 y4) (spec_WideCmp.j0 (k + 1) y0 y1 y2 y3 y4)) ∧ (∀ y0 y1 y2 y3 y4, LeO (spec_WideCmp.j1 k y0 y1 y2 y3 y4) (spec_WideCmp.j1 (k + 1) y0 y1 y2 y3 y4))
 | 0 => ⟨fun _ _ _ _ _ r h => by simp [spec_WideCmp.j0] at h, fun _ _ _ _ _ r h => by simp [spec_WideCmp.j1] at h⟩
 | k + 1 => by
  obtain ⟨ih0, ih1⟩ := spec_WideCmp.mono_l k
  refine ⟨?_, ?_⟩
  ·intro y0 y1 y2 y3 y4
   unfold spec_WideCmp.j0
   repeat' first
   | (with_reducible exact ih0 _ _ _ _ _)
   | (with_reducible exact ih1 _ _ _ _ _)
   | (with_reducible exact spec_magCmp.mono _ _ _)
   | (with_reducible exact LeO.refl _)
   | (with_reducible exact LeO.none _)
   | (with_reducible refine LeO.ite ?_ ?_)
   | (with_reducible refine LeO.bind ?_ (fun _ => ?_))
   | exact ih0 _ _ _ _ _
   | exact ih1 _ _ _ _ _
   | exact spec_magCmp.mono _ _ _
   | exact LeO.none _
   | refine LeO.ite ?_ ?_
   | refine LeO.bind ?_ (fun _ => ?_)
  ·intro y0 y1 y2 y3 y4
   unfold spec_WideCmp.j1
   repeat' first
   | (with_reducible exact ih0 _ _ _ _ _)
   | (with_reducible exact ih1 _ _ _ _ _)
   | (with_reducible exact spec_magCmp.mono _ _ _)
   | (with_reducible exact LeO.refl _)
   | (with_reducible exact LeO.none _)
   | (with_reducible refine LeO.ite ?_ ?_)
   | (with_reducible refine LeO.bind ?_ (fun _ => ?_))
   | exact ih0 _ _ _ _ _
   | exact ih1 _ _ _ _ _
   | exact spec_magCmp.mono _ _ _
   | exact LeO.none _
   | refine LeO.ite ?_ ?_
   | refine LeO.bind ?_ (fun _ => ?_)
theorem spec_WideCmp.mono : ∀ a0 a1 a2 a3 k, LeO (spec_WideCmp.f k a0 a1 a2 a3) (spec_WideCmp.f (k + 1) a0 a1 a2 a3) := by
 intro a0 a1 a2 a3 k
 obtain ⟨ih0, ih1⟩ := spec_WideCmp.mono_l k
 unfold spec_WideCmp.f
 repeat' first
   | (with_reducible exact ih0 _ _ _ _ _)
   | (with_reducible exact ih1 _ _ _ _ _)
   | (with_reducible exact spec_magCmp.mono _ _ _)
   | (with_reducible exact LeO.refl _)
   | (with_reducible exact LeO.none _)
   | (with_reducible refine LeO.ite ?_ ?_)
   | (with_reducible refine LeO.bind ?_ (fun _ => ?_))
   | exact ih0 _ _ _ _ _
   | exact ih1 _ _ _ _ _
   | exact spec_magCmp.mono _ _ _
   | exact LeO.none _
   | refine LeO.ite ?_ ?_
   | refine LeO.bind ?_ (fun _ => ?_)
set_option maxHeartbeats 8000000 in
set_option maxRecDepth 100000 in
theorem spec_WideCmp.calls (k : Nat) (a0_0 : Bool) (A0_1 : Option Addr) (c0_1 : Nat) (l0_1 : List Int) (a1_0 : Bool) (A1_1 : Option Addr) (c1_1 : Nat) (l1_1 : List Int) (r : Int) (w : World) (hr0_1 : Kd.C (Kd.int .u32) w A0_1 l0_1.length l0_1) (hc0_1 : l0_1.length ≤ c0_1) (hr1_1 : Kd.C (Kd.int .u32) w A1_1 l1_1.length l1_1) (hc1_1 : l1_1.length ≤ c1_1) (h : spec_WideCmp.f k a0_0 l0_1 a1_0 l1_1 = some r) :
  Calls Try.prog 26 #[.agg #[.bool a0_0, .slice A0_1 l0_1.length c0_1], .agg #[.bool a1_0, .slice A1_1 l1_1.length c1_1]] w fun e w' => e = .returned (.int .i64 r) ∧ Below w.heap.size w w' := by
 have hu25 := Try.underlying25
 have HR0_1 := qaM hr0_1
 have HC0_1 := qaM hc0_1
 clear hr0_1 hc0_1
 have HR1_1 := qaM hr1_1
 have HC1_1 := qaM hc1_1
 clear hr1_1 hc1_1
 have HB := qaM (Below.refl w.heap.size w)
 have H : (if a0_0 = true then (spec_WideCmp.j0 k (!a1_0) a0_0 l0_1 a1_0 l1_1) else (spec_WideCmp.j0 k false a0_0 l0_1 a1_0 l1_1)) = some r := h
 clear h
 have HC3 := qaM H
 clear H
 go_enter Try.func26, Try.ntmps26
 go_upto_region 1 with (first | ((with_reducible refine gate_dst (N := 2) rfl ?_); refine box_event ?hg (N := 2) ?hd (cs := #[.bool a0_0, .slice A0_1 l0_1.length c0_1]) (t := 25) ?hr ?_; (case hd => rfl); (case hg => rfl); (case hr => first | (go_simp; done) | (go_simp; rfl)); intro gb185 hg w4 hbox hb; have n0_ := qaM (qbT zz3_0 hb); have n1_ := qaM (hbox); have n2_ := qaM ((by rw [hg]; exact (qbS zz3_0) : w.heap.size ≤ gb185)); have n3_ := qaM ((by rw [hg]; exact (qbS zz3_0) : w.heap.size ≤ gb185)); clear HB; have HB := n0_; have BK185 := n1_; have GW185 := n2_; have GE185 := n3_; clear n0_ n1_ n2_ n3_; clear hb hbox hg) | ((with_reducible refine gate_dst (N := 3) rfl ?_); refine box_event ?hg (N := 3) ?hd (cs := #[.bool a1_0, .slice A1_1 l1_1.length c1_1]) (t := 25) ?hr ?_; (case hd => rfl); (case hg => rfl); (case hr => first | (go_simp; done) | (go_simp; rfl)); intro gb186 hg w5 hbox hb; have n0_ := qaM (qbB (g := gb185) (o := .cells #[.bool a0_0, .slice A0_1 l0_1.length c0_1] 25 (0, 0)) zz3_9 hb); have n1_ := qaM (qbT zz3_7 hb); have n2_ := qaM (hbox); have n3_ := qaM ((by rw [hg]; exact (qbS zz3_7) : w.heap.size ≤ gb186)); have n4_ := qaM ((by rw [hg]; exact (qbS zz3_7) : w.heap.size ≤ gb186)); have n5_ := qaM ((by rw [hg]; exact qnL (qbL (g := gb185) (o := .cells #[.bool a0_0, .slice A0_1 l0_1.length c0_1] 25 (0, 0)) zz3_9) : gb185 ≠ gb186)); have n6_ := qaM ((by rw [hg]; exact qnG (qbL (g := gb185) (o := .cells #[.bool a0_0, .slice A0_1 l0_1.length c0_1] 25 (0, 0)) zz3_9) : gb186 ≠ gb185)); clear BK185; clear HB; have BK185 := n0_; have HB := n1_; have BK186 := n2_; have GW186 := n3_; have GE186 := n4_; have NB185_186 := n5_; have NB186_185 := n6_; clear n0_ n1_ n2_ n3_ n4_ n5_ n6_; clear hb hbox hg))
 (try simp only [Act.put, qsA, qsZ, qsS])
 go_cut [5] (fun v5 wc => ∃ (kq : Nat) (x5_2 : Bool), v5 = .bool x5_2 ∧ Aside0 (spec_WideCmp.j0 kq x5_2 a0_0 l0_1 a1_0 l1_1 = some r) ∧ Aside0 (kq ≤ k) ∧ Aside0 (wc.heap[gb185]? = some (.cells #[.bool a0_0, (.slice A0_1 l0_1.length c0_1)] 25 (0, 0))) ∧ Aside0 (wc.heap[gb186]? = some (.cells #[.bool a1_0, (.slice A1_1 l1_1.length c1_1)] 25 (0, 0))) ∧ Aside0 (Below w.heap.size w wc))
 case first =>
  have H := HC3.out
  clear HC3
  by_cases c6 : a0_0 = true
  ·subst c6
   have H1 : (spec_WideCmp.j0 k (!a1_0) true l0_1 a1_0 l1_1) = some r := by rw [if_pos rfl] at H; exact H
   clear H
   have H := H1
   clear H1
   have H' := qaM H
   clear H
   have hnb7 := NB185_186.out
   have hnc7 := NB186_185.out
   have hcz8_0 : w5.cell? ⟨gb185, 0, none⟩ = some (.bool true) := (qbC BK185.out 0).trans rfl
   have hcz8_1 : w5.cell? ⟨gb185, 1, none⟩ = some (.slice A0_1 l0_1.length c0_1) := (qbC BK185.out 1).trans rfl
   have hfz8_0 := blk_frozen BK185.out 0
   have hfz8_1 := blk_frozen BK185.out 1
   have hcz9_0 : w5.cell? ⟨gb186, 0, none⟩ = some (.bool a1_0) := (qbC BK186.out 0).trans rfl
   have hcz9_1 : w5.cell? ⟨gb186, 1, none⟩ = some (.slice A1_1 l1_1.length c1_1) := (qbC BK186.out 1).trans rfl
   have hfz9_0 := blk_frozen BK186.out 0
   have hfz9_1 := blk_frozen BK186.out 1
   go_wp2
   go_meet
   case rel => exact ⟨_, (!a1_0), zz3_11, H', ⟨by first | omega | exact Nat.le_refl _⟩, ⟨by (with_reducible repeat (first | refine qbN ?_ _ | refine qbD ?_ | refine qbA ?_ _)); exact BK185.out⟩, ⟨by (with_reducible repeat (first | refine qbN ?_ _ | refine qbD ?_ | refine qbA ?_ _)); exact BK186.out⟩, ⟨by repeat (first | (with_reducible first | exact HB.out | apply qwA | apply qwN | apply qwD | refine qwS ?_ GE185.out | refine qwS ?_ GE186.out) | exact HB.out)⟩⟩
  ·replace c6 := Bool.eq_false_iff.mpr c6
   subst c6
   have H1 : (spec_WideCmp.j0 k false false l0_1 a1_0 l1_1) = some r := by rw [if_neg (show ¬ (false = true) by decide)] at H; exact H
   clear H
   have H := H1
   clear H1
   have H' := qaM H
   clear H
   have hnb10 := NB185_186.out
   have hnc10 := NB186_185.out
   have hcz11_0 : w5.cell? ⟨gb185, 0, none⟩ = some (.bool false) := (qbC BK185.out 0).trans rfl
   have hcz11_1 : w5.cell? ⟨gb185, 1, none⟩ = some (.slice A0_1 l0_1.length c0_1) := (qbC BK185.out 1).trans rfl
   have hfz11_0 := blk_frozen BK185.out 0
   have hfz11_1 := blk_frozen BK185.out 1
   go_wp2
   go_meet
   case rel => exact ⟨_, (false), zz3_11, H', ⟨by first | omega | exact Nat.le_refl _⟩, ⟨by (with_reducible repeat (first | refine qbN ?_ _ | refine qbD ?_ | refine qbA ?_ _)); exact BK185.out⟩, ⟨by (with_reducible repeat (first | refine qbN ?_ _ | refine qbD ?_ | refine qbA ?_ _)); exact BK186.out⟩, ⟨by repeat (first | (with_reducible first | exact HB.out | apply qwA | apply qwN | apply qwD | refine qwS ?_ GE185.out | refine qwS ?_ GE186.out) | exact HB.out)⟩⟩
 case rest =>
  clear HC3
  try clear c1
  try clear c2
  try clear p2
  try clear c6
  try clear c7
  try clear c10
  try clear hcz11_0
  try clear hcz11_1
  try clear hcz8_0
  try clear hcz8_1
  try clear hcz9_0
  try clear hcz9_1
  try clear hfz11_0
  try clear hfz11_1
  try clear hfz8_0
  try clear hfz8_1
  try clear hfz9_0
  try clear hfz9_1
  obtain ⟨kq, x5_2, rfl, HA, HJ2, BK185, BK186, HB⟩ := hcut
  cases kq with
  | zero => exact absurd HA.out (by simp [spec_WideCmp.j0])
  | succ kj2 =>
   have H := HA.out
   clear HA
   simp only [spec_WideCmp.j0] at H
   by_cases c12 : x5_2 = true
   ·subst c12
    have H1 : (some (-1)) = some r := by rw [if_pos rfl] at H; exact H
    clear H
    have H := H1
    clear H1
    obtain rfl := Option.some.inj H
    go_wp2
    go_ret
    exact ⟨by first | rfl | (simp [errW_none, errW_some] <;> rfl) | (simp [*, errW_none, errW_some] <;> rfl), by repeat (first | (with_reducible first | exact HB.out | apply qwA | apply qwN | apply qwD | refine qwS ?_ GE185.out | refine qwS ?_ GE186.out) | exact HB.out)⟩
   ·replace c12 := Bool.eq_false_iff.mpr c12
    subst c12
    have H1 : (if a0_0 = true then (spec_WideCmp.j1 kj2 false a0_0 l0_1 a1_0 l1_1) else (spec_WideCmp.j1 kj2 a1_0 a0_0 l0_1 a1_0 l1_1)) = some r := by rw [if_neg (show ¬ (false = true) by decide)] at H; exact H
    clear H
    have H := H1
    clear H1
    have HC13 := qaM H
    clear H
    go_upto_region 3 with (fail)
    go_cut [13] (fun v13 wc => ∃ (kq : Nat) (x13_12 : Bool), v13 = .bool x13_12 ∧ Aside0 (spec_WideCmp.j1 kq x13_12 a0_0 l0_1 a1_0 l1_1 = some r) ∧ Aside0 (kq ≤ kj2) ∧ Aside0 (wc.heap[gb185]? = some (.cells #[.bool a0_0, (.slice A0_1 l0_1.length c0_1)] 25 (0, 0))) ∧ Aside0 (wc.heap[gb186]? = some (.cells #[.bool a1_0, (.slice A1_1 l1_1.length c1_1)] 25 (0, 0))) ∧ Aside0 (Below w.heap.size w wc))
    case first =>
     have H := HC13.out
     clear HC13
     by_cases c14 : a0_0 = true
     ·subst c14
      have H1 : (spec_WideCmp.j1 kj2 false true l0_1 a1_0 l1_1) = some r := by rw [if_pos rfl] at H; exact H
      clear H
      have H := H1
      clear H1
      have H' := qaM H
      clear H
      have hnb15 := NB185_186.out
      have hnc15 := NB186_185.out
      have hcz16_0 : wc.cell? ⟨gb185, 0, none⟩ = some (.bool true) := (qbC BK185.out 0).trans rfl
      have hcz16_1 : wc.cell? ⟨gb185, 1, none⟩ = some (.slice A0_1 l0_1.length c0_1) := (qbC BK185.out 1).trans rfl
      have hfz16_0 := blk_frozen BK185.out 0
      have hfz16_1 := blk_frozen BK185.out 1
      go_wp2
      go_meet
      case rel => exact ⟨_, (false), zz3_11, H', ⟨by have := HJ2.out; first | omega | exact Nat.le_refl _⟩, ⟨by (with_reducible repeat (first | refine qbN ?_ _ | refine qbD ?_ | refine qbA ?_ _)); exact BK185.out⟩, ⟨by (with_reducible repeat (first | refine qbN ?_ _ | refine qbD ?_ | refine qbA ?_ _)); exact BK186.out⟩, ⟨by repeat (first | (with_reducible first | exact HB.out | apply qwA | apply qwN | apply qwD | refine qwS ?_ GE185.out | refine qwS ?_ GE186.out) | exact HB.out)⟩⟩
     ·replace c14 := Bool.eq_false_iff.mpr c14
      subst c14
      have H1 : (spec_WideCmp.j1 kj2 a1_0 false l0_1 a1_0 l1_1) = some r := by rw [if_neg (show ¬ (false = true) by decide)] at H; exact H
      clear H
      have H := H1
      clear H1
      have H' := qaM H
      clear H
      have hnb17 := NB185_186.out
      have hnc17 := NB186_185.out
      have hcz18_0 : wc.cell? ⟨gb185, 0, none⟩ = some (.bool false) := (qbC BK185.out 0).trans rfl
      have hcz18_1 : wc.cell? ⟨gb185, 1, none⟩ = some (.slice A0_1 l0_1.length c0_1) := (qbC BK185.out 1).trans rfl
      have hfz18_0 := blk_frozen BK185.out 0
      have hfz18_1 := blk_frozen BK185.out 1
      have hcz19_0 : wc.cell? ⟨gb186, 0, none⟩ = some (.bool a1_0) := (qbC BK186.out 0).trans rfl
      have hcz19_1 : wc.cell? ⟨gb186, 1, none⟩ = some (.slice A1_1 l1_1.length c1_1) := (qbC BK186.out 1).trans rfl
      have hfz19_0 := blk_frozen BK186.out 0
      have hfz19_1 := blk_frozen BK186.out 1
      go_wp2
      go_meet
      case rel => exact ⟨_, (a1_0), zz3_11, H', ⟨by have := HJ2.out; first | omega | exact Nat.le_refl _⟩, ⟨by (with_reducible repeat (first | refine qbN ?_ _ | refine qbD ?_ | refine qbA ?_ _)); exact BK185.out⟩, ⟨by (with_reducible repeat (first | refine qbN ?_ _ | refine qbD ?_ | refine qbA ?_ _)); exact BK186.out⟩, ⟨by repeat (first | (with_reducible first | exact HB.out | apply qwA | apply qwN | apply qwD | refine qwS ?_ GE185.out | refine qwS ?_ GE186.out) | exact HB.out)⟩⟩
    case rest =>
     clear HC13
     try clear c1
     try clear c2
     try clear p2
     try clear c6
     try clear c7
     try clear c10
     try clear c12
     try clear c14
     try clear c15
     try clear c17
     try clear hcz11_0
     try clear hcz11_1
     try clear hcz16_0
     try clear hcz16_1
     try clear hcz18_0
     try clear hcz18_1
     try clear hcz19_0
     try clear hcz19_1
     try clear hcz8_0
     try clear hcz8_1
     try clear hcz9_0
     try clear hcz9_1
     try clear hfz11_0
     try clear hfz11_1
     try clear hfz16_0
     try clear hfz16_1
     try clear hfz18_0
     try clear hfz18_1
     try clear hfz19_0
     try clear hfz19_1
     try clear hfz8_0
     try clear hfz8_1
     try clear hfz9_0
     try clear hfz9_1
     try clear p2
     obtain ⟨kq, x13_12, rfl, HA, HJ12, BK185, BK186, HB⟩ := hcut
     cases kq with
     | zero => exact absurd HA.out (by simp [spec_WideCmp.j1])
     | succ kj12 =>
      have H := HA.out
      clear HA
      simp only [spec_WideCmp.j1] at H
      by_cases c20 : x13_12 = true
      ·subst c20
       have H1 : (some 1) = some r := by rw [if_pos rfl] at H; exact H
       clear H
       have H := H1
       clear H1
       obtain rfl := Option.some.inj H
       go_wp2
       go_ret
       exact ⟨by first | rfl | (simp [errW_none, errW_some] <;> rfl) | (simp [*, errW_none, errW_some] <;> rfl), by repeat (first | (with_reducible first | exact HB.out | apply qwA | apply qwN | apply qwD | refine qwS ?_ GE185.out | refine qwS ?_ GE186.out) | exact HB.out)⟩
      ·replace c20 := Bool.eq_false_iff.mpr c20
       subst c20
       have H1 : (if a0_0 = true then ((spec_magCmp.f kj12 l0_1 l1_1).bind fun t187 => (some (wrap64 (-t187)))) else ((spec_magCmp.f kj12 l0_1 l1_1).bind fun t188 => (some t188))) = some r := by rw [if_neg (show ¬ (false = true) by decide)] at H; exact H
       clear H
       have H := H1
       clear H1
       by_cases c21 : a0_0 = true
       ·subst c21
        have H1 : ((spec_magCmp.f kj12 l0_1 l1_1).bind fun t187 => (some (wrap64 (-t187)))) = some r := by rw [if_pos rfl] at H; exact H
        clear H
        have H := H1
        clear H1
        replace H := Option.bind_eq_some_iff.mp H
        obtain ⟨t187, A220, H⟩ := H
        replace H : (some (wrap64 (-t187))) = some r := H
        have A22 := qaM A220
        clear A220
        obtain rfl := Option.some.inj H
        have hnb23 := NB185_186.out
        have hnc23 := NB186_185.out
        have hcz24_0 : wc.cell? ⟨gb185, 0, none⟩ = some (.bool true) := (qbC BK185.out 0).trans rfl
        have hcz24_1 : wc.cell? ⟨gb185, 1, none⟩ = some (.slice A0_1 l0_1.length c0_1) := (qbC BK185.out 1).trans rfl
        have hfz24_0 := blk_frozen BK185.out 0
        have hfz24_1 := blk_frozen BK185.out 1
        have hcz25_0 : wc.cell? ⟨gb186, 0, none⟩ = some (.bool a1_0) := (qbC BK186.out 0).trans rfl
        have hcz25_1 : wc.cell? ⟨gb186, 1, none⟩ = some (.slice A1_1 l1_1.length c1_1) := (qbC BK186.out 1).trans rfl
        have hfz25_0 := blk_frozen BK186.out 0
        have hfz25_1 := blk_frozen BK186.out 1
        go_wp2_with (first | ((with_reducible refine gate_callee (f := 29) rfl ?_); refine goesL_ (some 28) rfl rfl Try.func29 (by kernel_rfl) rfl #[.slice A0_1 l0_1.length c0_1, .slice A1_1 l1_1.length c1_1] rfl zz3_5 ?_; (with_reducible refine (spec_magCmp.calls kj12 _ _ l0_1 _ _ l1_1 t187 _ ?side1 ?side2 ?side3 ?side4 A22.out).mono ?_); (case side1 => repeat (first | exact (Kd.C_below HR0_1.out HB.out) | (with_reducible refine Kd.C_alloc ?_ _) | (with_reducible refine Kd.C_drewN ?_ _) | (with_reducible refine Kd.C_drew ?_))); (case side2 => exact HC0_1.out); (case side3 => repeat (first | exact (Kd.C_below HR1_1.out HB.out) | (with_reducible refine Kd.C_alloc ?_ _) | (with_reducible refine Kd.C_drewN ?_ _) | (with_reducible refine Kd.C_drew ?_))); (case side4 => exact HC1_1.out); rintro e w' ⟨rfl, ⟨nd, rfl⟩⟩; refine ⟨_, rfl, ?_⟩))
        go_ret
        exact ⟨by first | rfl | (simp [errW_none, errW_some] <;> rfl) | (simp [*, errW_none, errW_some] <;> rfl), by repeat (first | (with_reducible first | exact HB.out | apply qwA | apply qwN | apply qwD | refine qwS ?_ GE185.out | refine qwS ?_ GE186.out) | exact HB.out)⟩
       ·replace c21 := Bool.eq_false_iff.mpr c21
        subst c21
        have H1 : ((spec_magCmp.f kj12 l0_1 l1_1).bind fun t188 => (some t188)) = some r := by rw [if_neg (show ¬ (false = true) by decide)] at H; exact H
        clear H
        have H := H1
        clear H1
        replace H := Option.bind_eq_some_iff.mp H
        obtain ⟨t188, A260, H⟩ := H
        replace H : (some t188) = some r := H
        have A26 := qaM A260
        clear A260
        obtain rfl := Option.some.inj H
        have hnb27 := NB185_186.out
        have hnc27 := NB186_185.out
        have hcz28_0 : wc.cell? ⟨gb185, 0, none⟩ = some (.bool false) := (qbC BK185.out 0).trans rfl
        have hcz28_1 : wc.cell? ⟨gb185, 1, none⟩ = some (.slice A0_1 l0_1.length c0_1) := (qbC BK185.out 1).trans rfl
        have hfz28_0 := blk_frozen BK185.out 0
        have hfz28_1 := blk_frozen BK185.out 1
        have hcz29_0 : wc.cell? ⟨gb186, 0, none⟩ = some (.bool a1_0) := (qbC BK186.out 0).trans rfl
        have hcz29_1 : wc.cell? ⟨gb186, 1, none⟩ = some (.slice A1_1 l1_1.length c1_1) := (qbC BK186.out 1).trans rfl
        have hfz29_0 := blk_frozen BK186.out 0
        have hfz29_1 := blk_frozen BK186.out 1
        go_wp2_with (first | ((with_reducible refine gate_callee (f := 29) rfl ?_); refine goesL_ (some 34) rfl rfl Try.func29 (by kernel_rfl) rfl #[.slice A0_1 l0_1.length c0_1, .slice A1_1 l1_1.length c1_1] rfl zz3_5 ?_; (with_reducible refine (spec_magCmp.calls kj12 _ _ l0_1 _ _ l1_1 t188 _ ?side1 ?side2 ?side3 ?side4 A26.out).mono ?_); (case side1 => repeat (first | exact (Kd.C_below HR0_1.out HB.out) | (with_reducible refine Kd.C_alloc ?_ _) | (with_reducible refine Kd.C_drewN ?_ _) | (with_reducible refine Kd.C_drew ?_))); (case side2 => exact HC0_1.out); (case side3 => repeat (first | exact (Kd.C_below HR1_1.out HB.out) | (with_reducible refine Kd.C_alloc ?_ _) | (with_reducible refine Kd.C_drewN ?_ _) | (with_reducible refine Kd.C_drew ?_))); (case side4 => exact HC1_1.out); rintro e w' ⟨rfl, ⟨nd, rfl⟩⟩; refine ⟨_, rfl, ?_⟩))
        go_ret
        exact ⟨by first | rfl | (simp [errW_none, errW_some] <;> rfl) | (simp [*, errW_none, errW_some] <;> rfl), by repeat (first | (with_reducible first | exact HB.out | apply qwA | apply qwN | apply qwD | refine qwS ?_ GE185.out | refine qwS ?_ GE186.out) | exact HB.out)⟩

end Go.Proofs.Ytelpdndlmhcdoaa.QAll
