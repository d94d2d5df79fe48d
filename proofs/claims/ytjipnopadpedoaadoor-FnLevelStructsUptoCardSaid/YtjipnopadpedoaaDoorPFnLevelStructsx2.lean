/- WRITTEN BY A PROGRAM OF THIS WORK (fix_h.py) AFTER THE PRINT: one row more at the end of the list of bits. -/
import Derived.Test.YtjipnopadpedoaaDoorPFnLevelStructsx0
namespace Go.Proofs.YtjipnopadpedoaaDoor.PFnLevelStructs
open Go.RowKit Go.Proofs.YtjipnopadpedoaaDoorW.PrintWords Go.Proofs.YtjipnopadpedoaaDoorW.PrintLast Go.Proofs.YtjipnopadpedoaaDoorW.PrintMore
attribute [local go_sem] max2_int min2_int max_two min_two max_three min_three max_four min_four   -- for this text's walks alone
set_option linter.unusedVariables false
set_option linter.unusedSimpArgs false

/-! ### laws_roomFor: function 7 -/
def laws_roomFor.l0 : Nat → Int → Int → List Int → Int → Int → Option (Int × Bool × List Int × Int)
  | 0, _, _, _, _, _ => none
  | k + 1, x0, x1, x5, x14, x15 => if x15 < x14 then (if 0 ≤ (wrap64 (Int.tdiv x15 8)) then (if (wrap64 (Int.tdiv x15 8)) < (x5.length : Int) then (if 0 ≤ (Int.tmod x15 8) then (laws_roomFor.l0 k x0 x1 (x5.set ((wrap64 (Int.tdiv x15 8)) : Int).toNat (Go.bits .or .u8 (rd x5 (wrap64 (Int.tdiv x15 8))) (shl .u8 1 (Int.tmod x15 8)))) x14 (wrap64 (x15 + 1))) else (none)) else (none)) else (none)) else (some (x0, true, x5, x1))
def laws_roomFor.f (k : Nat) (a0 : Int) (a1 : Int) : Option (Int × Bool × List Int × Int) := if 0 ≤ (wrap64 ((wrap64 (Int.tdiv (wrap64 ((wrap64 (a1 + a0)) + 7)) 8)) + 1)) then (if (wrap64 ((wrap64 (Int.tdiv (wrap64 ((wrap64 (a1 + a0)) + 7)) 8)) + 1) : Int).toNat ≤ 281474976710656 then (laws_roomFor.l0 k a0 a1 (List.replicate (wrap64 ((wrap64 (Int.tdiv (wrap64 ((wrap64 (a1 + a0)) + 7)) 8)) + 1) : Int).toNat 0) a1 0) else (none)) else (none)
theorem laws_roomFor.mono_l : ∀ k, (∀ y0 y1 y2 y3 y4, LeO (laws_roomFor.l0 k y0 y1 y2 y3 y4) (laws_roomFor.l0 (k + 1) y0 y1 y2 y3 y4))
  | 0 => fun _ _ _ _ _ r h => by simp [laws_roomFor.l0] at h
  | k + 1 => by
    have ih0 := laws_roomFor.mono_l k
    · intro y0 y1 y2 y3 y4
      unfold laws_roomFor.l0
      repeat' first
      | (with_reducible exact ih0 _ _ _ _ _)
      | (with_reducible exact LeO.refl _)
      | (with_reducible exact LeO.none _)
      | (with_reducible refine LeO.ite ?_ ?_)
      | (with_reducible refine LeO.bind ?_ (fun _ => ?_))
      | exact ih0 _ _ _ _ _
      | exact LeO.none _
      | refine LeO.ite ?_ ?_
      | refine LeO.bind ?_ (fun _ => ?_)
theorem laws_roomFor.mono : ∀ a0 a1 k, LeO (laws_roomFor.f k a0 a1) (laws_roomFor.f (k + 1) a0 a1) := by
  intro a0 a1 k
  have ih0 := laws_roomFor.mono_l k
  unfold laws_roomFor.f
  repeat' first
      | (with_reducible exact ih0 _ _ _ _ _)
      | (with_reducible exact LeO.refl _)
      | (with_reducible exact LeO.none _)
      | (with_reducible refine LeO.ite ?_ ?_)
      | (with_reducible refine LeO.bind ?_ (fun _ => ?_))
      | exact ih0 _ _ _ _ _
      | exact LeO.none _
      | refine LeO.ite ?_ ?_
      | refine LeO.bind ?_ (fun _ => ?_)
def laws_roomFor.T5 : Bool × List (List Nat × List Nat) := (true, [([], []), ([], []), ([1], [1]), ([0, 2], [0, 2]), ([3], [3]), ([], []), ([5], [5]), ([6], [6]), ([4, 7], [4, 7]), ([0, 2, 0, 1, 2, 3, 4, 5, 6, 7, 8], [0, 2]), ([9, 8, 0, 1, 2, 3, 4, 5, 6, 7, 8], [8, 9])])
def laws_roomFor.B5 : List Nat := [0, 0, 2, 7, 15, 0, 32, 96, 255, 511, 1023]
theorem laws_roomFor.tab5 : rtab .any (opsOf Tryd.f7 5) = laws_roomFor.T5 := by kernel_rfl
theorem laws_roomFor.bits5 : waitsOk laws_roomFor.T5.2 laws_roomFor.B5 = true := by kernel_rfl
set_option maxHeartbeats 8000000 in
set_option maxRecDepth 100000 in
theorem laws_roomFor.calls (k : Nat) (a0 : Int) (a1 : Int) (r1 : Int) (r2 : Bool) (r3 : List Int) (r4 : Int) (w : World) (h : laws_roomFor.f k a0 a1 = some (r1, r2, r3, r4)) :
    Calls Tryd.prog 7 #[.int .i64 a0, .int .i64 a1] w fun e w' => ∃ v2_ : Value, e = .returned (.agg #[.int .i64 r1, .bool r2, v2_, .int .i64 r4]) ∧ Kd.R (Kd.int .u8) 5 w' w.heap.size (fun _ => True) v2_ r3 ∧ Below w.heap.size w w' := by
  have hu39 := Tryd.underlying39
  have HB := Aside0.mk (Below.refl w.heap.size w)
  have H : (if 0 ≤ (wrap64 ((wrap64 (Int.tdiv (wrap64 ((wrap64 (a1 + a0)) + 7)) 8)) + 1)) then (if (wrap64 ((wrap64 (Int.tdiv (wrap64 ((wrap64 (a1 + a0)) + 7)) 8)) + 1) : Int).toNat ≤ 281474976710656 then (laws_roomFor.l0 k a0 a1 (List.replicate (wrap64 ((wrap64 (Int.tdiv (wrap64 ((wrap64 (a1 + a0)) + 7)) 8)) + 1) : Int).toNat 0) a1 0) else (none)) else (none)) = some (r1, r2, r3, r4) := h
  clear h
  obtain ⟨ji3, hji3⟩ : ∃ j_ : Int, (wrap64 ((wrap64 (Int.tdiv (wrap64 ((wrap64 (a1 + a0)) + 7)) 8)) + 1)) = j_ := ⟨_, rfl⟩
  replace H : (if 0 ≤ (ji3) then (if (ji3 : Int).toNat ≤ 281474976710656 then (laws_roomFor.l0 k a0 a1 (List.replicate (ji3 : Int).toNat 0) a1 0) else (none)) else (none)) = some (r1, r2, r3, r4) := by first | (rw [hji3] at H; exact H) | (simp only [hji3] at H ⊢; exact H)
  have hji3w : (IntKind.i64.wrap ((wrap64 (Int.tdiv (wrap64 ((wrap64 (a1 + a0)) + 7)) 8)) + 1)) = ji3 := (i64_w _).trans hji3
  by_cases c4 : 0 ≤ (ji3)
  · rw [if_pos c4] at H
    have c4b0 := eq_true c4
    have c4b1 : decide (0 ≤ (ji3)) = true := decide_eq_true c4
    clear c4
    by_cases c5 : (ji3 : Int).toNat ≤ 281474976710656
    · rw [if_pos c5] at H
      have c5b0 := eq_true c5
      have c5b1 : decide ((ji3 : Int).toNat ≤ 281474976710656) = true := decide_eq_true c5
      clear c5
      obtain ⟨y138, hy138⟩ : ∃ y_ : List Int, y_ = (List.replicate (ji3 : Int).toNat 0) := ⟨_, rfl⟩
      replace H : (laws_roomFor.l0 k a0 a1 y138 a1 0) = some (r1, r2, r3, r4) := by first | (rw [hy138]; with_reducible exact H) | (have H2_ := (Option.bind_some _ _).symm.trans H; rw [hy138]; with_reducible exact H2_) | (have H2_ := (Option.bind_some _ _).symm.trans H; with_reducible exact H2_) | with_reducible exact H | (rw [hy138]; exact H) | exact H
      have Ny138 := Aside0.mk hy138
      clear hy138
      have H' := Aside0.mk H
      clear H
      go_enter Tryd.func7, Tryd.ntmps7
      go_wp2_with (first | ((with_reducible refine gate_dst (N := 4) rfl ?_); refine box_event ?hg (N := 4) ?hd (cs := #[.int .i64 0, .bool false, .slice none 0 0, .int .i64 0]) (t := 39) ?hr ?_; (case hd => rfl); (case hg => rfl); (case hr => first | (go_simp; done) | (go_simp; rfl)); intro gb137 hg w6 hbox hb; have n0_ := Aside0.mk (below_step (by repeat (first | (with_reducible first | exact HB.out | apply below_alloc | apply pw_below_drewN | apply below_drew1) | exact HB.out)) hb); have n1_ := Aside0.mk (hbox); have n2_ := Aside0.mk ((by rw [hg]; exact (below_size (by repeat (first | (with_reducible first | exact HB.out | apply below_alloc | apply pw_below_drewN | apply below_drew1) | exact HB.out))) : w.heap.size ≤ gb137)); have n3_ := Aside0.mk ((by rw [hg]; exact (below_size (by repeat (first | (with_reducible first | exact HB.out | apply below_alloc | apply pw_below_drewN | apply below_drew1) | exact HB.out))) : w.heap.size ≤ gb137)); clear HB; have HB := n0_; have BK137 := n1_; have GW137 := n2_; have GE137 := n3_; clear n0_ n1_ n2_ n3_; clear hb hbox hg) | ((with_reducible refine gate_dst (N := 13) rfl ?_); refine Kd.R_make (Kd.int .u8) _ 5 rfl (N := 13) rfl 33 _ _ rfl ji3 rfl rfl Tryd.underlying33 (.int .u8 0) 1 info5 rfl (by decide) (by omega) 0 (ok := fun _ => True) (okp := fun _ => True) rfl (fun _ hk => hk) trivial (of_decide_eq_true (by first | (with_reducible assumption) | assumption)) (Nat.le_trans (Nat.mul_le_mul_right _ (of_decide_eq_true (by first | (with_reducible assumption) | assumption) : ji3.toNat ≤ 281474976710656)) (by omega)) (Below.refl _ _) (Nat.le_refl _) ?_; intro v139 w7 ho8 hb hg_ hnew_; clear hg_ hnew_; (first | rw [← Ny138.out] at ho8 | (simp only [Int.reduceToNat] at ho8; rw [← Ny138.out] at ho8)); have n0_ := Aside0.mk (Kd.R_lower ho8 (below_size (by repeat (first | (with_reducible first | exact HB.out | apply below_alloc | apply pw_below_drewN | apply below_drew1 | refine below_set ?_ GE137.out) | exact HB.out)))); have n1_ := Aside0.mk (blk_below (g := gb137) (o := .cells #[.int .i64 0, .bool false, .slice none 0 0, .int .i64 0] 39 (0, 0)) (by (with_reducible repeat (first | refine blk_drewN ?_ _ | refine blk_drew ?_ | refine blk_alloc ?_ _)); exact BK137.out) hb); have n2_ := Aside0.mk (below_step (by repeat (first | (with_reducible first | exact HB.out | apply below_alloc | apply pw_below_drewN | apply below_drew1 | refine below_set ?_ GE137.out) | exact HB.out)) hb); clear BK137; clear HB; have HO140 := n0_; have BK137 := n1_; have HB := n2_; clear n0_ n1_ n2_; clear hb ho8))
      go_loopg [15] k (fun kq v15 w' => ∃ (x5_1 : List Int) (x15_1 : Int), v15 = .int .i64 x15_1 ∧ Aside0 (laws_roomFor.l0 kq a0 a1 x5_1 a1 x15_1 = some (r1, r2, r3, r4)) ∧ Aside0 (kq ≤ k) ∧ Aside0 (Kd.R (Kd.int .u8) 5 w' w.heap.size (fun _ => True) v139 x5_1) ∧ Aside0 (w'.heap[gb137]? = some (.cells #[.int .i64 0, .bool false, (.slice none 0 0), .int .i64 0] 39 (0, 0))) ∧ Aside0 (Below w.heap.size w w'))
      case atStart => exact ⟨(y138), (0), (by first | rfl | (simp; done) | (simp [*]; done)), H', ⟨Nat.le_refl _⟩, ⟨by (with_reducible repeat (first | apply Kd.R_alloc | apply Kd.R_drewN | apply Kd.R_drew)); exact HO140.out⟩, ⟨by (with_reducible repeat (first | refine blk_drewN ?_ _ | refine blk_drew ?_ | refine blk_alloc ?_ _)); exact BK137.out⟩, ⟨by repeat (first | (with_reducible first | exact HB.out | apply below_alloc | apply pw_below_drewN | apply below_drew1 | refine below_set ?_ GE137.out) | exact HB.out)⟩⟩
      case round =>
        clear H'
        try clear p2
        try clear c4
        try clear c4b0
        try clear c4b1
        try clear c5
        try clear c5b0
        try clear c5b1
        try clear p6
        try clear c7
        obtain ⟨x5_1, x15_1, rfl, HA, HK1, HO_5, BK137, HB⟩ := hrel
        cases gk with
        | zero => exact absurd HA.out (by simp [laws_roomFor.l0])
        | succ k1 =>
          have H := HA.out
          clear HA
          simp only [laws_roomFor.l0] at H
          by_cases c9 : x15_1 < a1
          · rw [if_pos c9] at H
            have c9b0 : decide (x15_1 < a1) = true := decide_eq_true c9
            clear c9
            obtain ⟨ji10, hji10⟩ : ∃ j_ : Int, (wrap64 (Int.tdiv x15_1 8)) = j_ := ⟨_, rfl⟩
            replace H : (if 0 ≤ (ji10) then (if (ji10) < (x5_1.length : Int) then (if 0 ≤ (Int.tmod x15_1 8) then (laws_roomFor.l0 k1 a0 a1 (x5_1.set ((ji10) : Int).toNat (Go.bits .or .u8 (rd x5_1 (ji10)) (shl .u8 1 (Int.tmod x15_1 8)))) a1 (wrap64 (x15_1 + 1))) else (none)) else (none)) else (none)) = some (r1, r2, r3, r4) := by first | (rw [hji10] at H; exact H) | (simp only [hji10] at H ⊢; exact H)
            have hji10w : (IntKind.i64.wrap (Int.tdiv x15_1 8)) = ji10 := (i64_w _).trans hji10
            by_cases c11 : 0 ≤ (ji10)
            · rw [if_pos c11] at H
              have c11b0 : decide (0 ≤ (ji10)) = true := decide_eq_true c11
              clear c11
              by_cases c12 : (ji10) < (x5_1.length : Int)
              · rw [if_pos c12] at H
                have c12b0 : decide ((ji10) < (x5_1.length : Int)) = true := decide_eq_true c12
                clear c12
                obtain ⟨ji13, hji13⟩ : ∃ j_ : Int, (Int.tmod x15_1 8) = j_ := ⟨_, rfl⟩
                replace H : (if 0 ≤ (ji13) then (laws_roomFor.l0 k1 a0 a1 (x5_1.set ((ji10) : Int).toNat (Go.bits .or .u8 (rd x5_1 (ji10)) (shl .u8 1 (ji13)))) a1 (wrap64 (x15_1 + 1))) else (none)) = some (r1, r2, r3, r4) := by first | (rw [hji13] at H; exact H) | (simp only [hji13] at H ⊢; exact H)
                by_cases c14 : 0 ≤ (ji13)
                · rw [if_pos c14] at H
                  have c14b0 := eq_true c14
                  have c14b1 : decide (0 ≤ (ji13)) = true := decide_eq_true c14
                  clear c14
                  obtain ⟨ji15, hji15⟩ : ∃ j_ : Int, (shl .u8 1 (ji13)) = j_ := ⟨_, rfl⟩
                  replace H : (laws_roomFor.l0 k1 a0 a1 (x5_1.set ((ji10) : Int).toNat (Go.bits .or .u8 (rd x5_1 (ji10)) (ji15))) a1 (wrap64 (x15_1 + 1))) = some (r1, r2, r3, r4) := by first | (rw [hji15] at H; exact H) | (simp only [hji15] at H ⊢; exact H)
                  have hji15_ : (IntKind.u8.wrap (1 * 2 ^ min (ji13).toNat 8)) = ji15 := hji15
                  have hji15z : (ji13) ≤ 8 → (IntKind.u8.wrap (1 * 2 ^ (ji13).toNat)) = ji15 := shl_small hji15
                  have hji15u : (IntKind.u8.wrap (2 ^ min (ji13).toNat 8)) = ji15 := by have h_ := hji15_; rw [Int.one_mul] at h_; exact h_
                  have hji15v : (ji13) ≤ 8 → (IntKind.u8.wrap (2 ^ (ji13).toNat)) = ji15 := fun hle_ => by have h_ := hji15z hle_; rw [Int.one_mul] at h_; exact h_
                  obtain ⟨y142, hy142⟩ : ∃ y_ : List Int, y_ = (x5_1.set ((ji10) : Int).toNat (Go.bits .or .u8 (rd x5_1 (ji10)) (ji15))) := ⟨_, rfl⟩
                  replace H : (laws_roomFor.l0 k1 a0 a1 y142 a1 (wrap64 (x15_1 + 1))) = some (r1, r2, r3, r4) := by first | (rw [hy142]; with_reducible exact H) | (have H2_ := (Option.bind_some _ _).symm.trans H; rw [hy142]; with_reducible exact H2_) | (have H2_ := (Option.bind_some _ _).symm.trans H; with_reducible exact H2_) | with_reducible exact H | (rw [hy142]; exact H) | exact H
                  have Ny142 := Aside0.mk hy142
                  clear hy142
                  have H' := Aside0.mk H
                  clear H
                  try go_wp2
                  have n0_ := Aside0.mk (Kd.R_drew HO_5.out)
                  have n1_ := Aside0.mk (blk_drew BK137.out)
                  have n2_ := Aside0.mk (below_drew1 HB.out)
                  clear HO_5
                  clear BK137
                  clear HB
                  have HO_5 := n0_
                  have BK137 := n1_
                  have HB := n2_
                  clear n0_ n1_ n2_
                  obtain ⟨Ao18, co18, eo18⟩ := Kd.R_slice HO_5.out
                  (first | subst eo18 | (injection eo18 with f1_ f2_ f3_; have f4_ := f1_.symm; have f5_ := f3_.symm; clear f1_ f2_ f3_; subst f4_; subst f5_))
                  have p141 : 0 ≤ ((ji10) : Int) := of_decide_eq_true (by first | (with_reducible assumption) | assumption)
                  have q141 : (ji10) < (x5_1.length : Int) := of_decide_eq_true (by first | (with_reducible assumption) | assumption)
                  obtain ⟨ad141, e141, hx141_0⟩ := Kd.at_int (Kd.R_reads' HO_5.out).2.2 (ji10) p141 q141
                  cases e141
                  replace p141 := eq_true p141
                  replace q141 := eq_true q141
                  have p16 : 0 ≤ ((ji10) : Int) := of_decide_eq_true (by first | (with_reducible assumption) | assumption)
                  have q16 : ((ji10) : Int) < ((x5_1.length : Int) : Int) := of_decide_eq_true (by first | (with_reducible assumption) | assumption)
                  obtain ⟨go16, co16, eo16, gb16, gl16, cl16, HG16⟩ := Kd.R_form HO_5.out (by omega)
                  (first | cases eo16 | (injection eo16 with ea_ en_ ec_; (first | subst ea_ | (injection ea_ with ea_; subst ea_)); subst ec_; clear en_))
                  have GB16 := Aside0.mk gb16
                  have GG16 := Aside0.mk HG16
                  clear gb16 gl16 HG16
                  (first | simp only [add_plain] at hx141_0 | skip)
                  obtain ⟨hx16_0, hf16_0⟩ := Kd.R_celln 0 HO_5.out ((ji10) : Int) p16 q16
                  replace p16 := eq_true p16
                  replace q16 := eq_true q16
                  have HP19 := Kd.R_putn HO_5.out ((ji10) : Int) (Go.bits .or .u8 (rd x5_1 (ji10)) (ji15))
                  rw [← Ny142.out] at HP19
                  have HQ19 := Aside0.mk HP19
                  clear HP19
                  refine start_ (n := 11) (S := fun w' => w'.cell? ⟨go16, ((ji10)).toNat, none⟩ = some (.int .u8 (rd x5_1 (ji10)))) (ds := [10]) #[false, false, false, false, false, false, false, false, false, false, false] (by kernel_rfl) rfl rfl (hx141_0) (fun hHeld => ?_); refine with_tabW laws_roomFor.tab5 laws_roomFor.bits5 (fun HT_ HW_ => ?_)
                  generalize wr.drew = w17 at HO_5 BK137 HB GG16 HQ19 hf16_0 hx141_0 hx16_0 hHeld ⊢
                  refine pure_ (i := 0) (N := some 18) (v := ?_) (a' := ?_) #[true, false, false, false, false, false, false, false, false, false, false] rfl rfl (any_of HT_.out (by kernel_rfl)) (fun _ _ _ h => h) (Or.inl ⟨by rfl, ?_⟩) ?_ ?_
                  rotate_left
                  · intro w'
                    go_simp
                    with_reducible rfl
                  rotate_left
                  · simp only [Act.put, List.setIfInBounds_toArray, List.set_cons_zero, List.set_cons_succ, i64_w, i32_w]
                    rfl
                  refine pure_ (i := 1) (N := some 19) (v := ?_) (a' := ?_) #[true, true, false, false, false, false, false, false, false, false, false] rfl rfl (any_of HT_.out (by kernel_rfl)) (fun _ _ _ h => h) (Or.inl ⟨by rfl, ?_⟩) ?_ ?_
                  rotate_left
                  · intro w'
                    go_simp
                    with_reducible rfl
                  rotate_left
                  · simp only [Act.put, List.setIfInBounds_toArray, List.set_cons_zero, List.set_cons_succ, i64_w, i32_w]
                    rfl
                  refine pure_ (i := 2) (N := some 20) (v := ?_) (a' := ?_) #[true, true, true, false, false, false, false, false, false, false, false] rfl rfl (any_of HT_.out (by kernel_rfl)) (fun _ _ _ h => h) (Or.inl ⟨by rfl, ?_⟩) ?_ ?_
                  rotate_left
                  · intro w'
                    go_simp
                    with_reducible rfl
                  rotate_left
                  · simp only [Act.put, List.setIfInBounds_toArray, List.set_cons_zero, List.set_cons_succ, i64_w, i32_w]
                    rfl
                  refine pure_ (i := 3) (N := some 21) (v := ?_) (a' := ?_) #[true, true, true, true, false, false, false, false, false, false, false] rfl rfl (any_of HT_.out (by kernel_rfl)) (fun _ _ _ h => h) (Or.inl ⟨by rfl, ?_⟩) ?_ ?_
                  rotate_left
                  · intro w'
                    go_simp
                    with_reducible rfl
                  rotate_left
                  · simp only [Act.put, List.setIfInBounds_toArray, List.set_cons_zero, List.set_cons_succ, i64_w, i32_w]
                    rfl
                  refine pure_ (i := 5) (N := some 23) (v := ?_) (a' := ?_) #[true, true, true, true, false, true, false, false, false, false, false] rfl rfl (any_of HT_.out (by kernel_rfl)) (fun _ _ _ h => h) (Or.inl ⟨by rfl, ?_⟩) ?_ ?_
                  rotate_left
                  · intro w'
                    go_simp
                    with_reducible rfl
                  rotate_left
                  · simp only [Act.put, List.setIfInBounds_toArray, List.set_cons_zero, List.set_cons_succ, i64_w, i32_w]
                    rfl
                  refine pure_ (i := 6) (N := some 24) (v := ?_) (a' := ?_) #[true, true, true, true, false, true, true, false, false, false, false] rfl rfl (any_of HT_.out (by kernel_rfl)) (fun _ _ _ h => h) (Or.inl ⟨by rfl, ?_⟩) ?_ ?_
                  rotate_left
                  · intro w'
                    go_simp
                    with_reducible rfl
                  rotate_left
                  · simp only [Act.put, List.setIfInBounds_toArray, List.set_cons_zero, List.set_cons_succ, i64_w, i32_w]
                    rfl
                  refine pure_ (i := 7) (N := some 25) (v := ?_) (a' := ?_) #[true, true, true, true, false, true, true, true, false, false, false] rfl rfl (any_of HT_.out (by kernel_rfl)) (fun _ _ _ h => h) (Or.inl ⟨by rfl, ?_⟩) ?_ ?_
                  rotate_left
                  · intro w'
                    go_simp
                    with_reducible rfl
                  rotate_left
                  · simp only [Act.put, List.setIfInBounds_toArray, List.set_cons_zero, List.set_cons_succ, i64_w, i32_w]
                    rfl
                  refine take_ (i := 4) (N := some 22) (v := ?_) (a' := ?_) #[true, true, true, true, true, true, true, true, false, false, false] rfl rfl (take_ofW HT_.out HW_.out (by kernel_rfl)) (fun _ _ _ h => h) (Or.inl ⟨by rfl, ?_⟩) hHeld ?_ ?_
                  rotate_left
                  · intro w' s0
                    go_simp
                    with_reducible rfl
                  rotate_left
                  · simp only [Act.put, List.setIfInBounds_toArray, List.set_cons_zero, List.set_cons_succ, i64_w, i32_w]
                    rfl
                  refine pure_ (i := 8) (N := some 26) (v := ?_) (a' := ?_) #[true, true, true, true, true, true, true, true, true, false, false] rfl rfl (any_of HT_.out (by kernel_rfl)) (fun _ _ _ h => h) (Or.inl ⟨by rfl, ?_⟩) ?_ ?_
                  rotate_left
                  · intro w'
                    go_simp
                    with_reducible rfl
                  rotate_left
                  · simp only [Act.put, List.setIfInBounds_toArray, List.set_cons_zero, List.set_cons_succ, i64_w, i32_w]
                    rfl
                  refine pure_ (i := 9) (N := some 27) (v := ?_) (a' := ?_) #[true, true, true, true, true, true, true, true, true, true, false] rfl rfl (any_of HT_.out (by kernel_rfl)) (fun _ _ _ h => h) (Or.inl ⟨by rfl, ?_⟩) ?_ ?_
                  rotate_left
                  · intro w'
                    go_simp
                    with_reducible rfl
                  rotate_left
                  · simp only [Act.put, List.setIfInBounds_toArray, List.set_cons_zero, List.set_cons_succ, i64_w, i32_w]
                    rfl
                  refine last_ (i := 10) (N := none) #[true, true, true, true, true, true, true, true, true, true, true] rfl rfl (one_of HT_.out (by kernel_rfl)) (by decide) (fun K hK => ?_)
                  refine skip_ (w1 := ?_) (by rfl) rfl ?_ ?_
                  rotate_left
                  · go_simp
                    rfl
                  refine hK.out _ _ ?_
                  clear hK K
                  refine done_ (done_of HT_.out (by kernel_rfl)) ?_
                  try go_wp2
                  go_roundg k1
                  case measure => have := HK1.out; omega
                  case rel => exact ⟨(y142), (wrap64 (x15_1 + 1)), (by first | rfl | (simp; done) | (simp [*]; done)), H', ⟨by have := HK1.out; omega⟩, ⟨by (with_reducible repeat (first | apply Kd.R_alloc | apply Kd.R_drewN | apply Kd.R_drew)); exact HQ19.out⟩, ⟨by (with_reducible repeat (first | refine blk_drewN ?_ _ | refine blk_drew ?_ | refine blk_alloc ?_ _)); refine blk_far ?_ (by have h_ := Kd.R_ne HO_5.out BK137.out (by decide); intro e_; exact h_ (by rw [e_]; rfl)) _; (with_reducible repeat (first | refine blk_drewN ?_ _ | refine blk_drew ?_ | refine blk_alloc ?_ _)); exact BK137.out⟩, ⟨by repeat (first | (with_reducible first | exact HB.out | apply below_alloc | apply pw_below_drewN | apply below_drew1 | refine below_set ?_ GB16.out | refine below_set ?_ GE137.out) | exact HB.out)⟩⟩
                · rw [if_neg c14] at H
                  exact absurd H (by simp)
              · rw [if_neg c12] at H
                exact absurd H (by simp)
            · rw [if_neg c11] at H
              exact absurd H (by simp)
          · rw [if_neg c9] at H
            have c9b0 : decide (x15_1 < a1) = false := decide_eq_false c9
            clear c9
            simp only [Option.some.injEq, Prod.mk.injEq] at H
            obtain ⟨rfl, rfl, rfl, rfl⟩ := H
            obtain ⟨Ao20, co20, eo20⟩ := Kd.R_slice HO_5.out
            subst eo20
            have hcz21_0 : wr.cell? ⟨gb137, 0, none⟩ = some (.int .i64 0) := (blk_cell BK137.out 0).trans rfl
            have hcz21_1 : wr.cell? ⟨gb137, 1, none⟩ = some (.bool false) := (blk_cell BK137.out 1).trans rfl
            have hcz21_2 : wr.cell? ⟨gb137, 2, none⟩ = some (.slice none 0 0) := (blk_cell BK137.out 2).trans rfl
            have hcz21_3 : wr.cell? ⟨gb137, 3, none⟩ = some (.int .i64 0) := (blk_cell BK137.out 3).trans rfl
            have hfz21_0 := blk_frozen BK137.out 0
            have hfz21_1 := blk_frozen BK137.out 1
            have hfz21_2 := blk_frozen BK137.out 2
            have hfz21_3 := blk_frozen BK137.out 3
            go_wp2
            refine bodyPost_ret (results_cell_row rfl _ _ gb137 39 #[.int .i64 a0, .bool true, .slice Ao20 x5_1.length co20, .int .i64 a1] (0, 0) _ rfl (by (with_reducible repeat (first | refine blk_drewN ?_ _ | refine blk_drew ?_ | refine blk_alloc ?_ _)); refine blk_put (cs := #[.int .i64 a0, .bool true, .slice Ao20 x5_1.length co20, .int .i64 0]) ?_ 3 _ rfl; (with_reducible repeat (first | refine blk_drewN ?_ _ | refine blk_drew ?_ | refine blk_alloc ?_ _)); refine blk_put (cs := #[.int .i64 a0, .bool true, .slice none 0 0, .int .i64 0]) ?_ 2 _ rfl; (with_reducible repeat (first | refine blk_drewN ?_ _ | refine blk_drew ?_ | refine blk_alloc ?_ _)); refine blk_put (cs := #[.int .i64 a0, .bool false, .slice none 0 0, .int .i64 0]) ?_ 1 _ rfl; (with_reducible repeat (first | refine blk_drewN ?_ _ | refine blk_drew ?_ | refine blk_alloc ?_ _)); refine blk_put (cs := #[.int .i64 0, .bool false, .slice none 0 0, .int .i64 0]) ?_ 0 _ rfl; (with_reducible repeat (first | refine blk_drewN ?_ _ | refine blk_drew ?_ | refine blk_alloc ?_ _)); exact BK137.out) Tryd.underlying39 rfl (by kernel_rfl)) rfl ?_
            exact ⟨_, by first | rfl | (simp [errW_none, errW_some] <;> rfl) | (simp only [← hji3]; first | rfl | (simp [errW_none, errW_some] <;> rfl)) | (simp [*, errW_none, errW_some] <;> rfl), by (with_reducible repeat (first | apply Kd.R_alloc | apply Kd.R_drewN | apply Kd.R_drew)); exact Kd.R_mono (Kd.R_far (p := ⟨gb137, 3, none⟩) (Kd.R_far (p := ⟨gb137, 2, none⟩) (Kd.R_far (p := ⟨gb137, 1, none⟩) (Kd.R_far (p := ⟨gb137, 0, none⟩) (Kd.R_types HO_5.out BK137.out (by decide)) (fun _ hk => hk.2) (.int .i64 a0)) (fun _ hk => hk.2) (.bool true)) (fun _ hk => hk.2) (.slice Ao20 x5_1.length co20)) (fun _ hk => hk.2) (.int .i64 a1)) (fun _ hk => trivial), by repeat (first | (with_reducible first | exact HB.out | apply below_alloc | apply pw_below_drewN | apply below_drew1 | refine below_set ?_ GE137.out) | exact HB.out)⟩
    · rw [if_neg c5] at H
      exact absurd H (by simp)
  · rw [if_neg c4] at H
    exact absurd H (by simp)

/-! ### spec_Bit: function 22 -/
def spec_Bit.f (l0 : List Int) (a1 : Int) : Option (Bool) := if 0 ≤ (wrap64 (Int.tdiv a1 8)) then (if (wrap64 (Int.tdiv a1 8)) < (l0.length : Int) then (if 0 ≤ (Int.tmod a1 8) then (some ((Go.bits .and .u8 (shr .u8 (rd l0 (wrap64 (Int.tdiv a1 8))) (Int.tmod a1 8)) 1) == 1)) else (none)) else (none)) else (none)
set_option maxHeartbeats 8000000 in
set_option maxRecDepth 100000 in
theorem spec_Bit.calls (A0 : Option Addr) (c0 : Nat) (l0 : List Int) (a1 : Int) (r : Bool) (w : World) (hr0 : Kd.C (Kd.int .u8) w A0 l0.length l0) (hc0 : l0.length ≤ c0) (h : spec_Bit.f l0 a1 = some r) :
    Calls Tryd.prog 22 #[.slice A0 l0.length c0, .int .i64 a1] w fun e w' => e = .returned (.bool r) ∧ Drawn0 w w' := by
  have HR0 := Aside0.mk hr0
  have HC0 := Aside0.mk hc0
  clear hr0 hc0
  have H : (if 0 ≤ (wrap64 (Int.tdiv a1 8)) then (if (wrap64 (Int.tdiv a1 8)) < (l0.length : Int) then (if 0 ≤ (Int.tmod a1 8) then (some ((Go.bits .and .u8 (shr .u8 (rd l0 (wrap64 (Int.tdiv a1 8))) (Int.tmod a1 8)) 1) == 1)) else (none)) else (none)) else (none)) = some r := h
  clear h
  obtain ⟨ji3, hji3⟩ : ∃ j_ : Int, (wrap64 (Int.tdiv a1 8)) = j_ := ⟨_, rfl⟩
  replace H : (if 0 ≤ (ji3) then (if (ji3) < (l0.length : Int) then (if 0 ≤ (Int.tmod a1 8) then (some ((Go.bits .and .u8 (shr .u8 (rd l0 (ji3)) (Int.tmod a1 8)) 1) == 1)) else (none)) else (none)) else (none)) = some r := by first | (rw [hji3] at H; exact H) | (simp only [hji3] at H ⊢; exact H)
  have hji3w : (IntKind.i64.wrap (Int.tdiv a1 8)) = ji3 := (i64_w _).trans hji3
  by_cases c4 : 0 ≤ (ji3)
  · rw [if_pos c4] at H
    have c4b0 : decide (0 ≤ (ji3)) = true := decide_eq_true c4
    clear c4
    by_cases c5 : (ji3) < (l0.length : Int)
    · rw [if_pos c5] at H
      have c5b0 : decide ((ji3) < (l0.length : Int)) = true := decide_eq_true c5
      clear c5
      obtain ⟨ji6, hji6⟩ : ∃ j_ : Int, (Int.tmod a1 8) = j_ := ⟨_, rfl⟩
      replace H : (if 0 ≤ (ji6) then (some ((Go.bits .and .u8 (shr .u8 (rd l0 (ji3)) (ji6)) 1) == 1)) else (none)) = some r := by first | (rw [hji6] at H; exact H) | (simp only [hji6] at H ⊢; exact H)
      by_cases c7 : 0 ≤ (ji6)
      · rw [if_pos c7] at H
        have c7b0 := eq_true c7
        have c7b1 : decide (0 ≤ (ji6)) = true := decide_eq_true c7
        clear c7
        obtain ⟨ji8, hji8⟩ : ∃ j_ : Int, (shr .u8 (rd l0 (ji3)) (ji6)) = j_ := ⟨_, rfl⟩
        replace H : (some ((Go.bits .and .u8 (ji8) 1) == 1)) = some r := by first | (rw [hji8] at H; exact H) | (simp only [hji8] at H ⊢; exact H)
        have hji8_ : ((rd l0 (ji3)) / 2 ^ min (ji6).toNat 8) = ji8 := hji8
        have hji8z : (ji6) ≤ 8 → ((rd l0 (ji3)) / 2 ^ (ji6).toNat) = ji8 := shr_small hji8
        obtain rfl := Option.some.inj H
        have p143 : 0 ≤ ((ji3) : Int) := of_decide_eq_true (by first | (with_reducible assumption) | assumption)
        have q143 : (ji3) < (l0.length : Int) := of_decide_eq_true (by first | (with_reducible assumption) | assumption)
        obtain ⟨ad143, e143, hx143_0⟩ := Kd.at_int HR0.out (ji3) p143 q143
        cases e143
        replace p143 := eq_true p143
        replace q143 := eq_true q143
        go_enter Tryd.func22, Tryd.ntmps22
        go_wp2
        go_ret
        exact ⟨by first | rfl | (simp; done) | (simp only [← hji3, ← hji6, ← hji8] <;> (first | rfl | simp)) | (simp [*]; done), by repeat (first | exact Drawn0.refl _ | apply Drawn0.step)⟩
      · rw [if_neg c7] at H
        exact absurd H (by simp)
    · rw [if_neg c5] at H
      exact absurd H (by simp)
  · rw [if_neg c4] at H
    exact absurd H (by simp)

/-! ### spec_BitList: function 17 -/
mutual
def spec_BitList.j0 : Nat → List Int → Int → Int → Bool → Option (List Bool × Bool)
  | 0, _, _, _, _ => none
  | k + 1, x0, x1, x2, x24 => if x24 = true then (some (([] : List Bool), false)) else (if 0 ≤ x2 then (if (x2 : Int).toNat ≤ 281474976710656 then ((some (List.replicate (x2 : Int).toNat false : List Bool)).bind fun y144 => (spec_BitList.l0 k x0 x1 y144 (y144.length : Int) 0)) else (none)) else (none))
def spec_BitList.l0 : Nat → List Int → Int → List Bool → Int → Int → Option (List Bool × Bool)
  | 0, _, _, _, _, _ => none
  | k + 1, x0, x1, x8, x28, x29 => if x29 < x28 then ((spec_Bit.f x0 (wrap64 (x1 + x29))).bind fun t147 => (if 0 ≤ x29 then (if x29 < (x8.length : Int) then (spec_BitList.l0 k x0 x1 (x8.set (x29 : Int).toNat t147) x28 (wrap64 (x29 + 1))) else (none)) else (none))) else (some (x8, true))
end
def spec_BitList.f (k : Nat) (l0 : List Int) (a1 : Int) (a2 : Int) : Option (List Bool × Bool) := if a1 < 0 then (spec_BitList.j0 k l0 a1 a2 true) else (if a2 < 0 then (spec_BitList.j0 k l0 a1 a2 true) else (spec_BitList.j0 k l0 a1 a2 (decide (a1 > (wrap64 ((wrap64 (8 * (l0.length : Int))) - a2))))))
theorem spec_BitList.mono_l : ∀ k, (∀ y0 y1 y2 y3, LeO (spec_BitList.j0 k y0 y1 y2 y3) (spec_BitList.j0 (k + 1) y0 y1 y2 y3)) ∧ (∀ y0 y1 y2 y3 y4, LeO (spec_BitList.l0 k y0 y1 y2 y3 y4) (spec_BitList.l0 (k + 1) y0 y1 y2 y3 y4))
  | 0 => ⟨fun _ _ _ _ r h => by simp [spec_BitList.j0] at h, fun _ _ _ _ _ r h => by simp [spec_BitList.l0] at h⟩
  | k + 1 => by
    obtain ⟨ih0, ih1⟩ := spec_BitList.mono_l k
    refine ⟨?_, ?_⟩
    · intro y0 y1 y2 y3
      unfold spec_BitList.j0
      repeat' first
      | (with_reducible exact ih0 _ _ _ _)
      | (with_reducible exact ih1 _ _ _ _ _)
      | (with_reducible exact LeO.refl _)
      | (with_reducible exact LeO.none _)
      | (with_reducible refine LeO.ite ?_ ?_)
      | (with_reducible refine LeO.bind ?_ (fun _ => ?_))
      | exact ih0 _ _ _ _
      | exact ih1 _ _ _ _ _
      | exact LeO.none _
      | refine LeO.ite ?_ ?_
      | refine LeO.bind ?_ (fun _ => ?_)
    · intro y0 y1 y2 y3 y4
      unfold spec_BitList.l0
      repeat' first
      | (with_reducible exact ih0 _ _ _ _)
      | (with_reducible exact ih1 _ _ _ _ _)
      | (with_reducible exact LeO.refl _)
      | (with_reducible exact LeO.none _)
      | (with_reducible refine LeO.ite ?_ ?_)
      | (with_reducible refine LeO.bind ?_ (fun _ => ?_))
      | exact ih0 _ _ _ _
      | exact ih1 _ _ _ _ _
      | exact LeO.none _
      | refine LeO.ite ?_ ?_
      | refine LeO.bind ?_ (fun _ => ?_)
theorem spec_BitList.mono : ∀ a0 a1 a2 k, LeO (spec_BitList.f k a0 a1 a2) (spec_BitList.f (k + 1) a0 a1 a2) := by
  intro a0 a1 a2 k
  obtain ⟨ih0, ih1⟩ := spec_BitList.mono_l k
  unfold spec_BitList.f
  repeat' first
      | (with_reducible exact ih0 _ _ _ _)
      | (with_reducible exact ih1 _ _ _ _ _)
      | (with_reducible exact LeO.refl _)
      | (with_reducible exact LeO.none _)
      | (with_reducible refine LeO.ite ?_ ?_)
      | (with_reducible refine LeO.bind ?_ (fun _ => ?_))
      | exact ih0 _ _ _ _
      | exact ih1 _ _ _ _ _
      | exact LeO.none _
      | refine LeO.ite ?_ ?_
      | refine LeO.bind ?_ (fun _ => ?_)
set_option maxHeartbeats 8000000 in
set_option maxRecDepth 100000 in
theorem spec_BitList.calls (k : Nat) (A0 : Option Addr) (c0 : Nat) (l0 : List Int) (a1 : Int) (a2 : Int) (r1 : List Bool) (r2 : Bool) (w : World) (hr0 : Kd.C (Kd.int .u8) w A0 l0.length l0) (hc0 : l0.length ≤ c0) (h : spec_BitList.f k l0 a1 a2 = some (r1, r2)) :
    Calls Tryd.prog 17 #[.slice A0 l0.length c0, .int .i64 a1, .int .i64 a2] w fun e w' => ∃ v0_ : Value, e = .returned (.tuple #[v0_, .bool r2]) ∧ Kd.R Kd.bool 4 w' w.heap.size (fun _ => True) v0_ r1 ∧ Below w.heap.size w w' := by
  have HR0 := Aside0.mk hr0
  have HC0 := Aside0.mk hc0
  clear hr0 hc0
  have HB := Aside0.mk (Below.refl w.heap.size w)
  have H : (if a1 < 0 then (spec_BitList.j0 k l0 a1 a2 true) else (if a2 < 0 then (spec_BitList.j0 k l0 a1 a2 true) else (spec_BitList.j0 k l0 a1 a2 (decide (a1 > (wrap64 ((wrap64 (8 * (l0.length : Int))) - a2))))))) = some (r1, r2) := h
  clear h
  have HC4 := Aside0.mk H
  clear H
  go_enter Tryd.func17, Tryd.ntmps17
  go_upto_region 1 with (fail)
  go_cut [24] (fun v24 wc => ∃ (kq : Nat) (x24_3 : Bool), v24 = .bool x24_3 ∧ Aside0 (spec_BitList.j0 kq l0 a1 a2 x24_3 = some (r1, r2)) ∧ Aside0 (kq ≤ k) ∧ Aside0 (Below w.heap.size w wc))
  case first =>
    have H := HC4.out
    clear HC4
    by_cases c5 : a1 < 0
    · rw [if_pos c5] at H
      have c5b0 : decide (a1 < 0) = true := decide_eq_true c5
      clear c5
      (first | rw [c5b0] | (simp only [i64_w, i32_w]; rw [c5b0]) | skip)
      have H' := Aside0.mk H
      clear H
      go_wp2
      go_meet
      case rel => exact ⟨_, (true), (by first | rfl | (simp; done) | (simp [*]; done)), H', ⟨by first | omega | exact Nat.le_refl _⟩, ⟨by repeat (first | (with_reducible first | exact HB.out | apply below_alloc | apply pw_below_drewN | apply below_drew1) | exact HB.out)⟩⟩
    · rw [if_neg c5] at H
      have c5b0 : decide (a1 < 0) = false := decide_eq_false c5
      clear c5
      (first | rw [c5b0] | (simp only [i64_w, i32_w]; rw [c5b0]) | skip)
      by_cases c6 : a2 < 0
      · rw [if_pos c6] at H
        have c6b0 : decide (a2 < 0) = true := decide_eq_true c6
        clear c6
        have H' := Aside0.mk H
        clear H
        go_wp2
        go_meet
        case rel => exact ⟨_, (true), (by first | rfl | (simp; done) | (simp [*]; done)), H', ⟨by first | omega | exact Nat.le_refl _⟩, ⟨by repeat (first | (with_reducible first | exact HB.out | apply below_alloc | apply pw_below_drewN | apply below_drew1) | exact HB.out)⟩⟩
      · rw [if_neg c6] at H
        have c6b0 : decide (a2 < 0) = false := decide_eq_false c6
        clear c6
        have H' := Aside0.mk H
        clear H
        go_wp2
        go_meet
        case rel => exact ⟨_, (decide (a1 > (wrap64 ((wrap64 (8 * (l0.length : Int))) - a2)))), (by first | rfl | (simp; done) | (simp [*]; done)), H', ⟨by first | omega | exact Nat.le_refl _⟩, ⟨by repeat (first | (with_reducible first | exact HB.out | apply below_alloc | apply pw_below_drewN | apply below_drew1) | exact HB.out)⟩⟩
  case rest =>
    clear HC4
    try clear c1
    try clear p2
    try clear c5
    try clear c5b0
    try clear c6
    try clear c6b0
    try clear p6
    obtain ⟨kq, x24_3, rfl, HA, HJ3, HB⟩ := hcut
    cases kq with
    | zero => exact absurd HA.out (by simp [spec_BitList.j0])
    | succ kj3 =>
      have H := HA.out
      clear HA
      simp only [spec_BitList.j0] at H
      by_cases c7 : x24_3 = true
      · subst c7
        have H1 : (some (([] : List Bool), false)) = some (r1, r2) := by rw [if_pos rfl] at H; exact H
        clear H
        have H := H1
        clear H1
        simp only [Option.some.injEq, Prod.mk.injEq] at H
        obtain ⟨rfl, rfl⟩ := H
        go_wp2
        go_ret2
        exact ⟨_, by first | rfl | (simp [errW_none, errW_some] <;> rfl) | (simp [*, errW_none, errW_some] <;> rfl), by first | exact Kd.R_nil _ _ _ _ _ | exact Kd.N_nil _ _ _ _ _ | exact Kd.V_nil _ _ _ _ _ | exact Kd.Q_nil _ _ _ _ _ | exact Kd.S_nil _ _ _ _ _, by repeat (first | (with_reducible first | exact HB.out | apply below_alloc | apply pw_below_drewN | apply below_drew1) | exact HB.out)⟩
      · replace c7 := Bool.eq_false_iff.mpr c7
        subst c7
        have H1 : (if 0 ≤ a2 then (if (a2 : Int).toNat ≤ 281474976710656 then ((some (List.replicate (a2 : Int).toNat false : List Bool)).bind fun y144 => (spec_BitList.l0 kj3 l0 a1 y144 (y144.length : Int) 0)) else (none)) else (none)) = some (r1, r2) := by rw [if_neg (show ¬ (false = true) by decide)] at H; exact H
        clear H
        have H := H1
        clear H1
        by_cases c8 : 0 ≤ a2
        · rw [if_pos c8] at H
          have c8b0 := eq_true c8
          have c8b1 : decide (0 ≤ a2) = true := decide_eq_true c8
          clear c8
          by_cases c9 : (a2 : Int).toNat ≤ 281474976710656
          · rw [if_pos c9] at H
            have c9b0 := eq_true c9
            have c9b1 : decide ((a2 : Int).toNat ≤ 281474976710656) = true := decide_eq_true c9
            clear c9
            obtain ⟨y144, hy144⟩ : ∃ y_ : List Bool, y_ = (List.replicate (a2 : Int).toNat false) := ⟨_, rfl⟩
            replace H : (spec_BitList.l0 kj3 l0 a1 y144 (y144.length : Int) 0) = some (r1, r2) := by first | (rw [hy144]; with_reducible exact H) | (have H2_ := (Option.bind_some _ _).symm.trans H; rw [hy144]; with_reducible exact H2_) | (have H2_ := (Option.bind_some _ _).symm.trans H; with_reducible exact H2_) | with_reducible exact H | (rw [hy144]; exact H) | exact H
            have Ny144 := Aside0.mk hy144
            clear hy144
            have H' := Aside0.mk H
            clear H
            go_wp2_with (first | ((with_reducible refine gate_dst (N := 26) rfl ?_); (try (refine gate_guard (by rfl) ?_; dsimp only)); refine Kd.R_make Kd.bool _ 4 rfl (N := 26) rfl 61 _ _ rfl a2 rfl rfl Tryd.underlying61 (.bool false) 1 info4 rfl (by decide) (by omega) false (ok := fun _ => True) (okp := fun _ => True) rfl (fun _ hk => hk) trivial (of_decide_eq_true (by first | (with_reducible assumption) | assumption)) (Nat.le_trans (Nat.mul_le_mul_right _ (of_decide_eq_true (by first | (with_reducible assumption) | assumption) : a2.toNat ≤ 281474976710656)) (by omega)) (Below.refl _ _) (Nat.le_refl _) ?_; intro v145 w10 ho11 hb hg_ hnew_; clear hg_ hnew_; (first | rw [← Ny144.out] at ho11 | (simp only [Int.reduceToNat] at ho11; rw [← Ny144.out] at ho11)); have n0_ := Aside0.mk (Kd.R_lower ho11 (below_size (by repeat (first | (with_reducible first | exact HB.out | apply below_alloc | apply pw_below_drewN | apply below_drew1) | exact HB.out)))); have n1_ := Aside0.mk (below_step (by repeat (first | (with_reducible first | exact HB.out | apply below_alloc | apply pw_below_drewN | apply below_drew1) | exact HB.out)) hb); clear HB; have HO146 := n0_; have HB := n1_; clear n0_ n1_; clear hb ho11; obtain ⟨Ao12, co12, eo12⟩ := Kd.R_slice HO146.out; subst eo12))
            go_loopg [29] kj3 (fun kq v29 w' => ∃ (x8_2 : List Bool) (x29_2 : Int), v29 = .int .i64 x29_2 ∧ Aside0 (spec_BitList.l0 kq l0 a1 x8_2 (y144.length : Int) x29_2 = some (r1, r2)) ∧ Aside0 (kq ≤ kj3) ∧ Aside0 (Kd.R Kd.bool 4 w' w.heap.size (fun _ => True) (.slice Ao12 y144.length co12) x8_2) ∧ Aside0 (Below w.heap.size w w'))
            case atStart => exact ⟨(y144), (0), (by first | rfl | (simp; done) | (simp [*]; done)), H', ⟨Nat.le_refl _⟩, ⟨by (with_reducible repeat (first | apply Kd.R_alloc | apply Kd.R_drewN | apply Kd.R_drew)); exact HO146.out⟩, ⟨by repeat (first | (with_reducible first | exact HB.out | apply below_alloc | apply pw_below_drewN | apply below_drew1) | exact HB.out)⟩⟩
            case round =>
              clear H'
              try clear c1
              try clear p2
              try clear c5
              try clear c5b0
              try clear c6
              try clear c6b0
              try clear p6
              try clear c7
              try clear c8
              try clear c8b0
              try clear c8b1
              try clear c9
              try clear c9b0
              try clear c9b1
              try clear p2
              try clear p6
              obtain ⟨x8_2, x29_2, rfl, HA, HK2, HO_8, HB⟩ := hrel
              have hl8_2 := (Kd.R_reads' HO_8.out).1
              rw [hl8_2] at HO_8
              (try simp only [hl8_2])
              cases gk with
              | zero => exact absurd HA.out (by simp [spec_BitList.l0])
              | succ k2 =>
                have H := HA.out
                clear HA
                simp only [spec_BitList.l0] at H
                by_cases c13 : x29_2 < (y144.length : Int)
                · rw [if_pos c13] at H
                  have c13b0 : decide (x29_2 < (y144.length : Int)) = true := decide_eq_true c13
                  clear c13
                  replace H := Option.bind_eq_some_iff.mp H
                  obtain ⟨t147, A140, H⟩ := H
                  replace H : (if 0 ≤ x29_2 then (if x29_2 < (x8_2.length : Int) then (spec_BitList.l0 k2 l0 a1 (x8_2.set (x29_2 : Int).toNat t147) (y144.length : Int) (wrap64 (x29_2 + 1))) else (none)) else (none)) = some (r1, r2) := H
                  have A14 := Aside0.mk A140
                  clear A140
                  by_cases c15 : 0 ≤ x29_2
                  · rw [if_pos c15] at H
                    have c15b0 : decide (0 ≤ x29_2) = true := decide_eq_true c15
                    clear c15
                    by_cases c16 : x29_2 < (x8_2.length : Int)
                    · rw [if_pos c16] at H
                      have c16b0 : decide (x29_2 < (x8_2.length : Int)) = true := decide_eq_true c16
                      clear c16
                      obtain ⟨y148, hy148⟩ : ∃ y_ : List Bool, y_ = (x8_2.set (x29_2 : Int).toNat t147) := ⟨_, rfl⟩
                      replace H : (spec_BitList.l0 k2 l0 a1 y148 (y144.length : Int) (wrap64 (x29_2 + 1))) = some (r1, r2) := by first | (rw [hy148]; with_reducible exact H) | (have H2_ := (Option.bind_some _ _).symm.trans H; rw [hy148]; with_reducible exact H2_) | (have H2_ := (Option.bind_some _ _).symm.trans H; with_reducible exact H2_) | with_reducible exact H | (rw [hy148]; exact H) | exact H
                      have Ny148 := Aside0.mk hy148
                      clear hy148
                      have H' := Aside0.mk H
                      clear H
                      go_wp2_with (first | ((with_reducible refine gate_callee (f := 22) rfl ?_); refine goesL_ (some 38) rfl rfl Tryd.func22 (by kernel_rfl) rfl #[.slice A0 l0.length c0, .int .i64 (wrap64 (a1 + x29_2))] rfl (by (try simp only [List.map_toArray, List.map_cons, List.map_nil]); first | done | rfl | (simp only [List.length_drop, List.length_take]; rfl)) ?_; (with_reducible refine (spec_Bit.calls _ _ l0 (wrap64 (a1 + x29_2)) t147 _ ?side1 ?side2 A14.out).mono ?_); (case side1 => repeat (first | exact (Kd.C_below HR0.out HB.out) | (with_reducible refine Kd.C_alloc ?_ _) | (with_reducible refine Kd.C_drewN ?_ _) | (with_reducible refine Kd.C_drew ?_))); (case side2 => exact HC0.out); rintro e w' ⟨rfl, ⟨nd, rfl⟩⟩; refine ⟨_, rfl, ?_⟩; (try (rw [drewN_self wr]; generalize hq_ : World.drewN wr _ = wr; have n0_ : Aside0 (Kd.R Kd.bool 4 wr w.heap.size (fun _ => True) (.slice Ao12 x8_2.length co12) x8_2) := ⟨by rw [← hq_]; exact (by (with_reducible repeat (first | apply Kd.R_alloc | apply Kd.R_drewN | apply Kd.R_drew)); exact HO_8.out)⟩; have n1_ : Aside0 (Below w.heap.size w wr) := ⟨by rw [← hq_]; exact (by repeat (first | (with_reducible first | exact HB.out | apply below_alloc | apply pw_below_drewN | apply below_drew1) | exact HB.out))⟩; clear HO_8 HB hq_; have HO_8 := n0_; have HB := n1_; clear n0_ n1_)); have p17 : 0 ≤ (x29_2 : Int) := of_decide_eq_true (by first | (with_reducible assumption) | assumption); have q17 : (x29_2 : Int) < ((x8_2.length : Int) : Int) := of_decide_eq_true (by first | (with_reducible assumption) | assumption); obtain ⟨go17, co17, eo17, gb17, gl17, cl17, HG17⟩ := Kd.R_form HO_8.out (by omega); (first | cases eo17 | (injection eo17 with ea_ en_ ec_; (first | subst ea_ | (injection ea_ with ea_; subst ea_)); subst ec_; clear en_)); have GB17 := Aside0.mk gb17; have GG17 := Aside0.mk HG17; clear gb17 gl17 HG17; obtain ⟨hx17_0, hf17_0⟩ := Kd.R_celln false HO_8.out (x29_2 : Int) p17 q17; replace p17 := eq_true p17; replace q17 := eq_true q17; obtain ⟨hy18_, hz18_⟩ := Kd.R_celln false HO_8.out (x29_2 : Int) (of_decide_eq_true (by first | (with_reducible assumption) | assumption)) (of_decide_eq_true (by first | (with_reducible assumption) | assumption)); have HP18 := Kd.R_putg HO_8.out (x29_2 : Int) t147) | ((with_reducible refine gate_store (t := 4) (p := 39) rfl ?_); refine store_event (t := 4) (p := 39) (v := ?vo_w19) (w1 := (wr.setCell ⟨go17, (x29_2 : Int).toNat, none⟩ (.bool t147))) ?hg ?ho ?hn ?hr ?_; (case ho => rfl); (case hg => rfl); (case hn => rfl); (case hr => first | (go_simp; done) | (go_simp; rfl)); intro w19 hw; have hg : wr.grownBy w19 (some go17) := (by rw [hw]; exact HP18.2); have hp_ : Kd.R Kd.bool 4 w19 w.heap.size (fun _ => True) (.slice (some ⟨go17, 0, none⟩) x8_2.length co12) y148 := (by rw [hw, Ny148.out]; exact HP18.1); clear HP18; have n0_ := Aside0.mk (hp_); have n1_ := Aside0.mk ((by rw [hw]; exact below_set (HB.out) GB17.out : Below w.heap.size w w19)); clear HO_8; clear HB; have HO_8 := n0_; have HB := n1_; clear n0_ n1_; clear hg hw hp_))
                      (try simp only [← hl8_2])
                      go_roundg k2
                      case measure => have := HJ3.out; have := HK2.out; omega
                      case rel => exact ⟨(y148), (wrap64 (x29_2 + 1)), (by first | rfl | (simp; done) | (simp [*]; done)), H', ⟨by have := HJ3.out; have := HK2.out; omega⟩, ⟨by (try simp only [hl8_2]); (with_reducible repeat (first | apply Kd.R_alloc | apply Kd.R_drewN | apply Kd.R_drew)); exact HO_8.out⟩, ⟨by repeat (first | (with_reducible first | exact HB.out | apply below_alloc | apply pw_below_drewN | apply below_drew1) | exact HB.out)⟩⟩
                    · rw [if_neg c16] at H
                      exact absurd H (by simp)
                  · rw [if_neg c15] at H
                    exact absurd H (by simp)
                · rw [if_neg c13] at H
                  have c13b0 : decide (x29_2 < (y144.length : Int)) = false := decide_eq_false c13
                  (try rw [hl8_2] at c13b0)
                  clear c13
                  simp only [Option.some.injEq, Prod.mk.injEq] at H
                  obtain ⟨rfl, rfl⟩ := H
                  go_wp2
                  go_ret2
                  exact ⟨_, by first | rfl | (simp [errW_none, errW_some] <;> rfl) | (simp [*, errW_none, errW_some] <;> rfl), by (with_reducible repeat (first | apply Kd.R_alloc | apply Kd.R_drewN | apply Kd.R_drew)); exact HO_8.out, by repeat (first | (with_reducible first | exact HB.out | apply below_alloc | apply pw_below_drewN | apply below_drew1) | exact HB.out)⟩
          · rw [if_neg c9] at H
            exact absurd H (by simp)
        · rw [if_neg c8] at H
          exact absurd H (by simp)

/-! ### spec_SameBools: function 18 -/
def spec_SameBools.l0 : Nat → List Bool → List Bool → Int → Int → Option (Bool)
  | 0, _, _, _, _ => none
  | k + 1, x0, x1, x12, x13 => if x13 < x12 then (if 0 ≤ x13 then (if x13 < (x0.length : Int) then (if x13 < (x1.length : Int) then (if ((rdOf false x0 x13) != (rdOf false x1 x13)) = true then (some false) else (spec_SameBools.l0 k x0 x1 x12 (wrap64 (x13 + 1)))) else (none)) else (none)) else (none)) else (some true)
def spec_SameBools.f (k : Nat) (l0 : List Bool) (l1 : List Bool) : Option (Bool) := if (l0.length : Int) = (l1.length : Int) then (spec_SameBools.l0 k l0 l1 (l0.length : Int) 0) else (some false)
theorem spec_SameBools.mono_l : ∀ k, (∀ y0 y1 y2 y3, LeO (spec_SameBools.l0 k y0 y1 y2 y3) (spec_SameBools.l0 (k + 1) y0 y1 y2 y3))
  | 0 => fun _ _ _ _ r h => by simp [spec_SameBools.l0] at h
  | k + 1 => by
    have ih0 := spec_SameBools.mono_l k
    · intro y0 y1 y2 y3
      unfold spec_SameBools.l0
      repeat' first
      | (with_reducible exact ih0 _ _ _ _)
      | (with_reducible exact LeO.refl _)
      | (with_reducible exact LeO.none _)
      | (with_reducible refine LeO.ite ?_ ?_)
      | (with_reducible refine LeO.bind ?_ (fun _ => ?_))
      | exact ih0 _ _ _ _
      | exact LeO.none _
      | refine LeO.ite ?_ ?_
      | refine LeO.bind ?_ (fun _ => ?_)
theorem spec_SameBools.mono : ∀ a0 a1 k, LeO (spec_SameBools.f k a0 a1) (spec_SameBools.f (k + 1) a0 a1) := by
  intro a0 a1 k
  have ih0 := spec_SameBools.mono_l k
  unfold spec_SameBools.f
  repeat' first
      | (with_reducible exact ih0 _ _ _ _)
      | (with_reducible exact LeO.refl _)
      | (with_reducible exact LeO.none _)
      | (with_reducible refine LeO.ite ?_ ?_)
      | (with_reducible refine LeO.bind ?_ (fun _ => ?_))
      | exact ih0 _ _ _ _
      | exact LeO.none _
      | refine LeO.ite ?_ ?_
      | refine LeO.bind ?_ (fun _ => ?_)
set_option maxHeartbeats 8000000 in
set_option maxRecDepth 100000 in
theorem spec_SameBools.calls (k : Nat) (A0 : Option Addr) (c0 : Nat) (l0 : List Bool) (A1 : Option Addr) (c1 : Nat) (l1 : List Bool) (r : Bool) (w : World) (hr0 : Kd.C Kd.bool w A0 l0.length l0) (hc0 : l0.length ≤ c0) (hr1 : Kd.C Kd.bool w A1 l1.length l1) (hc1 : l1.length ≤ c1) (h : spec_SameBools.f k l0 l1 = some r) :
    Calls Tryd.prog 18 #[.slice A0 l0.length c0, .slice A1 l1.length c1] w fun e w' => e = .returned (.bool r) ∧ Drawn0 w w' := by
  have HR0 := Aside0.mk hr0
  have HC0 := Aside0.mk hc0
  clear hr0 hc0
  have HR1 := Aside0.mk hr1
  have HC1 := Aside0.mk hc1
  clear hr1 hc1
  have H : (if (l0.length : Int) = (l1.length : Int) then (spec_SameBools.l0 k l0 l1 (l0.length : Int) 0) else (some false)) = some r := h
  clear h
  by_cases c3 : (l0.length : Int) = (l1.length : Int)
  · rw [if_pos c3] at H
    have c3b0 : ((l0.length : Int) == (l1.length : Int)) = true := beq_iff_eq.mpr c3
    have c3b1 : ((l0.length : Int) != (l1.length : Int)) = false := bne_eq_false_iff_eq.mpr c3
    have c3b2 : (l0.length == l1.length) = true := by first | simpa using c3 | (simp at c3 ⊢; omega)
    clear c3
    have H' := Aside0.mk H
    clear H
    go_enter Tryd.func18, Tryd.ntmps18
    go_wp2
    repeat (go_quiet (fail); try go_wp2)
    go_loopg [13] k (fun kq v13 w' => ∃ (x13_1 : Int), v13 = .int .i64 x13_1 ∧ Aside0 (spec_SameBools.l0 kq l0 l1 (l0.length : Int) x13_1 = some r) ∧ Aside0 (kq ≤ k) ∧ Drawn0 w w')
    case atStart => exact ⟨(0), (by first | rfl | (simp; done) | (simp [*]; done)), H', ⟨Nat.le_refl _⟩, by repeat (first | exact Drawn0.refl _ | apply Drawn0.step)⟩
    case round =>
      clear H'
      try clear c1
      try clear p2
      try clear c3
      try clear c3b0
      try clear c3b1
      try clear c3b2
      obtain ⟨x13_1, rfl, HA, HK1, ⟨m1, rfl⟩⟩ := hrel
      cases gk with
      | zero => exact absurd HA.out (by simp [spec_SameBools.l0])
      | succ k1 =>
        have H := HA.out
        clear HA
        simp only [spec_SameBools.l0] at H
        by_cases c4 : x13_1 < (l0.length : Int)
        · rw [if_pos c4] at H
          have c4b0 : decide (x13_1 < (l0.length : Int)) = true := decide_eq_true c4
          clear c4
          by_cases c5 : 0 ≤ x13_1
          · rw [if_pos c5] at H
            have c5b0 : decide (0 ≤ x13_1) = true := decide_eq_true c5
            clear c5
            by_cases c6 : x13_1 < (l0.length : Int)
            · rw [if_pos c6] at H
              have c6b0 : decide (x13_1 < (l0.length : Int)) = true := decide_eq_true c6
              clear c6
              by_cases c7 : x13_1 < (l1.length : Int)
              · rw [if_pos c7] at H
                have c7b0 : decide (x13_1 < (l1.length : Int)) = true := decide_eq_true c7
                clear c7
                by_cases c8 : ((rdOf false l0 x13_1) != (rdOf false l1 x13_1)) = true
                · rw [if_pos c8] at H
                  have c8b0 : ((rdOf false l0 x13_1) != (rdOf false l1 x13_1)) = true := c8
                  (try (have c8b1 : decide ((rdOf false l0 x13_1) = (rdOf false l1 x13_1)) = false := by simpa using c8))
                  (try (have c8b2 : ((rdOf false l0 x13_1) == (rdOf false l1 x13_1)) = false := by simpa using c8))
                  (try (have c8b3 : ¬ ((rdOf false l0 x13_1) = (rdOf false l1 x13_1)) := by simpa using c8))
                  clear c8
                  obtain rfl := Option.some.inj H
                  have p149 : 0 ≤ (x13_1 : Int) := of_decide_eq_true (by first | (with_reducible assumption) | assumption)
                  have q149 : x13_1 < (l0.length : Int) := of_decide_eq_true (by first | (with_reducible assumption) | assumption)
                  obtain ⟨ad149, e149, hx149_0⟩ := Kd.at_bool HR0.out x13_1 p149 q149
                  cases e149
                  replace p149 := eq_true p149
                  replace q149 := eq_true q149
                  have p150 : 0 ≤ (x13_1 : Int) := of_decide_eq_true (by first | (with_reducible assumption) | assumption)
                  have q150 : x13_1 < (l1.length : Int) := of_decide_eq_true (by first | (with_reducible assumption) | assumption)
                  obtain ⟨ad150, e150, hx150_0⟩ := Kd.at_bool HR1.out x13_1 p150 q150
                  cases e150
                  replace p150 := eq_true p150
                  replace q150 := eq_true q150
                  go_wp2
                  repeat (go_quiet (fail); try go_wp2)
                  go_ret
                  exact ⟨by first | rfl | (simp; done) | (simp [*]; done), by repeat (first | exact Drawn0.refl _ | apply Drawn0.step)⟩
                · rw [if_neg c8] at H
                  have c8b0 : ((rdOf false l0 x13_1) != (rdOf false l1 x13_1)) = false := by simpa using c8
                  (try (have c8b1 : decide ((rdOf false l0 x13_1) = (rdOf false l1 x13_1)) = true := by simpa using c8))
                  (try (have c8b2 : ((rdOf false l0 x13_1) == (rdOf false l1 x13_1)) = true := by simpa using c8))
                  clear c8
                  have H' := Aside0.mk H
                  clear H
                  have p149 : 0 ≤ (x13_1 : Int) := of_decide_eq_true (by first | (with_reducible assumption) | assumption)
                  have q149 : x13_1 < (l0.length : Int) := of_decide_eq_true (by first | (with_reducible assumption) | assumption)
                  obtain ⟨ad149, e149, hx149_0⟩ := Kd.at_bool HR0.out x13_1 p149 q149
                  cases e149
                  replace p149 := eq_true p149
                  replace q149 := eq_true q149
                  have p150 : 0 ≤ (x13_1 : Int) := of_decide_eq_true (by first | (with_reducible assumption) | assumption)
                  have q150 : x13_1 < (l1.length : Int) := of_decide_eq_true (by first | (with_reducible assumption) | assumption)
                  obtain ⟨ad150, e150, hx150_0⟩ := Kd.at_bool HR1.out x13_1 p150 q150
                  cases e150
                  replace p150 := eq_true p150
                  replace q150 := eq_true q150
                  go_wp2
                  repeat (go_quiet (fail); try go_wp2)
                  go_roundg k1
                  case measure => have := HK1.out; omega
                  case rel => exact ⟨(wrap64 (x13_1 + 1)), (by first | rfl | (simp; done) | (simp [*]; done)), H', ⟨by have := HK1.out; omega⟩, by repeat (first | exact Drawn0.refl _ | apply Drawn0.step)⟩
              · rw [if_neg c7] at H
                exact absurd H (by simp)
            · rw [if_neg c6] at H
              exact absurd H (by simp)
          · rw [if_neg c5] at H
            exact absurd H (by simp)
        · rw [if_neg c4] at H
          have c4b0 : decide (x13_1 < (l0.length : Int)) = false := decide_eq_false c4
          clear c4
          obtain rfl := Option.some.inj H
          go_wp2
          repeat (go_quiet (fail); try go_wp2)
          go_ret
          exact ⟨by first | rfl | (simp; done) | (simp [*]; done), by repeat (first | exact Drawn0.refl _ | apply Drawn0.step)⟩
  · rw [if_neg c3] at H
    have c3b0 : ((l0.length : Int) == (l1.length : Int)) = false := beq_eq_false_iff_ne.mpr c3
    have c3b1 : ((l0.length : Int) != (l1.length : Int)) = true := bne_iff_ne.mpr c3
    have c3b2 : (l0.length == l1.length) = false := by first | simpa using c3 | (simp at c3 ⊢; omega)
    obtain rfl := Option.some.inj H
    go_enter Tryd.func18, Tryd.ntmps18
    go_wp2
    repeat (go_quiet (fail); try go_wp2)
    go_ret
    exact ⟨by first | rfl | (simp; done) | (simp [*]; done), by repeat (first | exact Drawn0.refl _ | apply Drawn0.step)⟩

/-! ### laws_present: function 19 -/
def laws_present.l0 : Nat → List Bool → List (S25) → Int → Int → Option (List Bool)
  | 0, _, _, _, _ => none
  | k + 1, x3, x6, x7, x8 => if x8 < x7 then (if 0 ≤ x8 then (if x8 < (x6.length : Int) then (if x3.length < 140737488355328 then (laws_present.l0 k (x3 ++ [!((rd_T25 x6 x8).f0)]) x6 x7 (wrap64 (x8 + 1))) else (none)) else (none)) else (none)) else (some x3)
def laws_present.f (k : Nat) (l0 : List (S25)) : Option (List Bool) := laws_present.l0 k ([] : List Bool) l0 (l0.length : Int) 0
theorem laws_present.mono_l : ∀ k, (∀ y0 y1 y2 y3, LeO (laws_present.l0 k y0 y1 y2 y3) (laws_present.l0 (k + 1) y0 y1 y2 y3))
  | 0 => fun _ _ _ _ r h => by simp [laws_present.l0] at h
  | k + 1 => by
    have ih0 := laws_present.mono_l k
    · intro y0 y1 y2 y3
      unfold laws_present.l0
      repeat' first
      | (with_reducible exact ih0 _ _ _ _)
      | (with_reducible exact LeO.refl _)
      | (with_reducible exact LeO.none _)
      | (with_reducible refine LeO.ite ?_ ?_)
      | (with_reducible refine LeO.bind ?_ (fun _ => ?_))
      | exact ih0 _ _ _ _
      | exact LeO.none _
      | refine LeO.ite ?_ ?_
      | refine LeO.bind ?_ (fun _ => ?_)
theorem laws_present.mono : ∀ a0 k, LeO (laws_present.f k a0) (laws_present.f (k + 1) a0) := by
  intro a0 k
  have ih0 := laws_present.mono_l k
  unfold laws_present.f
  repeat' first
      | (with_reducible exact ih0 _ _ _ _)
      | (with_reducible exact LeO.refl _)
      | (with_reducible exact LeO.none _)
      | (with_reducible refine LeO.ite ?_ ?_)
      | (with_reducible refine LeO.bind ?_ (fun _ => ?_))
      | exact ih0 _ _ _ _
      | exact LeO.none _
      | refine LeO.ite ?_ ?_
      | refine LeO.bind ?_ (fun _ => ?_)
set_option maxHeartbeats 8000000 in
set_option maxRecDepth 100000 in
theorem laws_present.calls (k : Nat) (A0 : Option Addr) (c0 : Nat) (l0 : List (S25)) (r : List Bool) (w : World) (hr0 : Kd.C k25 w A0 l0.length l0) (hc0 : l0.length ≤ c0) (h : laws_present.f k l0 = some r) :
    Calls Tryd.prog 19 #[.slice A0 l0.length c0] w fun e w' => ∃ v0_ : Value, e = .returned (v0_) ∧ Kd.R Kd.bool 4 w' w.heap.size (fun _ => True) v0_ r ∧ Below w.heap.size w w' := by
  have hu25 := Tryd.underlying25
  have HR0 := Aside0.mk hr0
  have HC0 := Aside0.mk hc0
  clear hr0 hc0
  have HB := Aside0.mk (Below.refl w.heap.size w)
  have H : (laws_present.l0 k ([] : List Bool) l0 (l0.length : Int) 0) = some r := h
  clear h
  have H' := Aside0.mk H
  clear H
  go_enter Tryd.func19, Tryd.ntmps19
  go_wp2
  go_loopg [3, 8] k (fun kq v3 v8 w' => ∃ (x3_1 : List Bool) (x8_1 : Int), v8 = .int .i64 x8_1 ∧ Aside0 (laws_present.l0 kq x3_1 l0 (l0.length : Int) x8_1 = some r) ∧ Aside0 (kq ≤ k) ∧ Aside0 (Kd.R Kd.bool 4 w' w.heap.size (fun _ => True) v3 x3_1) ∧ Aside0 (Below w.heap.size w w'))
  case atStart => exact ⟨(([] : List Bool)), (0), (by first | rfl | (simp; done) | (simp [*]; done)), H', ⟨Nat.le_refl _⟩, ⟨by first | exact Kd.R_nil _ _ _ _ _ | exact Kd.N_nil _ _ _ _ _ | exact Kd.V_nil _ _ _ _ _ | exact Kd.Q_nil _ _ _ _ _ | exact Kd.S_nil _ _ _ _ _⟩, ⟨by repeat (first | (with_reducible first | exact HB.out | apply below_alloc | apply pw_below_drewN | apply below_drew1) | exact HB.out)⟩⟩
  case round =>
    clear H'
    try clear c1
    obtain ⟨x3_1, x8_1, rfl, HA, HK1, HO_3, HB⟩ := hrel
    cases gk with
    | zero => exact absurd HA.out (by simp [laws_present.l0])
    | succ k1 =>
      have H := HA.out
      clear HA
      simp only [laws_present.l0] at H
      by_cases c2 : x8_1 < (l0.length : Int)
      · rw [if_pos c2] at H
        have c2b0 : decide (x8_1 < (l0.length : Int)) = true := decide_eq_true c2
        clear c2
        by_cases c3 : 0 ≤ x8_1
        · rw [if_pos c3] at H
          have c3b0 : decide (0 ≤ x8_1) = true := decide_eq_true c3
          clear c3
          by_cases c4 : x8_1 < (l0.length : Int)
          · rw [if_pos c4] at H
            have c4b0 : decide (x8_1 < (l0.length : Int)) = true := decide_eq_true c4
            clear c4
            by_cases c5 : x3_1.length < 140737488355328
            · rw [if_pos c5] at H
              have LMc5 := Aside0.mk c5
              clear c5
              obtain ⟨y153, hy153⟩ : ∃ y_ : List Bool, y_ = (x3_1 ++ [!((rd_T25 l0 x8_1).f0)]) := ⟨_, rfl⟩
              replace H : (laws_present.l0 k1 y153 l0 (l0.length : Int) (wrap64 (x8_1 + 1))) = some r := by first | (rw [hy153]; with_reducible exact H) | (have H2_ := (Option.bind_some _ _).symm.trans H; rw [hy153]; with_reducible exact H2_) | (have H2_ := (Option.bind_some _ _).symm.trans H; with_reducible exact H2_) | with_reducible exact H | (rw [hy153]; exact H) | exact H
              have Ny153 := Aside0.mk hy153
              clear hy153
              have H' := Aside0.mk H
              clear H
              have p151 : 0 ≤ (x8_1 : Int) := of_decide_eq_true (by first | (with_reducible assumption) | assumption)
              have q151 : x8_1 < (l0.length : Int) := of_decide_eq_true (by first | (with_reducible assumption) | assumption)
              obtain ⟨ad151, A151_3, c151_3, e151, hx151_0, hx151_1, hx151_2, hx151_3, hl151_3, hi151_3⟩ := at_T25 HR0.out x8_1 p151 q151
              cases e151
              replace hx151_0 := (HB.out.cell (World.block_lt_of_cell? w _ hx151_0)).trans hx151_0
              replace hx151_1 := (HB.out.cell (World.block_lt_of_cell? w _ hx151_1)).trans hx151_1
              replace hx151_2 := (HB.out.cell (World.block_lt_of_cell? w _ hx151_2)).trans hx151_2
              replace hx151_3 := (HB.out.cell (World.block_lt_of_cell? w _ hx151_3)).trans hx151_3
              have HR151_3 := Aside0.mk hi151_3
              have HC151_3 := Aside0.mk hl151_3
              clear hi151_3 hl151_3
              replace p151 := eq_true p151
              replace q151 := eq_true q151
              go_wp2_with (first | ((with_reducible refine gate_dst (N := 5) rfl ?_); refine box_event ?hg (N := 5) ?hd (cs := #[.bool false, .int .u64 0, .string (⟨#[]⟩ : ByteArray), .slice none 0 0]) (t := 25) ?hr ?_; (case hd => rfl); (case hg => rfl); (case hr => first | (go_simp; done) | (go_simp; rfl)); intro gb152 hg w6 hbox hb; have n0_ := Aside0.mk (Kd.R_below (by (with_reducible repeat (first | apply Kd.R_alloc | apply Kd.R_drewN | apply Kd.R_drew)); exact HO_3.out) hb); have n1_ := Aside0.mk (below_step (by repeat (first | (with_reducible first | exact HB.out | apply below_alloc | apply pw_below_drewN | apply below_drew1) | exact HB.out)) hb); have n2_ := Aside0.mk (hbox); have n3_ := Aside0.mk ((by rw [hg]; exact (below_size (by repeat (first | (with_reducible first | exact HB.out | apply below_alloc | apply pw_below_drewN | apply below_drew1) | exact HB.out))) : w.heap.size ≤ gb152)); have n4_ := Aside0.mk ((by rw [hg]; exact (below_size (by repeat (first | (with_reducible first | exact HB.out | apply below_alloc | apply pw_below_drewN | apply below_drew1) | exact HB.out))) : w.heap.size ≤ gb152)); clear HO_3; clear HB; have HO_3 := n0_; have HB := n1_; have BK152 := n2_; have GW152 := n3_; have GE152 := n4_; clear n0_ n1_ n2_ n3_ n4_; clear hb hbox hg; have hcz7_0 : w6.cell? ⟨gb152, 0, none⟩ = some (.bool false) := (blk_cell BK152.out 0).trans rfl; have hcz7_1 : w6.cell? ⟨gb152, 1, none⟩ = some (.int .u64 0) := (blk_cell BK152.out 1).trans rfl; have hcz7_2 : w6.cell? ⟨gb152, 2, none⟩ = some (.string (⟨#[]⟩ : ByteArray)) := (blk_cell BK152.out 2).trans rfl; have hcz7_3 : w6.cell? ⟨gb152, 3, none⟩ = some (.slice none 0 0) := (blk_cell BK152.out 3).trans rfl; have hfz7_0 := blk_frozen BK152.out 0; have hfz7_1 := blk_frozen BK152.out 1; have hfz7_2 := blk_frozen BK152.out 2; have hfz7_3 := blk_frozen BK152.out 3) | ((with_reducible refine gate_builtin (b := .append) (xs := #[.tmp 12, .tmp 16]) rfl ?_); at_builtin; refine Kd.R_append Kd.bool (w0 := w) w.heap.size rfl (.tmp 12) (.tmp 16) 61 4 (.bool false) 1 rfl Tryd.underlying61 info4 rfl (by decide) (by omega) u3 x3_1 (!((rd_T25 l0 x8_1).f0)) [.bool (!((rd_T25 l0 x8_1).f0))] (fun _ => True) (fun _ => False) rfl (by first | (go_simp; done) | (go_simp; rfl)) ?aP (fun _ hk => hk.elim) ?aF ?aO ?aB ?aS ?aL ?_; (case aP => exact rfl); (case aB => exact (by repeat (first | (with_reducible first | exact HB.out | apply below_alloc | apply pw_below_drewN | apply below_drew1 | refine below_set ?_ GE152.out) | exact HB.out))); (case aF => exact (fun _ _ => trivial)); (case aO => exact (by (with_reducible repeat (first | apply Kd.R_alloc | apply Kd.R_drewN | apply Kd.R_drew)); exact Kd.R_mono (Kd.R_far (p := ⟨gb152, 3, none⟩) (Kd.R_far (p := ⟨gb152, 2, none⟩) (Kd.R_far (p := ⟨gb152, 1, none⟩) (Kd.R_far (p := ⟨gb152, 0, none⟩) (Kd.R_types HO_3.out BK152.out (by decide)) (fun _ hk => hk.2) (.bool ((rd_T25 l0 x8_1).f0))) (fun _ hk => hk.2) (.int .u64 ((rd_T25 l0 x8_1).f1))) (fun _ hk => hk.2) (.string ((rd_T25 l0 x8_1).f2))) (fun _ hk => hk.2) (.slice A151_3 ((rd_T25 l0 x8_1).f3).length c151_3)) (fun _ hk => trivial))); (case aS => exact (below_size (by repeat (first | (with_reducible first | exact HB.out | apply below_alloc | apply pw_below_drewN | apply below_drew1 | refine below_set ?_ GE152.out) | exact HB.out)))); (case aL => have := LMc5.out; omega); intro v154 w8 ho hb hg hat; rw [← Ny153.out] at ho; have n0_ := Aside0.mk (blk_grown (g := gb152) (o := .cells #[.bool ((rd_T25 l0 x8_1).f0), .int .u64 ((rd_T25 l0 x8_1).f1), .string ((rd_T25 l0 x8_1).f2), .slice A151_3 ((rd_T25 l0 x8_1).f3).length c151_3] 25 (0, 0)) (by (with_reducible repeat (first | refine blk_drewN ?_ _ | refine blk_drew ?_ | refine blk_alloc ?_ _)); refine blk_put (cs := #[.bool ((rd_T25 l0 x8_1).f0), .int .u64 ((rd_T25 l0 x8_1).f1), .string ((rd_T25 l0 x8_1).f2), .slice none 0 0]) ?_ 3 _ rfl; (with_reducible repeat (first | refine blk_drewN ?_ _ | refine blk_drew ?_ | refine blk_alloc ?_ _)); refine blk_put (cs := #[.bool ((rd_T25 l0 x8_1).f0), .int .u64 ((rd_T25 l0 x8_1).f1), .string (⟨#[]⟩ : ByteArray), .slice none 0 0]) ?_ 2 _ rfl; (with_reducible repeat (first | refine blk_drewN ?_ _ | refine blk_drew ?_ | refine blk_alloc ?_ _)); refine blk_put (cs := #[.bool ((rd_T25 l0 x8_1).f0), .int .u64 0, .string (⟨#[]⟩ : ByteArray), .slice none 0 0]) ?_ 1 _ rfl; (with_reducible repeat (first | refine blk_drewN ?_ _ | refine blk_drew ?_ | refine blk_alloc ?_ _)); refine blk_put (cs := #[.bool false, .int .u64 0, .string (⟨#[]⟩ : ByteArray), .slice none 0 0]) ?_ 0 _ rfl; (with_reducible repeat (first | refine blk_drewN ?_ _ | refine blk_drew ?_ | refine blk_alloc ?_ _)); exact BK152.out) hg (Kd.R_ne HO_3.out BK152.out (by decide))); have n1_ := Aside0.mk (hb); have n2_ := Aside0.mk (ho); clear BK152; clear HB; clear HO_3; have BK152 := n0_; have HB := n1_; have HO155 := n2_; clear n0_ n1_ n2_; clear ho hb hg hat))
              go_roundg k1
              case measure => have := HK1.out; omega
              case rel => exact ⟨(y153), (wrap64 (x8_1 + 1)), (by first | rfl | (simp; done) | (simp [*]; done)), H', ⟨by have := HK1.out; omega⟩, ⟨by (with_reducible repeat (first | apply Kd.R_alloc | apply Kd.R_drewN | apply Kd.R_drew)); exact HO155.out⟩, ⟨by repeat (first | (with_reducible first | exact HB.out | apply below_alloc | apply pw_below_drewN | apply below_drew1 | refine below_set ?_ GE152.out) | exact HB.out)⟩⟩
            · rw [if_neg c5] at H
              exact absurd H (by simp)
          · rw [if_neg c4] at H
            exact absurd H (by simp)
        · rw [if_neg c3] at H
          exact absurd H (by simp)
      · rw [if_neg c2] at H
        have c2b0 : decide (x8_1 < (l0.length : Int)) = false := decide_eq_false c2
        clear c2
        obtain rfl := Option.some.inj H
        go_wp2
        go_ret
        exact ⟨_, by first | rfl | (simp [errW_none, errW_some] <;> rfl) | (simp [*, errW_none, errW_some] <;> rfl), by (with_reducible repeat (first | apply Kd.R_alloc | apply Kd.R_drewN | apply Kd.R_drew)); exact HO_3.out, by repeat (first | (with_reducible first | exact HB.out | apply below_alloc | apply pw_below_drewN | apply below_drew1) | exact HB.out)⟩

end Go.Proofs.YtjipnopadpedoaaDoor.PFnLevelStructs
