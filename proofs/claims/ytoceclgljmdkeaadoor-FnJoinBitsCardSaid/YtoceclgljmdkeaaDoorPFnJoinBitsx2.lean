/- WRITTEN BY A PROGRAM OF THIS WORK (fix_g.py) AFTER THE PRINT: one row more at the end of the list of bits. -/
import Derived.Test.YtoceclgljmdkeaaDoorPFnJoinBitsx0
import Derived.Test.YtoceclgljmdkeaaDoorPFnJoinBitsx1
namespace Go.Proofs.YtoceclgljmdkeaaDoor.PFnJoinBits
open Go.RowKit Go.Proofs.YtoceclgljmdkeaaDoorW.PrintWords Go.Proofs.YtoceclgljmdkeaaDoorW.PrintLast Go.Proofs.YtoceclgljmdkeaaDoorW.PrintMore
attribute [local go_sem] max2_int min2_int max_two min_two max_three min_three max_four min_four   -- for this text's walks alone
set_option linter.unusedVariables false
set_option linter.unusedSimpArgs false

/-! ### spec_BitList: function 7 -/
mutual
def spec_BitList.j0 : Nat → List Int → Int → Int → Bool → Option (List Bool × Bool)
  | 0, _, _, _, _ => none
  | k + 1, x0, x1, x2, x24 => if x24 = true then (some (([] : List Bool), false)) else (if 0 ≤ x2 then (if (x2 : Int).toNat ≤ 281474976710656 then ((some (List.replicate (x2 : Int).toNat false : List Bool)).bind fun y124 => (spec_BitList.l0 k x0 x1 y124 (y124.length : Int) 0)) else (none)) else (none))
def spec_BitList.l0 : Nat → List Int → Int → List Bool → Int → Int → Option (List Bool × Bool)
  | 0, _, _, _, _, _ => none
  | k + 1, x0, x1, x8, x28, x29 => if x29 < x28 then ((spec_Bit.f x0 (wrap64 (x1 + x29))).bind fun t127 => (if 0 ≤ x29 then (if x29 < (x8.length : Int) then (spec_BitList.l0 k x0 x1 (x8.set (x29 : Int).toNat t127) x28 (wrap64 (x29 + 1))) else (none)) else (none))) else (some (x8, true))
end
def spec_BitList.f (k : Nat) (l0 : List Int) (a1 : Int) (a2 : Int) : Option (List Bool × Bool) := if a1 < 0 then (spec_BitList.j0 k l0 a1 a2 true) else (if a2 < 0 then (spec_BitList.j0 k l0 a1 a2 true) else (spec_BitList.j0 k l0 a1 a2 (decide (a1 > (wrap64 ((wrap64 (8 * (l0.length : Int))) - a2))))))
theorem spec_BitList.mono_l : ∀ k, (∀ y0 y1 y2 y3, LeO (spec_BitList.j0 k y0 y1 y2 y3) (spec_BitList.j0 (k + 1) y0 y1 y2 y3)) ∧ (∀ y0 y1 y2 y3 y4, LeO (spec_BitList.l0 k y0 y1 y2 y3 y4) (spec_BitList.l0 (k + 1) y0 y1 y2 y3 y4))
  | 0 => ⟨fun _ _ _ _ r h => by simp [spec_BitList.j0] at h, fun _ _ _ _ _ r h => by simp [spec_BitList.l0] at h⟩
  | k + 1 => by
    obtain ⟨ih0, ih1⟩ := spec_BitList.mono_l k
    refine ⟨?_, ?_⟩
    · intro y0 y1 y2 y3
      unfold spec_BitList.j0
      repeat' first
      | (with_reducible exact ih0 _ _ _ _)
      | (with_reducible exact ih1 _ _ _ _ _)
      | (with_reducible exact LeO.refl _)
      | (with_reducible exact LeO.none _)
      | (with_reducible refine LeO.ite ?_ ?_)
      | (with_reducible refine LeO.bind ?_ (fun _ => ?_))
      | exact ih0 _ _ _ _
      | exact ih1 _ _ _ _ _
      | exact LeO.none _
      | refine LeO.ite ?_ ?_
      | refine LeO.bind ?_ (fun _ => ?_)
    · intro y0 y1 y2 y3 y4
      unfold spec_BitList.l0
      repeat' first
      | (with_reducible exact ih0 _ _ _ _)
      | (with_reducible exact ih1 _ _ _ _ _)
      | (with_reducible exact LeO.refl _)
      | (with_reducible exact LeO.none _)
      | (with_reducible refine LeO.ite ?_ ?_)
      | (with_reducible refine LeO.bind ?_ (fun _ => ?_))
      | exact ih0 _ _ _ _
      | exact ih1 _ _ _ _ _
      | exact LeO.none _
      | refine LeO.ite ?_ ?_
      | refine LeO.bind ?_ (fun _ => ?_)
theorem spec_BitList.mono : ∀ a0 a1 a2 k, LeO (spec_BitList.f k a0 a1 a2) (spec_BitList.f (k + 1) a0 a1 a2) := by
  intro a0 a1 a2 k
  obtain ⟨ih0, ih1⟩ := spec_BitList.mono_l k
  unfold spec_BitList.f
  repeat' first
      | (with_reducible exact ih0 _ _ _ _)
      | (with_reducible exact ih1 _ _ _ _ _)
      | (with_reducible exact LeO.refl _)
      | (with_reducible exact LeO.none _)
      | (with_reducible refine LeO.ite ?_ ?_)
      | (with_reducible refine LeO.bind ?_ (fun _ => ?_))
      | exact ih0 _ _ _ _
      | exact ih1 _ _ _ _ _
      | exact LeO.none _
      | refine LeO.ite ?_ ?_
      | refine LeO.bind ?_ (fun _ => ?_)
set_option maxHeartbeats 8000000 in
set_option maxRecDepth 100000 in
theorem spec_BitList.calls (k : Nat) (A0 : Option Addr) (c0 : Nat) (l0 : List Int) (a1 : Int) (a2 : Int) (r1 : List Bool) (r2 : Bool) (w : World) (hr0 : Kd.C (Kd.int .u8) w A0 l0.length l0) (hc0 : l0.length ≤ c0) (h : spec_BitList.f k l0 a1 a2 = some (r1, r2)) :
    Calls Tryd.prog 7 #[.slice A0 l0.length c0, .int .i64 a1, .int .i64 a2] w fun e w' => ∃ v0_ : Value, e = .returned (.tuple #[v0_, .bool r2]) ∧ Kd.R Kd.bool 4 w' w.heap.size (fun _ => True) v0_ r1 ∧ Below w.heap.size w w' := by
  have HR0 := Aside0.mk hr0
  have HC0 := Aside0.mk hc0
  clear hr0 hc0
  have HB := Aside0.mk (Below.refl w.heap.size w)
  have H : (if a1 < 0 then (spec_BitList.j0 k l0 a1 a2 true) else (if a2 < 0 then (spec_BitList.j0 k l0 a1 a2 true) else (spec_BitList.j0 k l0 a1 a2 (decide (a1 > (wrap64 ((wrap64 (8 * (l0.length : Int))) - a2))))))) = some (r1, r2) := h
  clear h
  have HC4 := Aside0.mk H
  clear H
  go_enter Tryd.func7, Tryd.ntmps7
  go_upto_region 1 with (fail)
  go_cut [24] (fun v24 wc => ∃ (kq : Nat) (x24_3 : Bool), v24 = .bool x24_3 ∧ Aside0 (spec_BitList.j0 kq l0 a1 a2 x24_3 = some (r1, r2)) ∧ Aside0 (kq ≤ k) ∧ Aside0 (Below w.heap.size w wc))
  case first =>
    have H := HC4.out
    clear HC4
    by_cases c5 : a1 < 0
    · rw [if_pos c5] at H
      have c5b0 : decide (a1 < 0) = true := decide_eq_true c5
      clear c5
      (first | rw [c5b0] | (simp only [i64_w, i32_w]; rw [c5b0]) | skip)
      have H' := Aside0.mk H
      clear H
      go_wp2
      go_meet
      case rel => exact ⟨_, (true), (by first | rfl | (simp; done) | (simp [*]; done)), H', ⟨by first | omega | exact Nat.le_refl _⟩, ⟨by repeat (first | (with_reducible first | exact HB.out | apply below_alloc | apply pw_below_drewN | apply below_drew1) | exact HB.out)⟩⟩
    · rw [if_neg c5] at H
      have c5b0 : decide (a1 < 0) = false := decide_eq_false c5
      clear c5
      (first | rw [c5b0] | (simp only [i64_w, i32_w]; rw [c5b0]) | skip)
      by_cases c6 : a2 < 0
      · rw [if_pos c6] at H
        have c6b0 : decide (a2 < 0) = true := decide_eq_true c6
        clear c6
        have H' := Aside0.mk H
        clear H
        go_wp2
        go_meet
        case rel => exact ⟨_, (true), (by first | rfl | (simp; done) | (simp [*]; done)), H', ⟨by first | omega | exact Nat.le_refl _⟩, ⟨by repeat (first | (with_reducible first | exact HB.out | apply below_alloc | apply pw_below_drewN | apply below_drew1) | exact HB.out)⟩⟩
      · rw [if_neg c6] at H
        have c6b0 : decide (a2 < 0) = false := decide_eq_false c6
        clear c6
        have H' := Aside0.mk H
        clear H
        go_wp2
        go_meet
        case rel => exact ⟨_, (decide (a1 > (wrap64 ((wrap64 (8 * (l0.length : Int))) - a2)))), (by first | rfl | (simp; done) | (simp [*]; done)), H', ⟨by first | omega | exact Nat.le_refl _⟩, ⟨by repeat (first | (with_reducible first | exact HB.out | apply below_alloc | apply pw_below_drewN | apply below_drew1) | exact HB.out)⟩⟩
  case rest =>
    clear HC4
    try clear p2
    try clear c5
    try clear c5b0
    try clear c6
    try clear c6b0
    try clear p6
    obtain ⟨kq, x24_3, rfl, HA, HJ3, HB⟩ := hcut
    cases kq with
    | zero => exact absurd HA.out (by simp [spec_BitList.j0])
    | succ kj3 =>
      have H := HA.out
      clear HA
      simp only [spec_BitList.j0] at H
      by_cases c7 : x24_3 = true
      · subst c7
        have H1 : (some (([] : List Bool), false)) = some (r1, r2) := by rw [if_pos rfl] at H; exact H
        clear H
        have H := H1
        clear H1
        simp only [Option.some.injEq, Prod.mk.injEq] at H
        obtain ⟨rfl, rfl⟩ := H
        go_wp2
        go_ret2
        exact ⟨_, by first | rfl | (simp [errW_none, errW_some] <;> rfl) | (simp [*, errW_none, errW_some] <;> rfl), by first | exact Kd.R_nil _ _ _ _ _ | exact Kd.N_nil _ _ _ _ _ | exact Kd.V_nil _ _ _ _ _ | exact Kd.Q_nil _ _ _ _ _ | exact Kd.S_nil _ _ _ _ _, by repeat (first | (with_reducible first | exact HB.out | apply below_alloc | apply pw_below_drewN | apply below_drew1) | exact HB.out)⟩
      · replace c7 := Bool.eq_false_iff.mpr c7
        subst c7
        have H1 : (if 0 ≤ a2 then (if (a2 : Int).toNat ≤ 281474976710656 then ((some (List.replicate (a2 : Int).toNat false : List Bool)).bind fun y124 => (spec_BitList.l0 kj3 l0 a1 y124 (y124.length : Int) 0)) else (none)) else (none)) = some (r1, r2) := by rw [if_neg (show ¬ (false = true) by decide)] at H; exact H
        clear H
        have H := H1
        clear H1
        by_cases c8 : 0 ≤ a2
        · rw [if_pos c8] at H
          have c8b0 := eq_true c8
          have c8b1 : decide (0 ≤ a2) = true := decide_eq_true c8
          clear c8
          by_cases c9 : (a2 : Int).toNat ≤ 281474976710656
          · rw [if_pos c9] at H
            have c9b0 := eq_true c9
            have c9b1 : decide ((a2 : Int).toNat ≤ 281474976710656) = true := decide_eq_true c9
            clear c9
            obtain ⟨y124, hy124⟩ : ∃ y_ : List Bool, y_ = (List.replicate (a2 : Int).toNat false) := ⟨_, rfl⟩
            replace H : (spec_BitList.l0 kj3 l0 a1 y124 (y124.length : Int) 0) = some (r1, r2) := by first | (rw [hy124]; with_reducible exact H) | (have H2_ := (Option.bind_some _ _).symm.trans H; rw [hy124]; with_reducible exact H2_) | (have H2_ := (Option.bind_some _ _).symm.trans H; with_reducible exact H2_) | with_reducible exact H | (rw [hy124]; exact H) | exact H
            have Ny124 := Aside0.mk hy124
            clear hy124
            have H' := Aside0.mk H
            clear H
            go_wp2_with (first | ((with_reducible refine gate_dst (N := 26) rfl ?_); (try (refine gate_guard (by rfl) ?_; dsimp only)); refine Kd.R_make Kd.bool _ 4 rfl (N := 26) rfl 29 _ _ rfl a2 rfl rfl Tryd.underlying29 (.bool false) 1 info4 rfl (by decide) (by omega) false (ok := fun _ => True) (okp := fun _ => True) rfl (fun _ hk => hk) trivial (of_decide_eq_true (by first | (with_reducible assumption) | assumption)) (Nat.le_trans (Nat.mul_le_mul_right _ (of_decide_eq_true (by first | (with_reducible assumption) | assumption) : a2.toNat ≤ 281474976710656)) (by omega)) (Below.refl _ _) (Nat.le_refl _) ?_; intro v125 w10 ho11 hb hg_ hnew_; clear hg_ hnew_; (first | rw [← Ny124.out] at ho11 | (simp only [Int.reduceToNat] at ho11; rw [← Ny124.out] at ho11)); have n0_ := Aside0.mk (Kd.R_lower ho11 (below_size (by repeat (first | (with_reducible first | exact HB.out | apply below_alloc | apply pw_below_drewN | apply below_drew1) | exact HB.out)))); have n1_ := Aside0.mk (below_step (by repeat (first | (with_reducible first | exact HB.out | apply below_alloc | apply pw_below_drewN | apply below_drew1) | exact HB.out)) hb); clear HB; have HO126 := n0_; have HB := n1_; clear n0_ n1_; clear hb ho11; obtain ⟨Ao12, co12, eo12⟩ := Kd.R_slice HO126.out; subst eo12))
            go_loopg [29] kj3 (fun kq v29 w' => ∃ (x8_2 : List Bool) (x29_2 : Int), v29 = .int .i64 x29_2 ∧ Aside0 (spec_BitList.l0 kq l0 a1 x8_2 (y124.length : Int) x29_2 = some (r1, r2)) ∧ Aside0 (kq ≤ kj3) ∧ Aside0 (Kd.R Kd.bool 4 w' w.heap.size (fun _ => True) (.slice Ao12 y124.length co12) x8_2) ∧ Aside0 (Below w.heap.size w w'))
            case atStart => exact ⟨(y124), (0), (by first | rfl | (simp; done) | (simp [*]; done)), H', ⟨Nat.le_refl _⟩, ⟨by (with_reducible repeat (first | apply Kd.R_alloc | apply Kd.R_drewN | apply Kd.R_drew)); exact HO126.out⟩, ⟨by repeat (first | (with_reducible first | exact HB.out | apply below_alloc | apply pw_below_drewN | apply below_drew1) | exact HB.out)⟩⟩
            case round =>
              clear H'
              try clear p2
              try clear c5
              try clear c5b0
              try clear c6
              try clear c6b0
              try clear p6
              try clear c7
              try clear c8
              try clear c8b0
              try clear c8b1
              try clear c9
              try clear c9b0
              try clear c9b1
              try clear p2
              try clear p6
              obtain ⟨x8_2, x29_2, rfl, HA, HK2, HO_8, HB⟩ := hrel
              have hl8_2 := (Kd.R_reads' HO_8.out).1
              rw [hl8_2] at HO_8
              (try simp only [hl8_2])
              cases gk with
              | zero => exact absurd HA.out (by simp [spec_BitList.l0])
              | succ k2 =>
                have H := HA.out
                clear HA
                simp only [spec_BitList.l0] at H
                by_cases c13 : x29_2 < (y124.length : Int)
                · rw [if_pos c13] at H
                  have c13b0 : decide (x29_2 < (y124.length : Int)) = true := decide_eq_true c13
                  clear c13
                  replace H := Option.bind_eq_some_iff.mp H
                  obtain ⟨t127, A140, H⟩ := H
                  replace H : (if 0 ≤ x29_2 then (if x29_2 < (x8_2.length : Int) then (spec_BitList.l0 k2 l0 a1 (x8_2.set (x29_2 : Int).toNat t127) (y124.length : Int) (wrap64 (x29_2 + 1))) else (none)) else (none)) = some (r1, r2) := H
                  have A14 := Aside0.mk A140
                  clear A140
                  by_cases c15 : 0 ≤ x29_2
                  · rw [if_pos c15] at H
                    have c15b0 : decide (0 ≤ x29_2) = true := decide_eq_true c15
                    clear c15
                    by_cases c16 : x29_2 < (x8_2.length : Int)
                    · rw [if_pos c16] at H
                      have c16b0 : decide (x29_2 < (x8_2.length : Int)) = true := decide_eq_true c16
                      clear c16
                      obtain ⟨y128, hy128⟩ : ∃ y_ : List Bool, y_ = (x8_2.set (x29_2 : Int).toNat t127) := ⟨_, rfl⟩
                      replace H : (spec_BitList.l0 k2 l0 a1 y128 (y124.length : Int) (wrap64 (x29_2 + 1))) = some (r1, r2) := by first | (rw [hy128]; with_reducible exact H) | (have H2_ := (Option.bind_some _ _).symm.trans H; rw [hy128]; with_reducible exact H2_) | (have H2_ := (Option.bind_some _ _).symm.trans H; with_reducible exact H2_) | with_reducible exact H | (rw [hy128]; exact H) | exact H
                      have Ny128 := Aside0.mk hy128
                      clear hy128
                      have H' := Aside0.mk H
                      clear H
                      go_wp2_with (first | ((with_reducible refine gate_callee (f := 6) rfl ?_); refine goesL_ (some 38) rfl rfl Tryd.func6 (by kernel_rfl) rfl #[.slice A0 l0.length c0, .int .i64 (wrap64 (a1 + x29_2))] rfl (by (try simp only [List.map_toArray, List.map_cons, List.map_nil]); first | done | rfl | (simp only [List.length_drop, List.length_take]; rfl)) ?_; (with_reducible refine (spec_Bit.calls _ _ l0 (wrap64 (a1 + x29_2)) t127 _ ?side1 ?side2 A14.out).mono ?_); (case side1 => repeat (first | exact (Kd.C_below HR0.out HB.out) | (with_reducible refine Kd.C_alloc ?_ _) | (with_reducible refine Kd.C_drewN ?_ _) | (with_reducible refine Kd.C_drew ?_))); (case side2 => exact HC0.out); rintro e w' ⟨rfl, ⟨nd, rfl⟩⟩; refine ⟨_, rfl, ?_⟩; (try (rw [drewN_self wr]; generalize hq_ : World.drewN wr _ = wr; have n0_ : Aside0 (Kd.R Kd.bool 4 wr w.heap.size (fun _ => True) (.slice Ao12 x8_2.length co12) x8_2) := ⟨by rw [← hq_]; exact (by (with_reducible repeat (first | apply Kd.R_alloc | apply Kd.R_drewN | apply Kd.R_drew)); exact HO_8.out)⟩; have n1_ : Aside0 (Below w.heap.size w wr) := ⟨by rw [← hq_]; exact (by repeat (first | (with_reducible first | exact HB.out | apply below_alloc | apply pw_below_drewN | apply below_drew1) | exact HB.out))⟩; clear HO_8 HB hq_; have HO_8 := n0_; have HB := n1_; clear n0_ n1_)); have p17 : 0 ≤ (x29_2 : Int) := of_decide_eq_true (by first | (with_reducible assumption) | assumption); have q17 : (x29_2 : Int) < ((x8_2.length : Int) : Int) := of_decide_eq_true (by first | (with_reducible assumption) | assumption); obtain ⟨go17, co17, eo17, gb17, gl17, cl17, HG17⟩ := Kd.R_form HO_8.out (by omega); (first | cases eo17 | (injection eo17 with ea_ en_ ec_; (first | subst ea_ | (injection ea_ with ea_; subst ea_)); subst ec_; clear en_)); have GB17 := Aside0.mk gb17; have GG17 := Aside0.mk HG17; clear gb17 gl17 HG17; obtain ⟨hx17_0, hf17_0⟩ := Kd.R_celln false HO_8.out (x29_2 : Int) p17 q17; replace p17 := eq_true p17; replace q17 := eq_true q17; obtain ⟨hy18_, hz18_⟩ := Kd.R_celln false HO_8.out (x29_2 : Int) (of_decide_eq_true (by first | (with_reducible assumption) | assumption)) (of_decide_eq_true (by first | (with_reducible assumption) | assumption)); have HP18 := Kd.R_putg HO_8.out (x29_2 : Int) t127) | ((with_reducible refine gate_store (t := 4) (p := 39) rfl ?_); refine store_event (t := 4) (p := 39) (v := ?vo_w19) (w1 := (wr.setCell ⟨go17, (x29_2 : Int).toNat, none⟩ (.bool t127))) ?hg ?ho ?hn ?hr ?_; (case ho => rfl); (case hg => rfl); (case hn => rfl); (case hr => first | (go_simp; done) | (go_simp; rfl)); intro w19 hw; have hg : wr.grownBy w19 (some go17) := (by rw [hw]; exact HP18.2); have hp_ : Kd.R Kd.bool 4 w19 w.heap.size (fun _ => True) (.slice (some ⟨go17, 0, none⟩) x8_2.length co12) y128 := (by rw [hw, Ny128.out]; exact HP18.1); clear HP18; have n0_ := Aside0.mk (hp_); have n1_ := Aside0.mk ((by rw [hw]; exact below_set (HB.out) GB17.out : Below w.heap.size w w19)); clear HO_8; clear HB; have HO_8 := n0_; have HB := n1_; clear n0_ n1_; clear hg hw hp_))
                      (try simp only [← hl8_2])
                      go_roundg k2
                      case measure => have := HJ3.out; have := HK2.out; omega
                      case rel => exact ⟨(y128), (wrap64 (x29_2 + 1)), (by first | rfl | (simp; done) | (simp [*]; done)), H', ⟨by have := HJ3.out; have := HK2.out; omega⟩, ⟨by (try simp only [hl8_2]); (with_reducible repeat (first | apply Kd.R_alloc | apply Kd.R_drewN | apply Kd.R_drew)); exact HO_8.out⟩, ⟨by repeat (first | (with_reducible first | exact HB.out | apply below_alloc | apply pw_below_drewN | apply below_drew1) | exact HB.out)⟩⟩
                    · rw [if_neg c16] at H
                      exact absurd H (by simp)
                  · rw [if_neg c15] at H
                    exact absurd H (by simp)
                · rw [if_neg c13] at H
                  have c13b0 : decide (x29_2 < (y124.length : Int)) = false := decide_eq_false c13
                  (try rw [hl8_2] at c13b0)
                  clear c13
                  simp only [Option.some.injEq, Prod.mk.injEq] at H
                  obtain ⟨rfl, rfl⟩ := H
                  go_wp2
                  go_ret2
                  exact ⟨_, by first | rfl | (simp [errW_none, errW_some] <;> rfl) | (simp [*, errW_none, errW_some] <;> rfl), by (with_reducible repeat (first | apply Kd.R_alloc | apply Kd.R_drewN | apply Kd.R_drew)); exact HO_8.out, by repeat (first | (with_reducible first | exact HB.out | apply below_alloc | apply pw_below_drewN | apply below_drew1) | exact HB.out)⟩
          · rw [if_neg c9] at H
            exact absurd H (by simp)
        · rw [if_neg c8] at H
          exact absurd H (by simp)

/-! ### spec_SameBools: function 8 -/
def spec_SameBools.l0 : Nat → List Bool → List Bool → Int → Int → Option (Bool)
  | 0, _, _, _, _ => none
  | k + 1, x0, x1, x12, x13 => if x13 < x12 then (if 0 ≤ x13 then (if x13 < (x0.length : Int) then (if x13 < (x1.length : Int) then (if ((rdOf false x0 x13) != (rdOf false x1 x13)) = true then (some false) else (spec_SameBools.l0 k x0 x1 x12 (wrap64 (x13 + 1)))) else (none)) else (none)) else (none)) else (some true)
def spec_SameBools.f (k : Nat) (l0 : List Bool) (l1 : List Bool) : Option (Bool) := if (l0.length : Int) = (l1.length : Int) then (spec_SameBools.l0 k l0 l1 (l0.length : Int) 0) else (some false)
theorem spec_SameBools.mono_l : ∀ k, (∀ y0 y1 y2 y3, LeO (spec_SameBools.l0 k y0 y1 y2 y3) (spec_SameBools.l0 (k + 1) y0 y1 y2 y3))
  | 0 => fun _ _ _ _ r h => by simp [spec_SameBools.l0] at h
  | k + 1 => by
    have ih0 := spec_SameBools.mono_l k
    · intro y0 y1 y2 y3
      unfold spec_SameBools.l0
      repeat' first
      | (with_reducible exact ih0 _ _ _ _)
      | (with_reducible exact LeO.refl _)
      | (with_reducible exact LeO.none _)
      | (with_reducible refine LeO.ite ?_ ?_)
      | (with_reducible refine LeO.bind ?_ (fun _ => ?_))
      | exact ih0 _ _ _ _
      | exact LeO.none _
      | refine LeO.ite ?_ ?_
      | refine LeO.bind ?_ (fun _ => ?_)
theorem spec_SameBools.mono : ∀ a0 a1 k, LeO (spec_SameBools.f k a0 a1) (spec_SameBools.f (k + 1) a0 a1) := by
  intro a0 a1 k
  have ih0 := spec_SameBools.mono_l k
  unfold spec_SameBools.f
  repeat' first
      | (with_reducible exact ih0 _ _ _ _)
      | (with_reducible exact LeO.refl _)
      | (with_reducible exact LeO.none _)
      | (with_reducible refine LeO.ite ?_ ?_)
      | (with_reducible refine LeO.bind ?_ (fun _ => ?_))
      | exact ih0 _ _ _ _
      | exact LeO.none _
      | refine LeO.ite ?_ ?_
      | refine LeO.bind ?_ (fun _ => ?_)
set_option maxHeartbeats 8000000 in
set_option maxRecDepth 100000 in
theorem spec_SameBools.calls (k : Nat) (A0 : Option Addr) (c0 : Nat) (l0 : List Bool) (A1 : Option Addr) (c1 : Nat) (l1 : List Bool) (r : Bool) (w : World) (hr0 : Kd.C Kd.bool w A0 l0.length l0) (hc0 : l0.length ≤ c0) (hr1 : Kd.C Kd.bool w A1 l1.length l1) (hc1 : l1.length ≤ c1) (h : spec_SameBools.f k l0 l1 = some r) :
    Calls Tryd.prog 8 #[.slice A0 l0.length c0, .slice A1 l1.length c1] w fun e w' => e = .returned (.bool r) ∧ Drawn0 w w' := by
  have HR0 := Aside0.mk hr0
  have HC0 := Aside0.mk hc0
  clear hr0 hc0
  have HR1 := Aside0.mk hr1
  have HC1 := Aside0.mk hc1
  clear hr1 hc1
  have H : (if (l0.length : Int) = (l1.length : Int) then (spec_SameBools.l0 k l0 l1 (l0.length : Int) 0) else (some false)) = some r := h
  clear h
  by_cases c3 : (l0.length : Int) = (l1.length : Int)
  · rw [if_pos c3] at H
    have c3b0 : ((l0.length : Int) == (l1.length : Int)) = true := beq_iff_eq.mpr c3
    have c3b1 : ((l0.length : Int) != (l1.length : Int)) = false := bne_eq_false_iff_eq.mpr c3
    have c3b2 : (l0.length == l1.length) = true := by first | simpa using c3 | (simp at c3 ⊢; omega)
    clear c3
    have H' := Aside0.mk H
    clear H
    go_enter Tryd.func8, Tryd.ntmps8
    go_wp2
    repeat (go_quiet (fail); try go_wp2)
    go_loopg [13] k (fun kq v13 w' => ∃ (x13_1 : Int), v13 = .int .i64 x13_1 ∧ Aside0 (spec_SameBools.l0 kq l0 l1 (l0.length : Int) x13_1 = some r) ∧ Aside0 (kq ≤ k) ∧ Drawn0 w w')
    case atStart => exact ⟨(0), (by first | rfl | (simp; done) | (simp [*]; done)), H', ⟨Nat.le_refl _⟩, by repeat (first | exact Drawn0.refl _ | apply Drawn0.step)⟩
    case round =>
      clear H'
      try clear c1
      try clear p2
      try clear c3
      try clear c3b0
      try clear c3b1
      try clear c3b2
      obtain ⟨x13_1, rfl, HA, HK1, ⟨m1, rfl⟩⟩ := hrel
      cases gk with
      | zero => exact absurd HA.out (by simp [spec_SameBools.l0])
      | succ k1 =>
        have H := HA.out
        clear HA
        simp only [spec_SameBools.l0] at H
        by_cases c4 : x13_1 < (l0.length : Int)
        · rw [if_pos c4] at H
          have c4b0 : decide (x13_1 < (l0.length : Int)) = true := decide_eq_true c4
          clear c4
          by_cases c5 : 0 ≤ x13_1
          · rw [if_pos c5] at H
            have c5b0 : decide (0 ≤ x13_1) = true := decide_eq_true c5
            clear c5
            by_cases c6 : x13_1 < (l0.length : Int)
            · rw [if_pos c6] at H
              have c6b0 : decide (x13_1 < (l0.length : Int)) = true := decide_eq_true c6
              clear c6
              by_cases c7 : x13_1 < (l1.length : Int)
              · rw [if_pos c7] at H
                have c7b0 : decide (x13_1 < (l1.length : Int)) = true := decide_eq_true c7
                clear c7
                by_cases c8 : ((rdOf false l0 x13_1) != (rdOf false l1 x13_1)) = true
                · rw [if_pos c8] at H
                  have c8b0 : ((rdOf false l0 x13_1) != (rdOf false l1 x13_1)) = true := c8
                  (try (have c8b1 : decide ((rdOf false l0 x13_1) = (rdOf false l1 x13_1)) = false := by simpa using c8))
                  (try (have c8b2 : ((rdOf false l0 x13_1) == (rdOf false l1 x13_1)) = false := by simpa using c8))
                  (try (have c8b3 : ¬ ((rdOf false l0 x13_1) = (rdOf false l1 x13_1)) := by simpa using c8))
                  clear c8
                  obtain rfl := Option.some.inj H
                  have p129 : 0 ≤ (x13_1 : Int) := of_decide_eq_true (by first | (with_reducible assumption) | assumption)
                  have q129 : x13_1 < (l0.length : Int) := of_decide_eq_true (by first | (with_reducible assumption) | assumption)
                  obtain ⟨ad129, e129, hx129_0⟩ := Kd.at_bool HR0.out x13_1 p129 q129
                  cases e129
                  replace p129 := eq_true p129
                  replace q129 := eq_true q129
                  have p130 : 0 ≤ (x13_1 : Int) := of_decide_eq_true (by first | (with_reducible assumption) | assumption)
                  have q130 : x13_1 < (l1.length : Int) := of_decide_eq_true (by first | (with_reducible assumption) | assumption)
                  obtain ⟨ad130, e130, hx130_0⟩ := Kd.at_bool HR1.out x13_1 p130 q130
                  cases e130
                  replace p130 := eq_true p130
                  replace q130 := eq_true q130
                  go_wp2
                  repeat (go_quiet (fail); try go_wp2)
                  go_ret
                  exact ⟨by first | rfl | (simp; done) | (simp [*]; done), by repeat (first | exact Drawn0.refl _ | apply Drawn0.step)⟩
                · rw [if_neg c8] at H
                  have c8b0 : ((rdOf false l0 x13_1) != (rdOf false l1 x13_1)) = false := by simpa using c8
                  (try (have c8b1 : decide ((rdOf false l0 x13_1) = (rdOf false l1 x13_1)) = true := by simpa using c8))
                  (try (have c8b2 : ((rdOf false l0 x13_1) == (rdOf false l1 x13_1)) = true := by simpa using c8))
                  clear c8
                  have H' := Aside0.mk H
                  clear H
                  have p129 : 0 ≤ (x13_1 : Int) := of_decide_eq_true (by first | (with_reducible assumption) | assumption)
                  have q129 : x13_1 < (l0.length : Int) := of_decide_eq_true (by first | (with_reducible assumption) | assumption)
                  obtain ⟨ad129, e129, hx129_0⟩ := Kd.at_bool HR0.out x13_1 p129 q129
                  cases e129
                  replace p129 := eq_true p129
                  replace q129 := eq_true q129
                  have p130 : 0 ≤ (x13_1 : Int) := of_decide_eq_true (by first | (with_reducible assumption) | assumption)
                  have q130 : x13_1 < (l1.length : Int) := of_decide_eq_true (by first | (with_reducible assumption) | assumption)
                  obtain ⟨ad130, e130, hx130_0⟩ := Kd.at_bool HR1.out x13_1 p130 q130
                  cases e130
                  replace p130 := eq_true p130
                  replace q130 := eq_true q130
                  go_wp2
                  repeat (go_quiet (fail); try go_wp2)
                  go_roundg k1
                  case measure => have := HK1.out; omega
                  case rel => exact ⟨(wrap64 (x13_1 + 1)), (by first | rfl | (simp; done) | (simp [*]; done)), H', ⟨by have := HK1.out; omega⟩, by repeat (first | exact Drawn0.refl _ | apply Drawn0.step)⟩
              · rw [if_neg c7] at H
                exact absurd H (by simp)
            · rw [if_neg c6] at H
              exact absurd H (by simp)
          · rw [if_neg c5] at H
            exact absurd H (by simp)
        · rw [if_neg c4] at H
          have c4b0 : decide (x13_1 < (l0.length : Int)) = false := decide_eq_false c4
          clear c4
          obtain rfl := Option.some.inj H
          go_wp2
          repeat (go_quiet (fail); try go_wp2)
          go_ret
          exact ⟨by first | rfl | (simp; done) | (simp [*]; done), by repeat (first | exact Drawn0.refl _ | apply Drawn0.step)⟩
  · rw [if_neg c3] at H
    have c3b0 : ((l0.length : Int) == (l1.length : Int)) = false := beq_eq_false_iff_ne.mpr c3
    have c3b1 : ((l0.length : Int) != (l1.length : Int)) = true := bne_iff_ne.mpr c3
    have c3b2 : (l0.length == l1.length) = false := by first | simpa using c3 | (simp at c3 ⊢; omega)
    obtain rfl := Option.some.inj H
    go_enter Tryd.func8, Tryd.ntmps8
    go_wp2
    repeat (go_quiet (fail); try go_wp2)
    go_ret
    exact ⟨by first | rfl | (simp; done) | (simp [*]; done), by repeat (first | exact Drawn0.refl _ | apply Drawn0.step)⟩

-- NOT PRINTED: function 3 (laws_FnJoinBits)

end Go.Proofs.YtoceclgljmdkeaaDoor.PFnJoinBits
