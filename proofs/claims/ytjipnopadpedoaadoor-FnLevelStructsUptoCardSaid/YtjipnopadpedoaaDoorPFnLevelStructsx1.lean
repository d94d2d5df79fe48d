-- PRINTED BY print.sh 35421559b90ae4d0a3588c463048766b98c2df88dd9212a6774a882060cdf62d: not written by this session
import Derived.Test.YtjipnopadpedoaaDoorPFnLevelStructsx0
namespace Go.Proofs.YtjipnopadpedoaaDoor.PFnLevelStructs
open Go.RowKit Go.Proofs.YtjipnopadpedoaaDoorW.PrintWords Go.Proofs.YtjipnopadpedoaaDoorW.PrintLast Go.Proofs.YtjipnopadpedoaaDoorW.PrintMore
attribute [local go_sem] max2_int min2_int max_two min_two max_three min_three max_four min_four   -- for this text's walks alone
set_option linter.unusedVariables false
set_option linter.unusedSimpArgs false

/-! ### spec_At: function 9 -/
mutual
def spec_At.l0 : Nat → List (S25) → Int → Int → Option ((List (S25)))
  | 0, _, _, _ => none
  | k + 1, x0, x8, x9 => if x9 < x8 then (spec_At.l1 k ([] : List (S25)) x8 x9 x0 (x0.length : Int) 0) else (some x0)
def spec_At.l1 : Nat → List (S25) → Int → Int → List (S25) → Int → Int → Option ((List (S25)))
  | 0, _, _, _, _, _, _ => none
  | k + 1, x5, x8, x9, x11, x12, x13 => if x13 < x12 then (if 0 ≤ x13 then (if x13 < (x11.length : Int) then (if x5.length + ((rd_T25 x11 x13).f3).length < 2513169434916 then (spec_At.l1 k (x5 ++ ((rd_T25 x11 x13).f3)) x8 x9 x11 x12 (wrap64 (x13 + 1))) else (none)) else (none)) else (none)) else (spec_At.l0 k x5 x8 (wrap64 (x9 + 1)))
end
def spec_At.f (k : Nat) (l0 : List (S25)) (a1 : Int) : Option ((List (S25))) := spec_At.l0 k l0 a1 0
theorem spec_At.mono_l : ∀ k, (∀ y0 y1 y2, LeO (spec_At.l0 k y0 y1 y2) (spec_At.l0 (k + 1) y0 y1 y2)) ∧ (∀ y0 y1 y2 y3 y4 y5, LeO (spec_At.l1 k y0 y1 y2 y3 y4 y5) (spec_At.l1 (k + 1) y0 y1 y2 y3 y4 y5))
  | 0 => ⟨fun _ _ _ r h => by simp [spec_At.l0] at h, fun _ _ _ _ _ _ r h => by simp [spec_At.l1] at h⟩
  | k + 1 => by
    obtain ⟨ih0, ih1⟩ := spec_At.mono_l k
    refine ⟨?_, ?_⟩
    · intro y0 y1 y2
      unfold spec_At.l0
      repeat' first
      | (with_reducible exact ih0 _ _ _)
      | (with_reducible exact ih1 _ _ _ _ _ _)
      | (with_reducible exact LeO.refl _)
      | (with_reducible exact LeO.none _)
      | (with_reducible refine LeO.ite ?_ ?_)
      | (with_reducible refine LeO.bind ?_ (fun _ => ?_))
      | exact ih0 _ _ _
      | exact ih1 _ _ _ _ _ _
      | exact LeO.none _
      | refine LeO.ite ?_ ?_
      | refine LeO.bind ?_ (fun _ => ?_)
    · intro y0 y1 y2 y3 y4 y5
      unfold spec_At.l1
      repeat' first
      | (with_reducible exact ih0 _ _ _)
      | (with_reducible exact ih1 _ _ _ _ _ _)
      | (with_reducible exact LeO.refl _)
      | (with_reducible exact LeO.none _)
      | (with_reducible refine LeO.ite ?_ ?_)
      | (with_reducible refine LeO.bind ?_ (fun _ => ?_))
      | exact ih0 _ _ _
      | exact ih1 _ _ _ _ _ _
      | exact LeO.none _
      | refine LeO.ite ?_ ?_
      | refine LeO.bind ?_ (fun _ => ?_)
theorem spec_At.mono : ∀ a0 a1 k, LeO (spec_At.f k a0 a1) (spec_At.f (k + 1) a0 a1) := by
  intro a0 a1 k
  obtain ⟨ih0, ih1⟩ := spec_At.mono_l k
  unfold spec_At.f
  repeat' first
      | (with_reducible exact ih0 _ _ _)
      | (with_reducible exact ih1 _ _ _ _ _ _)
      | (with_reducible exact LeO.refl _)
      | (with_reducible exact LeO.none _)
      | (with_reducible refine LeO.ite ?_ ?_)
      | (with_reducible refine LeO.bind ?_ (fun _ => ?_))
      | exact ih0 _ _ _
      | exact ih1 _ _ _ _ _ _
      | exact LeO.none _
      | refine LeO.ite ?_ ?_
      | refine LeO.bind ?_ (fun _ => ?_)
set_option maxHeartbeats 8000000 in
set_option maxRecDepth 100000 in
theorem spec_At.calls (k : Nat) (P0_ : Nat → Prop) (A0 : Option Addr) (c0 : Nat) (l0 : List (S25)) (a1 : Int) (r : List (S25)) (w : World) (hs0 : Kd.V k25 25 w w.heap.size (fun k_ => P0_ k_) (.slice A0 l0.length c0) l0) (h : spec_At.f k l0 a1 = some r) :
    Calls Tryd.prog 9 #[.slice A0 l0.length c0, .int .i64 a1] w fun e w' => ∃ v0_ : Value, e = .returned (v0_) ∧ Kd.V k25 25 w' w.heap.size (fun k_ => (P0_ k_ ∨ w.heap.size ≤ k_)) v0_ r ∧ Below w.heap.size w w' := by
  have hu25 := Tryd.underlying25
  have HO0 := Aside0.mk (show Kd.V k25 25 w w.heap.size (fun k_ => (P0_ k_ ∨ w.heap.size ≤ k_)) (.slice A0 l0.length c0) l0 from Kd.V_mono hs0 (fun k_ hk => .inl hk))
  have HB := Aside0.mk (Below.refl w.heap.size w)
  have H : (spec_At.l0 k l0 a1 0) = some r := h
  clear h
  have H' := Aside0.mk H
  clear H
  go_enter Tryd.func9, Tryd.ntmps9
  go_wp2
  go_loopg [0, 9] k (fun kq v0 v9 w' => ∃ (x0_1 : List (S25)) (x9_1 : Int), v9 = .int .i64 x9_1 ∧ Aside0 (spec_At.l0 kq x0_1 a1 x9_1 = some r) ∧ Aside0 (kq ≤ k) ∧ Aside0 (Kd.V k25 25 w' w.heap.size (fun k_ => (P0_ k_ ∨ w.heap.size ≤ k_)) v0 x0_1) ∧ Aside0 (Below w.heap.size w w'))
  case atStart => exact ⟨(l0), (0), (by first | rfl | (simp; done) | (simp [*]; done)), H', ⟨Nat.le_refl _⟩, ⟨by (with_reducible repeat (first | apply Kd.V_alloc | apply Kd.V_drewN | apply Kd.V_drew)); exact HO0.out⟩, ⟨by repeat (first | (with_reducible first | exact HB.out | apply below_alloc | apply pw_below_drewN | apply below_drew1) | exact HB.out)⟩⟩
  case round =>
    clear H'
    try clear p2
    obtain ⟨x0_1, x9_1, rfl, HA, HK1, HO_0, HB⟩ := hrel
    cases gk with
    | zero => exact absurd HA.out (by simp [spec_At.l0])
    | succ k1 =>
      have H := HA.out
      clear HA
      simp only [spec_At.l0] at H
      by_cases c3 : x9_1 < a1
      · rw [if_pos c3] at H
        have c3b0 : decide (x9_1 < a1) = true := decide_eq_true c3
        clear c3
        have H' := Aside0.mk H
        clear H
        obtain ⟨Ao4, co4, eo4⟩ := Kd.V_slice HO_0.out
        subst eo4
        go_wp2
        go_loopg [5, 13] k1 (fun kq v5 v13 w' => ∃ (x5_2 : List (S25)) (x13_2 : Int), v13 = .int .i64 x13_2 ∧ Aside0 (spec_At.l1 kq x5_2 a1 x9_1 x0_1 (x0_1.length : Int) x13_2 = some r) ∧ Aside0 (kq ≤ k1) ∧ Aside0 (Kd.N k25 25 w' w.heap.size (fun k_ => (P0_ k_ ∨ w.heap.size ≤ k_)) v5 x5_2) ∧ Aside0 (Kd.V k25 25 w' w.heap.size (fun k_ => (P0_ k_ ∨ w.heap.size ≤ k_) ∧ some k_ ≠ (v5 : Value).ownBlock) (.slice Ao4 x0_1.length co4) x0_1) ∧ Aside0 (Below w.heap.size w w'))
        case atStart => exact ⟨(([] : List (S25))), (0), (by first | rfl | (simp; done) | (simp [*]; done)), H', ⟨Nat.le_refl _⟩, ⟨by first | exact Kd.R_nil _ _ _ _ _ | exact Kd.N_nil _ _ _ _ _ | exact Kd.V_nil _ _ _ _ _ | exact Kd.Q_nil _ _ _ _ _ | exact Kd.S_nil _ _ _ _ _⟩, ⟨by (with_reducible repeat (first | apply Kd.V_alloc | apply Kd.V_drewN | apply Kd.V_drew)); exact Kd.V_mono HO_0.out (fun _ hk => ⟨hk, (by simp [Value.ownBlock])⟩)⟩, ⟨by repeat (first | (with_reducible first | exact HB.out | apply below_alloc | apply pw_below_drewN | apply below_drew1) | exact HB.out)⟩⟩
        case round =>
          clear H'
          try clear p2
          try clear c3
          try clear c3b0
          try clear p2
          obtain ⟨x5_2, x13_2, rfl, HA, HK2, HO_5, HO_11, HB⟩ := hrel
          cases gk with
          | zero => exact absurd HA.out (by simp [spec_At.l1])
          | succ k2 =>
            have H := HA.out
            clear HA
            simp only [spec_At.l1] at H
            by_cases c5 : x13_2 < (x0_1.length : Int)
            · rw [if_pos c5] at H
              have c5b0 : decide (x13_2 < (x0_1.length : Int)) = true := decide_eq_true c5
              clear c5
              by_cases c6 : 0 ≤ x13_2
              · rw [if_pos c6] at H
                have c6b0 : decide (0 ≤ x13_2) = true := decide_eq_true c6
                clear c6
                by_cases c7 : x13_2 < (x0_1.length : Int)
                · rw [if_pos c7] at H
                  have c7b0 : decide (x13_2 < (x0_1.length : Int)) = true := decide_eq_true c7
                  clear c7
                  by_cases c8 : x5_2.length + ((rd_T25 x0_1 x13_2).f3).length < 2513169434916
                  · rw [if_pos c8] at H
                    have LMc8 := Aside0.mk c8
                    clear c8
                    obtain ⟨y103, hy103⟩ : ∃ y_ : List (S25), y_ = (x5_2 ++ ((rd_T25 x0_1 x13_2).f3)) := ⟨_, rfl⟩
                    replace H : (spec_At.l1 k2 y103 a1 x9_1 x0_1 (x0_1.length : Int) (wrap64 (x13_2 + 1))) = some r := by first | (rw [hy103]; with_reducible exact H) | (have H2_ := (Option.bind_some _ _).symm.trans H; rw [hy103]; with_reducible exact H2_) | (have H2_ := (Option.bind_some _ _).symm.trans H; with_reducible exact H2_) | with_reducible exact H | (rw [hy103]; exact H) | exact H
                    have Ny103 := Aside0.mk hy103
                    clear hy103
                    have H' := Aside0.mk H
                    clear H
                    have p101 : 0 ≤ (x13_2 : Int) := of_decide_eq_true (by first | (with_reducible assumption) | assumption)
                    have q101 : x13_2 < (x0_1.length : Int) := of_decide_eq_true (by first | (with_reducible assumption) | assumption)
                    obtain ⟨ad101, A101_3, c101_3, e101, hx101_0, hx101_1, hx101_2, hx101_3, hl101_3, hi101_3⟩ := at_T25 (Kd.V_reads' HO_11.out).2.2 x13_2 p101 q101
                    cases e101
                    obtain ⟨ce101, hce101, hMe101, hcc101⟩ := Kd.V_get HO_11.out z25 x13_2 p101 (by first | exact q101 | exact of_decide_eq_true (by first | (with_reducible assumption) | assumption) | (have e_ := (Kd.V_reads' HO_11.out).1; omega))
                    obtain ⟨ua101_3, uc101_3, rfl, ul101_3, ge101_3⟩ := k25_openF hMe101
                    have hv101_3 := hcc101 3 _ rfl
                    rw [add_field _ _ 3 (by omega)] at hv101_3
                    replace hv101_3 := Option.some.inj (hv101_3.symm.trans hx101_3)
                    injection hv101_3 with hva_ hvn_ hvc_
                    rw [hva_] at ge101_3
                    rw [hvc_] at ul101_3
                    have HL101_3 := Aside0.mk (show Kd.V k25 25 _ w.heap.size _ _ ((rd_T25 x0_1 x13_2).f3) from Kd.V_mk ul101_3 ge101_3)
                    clear hva_ hvn_ hvc_ ge101_3 ul101_3
                    clear hcc101 hce101
                    have HR101_3 := Aside0.mk hi101_3
                    have HC101_3 := Aside0.mk hl101_3
                    clear hi101_3 hl101_3
                    replace p101 := eq_true p101
                    replace q101 := eq_true q101
                    go_wp2_with (first | ((with_reducible refine gate_dst (N := 7) rfl ?_); refine box_event ?hg (N := 7) ?hd (cs := #[.bool false, .int .u64 0, .string (⟨#[]⟩ : ByteArray), .slice none 0 0]) (t := 25) ?hr ?_; (case hd => rfl); (case hg => rfl); (case hr => first | (go_simp; done) | (go_simp; rfl)); intro gb102 hg w9 hbox hb; have n0_ := Aside0.mk (Kd.N_below (Kd.N_elderB (by (with_reducible repeat (first | apply Kd.N_alloc | apply Kd.N_drewN | apply Kd.N_drew)); exact HO_5.out) gb102 (Nat.le_of_eq hg.symm)) hb); have n1_ := Aside0.mk (Kd.V_below (Kd.V_elderB (by (with_reducible repeat (first | apply Kd.V_alloc | apply Kd.V_drewN | apply Kd.V_drew)); exact HO_11.out) gb102 (Nat.le_of_eq hg.symm)) hb); have n2_ := Aside0.mk (Kd.V_below (Kd.V_elderB (by (with_reducible repeat (first | apply Kd.V_alloc | apply Kd.V_drewN | apply Kd.V_drew)); exact HL101_3.out) gb102 (Nat.le_of_eq hg.symm)) hb); have n3_ := Aside0.mk (Kd.C_below (by repeat (first | (with_reducible exact HR101_3.out) | (with_reducible refine Kd.C_alloc ?_ _) | (with_reducible refine Kd.C_drewN ?_ _) | (with_reducible refine Kd.C_drew ?_) | exact HR101_3.out)) hb); have n4_ := Aside0.mk (below_step (by repeat (first | (with_reducible first | exact HB.out | apply below_alloc | apply pw_below_drewN | apply below_drew1) | exact HB.out)) hb); have n5_ := Aside0.mk (hbox); have n6_ := Aside0.mk ((by rw [hg]; exact (below_size (by repeat (first | (with_reducible first | exact HB.out | apply below_alloc | apply pw_below_drewN | apply below_drew1) | exact HB.out))) : w.heap.size ≤ gb102)); have n7_ := Aside0.mk ((by rw [hg]; exact (below_size (by repeat (first | (with_reducible first | exact HB.out | apply below_alloc | apply pw_below_drewN | apply below_drew1) | exact HB.out))) : w.heap.size ≤ gb102)); clear HO_5; clear HO_11; clear HL101_3; clear HR101_3; clear HB; have HO_5 := n0_; have HO_11 := n1_; have HL101_3 := n2_; have HR101_3 := n3_; have HB := n4_; have BK102 := n5_; have GW102 := n6_; have GE102 := n7_; clear n0_ n1_ n2_ n3_ n4_ n5_ n6_ n7_; clear hb hbox hg; have hcz10_0 : w9.cell? ⟨gb102, 0, none⟩ = some (.bool false) := (blk_cell BK102.out 0).trans rfl; have hcz10_1 : w9.cell? ⟨gb102, 1, none⟩ = some (.int .u64 0) := (blk_cell BK102.out 1).trans rfl; have hcz10_2 : w9.cell? ⟨gb102, 2, none⟩ = some (.string (⟨#[]⟩ : ByteArray)) := (blk_cell BK102.out 2).trans rfl; have hcz10_3 : w9.cell? ⟨gb102, 3, none⟩ = some (.slice none 0 0) := (blk_cell BK102.out 3).trans rfl; have hfz10_0 := blk_frozen BK102.out 0; have hfz10_1 := blk_frozen BK102.out 1; have hfz10_2 := blk_frozen BK102.out 2; have hfz10_3 := blk_frozen BK102.out 3) | ((with_reducible refine gate_builtin (b := .append) (xs := #[.tmp 17, .tmp 19]) rfl ?_); at_builtin; refine Kd.N_append_rows k25 (w0 := w) w.heap.size rfl (.tmp 17) (.tmp 19) 22 25 (.agg #[(.bool false), (.int .u64 0), (.string ⟨#[]⟩), (.slice none 0 0)]) 56 rfl Tryd.underlying22 info25 rfl (by decide) (by omega) u5 x5_2 ((rd_T25 x0_1 x13_2).f3) _ _ _ (fun k_ => (P0_ k_ ∨ w.heap.size ≤ k_) ∧ k_ ≠ gb102) (fun k_ => ((fun k_ => (P0_ k_ ∨ w.heap.size ≤ k_) ∧ k_ ≠ gb102)) k_ ∧ some k_ ≠ (u5 : Value).ownBlock) rfl rfl ?aO ?aR (fun _ hk => hk) ?aF ?aB ?aS ?aL ?_; (case aR => exact (by skip; exact Kd.V_F (Kd.V_mono (ok' := (fun k_ => ((fun k_ => (P0_ k_ ∨ w.heap.size ≤ k_) ∧ k_ ≠ gb102)) k_ ∧ some k_ ≠ (u5 : Value).ownBlock)) ((Kd.V_far (p := ⟨gb102, 3, none⟩) (Kd.V_far (p := ⟨gb102, 2, none⟩) (Kd.V_far (p := ⟨gb102, 1, none⟩) (Kd.V_far (p := ⟨gb102, 0, none⟩) (Kd.V_mono HL101_3.out (fun k_ hk => (⟨hk, hk.2⟩ : _ ∧ k_ ≠ gb102))) (fun _ hk => hk.2) (.bool ((rd_T25 x0_1 x13_2).f0))) (fun _ hk => hk.2) (.int .u64 ((rd_T25 x0_1 x13_2).f1))) (fun _ hk => hk.2) (.string ((rd_T25 x0_1 x13_2).f2))) (fun _ hk => hk.2) (.slice A101_3 ((rd_T25 x0_1 x13_2).f3).length c101_3))) (fun k_ hk => ⟨⟨hk.1.1.1, hk.1.2⟩, hk.1.1.2⟩)))); (case aB => exact (by repeat (first | (with_reducible first | exact HB.out | apply below_alloc | apply pw_below_drewN | apply below_drew1 | refine below_set ?_ GE102.out) | exact HB.out))); (case aF => exact (fun k_ hk => ⟨(.inr (Nat.le_trans (below_size (by repeat (first | (with_reducible first | exact HB.out | apply below_alloc | apply pw_below_drewN | apply below_drew1 | refine below_set ?_ GE102.out) | exact HB.out))) hk)), Kd.freshB (g := gb102) (o := .cells #[.bool ((rd_T25 x0_1 x13_2).f0), .int .u64 ((rd_T25 x0_1 x13_2).f1), .string ((rd_T25 x0_1 x13_2).f2), .slice A101_3 ((rd_T25 x0_1 x13_2).f3).length c101_3] 25 (0, 0)) (by (with_reducible repeat (first | refine blk_drewN ?_ _ | refine blk_drew ?_ | refine blk_alloc ?_ _)); refine blk_put (cs := #[.bool ((rd_T25 x0_1 x13_2).f0), .int .u64 ((rd_T25 x0_1 x13_2).f1), .string ((rd_T25 x0_1 x13_2).f2), .slice none 0 0]) ?_ 3 _ rfl; (with_reducible repeat (first | refine blk_drewN ?_ _ | refine blk_drew ?_ | refine blk_alloc ?_ _)); refine blk_put (cs := #[.bool ((rd_T25 x0_1 x13_2).f0), .int .u64 ((rd_T25 x0_1 x13_2).f1), .string (⟨#[]⟩ : ByteArray), .slice none 0 0]) ?_ 2 _ rfl; (with_reducible repeat (first | refine blk_drewN ?_ _ | refine blk_drew ?_ | refine blk_alloc ?_ _)); refine blk_put (cs := #[.bool ((rd_T25 x0_1 x13_2).f0), .int .u64 0, .string (⟨#[]⟩ : ByteArray), .slice none 0 0]) ?_ 1 _ rfl; (with_reducible repeat (first | refine blk_drewN ?_ _ | refine blk_drew ?_ | refine blk_alloc ?_ _)); refine blk_put (cs := #[.bool false, .int .u64 0, .string (⟨#[]⟩ : ByteArray), .slice none 0 0]) ?_ 0 _ rfl; (with_reducible repeat (first | refine blk_drewN ?_ _ | refine blk_drew ?_ | refine blk_alloc ?_ _)); exact BK102.out) k_ hk⟩)); (case aO => exact (by (with_reducible repeat (first | apply Kd.N_alloc | apply Kd.N_drewN | apply Kd.N_drew)); exact Kd.N_mono (Kd.N_far (p := ⟨gb102, 3, none⟩) (Kd.N_far (p := ⟨gb102, 2, none⟩) (Kd.N_far (p := ⟨gb102, 1, none⟩) (Kd.N_far (p := ⟨gb102, 0, none⟩) (Kd.N_mono HO_5.out (fun k_ hk => (⟨hk, hk.2⟩ : _ ∧ k_ ≠ gb102))) (fun _ hk => hk.2) (.bool ((rd_T25 x0_1 x13_2).f0))) (fun _ hk => hk.2) (.int .u64 ((rd_T25 x0_1 x13_2).f1))) (fun _ hk => hk.2) (.string ((rd_T25 x0_1 x13_2).f2))) (fun _ hk => hk.2) (.slice A101_3 ((rd_T25 x0_1 x13_2).f3).length c101_3)) (fun _ hk => ⟨hk.1.1, hk.1.2⟩))); (case aS => exact (below_size (by repeat (first | (with_reducible first | exact HB.out | apply below_alloc | apply pw_below_drewN | apply below_drew1 | refine below_set ?_ GE102.out) | exact HB.out)))); (case aL => have := LMc8.out; omega); intro v104 w11 ho hb hg hat; rw [← Ny103.out] at ho; have n0_ := Aside0.mk (Kd.V_afterv (ok := (fun k_ => (P0_ k_ ∨ w.heap.size ≤ k_) ∧ k_ ≠ gb102)) (by (with_reducible repeat (first | apply Kd.V_alloc | apply Kd.V_drewN | apply Kd.V_drew)); exact Kd.V_mono (Kd.V_far (p := ⟨gb102, 3, none⟩) (Kd.V_far (p := ⟨gb102, 2, none⟩) (Kd.V_far (p := ⟨gb102, 1, none⟩) (Kd.V_far (p := ⟨gb102, 0, none⟩) (Kd.V_mono HO_11.out (fun k_ hk => (⟨hk, hk.2⟩ : _ ∧ k_ ≠ gb102))) (fun _ hk => hk.2) (.bool ((rd_T25 x0_1 x13_2).f0))) (fun _ hk => hk.2) (.int .u64 ((rd_T25 x0_1 x13_2).f1))) (fun _ hk => hk.2) (.string ((rd_T25 x0_1 x13_2).f2))) (fun _ hk => hk.2) (.slice A101_3 ((rd_T25 x0_1 x13_2).f3).length c101_3)) (fun _ hk => ⟨⟨hk.1.1.1, hk.1.2⟩, hk.1.1.2⟩)) hg hat); have n1_ := Aside0.mk (Kd.V_afterv (ok := (fun k_ => (P0_ k_ ∨ w.heap.size ≤ k_) ∧ k_ ≠ gb102)) (by (with_reducible repeat (first | apply Kd.V_alloc | apply Kd.V_drewN | apply Kd.V_drew)); exact Kd.V_mono (Kd.V_far (p := ⟨gb102, 3, none⟩) (Kd.V_far (p := ⟨gb102, 2, none⟩) (Kd.V_far (p := ⟨gb102, 1, none⟩) (Kd.V_far (p := ⟨gb102, 0, none⟩) (Kd.V_mono HL101_3.out (fun k_ hk => (⟨hk, hk.2⟩ : _ ∧ k_ ≠ gb102))) (fun _ hk => hk.2) (.bool ((rd_T25 x0_1 x13_2).f0))) (fun _ hk => hk.2) (.int .u64 ((rd_T25 x0_1 x13_2).f1))) (fun _ hk => hk.2) (.string ((rd_T25 x0_1 x13_2).f2))) (fun _ hk => hk.2) (.slice A101_3 ((rd_T25 x0_1 x13_2).f3).length c101_3)) (fun _ hk => ⟨⟨hk.1.1.1, hk.1.2⟩, hk.1.1.2⟩)) hg hat); have n2_ := Aside0.mk (blk_grown (g := gb102) (o := .cells #[.bool ((rd_T25 x0_1 x13_2).f0), .int .u64 ((rd_T25 x0_1 x13_2).f1), .string ((rd_T25 x0_1 x13_2).f2), .slice A101_3 ((rd_T25 x0_1 x13_2).f3).length c101_3] 25 (0, 0)) (by (with_reducible repeat (first | refine blk_drewN ?_ _ | refine blk_drew ?_ | refine blk_alloc ?_ _)); refine blk_put (cs := #[.bool ((rd_T25 x0_1 x13_2).f0), .int .u64 ((rd_T25 x0_1 x13_2).f1), .string ((rd_T25 x0_1 x13_2).f2), .slice none 0 0]) ?_ 3 _ rfl; (with_reducible repeat (first | refine blk_drewN ?_ _ | refine blk_drew ?_ | refine blk_alloc ?_ _)); refine blk_put (cs := #[.bool ((rd_T25 x0_1 x13_2).f0), .int .u64 ((rd_T25 x0_1 x13_2).f1), .string (⟨#[]⟩ : ByteArray), .slice none 0 0]) ?_ 2 _ rfl; (with_reducible repeat (first | refine blk_drewN ?_ _ | refine blk_drew ?_ | refine blk_alloc ?_ _)); refine blk_put (cs := #[.bool ((rd_T25 x0_1 x13_2).f0), .int .u64 0, .string (⟨#[]⟩ : ByteArray), .slice none 0 0]) ?_ 1 _ rfl; (with_reducible repeat (first | refine blk_drewN ?_ _ | refine blk_drew ?_ | refine blk_alloc ?_ _)); refine blk_put (cs := #[.bool false, .int .u64 0, .string (⟨#[]⟩ : ByteArray), .slice none 0 0]) ?_ 0 _ rfl; (with_reducible repeat (first | refine blk_drewN ?_ _ | refine blk_drew ?_ | refine blk_alloc ?_ _)); exact BK102.out) hg (Kd.N_away HO_5.out (fun _ hk => hk.2))); have n3_ := Aside0.mk (hb); have n4_ := Aside0.mk (ho); clear HO_11; clear HL101_3; clear BK102; clear HB; clear HO_5; have HO_11 := n0_; have HL101_3 := n1_; have BK102 := n2_; have HB := n3_; have HO105 := n4_; clear n0_ n1_ n2_ n3_ n4_; clear ho hb hg hat))
                    go_roundg k2
                    case measure => have := HK1.out; have := HK2.out; omega
                    case rel => exact ⟨(y103), (wrap64 (x13_2 + 1)), (by first | rfl | (simp; done) | (simp [*]; done)), H', ⟨by have := HK1.out; have := HK2.out; omega⟩, ⟨by (with_reducible repeat (first | apply Kd.N_alloc | apply Kd.N_drewN | apply Kd.N_drew)); exact Kd.N_mono HO105.out (fun _ hk => hk.1)⟩, ⟨by (with_reducible repeat (first | apply Kd.V_alloc | apply Kd.V_drewN | apply Kd.V_drew)); exact Kd.V_mono HO_11.out (fun _ hk => ⟨hk.1.1, hk.2⟩)⟩, ⟨by repeat (first | (with_reducible first | exact HB.out | apply below_alloc | apply pw_below_drewN | apply below_drew1 | refine below_set ?_ GE102.out) | exact HB.out)⟩⟩
                  · rw [if_neg c8] at H
                    exact absurd H (by simp)
                · rw [if_neg c7] at H
                  exact absurd H (by simp)
              · rw [if_neg c6] at H
                exact absurd H (by simp)
            · rw [if_neg c5] at H
              have c5b0 : decide (x13_2 < (x0_1.length : Int)) = false := decide_eq_false c5
              clear c5
              have H' := Aside0.mk H
              clear H
              go_wp2
              go_roundg k2
              case measure => have := HK1.out; have := HK2.out; omega
              case rel => exact ⟨(x5_2), (wrap64 (x9_1 + 1)), (by first | rfl | (simp; done) | (simp [*]; done)), H', ⟨by have := HK1.out; have := HK2.out; omega⟩, ⟨Kd.N_V (by (with_reducible repeat (first | apply Kd.N_alloc | apply Kd.N_drewN | apply Kd.N_drew)); exact HO_5.out)⟩, ⟨by repeat (first | (with_reducible first | exact HB.out | apply below_alloc | apply pw_below_drewN | apply below_drew1) | exact HB.out)⟩⟩
      · rw [if_neg c3] at H
        have c3b0 : decide (x9_1 < a1) = false := decide_eq_false c3
        clear c3
        obtain rfl := Option.some.inj H
        go_wp2
        go_ret
        exact ⟨_, by first | rfl | (simp [errW_none, errW_some] <;> rfl) | (simp [*, errW_none, errW_some] <;> rfl), by (with_reducible repeat (first | apply Kd.V_alloc | apply Kd.V_drewN | apply Kd.V_drew)); exact HO_0.out, by repeat (first | (with_reducible first | exact HB.out | apply below_alloc | apply pw_below_drewN | apply below_drew1) | exact HB.out)⟩

/-! ### spec_Nested: function 10 -/
mutual
def spec_Nested.j0 : Nat → Int → Bool → Bool → Int → ByteArray → List (S25) → Option (Bool)
  | 0, _, _, _, _, _, _ => none
  | k + 1, x1, x12, x107000, x107001, x107002, x107003 => if x12 = true then (some ((x107003.length : Int) == 0)) else (spec_Nested.l0 k x1 x107003 (x107003.length : Int) 0)
def spec_Nested.l0 : Nat → Int → List (S25) → Int → Int → Option (Bool)
  | 0, _, _, _, _ => none
  | k + 1, x1, x18, x19, x20 => if x20 < x19 then (if 0 ≤ x20 then (if x20 < (x18.length : Int) then ((spec_Nested.f k ((rd_T25 x18 x20).f0) ((rd_T25 x18 x20).f1) ((rd_T25 x18 x20).f2) ((rd_T25 x18 x20).f3) (wrap64 (x1 - 1))).bind fun t109 => (if t109 = true then (spec_Nested.l0 k x1 x18 x19 (wrap64 (x20 + 1))) else (some false))) else (none)) else (none)) else (some true)
def spec_Nested.f : Nat → Bool → Int → ByteArray → List (S25) → Int → Option (Bool)
  | 0, _, _, _, _, _ => none
  | k + 1, a0_0, a0_1, a0_2, l0_3, a1 => if a1 = 0 then (spec_Nested.j0 k a1 true a0_0 a0_1 a0_2 l0_3) else (spec_Nested.j0 k a1 a0_0 a0_0 a0_1 a0_2 l0_3)
end
theorem spec_Nested.mono_l : ∀ k, (∀ y0 y1 y2 y3 y4, LeO (spec_Nested.f k y0 y1 y2 y3 y4) (spec_Nested.f (k + 1) y0 y1 y2 y3 y4)) ∧ (∀ y0 y1 y2 y3 y4 y5, LeO (spec_Nested.j0 k y0 y1 y2 y3 y4 y5) (spec_Nested.j0 (k + 1) y0 y1 y2 y3 y4 y5)) ∧ (∀ y0 y1 y2 y3, LeO (spec_Nested.l0 k y0 y1 y2 y3) (spec_Nested.l0 (k + 1) y0 y1 y2 y3))
  | 0 => ⟨fun _ _ _ _ _ r h => by simp [spec_Nested.f] at h, fun _ _ _ _ _ _ r h => by simp [spec_Nested.j0] at h, fun _ _ _ _ r h => by simp [spec_Nested.l0] at h⟩
  | k + 1 => by
    obtain ⟨ih0, ih1, ih2⟩ := spec_Nested.mono_l k
    refine ⟨?_, ?_, ?_⟩
    · intro y0 y1 y2 y3 y4
      unfold spec_Nested.f
      repeat' first
      | (with_reducible exact ih0 _ _ _ _ _)
      | (with_reducible exact ih1 _ _ _ _ _ _)
      | (with_reducible exact ih2 _ _ _ _)
      | (with_reducible exact LeO.refl _)
      | (with_reducible exact LeO.none _)
      | (with_reducible refine LeO.ite ?_ ?_)
      | (with_reducible refine LeO.bind ?_ (fun _ => ?_))
      | exact ih0 _ _ _ _ _
      | exact ih1 _ _ _ _ _ _
      | exact ih2 _ _ _ _
      | exact LeO.none _
      | refine LeO.ite ?_ ?_
      | refine LeO.bind ?_ (fun _ => ?_)
    · intro y0 y1 y2 y3 y4 y5
      unfold spec_Nested.j0
      repeat' first
      | (with_reducible exact ih0 _ _ _ _ _)
      | (with_reducible exact ih1 _ _ _ _ _ _)
      | (with_reducible exact ih2 _ _ _ _)
      | (with_reducible exact LeO.refl _)
      | (with_reducible exact LeO.none _)
      | (with_reducible refine LeO.ite ?_ ?_)
      | (with_reducible refine LeO.bind ?_ (fun _ => ?_))
      | exact ih0 _ _ _ _ _
      | exact ih1 _ _ _ _ _ _
      | exact ih2 _ _ _ _
      | exact LeO.none _
      | refine LeO.ite ?_ ?_
      | refine LeO.bind ?_ (fun _ => ?_)
    · intro y0 y1 y2 y3
      unfold spec_Nested.l0
      repeat' first
      | (with_reducible exact ih0 _ _ _ _ _)
      | (with_reducible exact ih1 _ _ _ _ _ _)
      | (with_reducible exact ih2 _ _ _ _)
      | (with_reducible exact LeO.refl _)
      | (with_reducible exact LeO.none _)
      | (with_reducible refine LeO.ite ?_ ?_)
      | (with_reducible refine LeO.bind ?_ (fun _ => ?_))
      | exact ih0 _ _ _ _ _
      | exact ih1 _ _ _ _ _ _
      | exact ih2 _ _ _ _
      | exact LeO.none _
      | refine LeO.ite ?_ ?_
      | refine LeO.bind ?_ (fun _ => ?_)
theorem spec_Nested.mono : ∀ a0 a1 a2 a3 a4 k, LeO (spec_Nested.f k a0 a1 a2 a3 a4) (spec_Nested.f (k + 1) a0 a1 a2 a3 a4) := by
  intro a0 a1 a2 a3 a4 k
  obtain ⟨ih0, ih1, ih2⟩ := spec_Nested.mono_l k
  exact ih0 a0 a1 a2 a3 a4
set_option maxHeartbeats 8000000 in
set_option maxRecDepth 100000 in
theorem spec_Nested.calls (k : Nat) : ∀ (a0_0 : Bool) (a0_1 : Int) (a0_2 : ByteArray) (A0_3 : Option Addr) (c0_3 : Nat) (l0_3 : List (S25)) (a1 : Int) (r : Bool) (w : World) (hr0_3 : Kd.C k25 w A0_3 l0_3.length l0_3) (hc0_3 : l0_3.length ≤ c0_3) (h : spec_Nested.f k a0_0 a0_1 a0_2 l0_3 a1 = some r),
    Calls Tryd.prog 10 #[.agg #[.bool a0_0, .int .u64 a0_1, .string a0_2, .slice A0_3 l0_3.length c0_3], .int .i64 a1] w fun e w' => e = .returned (.bool r) ∧ Below w.heap.size w w' := by
  induction k using Nat.strongRecOn with
  | _ k ih =>
  intro a0_0 a0_1 a0_2 A0_3 c0_3 l0_3 a1 r w hr0_3 hc0_3 h
  cases k with
  | zero => exact absurd h (by simp [spec_Nested.f])
  | succ k =>
  simp only [spec_Nested.f] at h
  have hu25 := Tryd.underlying25
  have HR0_3 := Aside0.mk hr0_3
  have HC0_3 := Aside0.mk hc0_3
  clear hr0_3 hc0_3
  have HB := Aside0.mk (Below.refl w.heap.size w)
  have H : (if a1 = 0 then (spec_Nested.j0 k a1 true a0_0 a0_1 a0_2 l0_3) else (spec_Nested.j0 k a1 a0_0 a0_0 a0_1 a0_2 l0_3)) = some r := h
  clear h
  have HC3 := Aside0.mk H
  clear H
  go_enter Tryd.func10, Tryd.ntmps10
  go_upto_region 1 with (first | ((with_reducible refine gate_dst (N := 2) rfl ?_); refine box_event ?hg (N := 2) ?hd (cs := #[.bool a0_0, .int .u64 a0_1, .string a0_2, .slice A0_3 l0_3.length c0_3]) (t := 25) ?hr ?_; (case hd => rfl); (case hg => rfl); (case hr => first | (go_simp; done) | (go_simp; rfl)); intro gb106 hg w4 hbox hb; have n0_ := Aside0.mk (below_step (by repeat (first | (with_reducible first | exact HB.out | apply below_alloc | apply pw_below_drewN | apply below_drew1) | exact HB.out)) hb); have n1_ := Aside0.mk (hbox); have n2_ := Aside0.mk ((by rw [hg]; exact (below_size (by repeat (first | (with_reducible first | exact HB.out | apply below_alloc | apply pw_below_drewN | apply below_drew1) | exact HB.out))) : w.heap.size ≤ gb106)); have n3_ := Aside0.mk ((by rw [hg]; exact (below_size (by repeat (first | (with_reducible first | exact HB.out | apply below_alloc | apply pw_below_drewN | apply below_drew1) | exact HB.out))) : w.heap.size ≤ gb106)); clear HB; have HB := n0_; have BK106 := n1_; have GW106 := n2_; have GE106 := n3_; clear n0_ n1_ n2_ n3_; clear hb hbox hg))
  (try simp only [Act.put, List.setIfInBounds_toArray, List.set_cons_zero, List.set_cons_succ])
  go_cut [12] (fun v12 wc => ∃ (kq : Nat) (x12_2 : Bool), v12 = .bool x12_2 ∧ Aside0 (spec_Nested.j0 kq a1 x12_2 a0_0 a0_1 a0_2 l0_3 = some r) ∧ Aside0 (kq ≤ k) ∧ Aside0 (wc.heap[gb106]? = some (.cells #[.bool a0_0, .int .u64 a0_1, .string a0_2, (.slice A0_3 l0_3.length c0_3)] 25 (0, 0))) ∧ Aside0 (Below w.heap.size w wc))
  case first =>
    have H := HC3.out
    clear HC3
    by_cases c5 : a1 = 0
    · rw [if_pos c5] at H
      have c5b0 : (a1 == 0) = true := beq_iff_eq.mpr c5
      have c5b1 : (a1 != 0) = false := bne_eq_false_iff_eq.mpr c5
      clear c5
      (first | rw [c5b0] | (simp only [i64_w, i32_w]; rw [c5b0]) | skip)
      have H' := Aside0.mk H
      clear H
      go_wp2
      go_meet
      case rel => exact ⟨_, (true), (by first | rfl | (simp; done) | (simp [*]; done)), H', ⟨by first | omega | exact Nat.le_refl _⟩, ⟨by (with_reducible repeat (first | refine blk_drewN ?_ _ | refine blk_drew ?_ | refine blk_alloc ?_ _)); exact BK106.out⟩, ⟨by repeat (first | (with_reducible first | exact HB.out | apply below_alloc | apply pw_below_drewN | apply below_drew1 | refine below_set ?_ GE106.out) | exact HB.out)⟩⟩
    · rw [if_neg c5] at H
      have c5b0 : (a1 == 0) = false := beq_eq_false_iff_ne.mpr c5
      have c5b1 : (a1 != 0) = true := bne_iff_ne.mpr c5
      (first | rw [c5b0] | (simp only [i64_w, i32_w]; rw [c5b0]) | skip)
      have H' := Aside0.mk H
      clear H
      have hcz6_0 : w4.cell? ⟨gb106, 0, none⟩ = some (.bool a0_0) := (blk_cell BK106.out 0).trans rfl
      have hcz6_1 : w4.cell? ⟨gb106, 1, none⟩ = some (.int .u64 a0_1) := (blk_cell BK106.out 1).trans rfl
      have hcz6_2 : w4.cell? ⟨gb106, 2, none⟩ = some (.string a0_2) := (blk_cell BK106.out 2).trans rfl
      have hcz6_3 : w4.cell? ⟨gb106, 3, none⟩ = some (.slice A0_3 l0_3.length c0_3) := (blk_cell BK106.out 3).trans rfl
      have hfz6_0 := blk_frozen BK106.out 0
      have hfz6_1 := blk_frozen BK106.out 1
      have hfz6_2 := blk_frozen BK106.out 2
      have hfz6_3 := blk_frozen BK106.out 3
      go_wp2
      go_meet
      case rel => exact ⟨_, (a0_0), (by first | rfl | (simp; done) | (simp [*]; done)), H', ⟨by first | omega | exact Nat.le_refl _⟩, ⟨by (with_reducible repeat (first | refine blk_drewN ?_ _ | refine blk_drew ?_ | refine blk_alloc ?_ _)); exact BK106.out⟩, ⟨by repeat (first | (with_reducible first | exact HB.out | apply below_alloc | apply pw_below_drewN | apply below_drew1 | refine below_set ?_ GE106.out) | exact HB.out)⟩⟩
  case rest =>
    clear HC3
    try clear c1
    try clear p2
    try clear c5
    try clear c5b0
    try clear c5b1
    try clear hcz6_0
    try clear hcz6_1
    try clear hcz6_2
    try clear hcz6_3
    try clear hfz6_0
    try clear hfz6_1
    try clear hfz6_2
    try clear hfz6_3
    obtain ⟨kq, x12_2, rfl, HA, HJ2, BK106, HB⟩ := hcut
    cases kq with
    | zero => exact absurd HA.out (by simp [spec_Nested.j0])
    | succ kj2 =>
      have H := HA.out
      clear HA
      simp only [spec_Nested.j0] at H
      by_cases c7 : x12_2 = true
      · subst c7
        have H1 : (some ((l0_3.length : Int) == 0)) = some r := by rw [if_pos rfl] at H; exact H
        clear H
        have H := H1
        clear H1
        obtain rfl := Option.some.inj H
        have hcz8_0 : wc.cell? ⟨gb106, 0, none⟩ = some (.bool a0_0) := (blk_cell BK106.out 0).trans rfl
        have hcz8_1 : wc.cell? ⟨gb106, 1, none⟩ = some (.int .u64 a0_1) := (blk_cell BK106.out 1).trans rfl
        have hcz8_2 : wc.cell? ⟨gb106, 2, none⟩ = some (.string a0_2) := (blk_cell BK106.out 2).trans rfl
        have hcz8_3 : wc.cell? ⟨gb106, 3, none⟩ = some (.slice A0_3 l0_3.length c0_3) := (blk_cell BK106.out 3).trans rfl
        have hfz8_0 := blk_frozen BK106.out 0
        have hfz8_1 := blk_frozen BK106.out 1
        have hfz8_2 := blk_frozen BK106.out 2
        have hfz8_3 := blk_frozen BK106.out 3
        go_wp2
        go_ret
        exact ⟨by first | rfl | (simp [errW_none, errW_some] <;> rfl) | (simp [*, errW_none, errW_some] <;> rfl), by repeat (first | (with_reducible first | exact HB.out | apply below_alloc | apply pw_below_drewN | apply below_drew1 | refine below_set ?_ GE106.out) | exact HB.out)⟩
      · replace c7 := Bool.eq_false_iff.mpr c7
        subst c7
        have H1 : (spec_Nested.l0 kj2 a1 l0_3 (l0_3.length : Int) 0) = some r := by rw [if_neg (show ¬ (false = true) by decide)] at H; exact H
        clear H
        have H := H1
        clear H1
        have H' := Aside0.mk H
        clear H
        have hcz9_0 : wc.cell? ⟨gb106, 0, none⟩ = some (.bool a0_0) := (blk_cell BK106.out 0).trans rfl
        have hcz9_1 : wc.cell? ⟨gb106, 1, none⟩ = some (.int .u64 a0_1) := (blk_cell BK106.out 1).trans rfl
        have hcz9_2 : wc.cell? ⟨gb106, 2, none⟩ = some (.string a0_2) := (blk_cell BK106.out 2).trans rfl
        have hcz9_3 : wc.cell? ⟨gb106, 3, none⟩ = some (.slice A0_3 l0_3.length c0_3) := (blk_cell BK106.out 3).trans rfl
        have hfz9_0 := blk_frozen BK106.out 0
        have hfz9_1 := blk_frozen BK106.out 1
        have hfz9_2 := blk_frozen BK106.out 2
        have hfz9_3 := blk_frozen BK106.out 3
        go_wp2
        go_loopg [20] kj2 (fun kq v20 w' => ∃ (x20_2 : Int), v20 = .int .i64 x20_2 ∧ Aside0 (spec_Nested.l0 kq a1 l0_3 (l0_3.length : Int) x20_2 = some r) ∧ Aside0 (kq ≤ kj2) ∧ Aside0 (w'.heap[gb106]? = some (.cells #[.bool a0_0, .int .u64 a0_1, .string a0_2, (.slice A0_3 l0_3.length c0_3)] 25 (0, 0))) ∧ Aside0 (Below w.heap.size w w'))
        case atStart => exact ⟨(0), (by first | rfl | (simp; done) | (simp [*]; done)), H', ⟨Nat.le_refl _⟩, ⟨by (with_reducible repeat (first | refine blk_drewN ?_ _ | refine blk_drew ?_ | refine blk_alloc ?_ _)); exact BK106.out⟩, ⟨by repeat (first | (with_reducible first | exact HB.out | apply below_alloc | apply pw_below_drewN | apply below_drew1 | refine below_set ?_ GE106.out) | exact HB.out)⟩⟩
        case round =>
          clear H'
          try clear c1
          try clear p2
          try clear c5
          try clear c5b0
          try clear c5b1
          try clear c7
          try clear hcz6_0
          try clear hcz6_1
          try clear hcz6_2
          try clear hcz6_3
          try clear hcz8_0
          try clear hcz8_1
          try clear hcz8_2
          try clear hcz8_3
          try clear hcz9_0
          try clear hcz9_1
          try clear hcz9_2
          try clear hcz9_3
          try clear hfz6_0
          try clear hfz6_1
          try clear hfz6_2
          try clear hfz6_3
          try clear hfz8_0
          try clear hfz8_1
          try clear hfz8_2
          try clear hfz8_3
          try clear hfz9_0
          try clear hfz9_1
          try clear hfz9_2
          try clear hfz9_3
          try clear p2
          obtain ⟨x20_2, rfl, HA, HK2, BK106, HB⟩ := hrel
          cases gk with
          | zero => exact absurd HA.out (by simp [spec_Nested.l0])
          | succ k2 =>
            have H := HA.out
            clear HA
            simp only [spec_Nested.l0] at H
            by_cases c10 : x20_2 < (l0_3.length : Int)
            · rw [if_pos c10] at H
              have c10b0 : decide (x20_2 < (l0_3.length : Int)) = true := decide_eq_true c10
              clear c10
              by_cases c11 : 0 ≤ x20_2
              · rw [if_pos c11] at H
                have c11b0 : decide (0 ≤ x20_2) = true := decide_eq_true c11
                clear c11
                by_cases c12 : x20_2 < (l0_3.length : Int)
                · rw [if_pos c12] at H
                  have c12b0 : decide (x20_2 < (l0_3.length : Int)) = true := decide_eq_true c12
                  clear c12
                  replace H := Option.bind_eq_some_iff.mp H
                  obtain ⟨t109, A130, H⟩ := H
                  replace H : (if t109 = true then (spec_Nested.l0 k2 a1 l0_3 (l0_3.length : Int) (wrap64 (x20_2 + 1))) else (some false)) = some r := H
                  have A13 := Aside0.mk A130
                  clear A130
                  by_cases c14 : t109 = true
                  · subst c14
                    have H1 : (spec_Nested.l0 k2 a1 l0_3 (l0_3.length : Int) (wrap64 (x20_2 + 1))) = some r := by rw [if_pos rfl] at H; exact H
                    clear H
                    have H := H1
                    clear H1
                    have H' := Aside0.mk H
                    clear H
                    have p107 : 0 ≤ (x20_2 : Int) := of_decide_eq_true (by first | (with_reducible assumption) | assumption)
                    have q107 : x20_2 < (l0_3.length : Int) := of_decide_eq_true (by first | (with_reducible assumption) | assumption)
                    obtain ⟨ad107, A107_3, c107_3, e107, hx107_0, hx107_1, hx107_2, hx107_3, hl107_3, hi107_3⟩ := at_T25 HR0_3.out x20_2 p107 q107
                    cases e107
                    replace hx107_0 := (HB.out.cell (World.block_lt_of_cell? w _ hx107_0)).trans hx107_0
                    replace hx107_1 := (HB.out.cell (World.block_lt_of_cell? w _ hx107_1)).trans hx107_1
                    replace hx107_2 := (HB.out.cell (World.block_lt_of_cell? w _ hx107_2)).trans hx107_2
                    replace hx107_3 := (HB.out.cell (World.block_lt_of_cell? w _ hx107_3)).trans hx107_3
                    have HR107_3 := Aside0.mk hi107_3
                    have HC107_3 := Aside0.mk hl107_3
                    clear hi107_3 hl107_3
                    replace p107 := eq_true p107
                    replace q107 := eq_true q107
                    go_wp2_with (first | ((with_reducible refine gate_dst (N := 6) rfl ?_); refine box_event ?hg (N := 6) ?hd (cs := #[.bool false, .int .u64 0, .string (⟨#[]⟩ : ByteArray), .slice none 0 0]) (t := 25) ?hr ?_; (case hd => rfl); (case hg => rfl); (case hr => first | (go_simp; done) | (go_simp; rfl)); intro gb108 hg w15 hbox hb; have n0_ := Aside0.mk (blk_below (g := gb106) (o := .cells #[.bool a0_0, .int .u64 a0_1, .string a0_2, .slice (some ad107) l0_3.length c0_3] 25 (0, 0)) (by (with_reducible repeat (first | refine blk_drewN ?_ _ | refine blk_drew ?_ | refine blk_alloc ?_ _)); exact BK106.out) hb); have n1_ := Aside0.mk (below_step (by repeat (first | (with_reducible first | exact HB.out | apply below_alloc | apply pw_below_drewN | apply below_drew1 | refine below_set ?_ GE106.out) | exact HB.out)) hb); have n2_ := Aside0.mk (hbox); have n3_ := Aside0.mk ((by rw [hg]; exact (below_size (by repeat (first | (with_reducible first | exact HB.out | apply below_alloc | apply pw_below_drewN | apply below_drew1 | refine below_set ?_ GE106.out) | exact HB.out))) : w.heap.size ≤ gb108)); have n4_ := Aside0.mk ((by rw [hg]; exact (below_size (by repeat (first | (with_reducible first | exact HB.out | apply below_alloc | apply pw_below_drewN | apply below_drew1 | refine below_set ?_ GE106.out) | exact HB.out))) : w.heap.size ≤ gb108)); have n5_ := Aside0.mk ((by rw [hg]; exact Nat.ne_of_lt (blk_lt (g := gb106) (o := .cells #[.bool a0_0, .int .u64 a0_1, .string a0_2, .slice (some ad107) l0_3.length c0_3] 25 (0, 0)) (by (with_reducible repeat (first | refine blk_drewN ?_ _ | refine blk_drew ?_ | refine blk_alloc ?_ _)); exact BK106.out)) : gb106 ≠ gb108)); have n6_ := Aside0.mk ((by rw [hg]; exact Nat.ne_of_gt (blk_lt (g := gb106) (o := .cells #[.bool a0_0, .int .u64 a0_1, .string a0_2, .slice (some ad107) l0_3.length c0_3] 25 (0, 0)) (by (with_reducible repeat (first | refine blk_drewN ?_ _ | refine blk_drew ?_ | refine blk_alloc ?_ _)); exact BK106.out)) : gb108 ≠ gb106)); clear BK106; clear HB; have BK106 := n0_; have HB := n1_; have BK108 := n2_; have GW108 := n3_; have GE108 := n4_; have NB106_108 := n5_; have NB108_106 := n6_; clear n0_ n1_ n2_ n3_ n4_ n5_ n6_; clear hb hbox hg; have hnb16 := NB108_106.out; have hnc16 := NB106_108.out; have hcz17_0 : w15.cell? ⟨gb108, 0, none⟩ = some (.bool false) := (blk_cell BK108.out 0).trans rfl; have hcz17_1 : w15.cell? ⟨gb108, 1, none⟩ = some (.int .u64 0) := (blk_cell BK108.out 1).trans rfl; have hcz17_2 : w15.cell? ⟨gb108, 2, none⟩ = some (.string (⟨#[]⟩ : ByteArray)) := (blk_cell BK108.out 2).trans rfl; have hcz17_3 : w15.cell? ⟨gb108, 3, none⟩ = some (.slice none 0 0) := (blk_cell BK108.out 3).trans rfl; have hfz17_0 := blk_frozen BK108.out 0; have hfz17_1 := blk_frozen BK108.out 1; have hfz17_2 := blk_frozen BK108.out 2; have hfz17_3 := blk_frozen BK108.out 3) | ((with_reducible refine gate_callee (f := 10) rfl ?_); refine goesL_ (some 27) rfl rfl Tryd.func10 (by kernel_rfl) rfl #[.agg #[.bool ((rd_T25 l0_3 x20_2).f0), .int .u64 ((rd_T25 l0_3 x20_2).f1), .string ((rd_T25 l0_3 x20_2).f2), .slice A107_3 ((rd_T25 l0_3 x20_2).f3).length c107_3], .int .i64 (wrap64 (a1 - 1))] rfl (by (try simp only [List.map_toArray, List.map_cons, List.map_nil]); first | done | rfl | (simp only [List.length_drop, List.length_take]; rfl)) ?_; (with_reducible refine (ih k2 (by have := HJ2.out; have := HK2.out; omega) ((rd_T25 l0_3 x20_2).f0) ((rd_T25 l0_3 x20_2).f1) ((rd_T25 l0_3 x20_2).f2) _ _ ((rd_T25 l0_3 x20_2).f3) (wrap64 (a1 - 1)) true _ ?side1 ?side2 A13.out).mono ?_); (case side1 => exact Kd.C_below HR107_3.out (by repeat (first | (with_reducible first | exact HB.out | apply below_alloc | apply pw_below_drewN | apply below_drew1 | refine below_set ?_ GE106.out | refine below_set ?_ GE108.out) | exact HB.out))); (case side2 => exact HC107_3.out); rintro e w18 ⟨rfl, hb⟩; refine ⟨_, rfl, ?_⟩; have n0_ := Aside0.mk (blk_below (g := gb106) (o := .cells #[.bool a0_0, .int .u64 a0_1, .string a0_2, .slice (some ad107) l0_3.length c0_3] 25 (0, 0)) (by (with_reducible repeat (first | refine blk_drewN ?_ _ | refine blk_drew ?_ | refine blk_alloc ?_ _)); refine blk_far ?_ NB106_108.out _; (with_reducible repeat (first | refine blk_drewN ?_ _ | refine blk_drew ?_ | refine blk_alloc ?_ _)); refine blk_far ?_ NB106_108.out _; (with_reducible repeat (first | refine blk_drewN ?_ _ | refine blk_drew ?_ | refine blk_alloc ?_ _)); refine blk_far ?_ NB106_108.out _; (with_reducible repeat (first | refine blk_drewN ?_ _ | refine blk_drew ?_ | refine blk_alloc ?_ _)); refine blk_far ?_ NB106_108.out _; (with_reducible repeat (first | refine blk_drewN ?_ _ | refine blk_drew ?_ | refine blk_alloc ?_ _)); exact BK106.out) hb); have n1_ := Aside0.mk (blk_below (g := gb108) (o := .cells #[.bool ((rd_T25 l0_3 x20_2).f0), .int .u64 ((rd_T25 l0_3 x20_2).f1), .string ((rd_T25 l0_3 x20_2).f2), .slice A107_3 ((rd_T25 l0_3 x20_2).f3).length c107_3] 25 (0, 0)) (by (with_reducible repeat (first | refine blk_drewN ?_ _ | refine blk_drew ?_ | refine blk_alloc ?_ _)); refine blk_put (cs := #[.bool ((rd_T25 l0_3 x20_2).f0), .int .u64 ((rd_T25 l0_3 x20_2).f1), .string ((rd_T25 l0_3 x20_2).f2), .slice none 0 0]) ?_ 3 _ rfl; (with_reducible repeat (first | refine blk_drewN ?_ _ | refine blk_drew ?_ | refine blk_alloc ?_ _)); refine blk_put (cs := #[.bool ((rd_T25 l0_3 x20_2).f0), .int .u64 ((rd_T25 l0_3 x20_2).f1), .string (⟨#[]⟩ : ByteArray), .slice none 0 0]) ?_ 2 _ rfl; (with_reducible repeat (first | refine blk_drewN ?_ _ | refine blk_drew ?_ | refine blk_alloc ?_ _)); refine blk_put (cs := #[.bool ((rd_T25 l0_3 x20_2).f0), .int .u64 0, .string (⟨#[]⟩ : ByteArray), .slice none 0 0]) ?_ 1 _ rfl; (with_reducible repeat (first | refine blk_drewN ?_ _ | refine blk_drew ?_ | refine blk_alloc ?_ _)); refine blk_put (cs := #[.bool false, .int .u64 0, .string (⟨#[]⟩ : ByteArray), .slice none 0 0]) ?_ 0 _ rfl; (with_reducible repeat (first | refine blk_drewN ?_ _ | refine blk_drew ?_ | refine blk_alloc ?_ _)); exact BK108.out) hb); have n2_ := Aside0.mk (below_step (by repeat (first | (with_reducible first | exact HB.out | apply below_alloc | apply pw_below_drewN | apply below_drew1 | refine below_set ?_ GE106.out | refine below_set ?_ GE108.out) | exact HB.out)) hb); clear BK106; clear BK108; clear HB; have BK106 := n0_; have BK108 := n1_; have HB := n2_; clear n0_ n1_ n2_; (try clear hb); (try clear hb2); (try clear hk); (try clear hi)))
                    go_roundg k2
                    case measure => have := HJ2.out; have := HK2.out; omega
                    case rel => exact ⟨(wrap64 (x20_2 + 1)), (by first | rfl | (simp; done) | (simp [*]; done)), H', ⟨by have := HJ2.out; have := HK2.out; omega⟩, ⟨by (with_reducible repeat (first | refine blk_drewN ?_ _ | refine blk_drew ?_ | refine blk_alloc ?_ _)); exact BK106.out⟩, ⟨by repeat (first | (with_reducible first | exact HB.out | apply below_alloc | apply pw_below_drewN | apply below_drew1 | refine below_set ?_ GE106.out | refine below_set ?_ GE108.out) | exact HB.out)⟩⟩
                  · replace c14 := Bool.eq_false_iff.mpr c14
                    subst c14
                    have H1 : (some false) = some r := by rw [if_neg (show ¬ (false = true) by decide)] at H; exact H
                    clear H
                    have H := H1
                    clear H1
                    obtain rfl := Option.some.inj H
                    have p107 : 0 ≤ (x20_2 : Int) := of_decide_eq_true (by first | (with_reducible assumption) | assumption)
                    have q107 : x20_2 < (l0_3.length : Int) := of_decide_eq_true (by first | (with_reducible assumption) | assumption)
                    obtain ⟨ad107, A107_3, c107_3, e107, hx107_0, hx107_1, hx107_2, hx107_3, hl107_3, hi107_3⟩ := at_T25 HR0_3.out x20_2 p107 q107
                    cases e107
                    replace hx107_0 := (HB.out.cell (World.block_lt_of_cell? w _ hx107_0)).trans hx107_0
                    replace hx107_1 := (HB.out.cell (World.block_lt_of_cell? w _ hx107_1)).trans hx107_1
                    replace hx107_2 := (HB.out.cell (World.block_lt_of_cell? w _ hx107_2)).trans hx107_2
                    replace hx107_3 := (HB.out.cell (World.block_lt_of_cell? w _ hx107_3)).trans hx107_3
                    have HR107_3 := Aside0.mk hi107_3
                    have HC107_3 := Aside0.mk hl107_3
                    clear hi107_3 hl107_3
                    replace p107 := eq_true p107
                    replace q107 := eq_true q107
                    go_wp2_with (first | ((with_reducible refine gate_dst (N := 6) rfl ?_); refine box_event ?hg (N := 6) ?hd (cs := #[.bool false, .int .u64 0, .string (⟨#[]⟩ : ByteArray), .slice none 0 0]) (t := 25) ?hr ?_; (case hd => rfl); (case hg => rfl); (case hr => first | (go_simp; done) | (go_simp; rfl)); intro gb108 hg w19 hbox hb; have n0_ := Aside0.mk (blk_below (g := gb106) (o := .cells #[.bool a0_0, .int .u64 a0_1, .string a0_2, .slice (some ad107) l0_3.length c0_3] 25 (0, 0)) (by (with_reducible repeat (first | refine blk_drewN ?_ _ | refine blk_drew ?_ | refine blk_alloc ?_ _)); exact BK106.out) hb); have n1_ := Aside0.mk (below_step (by repeat (first | (with_reducible first | exact HB.out | apply below_alloc | apply pw_below_drewN | apply below_drew1 | refine below_set ?_ GE106.out) | exact HB.out)) hb); have n2_ := Aside0.mk (hbox); have n3_ := Aside0.mk ((by rw [hg]; exact (below_size (by repeat (first | (with_reducible first | exact HB.out | apply below_alloc | apply pw_below_drewN | apply below_drew1 | refine below_set ?_ GE106.out) | exact HB.out))) : w.heap.size ≤ gb108)); have n4_ := Aside0.mk ((by rw [hg]; exact (below_size (by repeat (first | (with_reducible first | exact HB.out | apply below_alloc | apply pw_below_drewN | apply below_drew1 | refine below_set ?_ GE106.out) | exact HB.out))) : w.heap.size ≤ gb108)); have n5_ := Aside0.mk ((by rw [hg]; exact Nat.ne_of_lt (blk_lt (g := gb106) (o := .cells #[.bool a0_0, .int .u64 a0_1, .string a0_2, .slice (some ad107) l0_3.length c0_3] 25 (0, 0)) (by (with_reducible repeat (first | refine blk_drewN ?_ _ | refine blk_drew ?_ | refine blk_alloc ?_ _)); exact BK106.out)) : gb106 ≠ gb108)); have n6_ := Aside0.mk ((by rw [hg]; exact Nat.ne_of_gt (blk_lt (g := gb106) (o := .cells #[.bool a0_0, .int .u64 a0_1, .string a0_2, .slice (some ad107) l0_3.length c0_3] 25 (0, 0)) (by (with_reducible repeat (first | refine blk_drewN ?_ _ | refine blk_drew ?_ | refine blk_alloc ?_ _)); exact BK106.out)) : gb108 ≠ gb106)); clear BK106; clear HB; have BK106 := n0_; have HB := n1_; have BK108 := n2_; have GW108 := n3_; have GE108 := n4_; have NB106_108 := n5_; have NB108_106 := n6_; clear n0_ n1_ n2_ n3_ n4_ n5_ n6_; clear hb hbox hg; have hnb20 := NB108_106.out; have hnc20 := NB106_108.out; have hcz21_0 : w19.cell? ⟨gb108, 0, none⟩ = some (.bool false) := (blk_cell BK108.out 0).trans rfl; have hcz21_1 : w19.cell? ⟨gb108, 1, none⟩ = some (.int .u64 0) := (blk_cell BK108.out 1).trans rfl; have hcz21_2 : w19.cell? ⟨gb108, 2, none⟩ = some (.string (⟨#[]⟩ : ByteArray)) := (blk_cell BK108.out 2).trans rfl; have hcz21_3 : w19.cell? ⟨gb108, 3, none⟩ = some (.slice none 0 0) := (blk_cell BK108.out 3).trans rfl; have hfz21_0 := blk_frozen BK108.out 0; have hfz21_1 := blk_frozen BK108.out 1; have hfz21_2 := blk_frozen BK108.out 2; have hfz21_3 := blk_frozen BK108.out 3) | ((with_reducible refine gate_callee (f := 10) rfl ?_); refine goesL_ (some 27) rfl rfl Tryd.func10 (by kernel_rfl) rfl #[.agg #[.bool ((rd_T25 l0_3 x20_2).f0), .int .u64 ((rd_T25 l0_3 x20_2).f1), .string ((rd_T25 l0_3 x20_2).f2), .slice A107_3 ((rd_T25 l0_3 x20_2).f3).length c107_3], .int .i64 (wrap64 (a1 - 1))] rfl (by (try simp only [List.map_toArray, List.map_cons, List.map_nil]); first | done | rfl | (simp only [List.length_drop, List.length_take]; rfl)) ?_; (with_reducible refine (ih k2 (by have := HJ2.out; have := HK2.out; omega) ((rd_T25 l0_3 x20_2).f0) ((rd_T25 l0_3 x20_2).f1) ((rd_T25 l0_3 x20_2).f2) _ _ ((rd_T25 l0_3 x20_2).f3) (wrap64 (a1 - 1)) false _ ?side1 ?side2 A13.out).mono ?_); (case side1 => exact Kd.C_below HR107_3.out (by repeat (first | (with_reducible first | exact HB.out | apply below_alloc | apply pw_below_drewN | apply below_drew1 | refine below_set ?_ GE106.out | refine below_set ?_ GE108.out) | exact HB.out))); (case side2 => exact HC107_3.out); rintro e w22 ⟨rfl, hb⟩; refine ⟨_, rfl, ?_⟩; have n0_ := Aside0.mk (blk_below (g := gb106) (o := .cells #[.bool a0_0, .int .u64 a0_1, .string a0_2, .slice (some ad107) l0_3.length c0_3] 25 (0, 0)) (by (with_reducible repeat (first | refine blk_drewN ?_ _ | refine blk_drew ?_ | refine blk_alloc ?_ _)); refine blk_far ?_ NB106_108.out _; (with_reducible repeat (first | refine blk_drewN ?_ _ | refine blk_drew ?_ | refine blk_alloc ?_ _)); refine blk_far ?_ NB106_108.out _; (with_reducible repeat (first | refine blk_drewN ?_ _ | refine blk_drew ?_ | refine blk_alloc ?_ _)); refine blk_far ?_ NB106_108.out _; (with_reducible repeat (first | refine blk_drewN ?_ _ | refine blk_drew ?_ | refine blk_alloc ?_ _)); refine blk_far ?_ NB106_108.out _; (with_reducible repeat (first | refine blk_drewN ?_ _ | refine blk_drew ?_ | refine blk_alloc ?_ _)); exact BK106.out) hb); have n1_ := Aside0.mk (blk_below (g := gb108) (o := .cells #[.bool ((rd_T25 l0_3 x20_2).f0), .int .u64 ((rd_T25 l0_3 x20_2).f1), .string ((rd_T25 l0_3 x20_2).f2), .slice A107_3 ((rd_T25 l0_3 x20_2).f3).length c107_3] 25 (0, 0)) (by (with_reducible repeat (first | refine blk_drewN ?_ _ | refine blk_drew ?_ | refine blk_alloc ?_ _)); refine blk_put (cs := #[.bool ((rd_T25 l0_3 x20_2).f0), .int .u64 ((rd_T25 l0_3 x20_2).f1), .string ((rd_T25 l0_3 x20_2).f2), .slice none 0 0]) ?_ 3 _ rfl; (with_reducible repeat (first | refine blk_drewN ?_ _ | refine blk_drew ?_ | refine blk_alloc ?_ _)); refine blk_put (cs := #[.bool ((rd_T25 l0_3 x20_2).f0), .int .u64 ((rd_T25 l0_3 x20_2).f1), .string (⟨#[]⟩ : ByteArray), .slice none 0 0]) ?_ 2 _ rfl; (with_reducible repeat (first | refine blk_drewN ?_ _ | refine blk_drew ?_ | refine blk_alloc ?_ _)); refine blk_put (cs := #[.bool ((rd_T25 l0_3 x20_2).f0), .int .u64 0, .string (⟨#[]⟩ : ByteArray), .slice none 0 0]) ?_ 1 _ rfl; (with_reducible repeat (first | refine blk_drewN ?_ _ | refine blk_drew ?_ | refine blk_alloc ?_ _)); refine blk_put (cs := #[.bool false, .int .u64 0, .string (⟨#[]⟩ : ByteArray), .slice none 0 0]) ?_ 0 _ rfl; (with_reducible repeat (first | refine blk_drewN ?_ _ | refine blk_drew ?_ | refine blk_alloc ?_ _)); exact BK108.out) hb); have n2_ := Aside0.mk (below_step (by repeat (first | (with_reducible first | exact HB.out | apply below_alloc | apply pw_below_drewN | apply below_drew1 | refine below_set ?_ GE106.out | refine below_set ?_ GE108.out) | exact HB.out)) hb); clear BK106; clear BK108; clear HB; have BK106 := n0_; have BK108 := n1_; have HB := n2_; clear n0_ n1_ n2_; (try clear hb); (try clear hb2); (try clear hk); (try clear hi)))
                    go_ret
                    exact ⟨by first | rfl | (simp [errW_none, errW_some] <;> rfl) | (simp [*, errW_none, errW_some] <;> rfl), by repeat (first | (with_reducible first | exact HB.out | apply below_alloc | apply pw_below_drewN | apply below_drew1 | refine below_set ?_ GE106.out | refine below_set ?_ GE108.out) | exact HB.out)⟩
                · rw [if_neg c12] at H
                  exact absurd H (by simp)
              · rw [if_neg c11] at H
                exact absurd H (by simp)
            · rw [if_neg c10] at H
              have c10b0 : decide (x20_2 < (l0_3.length : Int)) = false := decide_eq_false c10
              clear c10
              obtain rfl := Option.some.inj H
              go_wp2
              go_ret
              exact ⟨by first | rfl | (simp [errW_none, errW_some] <;> rfl) | (simp [*, errW_none, errW_some] <;> rfl), by repeat (first | (with_reducible first | exact HB.out | apply below_alloc | apply pw_below_drewN | apply below_drew1 | refine below_set ?_ GE106.out) | exact HB.out)⟩

/-! ### laws_rowsFit: function 4 -/
mutual
def laws_rowsFit.j0 : Nat → List (S25) → Int → Bool → Option (Bool)
  | 0, _, _, _ => none
  | k + 1, x0, x1, x18 => if x18 = true then (some false) else (laws_rowsFit.l0 k x0 x1 0)
def laws_rowsFit.l0 : Nat → List (S25) → Int → Int → Option (Bool)
  | 0, _, _, _ => none
  | k + 1, x0, x1, x5 => if x5 ≤ x1 then ((spec_At.f k x0 x5).bind fun t110 => (if (t110.length : Int) > 2000 then (some false) else (laws_rowsFit.l0 k x0 x1 (wrap64 (x5 + 1))))) else (laws_rowsFit.l1 k x1 x0 (x0.length : Int) 0)
def laws_rowsFit.l1 : Nat → Int → List (S25) → Int → Int → Option (Bool)
  | 0, _, _, _, _ => none
  | k + 1, x1, x29, x30, x31 => if x31 < x30 then (if 0 ≤ x31 then (if x31 < (x29.length : Int) then ((spec_Nested.f k ((rd_T25 x29 x31).f0) ((rd_T25 x29 x31).f1) ((rd_T25 x29 x31).f2) ((rd_T25 x29 x31).f3) x1).bind fun t115 => (if t115 = true then (laws_rowsFit.l1 k x1 x29 x30 (wrap64 (x31 + 1))) else (some false))) else (none)) else (none)) else (some true)
end
def laws_rowsFit.f (k : Nat) (l0 : List (S25)) (a1 : Int) : Option (Bool) := if a1 < 0 then (laws_rowsFit.j0 k l0 a1 true) else (if a1 > 4 then (laws_rowsFit.j0 k l0 a1 true) else (laws_rowsFit.j0 k l0 a1 (decide ((l0.length : Int) > 500))))
theorem laws_rowsFit.mono_l : ∀ k, (∀ y0 y1 y2, LeO (laws_rowsFit.j0 k y0 y1 y2) (laws_rowsFit.j0 (k + 1) y0 y1 y2)) ∧ (∀ y0 y1 y2, LeO (laws_rowsFit.l0 k y0 y1 y2) (laws_rowsFit.l0 (k + 1) y0 y1 y2)) ∧ (∀ y0 y1 y2 y3, LeO (laws_rowsFit.l1 k y0 y1 y2 y3) (laws_rowsFit.l1 (k + 1) y0 y1 y2 y3))
  | 0 => ⟨fun _ _ _ r h => by simp [laws_rowsFit.j0] at h, fun _ _ _ r h => by simp [laws_rowsFit.l0] at h, fun _ _ _ _ r h => by simp [laws_rowsFit.l1] at h⟩
  | k + 1 => by
    obtain ⟨ih0, ih1, ih2⟩ := laws_rowsFit.mono_l k
    refine ⟨?_, ?_, ?_⟩
    · intro y0 y1 y2
      unfold laws_rowsFit.j0
      repeat' first
      | (with_reducible exact ih0 _ _ _)
      | (with_reducible exact ih1 _ _ _)
      | (with_reducible exact ih2 _ _ _ _)
      | (with_reducible exact spec_At.mono _ _ _)
      | (with_reducible exact spec_Nested.mono _ _ _ _ _ _)
      | (with_reducible exact LeO.refl _)
      | (with_reducible exact LeO.none _)
      | (with_reducible refine LeO.ite ?_ ?_)
      | (with_reducible refine LeO.bind ?_ (fun _ => ?_))
      | exact ih0 _ _ _
      | exact ih1 _ _ _
      | exact ih2 _ _ _ _
      | exact spec_At.mono _ _ _
      | exact spec_Nested.mono _ _ _ _ _ _
      | exact LeO.none _
      | refine LeO.ite ?_ ?_
      | refine LeO.bind ?_ (fun _ => ?_)
    · intro y0 y1 y2
      unfold laws_rowsFit.l0
      repeat' first
      | (with_reducible exact ih0 _ _ _)
      | (with_reducible exact ih1 _ _ _)
      | (with_reducible exact ih2 _ _ _ _)
      | (with_reducible exact spec_At.mono _ _ _)
      | (with_reducible exact spec_Nested.mono _ _ _ _ _ _)
      | (with_reducible exact LeO.refl _)
      | (with_reducible exact LeO.none _)
      | (with_reducible refine LeO.ite ?_ ?_)
      | (with_reducible refine LeO.bind ?_ (fun _ => ?_))
      | exact ih0 _ _ _
      | exact ih1 _ _ _
      | exact ih2 _ _ _ _
      | exact spec_At.mono _ _ _
      | exact spec_Nested.mono _ _ _ _ _ _
      | exact LeO.none _
      | refine LeO.ite ?_ ?_
      | refine LeO.bind ?_ (fun _ => ?_)
    · intro y0 y1 y2 y3
      unfold laws_rowsFit.l1
      repeat' first
      | (with_reducible exact ih0 _ _ _)
      | (with_reducible exact ih1 _ _ _)
      | (with_reducible exact ih2 _ _ _ _)
      | (with_reducible exact spec_At.mono _ _ _)
      | (with_reducible exact spec_Nested.mono _ _ _ _ _ _)
      | (with_reducible exact LeO.refl _)
      | (with_reducible exact LeO.none _)
      | (with_reducible refine LeO.ite ?_ ?_)
      | (with_reducible refine LeO.bind ?_ (fun _ => ?_))
      | exact ih0 _ _ _
      | exact ih1 _ _ _
      | exact ih2 _ _ _ _
      | exact spec_At.mono _ _ _
      | exact spec_Nested.mono _ _ _ _ _ _
      | exact LeO.none _
      | refine LeO.ite ?_ ?_
      | refine LeO.bind ?_ (fun _ => ?_)
theorem laws_rowsFit.mono : ∀ a0 a1 k, LeO (laws_rowsFit.f k a0 a1) (laws_rowsFit.f (k + 1) a0 a1) := by
  intro a0 a1 k
  obtain ⟨ih0, ih1, ih2⟩ := laws_rowsFit.mono_l k
  unfold laws_rowsFit.f
  repeat' first
      | (with_reducible exact ih0 _ _ _)
      | (with_reducible exact ih1 _ _ _)
      | (with_reducible exact ih2 _ _ _ _)
      | (with_reducible exact spec_At.mono _ _ _)
      | (with_reducible exact spec_Nested.mono _ _ _ _ _ _)
      | (with_reducible exact LeO.refl _)
      | (with_reducible exact LeO.none _)
      | (with_reducible refine LeO.ite ?_ ?_)
      | (with_reducible refine LeO.bind ?_ (fun _ => ?_))
      | exact ih0 _ _ _
      | exact ih1 _ _ _
      | exact ih2 _ _ _ _
      | exact spec_At.mono _ _ _
      | exact spec_Nested.mono _ _ _ _ _ _
      | exact LeO.none _
      | refine LeO.ite ?_ ?_
      | refine LeO.bind ?_ (fun _ => ?_)
set_option maxHeartbeats 8000000 in
set_option maxRecDepth 100000 in
theorem laws_rowsFit.calls (k : Nat) (A0 : Option Addr) (c0 : Nat) (l0 : List (S25)) (a1 : Int) (r : Bool) (w : World) (hr0 : Kd.C k25 w A0 l0.length l0) (hc0 : l0.length ≤ c0) (h : laws_rowsFit.f k l0 a1 = some r) :
    Calls Tryd.prog 4 #[.slice A0 l0.length c0, .int .i64 a1] w fun e w' => e = .returned (.bool r) ∧ Below w.heap.size w w' := by
  have hu25 := Tryd.underlying25
  have HR0 := Aside0.mk hr0
  have HC0 := Aside0.mk hc0
  clear hr0 hc0
  have HB := Aside0.mk (Below.refl w.heap.size w)
  have H : (if a1 < 0 then (laws_rowsFit.j0 k l0 a1 true) else (if a1 > 4 then (laws_rowsFit.j0 k l0 a1 true) else (laws_rowsFit.j0 k l0 a1 (decide ((l0.length : Int) > 500))))) = some r := h
  clear h
  have HC3 := Aside0.mk H
  clear H
  go_enter Tryd.func4, Tryd.ntmps4
  go_upto_region 1 with (fail)
  go_cut [18] (fun v18 wc => ∃ (kq : Nat) (x18_2 : Bool), v18 = .bool x18_2 ∧ Aside0 (laws_rowsFit.j0 kq l0 a1 x18_2 = some r) ∧ Aside0 (kq ≤ k) ∧ Aside0 (Below w.heap.size w wc))
  case first =>
    have H := HC3.out
    clear HC3
    by_cases c4 : a1 < 0
    · rw [if_pos c4] at H
      have c4b0 : decide (a1 < 0) = true := decide_eq_true c4
      clear c4
      (first | rw [c4b0] | (simp only [i64_w, i32_w]; rw [c4b0]) | skip)
      have H' := Aside0.mk H
      clear H
      go_wp2
      go_meet
      case rel => exact ⟨_, (true), (by first | rfl | (simp; done) | (simp [*]; done)), H', ⟨by first | omega | exact Nat.le_refl _⟩, ⟨by repeat (first | (with_reducible first | exact HB.out | apply below_alloc | apply pw_below_drewN | apply below_drew1) | exact HB.out)⟩⟩
    · rw [if_neg c4] at H
      have c4b0 : decide (a1 < 0) = false := decide_eq_false c4
      clear c4
      (first | rw [c4b0] | (simp only [i64_w, i32_w]; rw [c4b0]) | skip)
      by_cases c5 : a1 > 4
      · rw [if_pos c5] at H
        have c5b0 : decide (4 < a1) = true := decide_eq_true c5
        clear c5
        have H' := Aside0.mk H
        clear H
        go_wp2
        go_meet
        case rel => exact ⟨_, (true), (by first | rfl | (simp; done) | (simp [*]; done)), H', ⟨by first | omega | exact Nat.le_refl _⟩, ⟨by repeat (first | (with_reducible first | exact HB.out | apply below_alloc | apply pw_below_drewN | apply below_drew1) | exact HB.out)⟩⟩
      · rw [if_neg c5] at H
        have c5b0 : decide (4 < a1) = false := decide_eq_false c5
        clear c5
        have H' := Aside0.mk H
        clear H
        go_wp2
        go_meet
        case rel => exact ⟨_, (decide ((l0.length : Int) > 500)), (by first | rfl | (simp; done) | (simp [*]; done)), H', ⟨by first | omega | exact Nat.le_refl _⟩, ⟨by repeat (first | (with_reducible first | exact HB.out | apply below_alloc | apply pw_below_drewN | apply below_drew1) | exact HB.out)⟩⟩
  case rest =>
    clear HC3
    try clear p2
    try clear c4
    try clear c4b0
    try clear c5
    try clear c5b0
    obtain ⟨kq, x18_2, rfl, HA, HJ2, HB⟩ := hcut
    cases kq with
    | zero => exact absurd HA.out (by simp [laws_rowsFit.j0])
    | succ kj2 =>
      have H := HA.out
      clear HA
      simp only [laws_rowsFit.j0] at H
      by_cases c6 : x18_2 = true
      · subst c6
        have H1 : (some false) = some r := by rw [if_pos rfl] at H; exact H
        clear H
        have H := H1
        clear H1
        obtain rfl := Option.some.inj H
        go_wp2
        go_ret
        exact ⟨by first | rfl | (simp [errW_none, errW_some] <;> rfl) | (simp [*, errW_none, errW_some] <;> rfl), by repeat (first | (with_reducible first | exact HB.out | apply below_alloc | apply pw_below_drewN | apply below_drew1) | exact HB.out)⟩
      · replace c6 := Bool.eq_false_iff.mpr c6
        subst c6
        have H1 : (laws_rowsFit.l0 kj2 l0 a1 0) = some r := by rw [if_neg (show ¬ (false = true) by decide)] at H; exact H
        clear H
        have H := H1
        clear H1
        have H' := Aside0.mk H
        clear H
        go_wp2
        go_loopg [5] kj2 (fun kq v5 w' => ∃ (x5_2 : Int), v5 = .int .i64 x5_2 ∧ Aside0 (laws_rowsFit.l0 kq l0 a1 x5_2 = some r) ∧ Aside0 (kq ≤ kj2) ∧ Aside0 (Below w.heap.size w w'))
        case atStart => exact ⟨(0), (by first | rfl | (simp; done) | (simp [*]; done)), H', ⟨Nat.le_refl _⟩, ⟨by repeat (first | (with_reducible first | exact HB.out | apply below_alloc | apply pw_below_drewN | apply below_drew1) | exact HB.out)⟩⟩
        case round =>
          clear H'
          try clear p2
          try clear c4
          try clear c4b0
          try clear c5
          try clear c5b0
          try clear c6
          try clear p2
          obtain ⟨x5_2, rfl, HA, HK2, HB⟩ := hrel
          cases gk with
          | zero => exact absurd HA.out (by simp [laws_rowsFit.l0])
          | succ k2 =>
            have H := HA.out
            clear HA
            simp only [laws_rowsFit.l0] at H
            by_cases c7 : x5_2 ≤ a1
            · rw [if_pos c7] at H
              have c7b0 : decide (x5_2 ≤ a1) = true := decide_eq_true c7
              clear c7
              replace H := Option.bind_eq_some_iff.mp H
              obtain ⟨t110, A80, H⟩ := H
              replace H : (if (t110.length : Int) > 2000 then (some false) else (laws_rowsFit.l0 k2 l0 a1 (wrap64 (x5_2 + 1)))) = some r := H
              have A8 := Aside0.mk A80
              clear A80
              by_cases c9 : (t110.length : Int) > 2000
              · rw [if_pos c9] at H
                have c9b0 : decide (2000 < (t110.length : Int)) = true := decide_eq_true c9
                have c9b1 : decide (2000 < t110.length) = true := decide_eq_true (by omega)
                clear c9
                obtain rfl := Option.some.inj H
                go_wp2_with (first | ((with_reducible refine gate_callee (f := 9) rfl ?_); refine goesL_ (some 26) rfl rfl Tryd.func9 (by kernel_rfl) rfl #[.slice A0 l0.length c0, .int .i64 x5_2] rfl (by (try simp only [List.map_toArray, List.map_cons, List.map_nil]); first | done | rfl | (simp only [List.length_drop, List.length_take]; rfl)) ?_; (with_reducible refine (spec_At.calls k2 (fun k_ => k_ < w.heap.size) _ _ l0 x5_2 t110 _ ?side1 A8.out).mono ?_); (case side1 => exact Kd.V_mk HC0.out (Kd.F_below (Kd.C_F k25_heap HR0.out) (by repeat (first | (with_reducible first | exact HB.out | apply below_alloc | apply pw_below_drewN | apply below_drew1) | exact HB.out)))); rintro e w10 ⟨v111, rfl, ho0, hb⟩; refine ⟨_, rfl, ?_⟩; have n0_ := Aside0.mk (Kd.V_lower (Kd.V_mono (ok' := fun k_ => True) ho0 (fun k_ hk_ => trivial)) (below_size (by repeat (first | (with_reducible first | exact HB.out | apply below_alloc | apply pw_below_drewN | apply below_drew1) | exact HB.out)))); have n1_ := Aside0.mk (below_step (by repeat (first | (with_reducible first | exact HB.out | apply below_alloc | apply pw_below_drewN | apply below_drew1) | exact HB.out)) hb); clear HB; have HO112 := n0_; have HB := n1_; clear n0_ n1_; (try clear hb); (try clear hb2); (try clear hk); (try clear hi); (try clear ho0); obtain ⟨Ao11, co11, eo11⟩ := Kd.V_slice HO112.out; subst eo11))
                go_ret
                exact ⟨by first | rfl | (simp [errW_none, errW_some] <;> rfl) | (simp [*, errW_none, errW_some] <;> rfl), by repeat (first | (with_reducible first | exact HB.out | apply below_alloc | apply pw_below_drewN | apply below_drew1) | exact HB.out)⟩
              · rw [if_neg c9] at H
                have c9b0 : decide (2000 < (t110.length : Int)) = false := decide_eq_false c9
                have c9b1 : decide (2000 < t110.length) = false := decide_eq_false (by omega)
                clear c9
                have H' := Aside0.mk H
                clear H
                go_wp2_with (first | ((with_reducible refine gate_callee (f := 9) rfl ?_); refine goesL_ (some 26) rfl rfl Tryd.func9 (by kernel_rfl) rfl #[.slice A0 l0.length c0, .int .i64 x5_2] rfl (by (try simp only [List.map_toArray, List.map_cons, List.map_nil]); first | done | rfl | (simp only [List.length_drop, List.length_take]; rfl)) ?_; (with_reducible refine (spec_At.calls k2 (fun k_ => k_ < w.heap.size) _ _ l0 x5_2 t110 _ ?side1 A8.out).mono ?_); (case side1 => exact Kd.V_mk HC0.out (Kd.F_below (Kd.C_F k25_heap HR0.out) (by repeat (first | (with_reducible first | exact HB.out | apply below_alloc | apply pw_below_drewN | apply below_drew1) | exact HB.out)))); rintro e w12 ⟨v111, rfl, ho0, hb⟩; refine ⟨_, rfl, ?_⟩; have n0_ := Aside0.mk (Kd.V_lower (Kd.V_mono (ok' := fun k_ => True) ho0 (fun k_ hk_ => trivial)) (below_size (by repeat (first | (with_reducible first | exact HB.out | apply below_alloc | apply pw_below_drewN | apply below_drew1) | exact HB.out)))); have n1_ := Aside0.mk (below_step (by repeat (first | (with_reducible first | exact HB.out | apply below_alloc | apply pw_below_drewN | apply below_drew1) | exact HB.out)) hb); clear HB; have HO112 := n0_; have HB := n1_; clear n0_ n1_; (try clear hb); (try clear hb2); (try clear hk); (try clear hi); (try clear ho0); obtain ⟨Ao13, co13, eo13⟩ := Kd.V_slice HO112.out; subst eo13))
                go_roundg k2
                case measure => have := HJ2.out; have := HK2.out; omega
                case rel => exact ⟨(wrap64 (x5_2 + 1)), (by first | rfl | (simp; done) | (simp [*]; done)), H', ⟨by have := HJ2.out; have := HK2.out; omega⟩, ⟨by repeat (first | (with_reducible first | exact HB.out | apply below_alloc | apply pw_below_drewN | apply below_drew1) | exact HB.out)⟩⟩
            · rw [if_neg c7] at H
              have c7b0 : decide (x5_2 ≤ a1) = false := decide_eq_false c7
              clear c7
              have H' := Aside0.mk H
              clear H
              go_wp2
              go_loopg [31] k2 (fun kq v31 w' => ∃ (x31_3 : Int), v31 = .int .i64 x31_3 ∧ Aside0 (laws_rowsFit.l1 kq a1 l0 (l0.length : Int) x31_3 = some r) ∧ Aside0 (kq ≤ k2) ∧ Aside0 (Below w.heap.size w w'))
              case atStart => exact ⟨(0), (by first | rfl | (simp; done) | (simp [*]; done)), H', ⟨Nat.le_refl _⟩, ⟨by repeat (first | (with_reducible first | exact HB.out | apply below_alloc | apply pw_below_drewN | apply below_drew1) | exact HB.out)⟩⟩
              case round =>
                clear H'
                try clear p2
                try clear c4
                try clear c4b0
                try clear c5
                try clear c5b0
                try clear c6
                try clear p6
                try clear c7
                try clear c7b0
                try clear c9
                try clear c9b0
                try clear c9b1
                try clear p2
                obtain ⟨x31_3, rfl, HA, HK3, HB⟩ := hrel
                cases gk with
                | zero => exact absurd HA.out (by simp [laws_rowsFit.l1])
                | succ k3 =>
                  have H := HA.out
                  clear HA
                  simp only [laws_rowsFit.l1] at H
                  by_cases c14 : x31_3 < (l0.length : Int)
                  · rw [if_pos c14] at H
                    have c14b0 : decide (x31_3 < (l0.length : Int)) = true := decide_eq_true c14
                    clear c14
                    by_cases c15 : 0 ≤ x31_3
                    · rw [if_pos c15] at H
                      have c15b0 : decide (0 ≤ x31_3) = true := decide_eq_true c15
                      clear c15
                      by_cases c16 : x31_3 < (l0.length : Int)
                      · rw [if_pos c16] at H
                        have c16b0 : decide (x31_3 < (l0.length : Int)) = true := decide_eq_true c16
                        clear c16
                        replace H := Option.bind_eq_some_iff.mp H
                        obtain ⟨t115, A170, H⟩ := H
                        replace H : (if t115 = true then (laws_rowsFit.l1 k3 a1 l0 (l0.length : Int) (wrap64 (x31_3 + 1))) else (some false)) = some r := H
                        have A17 := Aside0.mk A170
                        clear A170
                        by_cases c18 : t115 = true
                        · subst c18
                          have H1 : (laws_rowsFit.l1 k3 a1 l0 (l0.length : Int) (wrap64 (x31_3 + 1))) = some r := by rw [if_pos rfl] at H; exact H
                          clear H
                          have H := H1
                          clear H1
                          have H' := Aside0.mk H
                          clear H
                          have p113 : 0 ≤ (x31_3 : Int) := of_decide_eq_true (by first | (with_reducible assumption) | assumption)
                          have q113 : x31_3 < (l0.length : Int) := of_decide_eq_true (by first | (with_reducible assumption) | assumption)
                          obtain ⟨ad113, A113_3, c113_3, e113, hx113_0, hx113_1, hx113_2, hx113_3, hl113_3, hi113_3⟩ := at_T25 HR0.out x31_3 p113 q113
                          cases e113
                          replace hx113_0 := (HB.out.cell (World.block_lt_of_cell? w _ hx113_0)).trans hx113_0
                          replace hx113_1 := (HB.out.cell (World.block_lt_of_cell? w _ hx113_1)).trans hx113_1
                          replace hx113_2 := (HB.out.cell (World.block_lt_of_cell? w _ hx113_2)).trans hx113_2
                          replace hx113_3 := (HB.out.cell (World.block_lt_of_cell? w _ hx113_3)).trans hx113_3
                          have HR113_3 := Aside0.mk hi113_3
                          have HC113_3 := Aside0.mk hl113_3
                          clear hi113_3 hl113_3
                          replace p113 := eq_true p113
                          replace q113 := eq_true q113
                          go_wp2_with (first | ((with_reducible refine gate_dst (N := 7) rfl ?_); (try (refine gate_guard (by rfl) ?_; dsimp only)); refine box_event ?hg (N := 7) ?hd (cs := #[.bool false, .int .u64 0, .string (⟨#[]⟩ : ByteArray), .slice none 0 0]) (t := 25) ?hr ?_; (case hd => rfl); (case hg => rfl); (case hr => first | (go_simp; done) | (go_simp; rfl)); intro gb114 hg w19 hbox hb; have n0_ := Aside0.mk (below_step (by repeat (first | (with_reducible first | exact HB.out | apply below_alloc | apply pw_below_drewN | apply below_drew1) | exact HB.out)) hb); have n1_ := Aside0.mk (hbox); have n2_ := Aside0.mk ((by rw [hg]; exact (below_size (by repeat (first | (with_reducible first | exact HB.out | apply below_alloc | apply pw_below_drewN | apply below_drew1) | exact HB.out))) : w.heap.size ≤ gb114)); have n3_ := Aside0.mk ((by rw [hg]; exact (below_size (by repeat (first | (with_reducible first | exact HB.out | apply below_alloc | apply pw_below_drewN | apply below_drew1) | exact HB.out))) : w.heap.size ≤ gb114)); clear HB; have HB := n0_; have BK114 := n1_; have GW114 := n2_; have GE114 := n3_; clear n0_ n1_ n2_ n3_; clear hb hbox hg; have hcz20_0 : w19.cell? ⟨gb114, 0, none⟩ = some (.bool false) := (blk_cell BK114.out 0).trans rfl; have hcz20_1 : w19.cell? ⟨gb114, 1, none⟩ = some (.int .u64 0) := (blk_cell BK114.out 1).trans rfl; have hcz20_2 : w19.cell? ⟨gb114, 2, none⟩ = some (.string (⟨#[]⟩ : ByteArray)) := (blk_cell BK114.out 2).trans rfl; have hcz20_3 : w19.cell? ⟨gb114, 3, none⟩ = some (.slice none 0 0) := (blk_cell BK114.out 3).trans rfl; have hfz20_0 := blk_frozen BK114.out 0; have hfz20_1 := blk_frozen BK114.out 1; have hfz20_2 := blk_frozen BK114.out 2; have hfz20_3 := blk_frozen BK114.out 3) | ((with_reducible refine gate_callee (f := 10) rfl ?_); refine goesL_ (some 37) rfl rfl Tryd.func10 (by kernel_rfl) rfl #[.agg #[.bool ((rd_T25 l0 x31_3).f0), .int .u64 ((rd_T25 l0 x31_3).f1), .string ((rd_T25 l0 x31_3).f2), .slice A113_3 ((rd_T25 l0 x31_3).f3).length c113_3], .int .i64 a1] rfl (by (try simp only [List.map_toArray, List.map_cons, List.map_nil]); first | done | rfl | (simp only [List.length_drop, List.length_take]; rfl)) ?_; (with_reducible refine (spec_Nested.calls k3 ((rd_T25 l0 x31_3).f0) ((rd_T25 l0 x31_3).f1) ((rd_T25 l0 x31_3).f2) _ _ ((rd_T25 l0 x31_3).f3) a1 true _ ?side1 ?side2 A17.out).mono ?_); (case side1 => exact Kd.C_below HR113_3.out (by repeat (first | (with_reducible first | exact HB.out | apply below_alloc | apply pw_below_drewN | apply below_drew1 | refine below_set ?_ GE114.out) | exact HB.out))); (case side2 => exact HC113_3.out); rintro e w21 ⟨rfl, hb⟩; refine ⟨_, rfl, ?_⟩; have n0_ := Aside0.mk (blk_below (g := gb114) (o := .cells #[.bool ((rd_T25 l0 x31_3).f0), .int .u64 ((rd_T25 l0 x31_3).f1), .string ((rd_T25 l0 x31_3).f2), .slice A113_3 ((rd_T25 l0 x31_3).f3).length c113_3] 25 (0, 0)) (by (with_reducible repeat (first | refine blk_drewN ?_ _ | refine blk_drew ?_ | refine blk_alloc ?_ _)); refine blk_put (cs := #[.bool ((rd_T25 l0 x31_3).f0), .int .u64 ((rd_T25 l0 x31_3).f1), .string ((rd_T25 l0 x31_3).f2), .slice none 0 0]) ?_ 3 _ rfl; (with_reducible repeat (first | refine blk_drewN ?_ _ | refine blk_drew ?_ | refine blk_alloc ?_ _)); refine blk_put (cs := #[.bool ((rd_T25 l0 x31_3).f0), .int .u64 ((rd_T25 l0 x31_3).f1), .string (⟨#[]⟩ : ByteArray), .slice none 0 0]) ?_ 2 _ rfl; (with_reducible repeat (first | refine blk_drewN ?_ _ | refine blk_drew ?_ | refine blk_alloc ?_ _)); refine blk_put (cs := #[.bool ((rd_T25 l0 x31_3).f0), .int .u64 0, .string (⟨#[]⟩ : ByteArray), .slice none 0 0]) ?_ 1 _ rfl; (with_reducible repeat (first | refine blk_drewN ?_ _ | refine blk_drew ?_ | refine blk_alloc ?_ _)); refine blk_put (cs := #[.bool false, .int .u64 0, .string (⟨#[]⟩ : ByteArray), .slice none 0 0]) ?_ 0 _ rfl; (with_reducible repeat (first | refine blk_drewN ?_ _ | refine blk_drew ?_ | refine blk_alloc ?_ _)); exact BK114.out) hb); have n1_ := Aside0.mk (below_step (by repeat (first | (with_reducible first | exact HB.out | apply below_alloc | apply pw_below_drewN | apply below_drew1 | refine below_set ?_ GE114.out) | exact HB.out)) hb); clear BK114; clear HB; have BK114 := n0_; have HB := n1_; clear n0_ n1_; (try clear hb); (try clear hb2); (try clear hk); (try clear hi)))
                          go_roundg k3
                          case measure => have := HJ2.out; have := HK2.out; have := HK3.out; omega
                          case rel => exact ⟨(wrap64 (x31_3 + 1)), (by first | rfl | (simp; done) | (simp [*]; done)), H', ⟨by have := HJ2.out; have := HK2.out; have := HK3.out; omega⟩, ⟨by repeat (first | (with_reducible first | exact HB.out | apply below_alloc | apply pw_below_drewN | apply below_drew1 | refine below_set ?_ GE114.out) | exact HB.out)⟩⟩
                        · replace c18 := Bool.eq_false_iff.mpr c18
                          subst c18
                          have H1 : (some false) = some r := by rw [if_neg (show ¬ (false = true) by decide)] at H; exact H
                          clear H
                          have H := H1
                          clear H1
                          obtain rfl := Option.some.inj H
                          have p113 : 0 ≤ (x31_3 : Int) := of_decide_eq_true (by first | (with_reducible assumption) | assumption)
                          have q113 : x31_3 < (l0.length : Int) := of_decide_eq_true (by first | (with_reducible assumption) | assumption)
                          obtain ⟨ad113, A113_3, c113_3, e113, hx113_0, hx113_1, hx113_2, hx113_3, hl113_3, hi113_3⟩ := at_T25 HR0.out x31_3 p113 q113
                          cases e113
                          replace hx113_0 := (HB.out.cell (World.block_lt_of_cell? w _ hx113_0)).trans hx113_0
                          replace hx113_1 := (HB.out.cell (World.block_lt_of_cell? w _ hx113_1)).trans hx113_1
                          replace hx113_2 := (HB.out.cell (World.block_lt_of_cell? w _ hx113_2)).trans hx113_2
                          replace hx113_3 := (HB.out.cell (World.block_lt_of_cell? w _ hx113_3)).trans hx113_3
                          have HR113_3 := Aside0.mk hi113_3
                          have HC113_3 := Aside0.mk hl113_3
                          clear hi113_3 hl113_3
                          replace p113 := eq_true p113
                          replace q113 := eq_true q113
                          go_wp2_with (first | ((with_reducible refine gate_dst (N := 7) rfl ?_); (try (refine gate_guard (by rfl) ?_; dsimp only)); refine box_event ?hg (N := 7) ?hd (cs := #[.bool false, .int .u64 0, .string (⟨#[]⟩ : ByteArray), .slice none 0 0]) (t := 25) ?hr ?_; (case hd => rfl); (case hg => rfl); (case hr => first | (go_simp; done) | (go_simp; rfl)); intro gb114 hg w22 hbox hb; have n0_ := Aside0.mk (below_step (by repeat (first | (with_reducible first | exact HB.out | apply below_alloc | apply pw_below_drewN | apply below_drew1) | exact HB.out)) hb); have n1_ := Aside0.mk (hbox); have n2_ := Aside0.mk ((by rw [hg]; exact (below_size (by repeat (first | (with_reducible first | exact HB.out | apply below_alloc | apply pw_below_drewN | apply below_drew1) | exact HB.out))) : w.heap.size ≤ gb114)); have n3_ := Aside0.mk ((by rw [hg]; exact (below_size (by repeat (first | (with_reducible first | exact HB.out | apply below_alloc | apply pw_below_drewN | apply below_drew1) | exact HB.out))) : w.heap.size ≤ gb114)); clear HB; have HB := n0_; have BK114 := n1_; have GW114 := n2_; have GE114 := n3_; clear n0_ n1_ n2_ n3_; clear hb hbox hg; have hcz23_0 : w22.cell? ⟨gb114, 0, none⟩ = some (.bool false) := (blk_cell BK114.out 0).trans rfl; have hcz23_1 : w22.cell? ⟨gb114, 1, none⟩ = some (.int .u64 0) := (blk_cell BK114.out 1).trans rfl; have hcz23_2 : w22.cell? ⟨gb114, 2, none⟩ = some (.string (⟨#[]⟩ : ByteArray)) := (blk_cell BK114.out 2).trans rfl; have hcz23_3 : w22.cell? ⟨gb114, 3, none⟩ = some (.slice none 0 0) := (blk_cell BK114.out 3).trans rfl; have hfz23_0 := blk_frozen BK114.out 0; have hfz23_1 := blk_frozen BK114.out 1; have hfz23_2 := blk_frozen BK114.out 2; have hfz23_3 := blk_frozen BK114.out 3) | ((with_reducible refine gate_callee (f := 10) rfl ?_); refine goesL_ (some 37) rfl rfl Tryd.func10 (by kernel_rfl) rfl #[.agg #[.bool ((rd_T25 l0 x31_3).f0), .int .u64 ((rd_T25 l0 x31_3).f1), .string ((rd_T25 l0 x31_3).f2), .slice A113_3 ((rd_T25 l0 x31_3).f3).length c113_3], .int .i64 a1] rfl (by (try simp only [List.map_toArray, List.map_cons, List.map_nil]); first | done | rfl | (simp only [List.length_drop, List.length_take]; rfl)) ?_; (with_reducible refine (spec_Nested.calls k3 ((rd_T25 l0 x31_3).f0) ((rd_T25 l0 x31_3).f1) ((rd_T25 l0 x31_3).f2) _ _ ((rd_T25 l0 x31_3).f3) a1 false _ ?side1 ?side2 A17.out).mono ?_); (case side1 => exact Kd.C_below HR113_3.out (by repeat (first | (with_reducible first | exact HB.out | apply below_alloc | apply pw_below_drewN | apply below_drew1 | refine below_set ?_ GE114.out) | exact HB.out))); (case side2 => exact HC113_3.out); rintro e w24 ⟨rfl, hb⟩; refine ⟨_, rfl, ?_⟩; have n0_ := Aside0.mk (blk_below (g := gb114) (o := .cells #[.bool ((rd_T25 l0 x31_3).f0), .int .u64 ((rd_T25 l0 x31_3).f1), .string ((rd_T25 l0 x31_3).f2), .slice A113_3 ((rd_T25 l0 x31_3).f3).length c113_3] 25 (0, 0)) (by (with_reducible repeat (first | refine blk_drewN ?_ _ | refine blk_drew ?_ | refine blk_alloc ?_ _)); refine blk_put (cs := #[.bool ((rd_T25 l0 x31_3).f0), .int .u64 ((rd_T25 l0 x31_3).f1), .string ((rd_T25 l0 x31_3).f2), .slice none 0 0]) ?_ 3 _ rfl; (with_reducible repeat (first | refine blk_drewN ?_ _ | refine blk_drew ?_ | refine blk_alloc ?_ _)); refine blk_put (cs := #[.bool ((rd_T25 l0 x31_3).f0), .int .u64 ((rd_T25 l0 x31_3).f1), .string (⟨#[]⟩ : ByteArray), .slice none 0 0]) ?_ 2 _ rfl; (with_reducible repeat (first | refine blk_drewN ?_ _ | refine blk_drew ?_ | refine blk_alloc ?_ _)); refine blk_put (cs := #[.bool ((rd_T25 l0 x31_3).f0), .int .u64 0, .string (⟨#[]⟩ : ByteArray), .slice none 0 0]) ?_ 1 _ rfl; (with_reducible repeat (first | refine blk_drewN ?_ _ | refine blk_drew ?_ | refine blk_alloc ?_ _)); refine blk_put (cs := #[.bool false, .int .u64 0, .string (⟨#[]⟩ : ByteArray), .slice none 0 0]) ?_ 0 _ rfl; (with_reducible repeat (first | refine blk_drewN ?_ _ | refine blk_drew ?_ | refine blk_alloc ?_ _)); exact BK114.out) hb); have n1_ := Aside0.mk (below_step (by repeat (first | (with_reducible first | exact HB.out | apply below_alloc | apply pw_below_drewN | apply below_drew1 | refine below_set ?_ GE114.out) | exact HB.out)) hb); clear BK114; clear HB; have BK114 := n0_; have HB := n1_; clear n0_ n1_; (try clear hb); (try clear hb2); (try clear hk); (try clear hi)))
                          go_ret
                          exact ⟨by first | rfl | (simp [errW_none, errW_some] <;> rfl) | (simp [*, errW_none, errW_some] <;> rfl), by repeat (first | (with_reducible first | exact HB.out | apply below_alloc | apply pw_below_drewN | apply below_drew1 | refine below_set ?_ GE114.out) | exact HB.out)⟩
                      · rw [if_neg c16] at H
                        exact absurd H (by simp)
                    · rw [if_neg c15] at H
                      exact absurd H (by simp)
                  · rw [if_neg c14] at H
                    have c14b0 : decide (x31_3 < (l0.length : Int)) = false := decide_eq_false c14
                    clear c14
                    obtain rfl := Option.some.inj H
                    go_wp2
                    go_ret
                    exact ⟨by first | rfl | (simp [errW_none, errW_some] <;> rfl) | (simp [*, errW_none, errW_some] <;> rfl), by repeat (first | (with_reducible first | exact HB.out | apply below_alloc | apply pw_below_drewN | apply below_drew1) | exact HB.out)⟩

-- NOT PRINTED: function 11 (spec_shredder_put)

-- NOT PRINTED: function 5 (spec_Shred)

-- NOT PRINTED: function 12 (impl_noLevels)

-- NOT PRINTED: function 13 (impl_LevelRoom_out)

-- NOT PRINTED: function 26 (arrow_sizeOf_int32)

-- NOT PRINTED: function 23 (arrow_SizeOf_int32)

-- NOT PRINTED: function 24 (utils_NewFirstTimeBitmapWriter)

-- NOT PRINTED: function 25 (errors_New)

-- NOT PRINTED: function 21 (file_DefRepLevelsToListInfo_int32)

-- NOT PRINTED: function 14 (file_DefRepLevelsToBitmap)

/-! ### impl_LevelRule_info: function 15 -/
def impl_LevelRule_info.f (a0_0 : Int) (a0_1 : Int) (a0_2 : Int) (a0_3 : Int) : Option (Int × Int × Int × Int) := some (wrap32 (a0_0), IntKind.i16.wrap (a0_1), IntKind.i16.wrap (a0_2), IntKind.i16.wrap (a0_3))
set_option maxHeartbeats 8000000 in
set_option maxRecDepth 100000 in
theorem impl_LevelRule_info.calls (a0_0 : Int) (a0_1 : Int) (a0_2 : Int) (a0_3 : Int) (r1 : Int) (r2 : Int) (r3 : Int) (r4 : Int) (w : World) (h : impl_LevelRule_info.f a0_0 a0_1 a0_2 a0_3 = some (r1, r2, r3, r4)) :
    Calls Tryd.prog 15 #[.agg #[.int .i64 a0_0, .int .i64 a0_1, .int .i64 a0_2, .int .i64 a0_3]] w fun e w' => e = .returned (.agg #[.int .i32 r1, .int .i16 r2, .int .i16 r3, .int .i16 r4]) ∧ Below w.heap.size w w' := by
  have hu32 := Tryd.underlying32
  have hu58 := Tryd.underlying58
  have HB := Aside0.mk (Below.refl w.heap.size w)
  have H : (some (wrap32 (a0_0), IntKind.i16.wrap (a0_1), IntKind.i16.wrap (a0_2), IntKind.i16.wrap (a0_3))) = some (r1, r2, r3, r4) := h
  clear h
  simp only [Option.some.injEq, Prod.mk.injEq] at H
  obtain ⟨rfl, rfl, rfl, rfl⟩ := H
  go_enter Tryd.func15, Tryd.ntmps15
  go_wp2_with (first | ((with_reducible refine gate_dst (N := 1) rfl ?_); refine box_event ?hg (N := 1) ?hd (cs := #[.int .i64 a0_0, .int .i64 a0_1, .int .i64 a0_2, .int .i64 a0_3]) (t := 32) ?hr ?_; (case hd => rfl); (case hg => rfl); (case hr => first | (go_simp; done) | (go_simp; rfl)); intro gb131 hg w2 hbox hb; have n0_ := Aside0.mk (below_step (by repeat (first | (with_reducible first | exact HB.out | apply below_alloc | apply pw_below_drewN | apply below_drew1) | exact HB.out)) hb); have n1_ := Aside0.mk (hbox); have n2_ := Aside0.mk ((by rw [hg]; exact (below_size (by repeat (first | (with_reducible first | exact HB.out | apply below_alloc | apply pw_below_drewN | apply below_drew1) | exact HB.out))) : w.heap.size ≤ gb131)); have n3_ := Aside0.mk ((by rw [hg]; exact (below_size (by repeat (first | (with_reducible first | exact HB.out | apply below_alloc | apply pw_below_drewN | apply below_drew1) | exact HB.out))) : w.heap.size ≤ gb131)); clear HB; have HB := n0_; have BK131 := n1_; have GW131 := n2_; have GE131 := n3_; clear n0_ n1_ n2_ n3_; clear hb hbox hg) | ((with_reducible refine gate_dst (N := 2) rfl ?_); refine box_event ?hg (N := 2) ?hd (cs := #[.int .i32 0, .int .i16 0, .int .i16 0, .int .i16 0]) (t := 58) ?hr ?_; (case hd => rfl); (case hg => rfl); (case hr => first | (go_simp; done) | (go_simp; rfl)); intro gb132 hg w3 hbox hb; have n0_ := Aside0.mk (blk_below (g := gb131) (o := .cells #[.int .i64 a0_0, .int .i64 a0_1, .int .i64 a0_2, .int .i64 a0_3] 32 (0, 0)) (by (with_reducible repeat (first | refine blk_drewN ?_ _ | refine blk_drew ?_ | refine blk_alloc ?_ _)); exact BK131.out) hb); have n1_ := Aside0.mk (below_step (by repeat (first | (with_reducible first | exact HB.out | apply below_alloc | apply pw_below_drewN | apply below_drew1 | refine below_set ?_ GE131.out) | exact HB.out)) hb); have n2_ := Aside0.mk (hbox); have n3_ := Aside0.mk ((by rw [hg]; exact (below_size (by repeat (first | (with_reducible first | exact HB.out | apply below_alloc | apply pw_below_drewN | apply below_drew1 | refine below_set ?_ GE131.out) | exact HB.out))) : w.heap.size ≤ gb132)); have n4_ := Aside0.mk ((by rw [hg]; exact (below_size (by repeat (first | (with_reducible first | exact HB.out | apply below_alloc | apply pw_below_drewN | apply below_drew1 | refine below_set ?_ GE131.out) | exact HB.out))) : w.heap.size ≤ gb132)); have n5_ := Aside0.mk ((by rw [hg]; exact Nat.ne_of_lt (blk_lt (g := gb131) (o := .cells #[.int .i64 a0_0, .int .i64 a0_1, .int .i64 a0_2, .int .i64 a0_3] 32 (0, 0)) (by (with_reducible repeat (first | refine blk_drewN ?_ _ | refine blk_drew ?_ | refine blk_alloc ?_ _)); exact BK131.out)) : gb131 ≠ gb132)); have n6_ := Aside0.mk ((by rw [hg]; exact Nat.ne_of_gt (blk_lt (g := gb131) (o := .cells #[.int .i64 a0_0, .int .i64 a0_1, .int .i64 a0_2, .int .i64 a0_3] 32 (0, 0)) (by (with_reducible repeat (first | refine blk_drewN ?_ _ | refine blk_drew ?_ | refine blk_alloc ?_ _)); exact BK131.out)) : gb132 ≠ gb131)); clear BK131; clear HB; have BK131 := n0_; have HB := n1_; have BK132 := n2_; have GW132 := n3_; have GE132 := n4_; have NB131_132 := n5_; have NB132_131 := n6_; clear n0_ n1_ n2_ n3_ n4_ n5_ n6_; clear hb hbox hg; have hnb4 := NB131_132.out; have hnc4 := NB132_131.out; have hcz5_0 : w3.cell? ⟨gb131, 0, none⟩ = some (.int .i64 a0_0) := (blk_cell BK131.out 0).trans rfl; have hcz5_1 : w3.cell? ⟨gb131, 1, none⟩ = some (.int .i64 a0_1) := (blk_cell BK131.out 1).trans rfl; have hcz5_2 : w3.cell? ⟨gb131, 2, none⟩ = some (.int .i64 a0_2) := (blk_cell BK131.out 2).trans rfl; have hcz5_3 : w3.cell? ⟨gb131, 3, none⟩ = some (.int .i64 a0_3) := (blk_cell BK131.out 3).trans rfl; have hfz5_0 := blk_frozen BK131.out 0; have hfz5_1 := blk_frozen BK131.out 1; have hfz5_2 := blk_frozen BK131.out 2; have hfz5_3 := blk_frozen BK131.out 3; have hcz6_0 : w3.cell? ⟨gb132, 0, none⟩ = some (.int .i32 0) := (blk_cell BK132.out 0).trans rfl; have hcz6_1 : w3.cell? ⟨gb132, 1, none⟩ = some (.int .i16 0) := (blk_cell BK132.out 1).trans rfl; have hcz6_2 : w3.cell? ⟨gb132, 2, none⟩ = some (.int .i16 0) := (blk_cell BK132.out 2).trans rfl; have hcz6_3 : w3.cell? ⟨gb132, 3, none⟩ = some (.int .i16 0) := (blk_cell BK132.out 3).trans rfl; have hfz6_0 := blk_frozen BK132.out 0; have hfz6_1 := blk_frozen BK132.out 1; have hfz6_2 := blk_frozen BK132.out 2; have hfz6_3 := blk_frozen BK132.out 3))
  refine bodyPost_ret (results_cell_row rfl _ _ gb132 58 #[.int .i32 (wrap32 (a0_0)), .int .i16 (IntKind.i16.wrap (a0_1)), .int .i16 (IntKind.i16.wrap (a0_2)), .int .i16 (IntKind.i16.wrap (a0_3))] (0, 0) _ rfl (by (with_reducible repeat (first | refine blk_drewN ?_ _ | refine blk_drew ?_ | refine blk_alloc ?_ _)); refine blk_put (cs := #[.int .i32 (wrap32 (a0_0)), .int .i16 (IntKind.i16.wrap (a0_1)), .int .i16 (IntKind.i16.wrap (a0_2)), .int .i16 0]) ?_ 3 _ rfl; (with_reducible repeat (first | refine blk_drewN ?_ _ | refine blk_drew ?_ | refine blk_alloc ?_ _)); refine blk_put (cs := #[.int .i32 (wrap32 (a0_0)), .int .i16 (IntKind.i16.wrap (a0_1)), .int .i16 0, .int .i16 0]) ?_ 2 _ rfl; (with_reducible repeat (first | refine blk_drewN ?_ _ | refine blk_drew ?_ | refine blk_alloc ?_ _)); refine blk_put (cs := #[.int .i32 (wrap32 (a0_0)), .int .i16 0, .int .i16 0, .int .i16 0]) ?_ 1 _ rfl; (with_reducible repeat (first | refine blk_drewN ?_ _ | refine blk_drew ?_ | refine blk_alloc ?_ _)); refine blk_put (cs := #[.int .i32 0, .int .i16 0, .int .i16 0, .int .i16 0]) ?_ 0 _ rfl; (with_reducible repeat (first | refine blk_drewN ?_ _ | refine blk_drew ?_ | refine blk_alloc ?_ _)); exact BK132.out) Tryd.underlying58 rfl (by kernel_rfl)) rfl ?_
  exact ⟨by first | rfl | (simp [errW_none, errW_some] <;> rfl) | (simp [*, errW_none, errW_some] <;> rfl), by repeat (first | (with_reducible first | exact HB.out | apply below_alloc | apply pw_below_drewN | apply below_drew1 | refine below_set ?_ GE131.out | refine below_set ?_ GE132.out) | exact HB.out)⟩

-- NOT PRINTED: function 16 (impl_levelTold)

-- NOT PRINTED: function 6 (impl_LevelStructs)

end Go.Proofs.YtjipnopadpedoaaDoor.PFnLevelStructs
