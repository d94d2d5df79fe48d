/- Printed by a program of this session (print2.py) over the kit's print: the functions that a law reaches, over contracts proved by hand. Lean checks it. -/
import Derived.Test.YtoaibapjnedhlaaGreatQAllx0
import Derived.Test.YtoaibapjnedhlaaGreatQAllx5
import Derived.Test.YtoaibapjnedhlaaGreatQAllx9
namespace Go.Proofs.YtoaibapjnedhlaaGreat.QAll
open Go.RowKit Go.Proofs.YtoaibapjnedhlaaGreatW.PrintWords Go.Proofs.YtoaibapjnedhlaaGreatW.PrintLast Go.Proofs.YtoaibapjnedhlaaGreatW.PrintMore
attribute [local go_sem] max2_int min2_int max_two min_two max_three min_three max_four min_four   -- for this text's walks alone
set_option linter.unusedVariables false
set_option linter.unusedSimpArgs false

theorem zd10_0 {p : Prop} (h : p := by repeat (first | (with_reducible first | exact HB.out | apply below_alloc | apply pw_below_drewN | apply below_drew1 | refine below_set ?_ GE185.out | refine below_set ?_ GE186.out | refine below_set ?_ GE187.out) | exact HB.out)) : p := h
theorem zd10_1 {p : Prop} (h : p := by (with_reducible repeat (first | refine blk_drewN ?_ _ | refine blk_drew ?_ | refine blk_alloc ?_ _)); exact BK185.out) : p := h
theorem zd10_2 {p : Prop} (h : p := by (with_reducible repeat (first | refine blk_drewN ?_ _ | refine blk_drew ?_ | refine blk_alloc ?_ _)); exact BK186.out) : p := h
theorem zd10_3 {p : Prop} (h : p := by (with_reducible repeat (first | apply Kd.V_alloc | apply Kd.V_drewN | apply Kd.V_drew)); exact HO1_1.out) : p := h
theorem zd10_4 {p : Prop} (h : p := by repeat (first | (with_reducible first | exact HB.out | apply below_alloc | apply pw_below_drewN | apply below_drew1 | refine below_set ?_ GE185.out | refine below_set ?_ GE186.out) | exact HB.out)) : p := h
theorem zd10_5 {p : Prop} (h : p := by (with_reducible repeat (first | refine blk_drewN ?_ _ | refine blk_drew ?_ | refine blk_alloc ?_ _)); exact BK187.out) : p := h
theorem zd10_6 {p : Prop} (h : p := by repeat (first | (with_reducible first | exact HB.out | apply below_alloc | apply pw_below_drewN | apply below_drew1 | refine below_set ?_ GE185.out) | exact HB.out)) : p := h
theorem zd10_7 {p : Prop} (h : p := by repeat (first | (with_reducible first | exact HB.out | apply below_alloc | apply pw_below_drewN | apply below_drew1) | exact HB.out)) : p := h
theorem zd10_8 {p : Prop} (h : p := by (try simp only [List.map_toArray, List.map_cons, List.map_nil]); first | done | rfl | (simp only [List.length_drop, List.length_take]; rfl)) : p := h
/-! ### spec_WideSub: function 15 -/
def spec_WideSub.f (k : Nat) (a0_0 : Bool) (l0_1 : List Int) (a1_0 : Bool) (l1_1 : List Int) : Option (Bool × List Int) := (spec_Wide_Negated.f k a1_0 l1_1).bind fun bt188 => ((spec_WideAdd.f k a0_0 l0_1 bt188.1 bt188.2).bind fun bt192 => (some (bt192.1, bt192.2)))
theorem spec_WideSub.mono : ∀ a0 a1 a2 a3 k, LeO (spec_WideSub.f k a0 a1 a2 a3) (spec_WideSub.f (k + 1) a0 a1 a2 a3) := by
 intro a0 a1 a2 a3 k
 unfold spec_WideSub.f
 repeat' first
   | (with_reducible exact spec_WideAdd.mono _ _ _ _ _)
   | (with_reducible exact spec_Wide_Negated.mono _ _ _)
   | (with_reducible exact LeO.refl _)
   | (with_reducible exact LeO.none _)
   | (with_reducible refine LeO.ite ?_ ?_)
   | (with_reducible refine LeO.bind ?_ (fun _ => ?_))
   | exact spec_WideAdd.mono _ _ _ _ _
   | exact spec_Wide_Negated.mono _ _ _
   | exact LeO.none _
   | refine LeO.ite ?_ ?_
   | refine LeO.bind ?_ (fun _ => ?_)
set_option maxHeartbeats 8000000 in
set_option maxRecDepth 100000 in
theorem spec_WideSub.calls (k : Nat) (a0_0 : Bool) (A0_1 : Option Addr) (c0_1 : Nat) (l0_1 : List Int) (a1_0 : Bool) (P1_1_ : Nat → Prop) (A1_1 : Option Addr) (c1_1 : Nat) (l1_1 : List Int) (r1 : Bool) (r2 : List Int) (w : World) (hr0_1 : Kd.C (Kd.int .u32) w A0_1 l0_1.length l0_1) (hc0_1 : l0_1.length ≤ c0_1) (hs1_1 : Kd.V (Kd.int .u32) 104 w w.heap.size (fun k_ => P1_1_ k_) (.slice A1_1 l1_1.length c1_1) l1_1) (h : spec_WideSub.f k a0_0 l0_1 a1_0 l1_1 = some (r1, r2)) :
  Calls Tryz.prog 15 #[.agg #[.bool a0_0, .slice A0_1 l0_1.length c0_1], .agg #[.bool a1_0, .slice A1_1 l1_1.length c1_1]] w fun e w' => ∃ v1_ : Value, e = .returned (.agg #[.bool r1, v1_]) ∧ Kd.V (Kd.int .u32) 104 w' w.heap.size (fun k_ => (P1_1_ k_ ∨ w.heap.size ≤ k_)) v1_ r2 ∧ Below w.heap.size w w' := by
 have hu27 := Tryz.underlying27
 have HR0_1 := Aside0.mk hr0_1
 have HC0_1 := Aside0.mk hc0_1
 clear hr0_1 hc0_1
 have HO1_1 := Aside0.mk (show Kd.V (Kd.int .u32) 104 w w.heap.size (fun k_ => (P1_1_ k_ ∨ w.heap.size ≤ k_)) (.slice A1_1 l1_1.length c1_1) l1_1 from Kd.V_mono hs1_1 (fun k_ hk => .inl hk))
 have HB := Aside0.mk (Below.refl w.heap.size w)
 have H : ((spec_Wide_Negated.f k a1_0 l1_1).bind fun bt188 => ((spec_WideAdd.f k a0_0 l0_1 bt188.1 bt188.2).bind fun bt192 => (some (bt192.1, bt192.2)))) = some (r1, r2) := h
 clear h
 replace H := Option.bind_eq_some_iff.mp H
 obtain ⟨⟨t188, t189⟩, A30, H⟩ := H
 replace H : ((spec_WideAdd.f k a0_0 l0_1 t188 t189).bind fun bt192 => (some (bt192.1, bt192.2))) = some (r1, r2) := H
 have A3 := Aside0.mk A30
 clear A30
 replace H := Option.bind_eq_some_iff.mp H
 obtain ⟨⟨t192, t193⟩, A40, H⟩ := H
 replace H : (some (t192, t193)) = some (r1, r2) := H
 have A4 := Aside0.mk A40
 clear A40
 simp only [Option.some.injEq, Prod.mk.injEq] at H
 obtain ⟨rfl, rfl⟩ := H
 go_enter Tryz.func15, Tryz.ntmps15
 try go_wp2_with (first | ((with_reducible refine gate_dst (N := 2) rfl ?_); refine box_event ?hg (N := 2) ?hd (cs := #[.bool a0_0, .slice A0_1 l0_1.length c0_1]) (t := 27) ?hr ?_; (case hd => rfl); (case hg => rfl); (case hr => first | (go_simp; done) | (go_simp; rfl)); intro gb185 hg w5 hbox hb; have n0_ := Aside0.mk (Kd.V_below (Kd.V_elderB zd10_3 gb185 (Nat.le_of_eq hg.symm)) hb); have n1_ := Aside0.mk (below_step zd10_7 hb); have n2_ := Aside0.mk (hbox); have n3_ := Aside0.mk ((by rw [hg]; exact (below_size zd10_7) : w.heap.size ≤ gb185)); have n4_ := Aside0.mk ((by rw [hg]; exact (below_size zd10_7) : w.heap.size ≤ gb185)); clear HO1_1; clear HB; have HO1_1 := n0_; have HB := n1_; have BK185 := n2_; have GW185 := n3_; have GE185 := n4_; clear n0_ n1_ n2_ n3_ n4_; clear hb hbox hg) | ((with_reducible refine gate_dst (N := 3) rfl ?_); refine box_event ?hg (N := 3) ?hd (cs := #[.bool a1_0, .slice A1_1 l1_1.length c1_1]) (t := 27) ?hr ?_; (case hd => rfl); (case hg => rfl); (case hr => first | (go_simp; done) | (go_simp; rfl)); intro gb186 hg w6 hbox hb; have n0_ := Aside0.mk (Kd.V_below (Kd.V_elderB zd10_3 gb186 (Nat.le_of_eq hg.symm)) hb); have n1_ := Aside0.mk (blk_below (g := gb185) (o := .cells #[.bool a0_0, .slice A0_1 l0_1.length c0_1] 27 (0, 0)) zd10_1 hb); have n2_ := Aside0.mk (below_step zd10_6 hb); have n3_ := Aside0.mk (hbox); have n4_ := Aside0.mk ((by rw [hg]; exact (below_size zd10_6) : w.heap.size ≤ gb186)); have n5_ := Aside0.mk ((by rw [hg]; exact (below_size zd10_6) : w.heap.size ≤ gb186)); have n6_ := Aside0.mk ((by rw [hg]; exact Nat.ne_of_lt (blk_lt (g := gb185) (o := .cells #[.bool a0_0, .slice A0_1 l0_1.length c0_1] 27 (0, 0)) zd10_1) : gb185 ≠ gb186)); have n7_ := Aside0.mk ((by rw [hg]; exact Nat.ne_of_gt (blk_lt (g := gb185) (o := .cells #[.bool a0_0, .slice A0_1 l0_1.length c0_1] 27 (0, 0)) zd10_1) : gb186 ≠ gb185)); clear HO1_1; clear BK185; clear HB; have HO1_1 := n0_; have BK185 := n1_; have HB := n2_; have BK186 := n3_; have GW186 := n4_; have GE186 := n5_; have NB185_186 := n6_; have NB186_185 := n7_; clear n0_ n1_ n2_ n3_ n4_ n5_ n6_ n7_; clear hb hbox hg) | ((with_reducible refine gate_dst (N := 4) rfl ?_); refine box_event ?hg (N := 4) ?hd (cs := #[.bool false, .slice none 0 0]) (t := 27) ?hr ?_; (case hd => rfl); (case hg => rfl); (case hr => first | (go_simp; done) | (go_simp; rfl)); intro gb187 hg w7 hbox hb; have n0_ := Aside0.mk (Kd.V_below (Kd.V_elderB zd10_3 gb187 (Nat.le_of_eq hg.symm)) hb); have n1_ := Aside0.mk (blk_below (g := gb185) (o := .cells #[.bool a0_0, .slice A0_1 l0_1.length c0_1] 27 (0, 0)) zd10_1 hb); have n2_ := Aside0.mk (blk_below (g := gb186) (o := .cells #[.bool a1_0, .slice A1_1 l1_1.length c1_1] 27 (0, 0)) zd10_2 hb); have n3_ := Aside0.mk (below_step zd10_4 hb); have n4_ := Aside0.mk (hbox); have n5_ := Aside0.mk ((by rw [hg]; exact (below_size zd10_4) : w.heap.size ≤ gb187)); have n6_ := Aside0.mk ((by rw [hg]; exact (below_size zd10_4) : w.heap.size ≤ gb187)); have n7_ := Aside0.mk ((by rw [hg]; exact Nat.ne_of_lt (blk_lt (g := gb185) (o := .cells #[.bool a0_0, .slice A0_1 l0_1.length c0_1] 27 (0, 0)) zd10_1) : gb185 ≠ gb187)); have n8_ := Aside0.mk ((by rw [hg]; exact Nat.ne_of_gt (blk_lt (g := gb185) (o := .cells #[.bool a0_0, .slice A0_1 l0_1.length c0_1] 27 (0, 0)) zd10_1) : gb187 ≠ gb185)); have n9_ := Aside0.mk ((by rw [hg]; exact Nat.ne_of_lt (blk_lt (g := gb186) (o := .cells #[.bool a1_0, .slice A1_1 l1_1.length c1_1] 27 (0, 0)) zd10_2) : gb186 ≠ gb187)); have n10_ := Aside0.mk ((by rw [hg]; exact Nat.ne_of_gt (blk_lt (g := gb186) (o := .cells #[.bool a1_0, .slice A1_1 l1_1.length c1_1] 27 (0, 0)) zd10_2) : gb187 ≠ gb186)); clear HO1_1; clear BK185; clear BK186; clear HB; have HO1_1 := n0_; have BK185 := n1_; have BK186 := n2_; have HB := n3_; have BK187 := n4_; have GW187 := n5_; have GE187 := n6_; have NB185_187 := n7_; have NB187_185 := n8_; have NB186_187 := n9_; have NB187_186 := n10_; clear n0_ n1_ n2_ n3_ n4_ n5_ n6_ n7_ n8_ n9_ n10_; clear hb hbox hg))
 have n0_ := Aside0.mk (Kd.V_drew HO1_1.out)
 have n1_ := Aside0.mk (blk_drew BK185.out)
 have n2_ := Aside0.mk (blk_drew BK186.out)
 have n3_ := Aside0.mk (blk_drew BK187.out)
 have n4_ := Aside0.mk (below_drew1 HB.out)
 clear HO1_1
 clear BK185
 clear BK186
 clear BK187
 clear HB
 have HO1_1 := n0_
 have BK185 := n1_
 have BK186 := n2_
 have BK187 := n3_
 have HB := n4_
 clear n0_ n1_ n2_ n3_ n4_
 refine start_ (n := 5) (S := fun w' => w'.cell? ⟨gb185, 0, none⟩ = some (.bool a0_0) ∧ w'.cell? ⟨gb185, 1, none⟩ = some (.slice A0_1 l0_1.length c0_1) ∧ w'.cell? ⟨gb186, 0, none⟩ = some (.bool a1_0) ∧ w'.cell? ⟨gb186, 1, none⟩ = some (.slice A1_1 l1_1.length c1_1)) (ds := []) #[false, false, false, false, false] (by kernel_rfl) rfl rfl ⟨(blk_cell BK185.out 0).trans rfl, (blk_cell BK185.out 1).trans rfl, (blk_cell BK186.out 0).trans rfl, (blk_cell BK186.out 1).trans rfl⟩ (fun hHeld => ?_)
 generalize w7.drew = w8 at HO1_1 BK185 BK186 BK187 HB hHeld ⊢
 refine take_ (i := 0) (N := some 5) (v := ?_) (a' := ?_) #[true, false, false, false, false] rfl rfl (by kernel_rfl) (fun _ _ _ h => h) (Or.inl ⟨by rfl, ?_⟩) hHeld ?_ ?_
 rotate_left
 ·rintro w' ⟨s0, s1, s2, s3⟩
  go_simp
  with_reducible rfl
 rotate_left
 ·simp only [Act.put, List.setIfInBounds_toArray, List.set_cons_zero, List.set_cons_succ, i64_w, i32_w]
  rfl
 refine take_ (i := 1) (N := some 6) (v := ?_) (a' := ?_) #[true, true, false, false, false] rfl rfl (by kernel_rfl) (fun _ _ _ h => h) (Or.inl ⟨by rfl, ?_⟩) hHeld ?_ ?_
 rotate_left
 ·rintro w' ⟨s0, s1, s2, s3⟩
  go_simp
  with_reducible rfl
 rotate_left
 ·simp only [Act.put, List.setIfInBounds_toArray, List.set_cons_zero, List.set_cons_succ, i64_w, i32_w]
  rfl
 refine one_ (i := 2) (N := some 7) #[true, true, true, false, false] rfl rfl (by kernel_rfl) (by decide) (fun K hK => ?_)
 refine goes_ Tryz.func14 (by kernel_rfl) rfl #[.agg #[.bool a1_0, .slice A1_1 l1_1.length c1_1]] (by rfl) rfl rfl zd10_8 ?_
 with_reducible refine (spec_Wide_Negated.calls k a1_0 (fun k_ => ((((P1_1_ k_ ∨ w.heap.size ≤ k_) ∧ k_ ≠ gb185) ∧ k_ ≠ gb186) ∧ k_ ≠ gb187)) _ _ l1_1 t188 t189 _ ?side1 A3.out).mono ?_
 (case side1 => exact HO1_1.out)
 rintro e w9 ⟨v190, rfl, ho0, hb⟩
 refine ⟨_, rfl, ?_⟩
 have n0_ := Aside0.mk (Kd.V_below zd10_3 hb)
 have n1_ := Aside0.mk (Kd.V_lower (Kd.V_mono (ok' := fun k_ => (P1_1_ k_ ∨ w.heap.size ≤ k_) ∧ k_ ≠ gb185 ∧ k_ ≠ gb186 ∧ k_ ≠ gb187) ho0 (fun k_ hk_ => ⟨Or.elim hk_ (fun hs_ => hs_.1.1.1) (fun hn_ => (.inr (Nat.le_trans (below_size zd10_0) hn_))), Or.elim hk_ (fun hs_ => hs_.1.1.2) (fun hn_ => (Kd.freshB (g := gb185) (o := .cells #[.bool a0_0, .slice A0_1 l0_1.length c0_1] 27 (0, 0)) zd10_1 k_ hn_)), Or.elim hk_ (fun hs_ => hs_.1.2) (fun hn_ => (Kd.freshB (g := gb186) (o := .cells #[.bool a1_0, .slice A1_1 l1_1.length c1_1] 27 (0, 0)) zd10_2 k_ hn_)), Or.elim hk_ (fun hs_ => hs_.2) (fun hn_ => (Kd.freshB (g := gb187) (o := .cells #[.bool false, .slice none 0 0] 27 (0, 0)) zd10_5 k_ hn_))⟩)) (below_size zd10_0))
 have n2_ := Aside0.mk (blk_below (g := gb185) (o := .cells #[.bool a0_0, .slice A0_1 l0_1.length c0_1] 27 (0, 0)) zd10_1 hb)
 have n3_ := Aside0.mk (blk_below (g := gb186) (o := .cells #[.bool a1_0, .slice A1_1 l1_1.length c1_1] 27 (0, 0)) zd10_2 hb)
 have n4_ := Aside0.mk (blk_below (g := gb187) (o := .cells #[.bool false, .slice none 0 0] 27 (0, 0)) zd10_5 hb)
 have n5_ := Aside0.mk (below_step zd10_0 hb)
 clear HO1_1
 clear BK185
 clear BK186
 clear BK187
 clear HB
 have HO1_1 := n0_
 have HO191 := n1_
 have BK185 := n2_
 have BK186 := n3_
 have BK187 := n4_
 have HB := n5_
 clear n0_ n1_ n2_ n3_ n4_ n5_
 (try clear hb)
 (try clear hb2)
 (try clear hk)
 (try clear hi)
 (try clear ho0)
 obtain ⟨Ao10, co10, eo10⟩ := Kd.V_slice HO191.out
 (first | subst eo10 | (injection eo10 with f1_ f2_ f3_; have f4_ := f1_.symm; have f5_ := f3_.symm; clear f1_ f2_ f3_; subst f4_; subst f5_))
 refine hK.out _ _ ⟨(blk_cell BK185.out 0).trans rfl, (blk_cell BK185.out 1).trans rfl, (blk_cell BK186.out 0).trans rfl, (blk_cell BK186.out 1).trans rfl⟩ (fun hHeld => ?_)
 clear hK K
 refine norm_ (a' := ?_) ?_ ?_
 rotate_left
 ·show Act.put _ (some 7) _ = _
  simp only [Act.put, List.setIfInBounds_toArray, List.set_cons_zero, List.set_cons_succ, i64_w, i32_w]
  rfl
 refine one_ (i := 3) (N := some 8) #[true, true, true, true, false] rfl rfl (by kernel_rfl) (by decide) (fun K hK => ?_)
 refine goes_ Tryz.func25 (by kernel_rfl) rfl #[.agg #[.bool a0_0, .slice A0_1 l0_1.length c0_1], .agg #[.bool t188, .slice Ao10 t189.length co10]] (by rfl) rfl rfl zd10_8 ?_
 with_reducible refine (spec_WideAdd.calls k a0_0 _ _ l0_1 t188 _ _ t189 t192 t193 _ ?side1 ?side2 ?side3 ?side4 A4.out).mono ?_
 (case side1 => repeat (first | exact (Kd.C_below HR0_1.out HB.out) | (with_reducible refine Kd.C_alloc ?_ _) | (with_reducible refine Kd.C_drewN ?_ _) | (with_reducible refine Kd.C_drew ?_)))
 (case side2 => exact HC0_1.out)
 (case side3 => repeat (first | exact (Kd.V_reads' HO191.out).2.2 | (with_reducible refine Kd.C_alloc ?_ _) | (with_reducible refine Kd.C_drewN ?_ _) | (with_reducible refine Kd.C_drew ?_)))
 (case side4 => exact (Kd.V_reads' HO191.out).2.1)
 rintro e w11 ⟨v194, rfl, ho0, hb⟩
 refine ⟨_, rfl, ?_⟩
 have n0_ := Aside0.mk (Kd.V_below zd10_3 hb)
 have n1_ := Aside0.mk (Kd.V_below (by (with_reducible repeat (first | apply Kd.V_alloc | apply Kd.V_drewN | apply Kd.V_drew)); exact HO191.out) hb)
 have n2_ := Aside0.mk (Kd.V_lower (Kd.V_mono (ok' := fun k_ => (P1_1_ k_ ∨ w.heap.size ≤ k_) ∧ k_ ≠ gb185 ∧ k_ ≠ gb186 ∧ k_ ≠ gb187) ho0 (fun k_ hk_ => ⟨(.inr (Nat.le_trans (below_size zd10_0) hk_)), (Kd.freshB (g := gb185) (o := .cells #[.bool a0_0, .slice A0_1 l0_1.length c0_1] 27 (0, 0)) zd10_1 k_ hk_), (Kd.freshB (g := gb186) (o := .cells #[.bool a1_0, .slice A1_1 l1_1.length c1_1] 27 (0, 0)) zd10_2 k_ hk_), (Kd.freshB (g := gb187) (o := .cells #[.bool false, .slice none 0 0] 27 (0, 0)) zd10_5 k_ hk_)⟩)) (below_size zd10_0))
 have n3_ := Aside0.mk (blk_below (g := gb185) (o := .cells #[.bool a0_0, .slice A0_1 l0_1.length c0_1] 27 (0, 0)) zd10_1 hb)
 have n4_ := Aside0.mk (blk_below (g := gb186) (o := .cells #[.bool a1_0, .slice A1_1 l1_1.length c1_1] 27 (0, 0)) zd10_2 hb)
 have n5_ := Aside0.mk (blk_below (g := gb187) (o := .cells #[.bool false, .slice none 0 0] 27 (0, 0)) zd10_5 hb)
 have n6_ := Aside0.mk (below_step zd10_0 hb)
 clear HO1_1
 clear HO191
 clear BK185
 clear BK186
 clear BK187
 clear HB
 have HO1_1 := n0_
 have HO191 := n1_
 have HO195 := n2_
 have BK185 := n3_
 have BK186 := n4_
 have BK187 := n5_
 have HB := n6_
 clear n0_ n1_ n2_ n3_ n4_ n5_ n6_
 (try clear hb)
 (try clear hb2)
 (try clear hk)
 (try clear hi)
 (try clear ho0)
 obtain ⟨Ao13, co13, eo13⟩ := Kd.V_slice HO195.out
 (first | subst eo13 | (injection eo13 with f1_ f2_ f3_; have f4_ := f1_.symm; have f5_ := f3_.symm; clear f1_ f2_ f3_; subst f4_; subst f5_))
 refine hK.out _ _ ⟨(blk_cell BK185.out 0).trans rfl, (blk_cell BK185.out 1).trans rfl, (blk_cell BK186.out 0).trans rfl, (blk_cell BK186.out 1).trans rfl⟩ (fun hHeld => ?_)
 clear hK K
 refine norm_ (a' := ?_) ?_ ?_
 rotate_left
 ·show Act.put _ (some 8) _ = _
  simp only [Act.put, List.setIfInBounds_toArray, List.set_cons_zero, List.set_cons_succ, i64_w, i32_w]
  rfl
 refine one_ (i := 4) (N := none) #[true, true, true, true, true] rfl rfl (by kernel_rfl) (by decide) (fun K hK => ?_)
 have hs12 : w11.cell? ⟨gb187, 0, none⟩ = some (.bool false) := (blk_cell BK187.out 0).trans rfl
 have hfs12 := blk_frozen BK187.out 0
 have hns12_0 := NB185_187.out
 have hns12_1 := NB186_187.out
 have hms12_0 := NB187_185.out
 have hms12_1 := NB187_186.out
 have hs14 : w11.cell? ⟨gb187, 1, none⟩ = some (.slice none 0 0) := (blk_cell BK187.out 1).trans rfl
 have hfs14 := blk_frozen BK187.out 1
 have hns14_0 := NB185_187.out
 have hns14_1 := NB186_187.out
 have hms14_0 := NB187_185.out
 have hms14_1 := NB187_186.out
 refine skip_ (w1 := ?_) (by rfl) rfl ?_ ?_
 rotate_left
 ·go_simp
  rfl
 refine hK.out _ _ ⟨((cell_far (p := ⟨gb187, _, none⟩) NB185_187.out _).trans (((cell_far (p := ⟨gb187, _, none⟩) NB185_187.out _).trans (hHeld.1)))), ((cell_far (p := ⟨gb187, _, none⟩) NB185_187.out _).trans (((cell_far (p := ⟨gb187, _, none⟩) NB185_187.out _).trans (hHeld.2.1)))), ((cell_far (p := ⟨gb187, _, none⟩) NB186_187.out _).trans (((cell_far (p := ⟨gb187, _, none⟩) NB186_187.out _).trans (hHeld.2.2.1)))), ((cell_far (p := ⟨gb187, _, none⟩) NB186_187.out _).trans (((cell_far (p := ⟨gb187, _, none⟩) NB186_187.out _).trans (hHeld.2.2.2))))⟩ (fun hHeld => ?_)
 clear hK K
 refine done_ (by kernel_rfl) ?_
 try go_wp2
 refine bodyPost_ret (results_cell_row rfl _ _ gb187 27 #[.bool t192, .slice Ao13 t193.length co13] (0, 0) _ rfl (by (with_reducible repeat (first | refine blk_drewN ?_ _ | refine blk_drew ?_ | refine blk_alloc ?_ _)); refine blk_put (cs := #[.bool t192, .slice none 0 0]) ?_ 1 _ rfl; (with_reducible repeat (first | refine blk_drewN ?_ _ | refine blk_drew ?_ | refine blk_alloc ?_ _)); refine blk_put (cs := #[.bool false, .slice none 0 0]) ?_ 0 _ rfl; (with_reducible repeat (first | refine blk_drewN ?_ _ | refine blk_drew ?_ | refine blk_alloc ?_ _)); exact BK187.out) Tryz.underlying27 rfl (by kernel_rfl)) rfl ?_
 exact ⟨_, by first | rfl | (simp [errW_none, errW_some] <;> rfl) | (simp [*, errW_none, errW_some] <;> rfl), by (with_reducible repeat (first | apply Kd.V_alloc | apply Kd.V_drewN | apply Kd.V_drew)); exact Kd.V_mono (Kd.V_far (p := ⟨gb187, 1, none⟩) (Kd.V_far (p := ⟨gb187, 0, none⟩) (Kd.V_mono HO195.out (fun k_ hk => (⟨hk, hk.2.2.2⟩ : _ ∧ k_ ≠ gb187))) (fun _ hk => hk.2) (.bool t192)) (fun _ hk => hk.2) (.slice Ao13 t193.length co13)) (fun _ hk => hk.1.1), by repeat (first | (with_reducible first | exact HB.out | apply below_alloc | apply pw_below_drewN | apply below_drew1 | refine below_set ?_ GE185.out | refine below_set ?_ GE186.out | refine below_set ?_ GE187.out) | exact HB.out)⟩

end Go.Proofs.YtoaibapjnedhlaaGreat.QAll
