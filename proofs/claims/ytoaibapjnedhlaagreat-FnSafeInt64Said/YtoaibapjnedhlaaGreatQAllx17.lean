/- Printed by a program of this session (print2.py) over the kit's print: the functions that a law reaches, over contracts proved by hand. Lean checks it. -/
import Derived.Test.YtoaibapjnedhlaaGreatQAllx0
import Derived.Test.YtoaibapjnedhlaaGreatQAllx13
import Derived.Test.YtoaibapjnedhlaaGreatQAllx16
namespace Go.Proofs.YtoaibapjnedhlaaGreat.QAll
open Go.RowKit Go.Proofs.YtoaibapjnedhlaaGreatW.PrintWords Go.Proofs.YtoaibapjnedhlaaGreatW.PrintLast Go.Proofs.YtoaibapjnedhlaaGreatW.PrintMore
attribute [local go_sem] max2_int min2_int max_two min_two max_three min_three max_four min_four   -- for this text's walks alone
set_option linter.unusedVariables false
set_option linter.unusedSimpArgs false

theorem zd17_0 {p : Prop} (h : p := by (with_reducible repeat (first | refine qbN ?_ _ | refine qbD ?_ | refine qbA ?_ _)); exact BK332.out) : p := h
theorem zd17_1 {p : Prop} (h : p := by repeat (first | (with_reducible first | exact HB.out | apply qwA | apply qwN | apply qwD | refine qwS ?_ GE332.out | refine qwS ?_ GE333.out | refine qwS ?_ GE334.out) | exact HB.out)) : p := h
theorem zd17_2 {p : Prop} (h : p := by (with_reducible repeat (first | refine qbN ?_ _ | refine qbD ?_ | refine qbA ?_ _)); exact BK333.out) : p := h
theorem zd17_3 {p : Prop} (h : p := by repeat (first | (with_reducible first | exact HB.out | apply qwA | apply qwN | apply qwD | refine qwS ?_ GE332.out | refine qwS ?_ GE333.out) | exact HB.out)) : p := h
theorem zd17_4 {p : Prop} (h : p := by repeat (first | (with_reducible first | exact HB.out | apply qwA | apply qwN | apply qwD | refine qwS ?_ GE332.out) | exact HB.out)) : p := h
theorem zd17_5 {p : Prop} (h : p := by (try simp only [List.map_toArray, List.map_cons, List.map_nil]); first | done | rfl | (simp only [List.length_drop, List.length_take]; rfl)) : p := h
theorem zd17_6 {p : Prop} (h : p := by repeat (first | (with_reducible first | exact HB.out | apply qwA | apply qwN | apply qwD) | exact HB.out)) : p := h
theorem zd17_7 {p : Prop} (h : p := by (with_reducible repeat (first | refine qbN ?_ _ | refine qbD ?_ | refine qbA ?_ _)); exact BK334.out) : p := h
theorem zd17_8 {p : Prop} (h : p := by kernel_rfl) : p := h
theorem zd17_9 {p : Prop} (h : p := by (with_reducible repeat (first | apply qrA | apply qrN | apply qrD)); exact HO337.out) : p := h
/-! ### laws_fitted: function 7 -/
def laws_fitted.f (k : Nat) (a0_0 : Bool) (l0_1 : List Int) (a1_0 : Bool) (l1_1 : List Int) (a2_0 : Bool) (l2_1 : List Int) : Option (Int × Bool) := (spec_ToWords.f k a0_0 l0_1 1).bind fun bt335 => (if 0 < (bt335.1.length : Int) then ((spec_WideCmp.f k a0_0 l0_1 a1_0 l1_1).bind fun t340 => (if t340 ≥ 0 then ((spec_WideCmp.f k a0_0 l0_1 a2_0 l2_1).bind fun t341 => (some (rd bt335.1 0, decide (t341 ≤ 0)))) else (some (rd bt335.1 0, false)))) else (none))
theorem laws_fitted.mono : ∀ a0 a1 a2 a3 a4 a5 k, LeO (laws_fitted.f k a0 a1 a2 a3 a4 a5) (laws_fitted.f (k + 1) a0 a1 a2 a3 a4 a5) := by
 intro a0 a1 a2 a3 a4 a5 k
 unfold laws_fitted.f
 repeat' first
   | (with_reducible exact spec_ToWords.mono _ _ _ _)
   | (with_reducible exact spec_WideCmp.mono _ _ _ _ _)
   | (with_reducible exact LeO.refl _)
   | (with_reducible exact LeO.none _)
   | (with_reducible refine LeO.ite ?_ ?_)
   | (with_reducible refine LeO.bind ?_ (fun _ => ?_))
   | exact spec_ToWords.mono _ _ _ _
   | exact spec_WideCmp.mono _ _ _ _ _
   | exact LeO.none _
   | refine LeO.ite ?_ ?_
   | refine LeO.bind ?_ (fun _ => ?_)
def laws_fitted.T2 : Bool × List (List Nat × List Nat) := (true, [([], []), ([0], [0]), ([1], [1]), ([], []), ([], []), ([3, 4], [3, 4]), ([5], [5]), ([6, 5], [6]), ([7], [7]), ([7], [7]), ([8, 9, 7, 7], [7, 8, 9]), ([10, 7], [7, 10]), ([7, 11], [7, 11]), ([2, 10, 0, 1, 2], [2]), ([12, 13, 0, 1, 2, 3, 4, 5, 6, 7, 8, 9, 10, 11, 12, 13], [12])])
def laws_fitted.B2 : List Nat := [0, 1, 3, 0, 0, 24, 56, 120, 248, 248, 1016, 2040, 4088, 2047, 16383]
theorem laws_fitted.tab2 : rtab .any (opsOf Tryz.f7 2) = laws_fitted.T2 := by kernel_rfl
theorem laws_fitted.bits2 : waitsOk laws_fitted.T2.2 laws_fitted.B2 = true := by kernel_rfl
set_option maxHeartbeats 8000000 in
set_option maxRecDepth 100000 in
theorem laws_fitted.calls (k : Nat) (a0_0 : Bool) (A0_1 : Option Addr) (c0_1 : Nat) (l0_1 : List Int) (a1_0 : Bool) (A1_1 : Option Addr) (c1_1 : Nat) (l1_1 : List Int) (a2_0 : Bool) (A2_1 : Option Addr) (c2_1 : Nat) (l2_1 : List Int) (r1 : Int) (r2 : Bool) (w : World) (hr0_1 : Kd.C (Kd.int .u32) w A0_1 l0_1.length l0_1) (hc0_1 : l0_1.length ≤ c0_1) (hr1_1 : Kd.C (Kd.int .u32) w A1_1 l1_1.length l1_1) (hc1_1 : l1_1.length ≤ c1_1) (hr2_1 : Kd.C (Kd.int .u32) w A2_1 l2_1.length l2_1) (hc2_1 : l2_1.length ≤ c2_1) (h : laws_fitted.f k a0_0 l0_1 a1_0 l1_1 a2_0 l2_1 = some (r1, r2)) :
  Calls Tryz.prog 7 #[.agg #[.bool a0_0, .slice A0_1 l0_1.length c0_1], .agg #[.bool a1_0, .slice A1_1 l1_1.length c1_1], .agg #[.bool a2_0, .slice A2_1 l2_1.length c2_1]] w fun e w' => e = .returned (.tuple #[.int .u64 r1, .bool r2]) ∧ Below w.heap.size w w' := by
 have hu27 := Tryz.underlying27
 have HR0_1 := qaM hr0_1
 have HC0_1 := qaM hc0_1
 clear hr0_1 hc0_1
 have HR1_1 := qaM hr1_1
 have HC1_1 := qaM hc1_1
 clear hr1_1 hc1_1
 have HR2_1 := qaM hr2_1
 have HC2_1 := qaM hc2_1
 clear hr2_1 hc2_1
 have HB := qaM (Below.refl w.heap.size w)
 have H : ((spec_ToWords.f k a0_0 l0_1 1).bind fun bt335 => (if 0 < (bt335.1.length : Int) then ((spec_WideCmp.f k a0_0 l0_1 a1_0 l1_1).bind fun t340 => (if t340 ≥ 0 then ((spec_WideCmp.f k a0_0 l0_1 a2_0 l2_1).bind fun t341 => (some (rd bt335.1 0, decide (t341 ≤ 0)))) else (some (rd bt335.1 0, false)))) else (none))) = some (r1, r2) := h
 clear h
 replace H := Option.bind_eq_some_iff.mp H
 obtain ⟨⟨t335, t338⟩, A40, H⟩ := H
 replace H : (if 0 < (t335.length : Int) then ((spec_WideCmp.f k a0_0 l0_1 a1_0 l1_1).bind fun t340 => (if t340 ≥ 0 then ((spec_WideCmp.f k a0_0 l0_1 a2_0 l2_1).bind fun t341 => (some (rd t335 0, decide (t341 ≤ 0)))) else (some (rd t335 0, false)))) else (none)) = some (r1, r2) := H
 have A4 := qaM A40
 clear A40
 by_cases c5 : 0 < (t335.length : Int)
 ·rw [if_pos c5] at H
  have c5b0 : decide (0 < (t335.length : Int)) = true := decide_eq_true c5
  have c5b1 : decide (0 < t335.length) = true := decide_eq_true (by omega)
  clear c5
  replace H := Option.bind_eq_some_iff.mp H
  obtain ⟨t340, A60, H⟩ := H
  replace H : (if t340 ≥ 0 then ((spec_WideCmp.f k a0_0 l0_1 a2_0 l2_1).bind fun t341 => (some (rd t335 0, decide (t341 ≤ 0)))) else (some (rd t335 0, false))) = some (r1, r2) := H
  have A6 := qaM A60
  clear A60
  by_cases c7 : t340 ≥ 0
  ·rw [if_pos c7] at H
   have c7b0 : decide (0 ≤ t340) = true := decide_eq_true c7
   clear c7
   replace H := Option.bind_eq_some_iff.mp H
   obtain ⟨t341, A80, H⟩ := H
   replace H : (some (rd t335 0, decide (t341 ≤ 0))) = some (r1, r2) := H
   have A8 := qaM A80
   clear A80
   simp only [Option.some.injEq, Prod.mk.injEq] at H
   obtain ⟨rfl, rfl⟩ := H
   go_enter Tryz.func7, Tryz.ntmps7
   try go_wp2_with (first | ((with_reducible refine gate_dst (N := 3) rfl ?_); refine box_event ?hg (N := 3) ?hd (cs := #[.bool a0_0, .slice A0_1 l0_1.length c0_1]) (t := 27) ?hr ?_; (case hd => rfl); (case hg => rfl); (case hr => first | (go_simp; done) | (go_simp; rfl)); intro gb332 hg w9 hbox hb; have n0_ := qaM (qbT zd17_6 hb); have n1_ := qaM (hbox); have n2_ := qaM ((by rw [hg]; exact (qbS zd17_6) : w.heap.size ≤ gb332)); have n3_ := qaM ((by rw [hg]; exact (qbS zd17_6) : w.heap.size ≤ gb332)); clear HB; have HB := n0_; have BK332 := n1_; have GW332 := n2_; have GE332 := n3_; clear n0_ n1_ n2_ n3_; clear hb hbox hg) | ((with_reducible refine gate_dst (N := 4) rfl ?_); refine box_event ?hg (N := 4) ?hd (cs := #[.bool a1_0, .slice A1_1 l1_1.length c1_1]) (t := 27) ?hr ?_; (case hd => rfl); (case hg => rfl); (case hr => first | (go_simp; done) | (go_simp; rfl)); intro gb333 hg w10 hbox hb; have n0_ := qaM (qbB (g := gb332) (o := .cells #[.bool a0_0, .slice A0_1 l0_1.length c0_1] 27 (0, 0)) zd17_0 hb); have n1_ := qaM (qbT zd17_4 hb); have n2_ := qaM (hbox); have n3_ := qaM ((by rw [hg]; exact (qbS zd17_4) : w.heap.size ≤ gb333)); have n4_ := qaM ((by rw [hg]; exact (qbS zd17_4) : w.heap.size ≤ gb333)); have n5_ := qaM ((by rw [hg]; exact qnL (qbL (g := gb332) (o := .cells #[.bool a0_0, .slice A0_1 l0_1.length c0_1] 27 (0, 0)) zd17_0) : gb332 ≠ gb333)); have n6_ := qaM ((by rw [hg]; exact qnG (qbL (g := gb332) (o := .cells #[.bool a0_0, .slice A0_1 l0_1.length c0_1] 27 (0, 0)) zd17_0) : gb333 ≠ gb332)); clear BK332; clear HB; have BK332 := n0_; have HB := n1_; have BK333 := n2_; have GW333 := n3_; have GE333 := n4_; have NB332_333 := n5_; have NB333_332 := n6_; clear n0_ n1_ n2_ n3_ n4_ n5_ n6_; clear hb hbox hg) | ((with_reducible refine gate_dst (N := 5) rfl ?_); refine box_event ?hg (N := 5) ?hd (cs := #[.bool a2_0, .slice A2_1 l2_1.length c2_1]) (t := 27) ?hr ?_; (case hd => rfl); (case hg => rfl); (case hr => first | (go_simp; done) | (go_simp; rfl)); intro gb334 hg w11 hbox hb; have n0_ := qaM (qbB (g := gb332) (o := .cells #[.bool a0_0, .slice A0_1 l0_1.length c0_1] 27 (0, 0)) zd17_0 hb); have n1_ := qaM (qbB (g := gb333) (o := .cells #[.bool a1_0, .slice A1_1 l1_1.length c1_1] 27 (0, 0)) zd17_2 hb); have n2_ := qaM (qbT zd17_3 hb); have n3_ := qaM (hbox); have n4_ := qaM ((by rw [hg]; exact (qbS zd17_3) : w.heap.size ≤ gb334)); have n5_ := qaM ((by rw [hg]; exact (qbS zd17_3) : w.heap.size ≤ gb334)); have n6_ := qaM ((by rw [hg]; exact qnL (qbL (g := gb332) (o := .cells #[.bool a0_0, .slice A0_1 l0_1.length c0_1] 27 (0, 0)) zd17_0) : gb332 ≠ gb334)); have n7_ := qaM ((by rw [hg]; exact qnG (qbL (g := gb332) (o := .cells #[.bool a0_0, .slice A0_1 l0_1.length c0_1] 27 (0, 0)) zd17_0) : gb334 ≠ gb332)); have n8_ := qaM ((by rw [hg]; exact qnL (qbL (g := gb333) (o := .cells #[.bool a1_0, .slice A1_1 l1_1.length c1_1] 27 (0, 0)) zd17_2) : gb333 ≠ gb334)); have n9_ := qaM ((by rw [hg]; exact qnG (qbL (g := gb333) (o := .cells #[.bool a1_0, .slice A1_1 l1_1.length c1_1] 27 (0, 0)) zd17_2) : gb334 ≠ gb333)); clear BK332; clear BK333; clear HB; have BK332 := n0_; have BK333 := n1_; have HB := n2_; have BK334 := n3_; have GW334 := n4_; have GE334 := n5_; have NB332_334 := n6_; have NB334_332 := n7_; have NB333_334 := n8_; have NB334_333 := n9_; clear n0_ n1_ n2_ n3_ n4_ n5_ n6_ n7_ n8_ n9_; clear hb hbox hg; have hnb12 := NB332_333.out; have hnc12 := NB333_332.out; have hnb13 := NB332_334.out; have hnc13 := NB334_332.out; have hcz14_0 : w11.cell? ⟨gb332, 0, none⟩ = some (.bool a0_0) := (qbC BK332.out 0).trans rfl; have hcz14_1 : w11.cell? ⟨gb332, 1, none⟩ = some (.slice A0_1 l0_1.length c0_1) := (qbC BK332.out 1).trans rfl; have hfz14_0 := blk_frozen BK332.out 0; have hfz14_1 := blk_frozen BK332.out 1) | ((with_reducible refine gate_callee (f := 17) rfl ?_); refine goesL_ (some 12) rfl rfl Tryz.func17 zd17_8 rfl #[.agg #[.bool a0_0, .slice A0_1 l0_1.length c0_1], .int .i64 1] rfl zd17_5 ?_; (with_reducible refine (spec_ToWords.calls k a0_0 (fun k_ => k_ < w.heap.size) _ _ l0_1 1 t335 t338 _ ?side1 A4.out).mono ?_); (case side1 => exact Kd.V_mk HC0_1.out (Kd.F_below (Kd.C_F (Kd.heap_int .u32) HR0_1.out) zd17_1)); rintro e w15 ⟨v336, rfl, ho0, hb⟩; refine ⟨_, rfl, ?_⟩; have n0_ := qaM (Kd.R_lower (qrM (ok' := fun k_ => True) ho0 (fun _ hk_ => trivial)) (qbS zd17_1)); have n1_ := qaM (qbB (g := gb332) (o := .cells #[.bool a0_0, .slice A0_1 l0_1.length c0_1] 27 (0, 0)) zd17_0 hb); have n2_ := qaM (qbB (g := gb333) (o := .cells #[.bool a1_0, .slice A1_1 l1_1.length c1_1] 27 (0, 0)) zd17_2 hb); have n3_ := qaM (qbB (g := gb334) (o := .cells #[.bool a2_0, .slice A2_1 l2_1.length c2_1] 27 (0, 0)) zd17_7 hb); have n4_ := qaM (qbT zd17_1 hb); clear BK332; clear BK333; clear BK334; clear HB; have HO337 := n0_; have BK332 := n1_; have BK333 := n2_; have BK334 := n3_; have HB := n4_; clear n0_ n1_ n2_ n3_ n4_; (try clear hb); (try clear hb2); (try clear hk); (try clear hi); (try clear ho0)))
   have n0_ := qaM (qrD HO337.out)
   have n1_ := qaM (qbD BK332.out)
   have n2_ := qaM (qbD BK333.out)
   have n3_ := qaM (qbD BK334.out)
   have n4_ := qaM (qwD HB.out)
   clear HO337
   clear BK332
   clear BK333
   clear BK334
   clear HB
   have HO337 := n0_
   have BK332 := n1_
   have BK333 := n2_
   have BK334 := n3_
   have HB := n4_
   clear n0_ n1_ n2_ n3_ n4_
   obtain ⟨Ao17, co17, eo17⟩ := Kd.R_slice HO337.out
   (first | subst eo17 | (injection eo17 with f1_ f2_ f3_; have f4_ := f1_.symm; have f5_ := f3_.symm; clear f1_ f2_ f3_; subst f4_; subst f5_))
   have p339 : 0 ≤ (0 : Int) := (by omega)
   have q339 : 0 < (t335.length : Int) := qoD (by first | (with_reducible assumption) | assumption)
   obtain ⟨ad339, e339, hx339_0⟩ := Kd.at_int (qrR HO337.out).2.2 0 p339 q339
   cases e339
   have qi339 : (0 < t335.length) = True := eq_true (by omega)
   (try rw [show ((0 : Int)).toNat = 0 from rfl] at hx339_0)
   (try rw [Addr.add_zero'] at hx339_0)
   replace p339 := eq_true p339
   replace q339 := eq_true q339
   refine start_ (n := 15) (S := fun w' => w'.cell? ⟨gb332, 0, none⟩ = some (.bool a0_0) ∧ w'.cell? ⟨gb332, 1, none⟩ = some (.slice A0_1 l0_1.length c0_1) ∧ w'.cell? ⟨gb333, 0, none⟩ = some (.bool a1_0) ∧ w'.cell? ⟨gb333, 1, none⟩ = some (.slice A1_1 l1_1.length c1_1) ∧ w'.cell? ⟨gb334, 0, none⟩ = some (.bool a2_0) ∧ w'.cell? ⟨gb334, 1, none⟩ = some (.slice A2_1 l2_1.length c2_1) ∧ w'.cell? ad339 = some (.int .u64 (rd t335 0))) (ds := []) #[false, false, false, false, false, false, false, false, false, false, false, false, false, false, false] zd17_8 rfl rfl ⟨(qbC BK332.out 0).trans rfl, (qbC BK332.out 1).trans rfl, (qbC BK333.out 0).trans rfl, (qbC BK333.out 1).trans rfl, (qbC BK334.out 0).trans rfl, (qbC BK334.out 1).trans rfl, hx339_0⟩ (fun hHeld => ?_); refine with_tabW laws_fitted.tab2 laws_fitted.bits2 (fun HT_ HW_ => ?_)
   generalize w15.drew = w16 at HO337 BK332 BK333 BK334 HB hx339_0 hHeld ⊢
   refine pure_ (i := 0) (N := some 15) (v := ?_) (a' := ?_) #[true, false, false, false, false, false, false, false, false, false, false, false, false, false, false] rfl rfl (any_of HT_.out zd17_8) (fun _ _ _ h => h) (Or.inl ⟨by rfl, ?_⟩) ?_ ?_
   rotate_left
   ·intro w'
    go_simp
    with_reducible rfl
   rotate_left
   ·simp only [Act.put, qsA, qsZ, qsS, i64_w, i32_w]
    rfl
   refine pure_ (i := 1) (N := some 16) (v := ?_) (a' := ?_) #[true, true, false, false, false, false, false, false, false, false, false, false, false, false, false] rfl rfl (any_of HT_.out zd17_8) (fun _ _ _ h => h) (Or.inl ⟨by rfl, ?_⟩) ?_ ?_
   rotate_left
   ·intro w'
    go_simp
    with_reducible rfl
   rotate_left
   ·simp only [Act.put, qsA, qsZ, qsS, i64_w, i32_w]
    rfl
   refine take_ (i := 2) (N := some 17) (v := ?_) (a' := ?_) #[true, true, true, false, false, false, false, false, false, false, false, false, false, false, false] rfl rfl (take_ofW HT_.out HW_.out zd17_8) (fun _ _ _ h => h) (Or.inl ⟨by rfl, ?_⟩) hHeld ?_ ?_
   rotate_left
   ·rintro w' ⟨s0, s1, s2, s3, s4, s5, s6⟩
    go_simp
    with_reducible rfl
   rotate_left
   ·simp only [Act.put, qsA, qsZ, qsS, i64_w, i32_w]
    rfl
   refine take_ (i := 3) (N := some 18) (v := ?_) (a' := ?_) #[true, true, true, true, false, false, false, false, false, false, false, false, false, false, false] rfl rfl (take_ofW HT_.out HW_.out zd17_8) (fun _ _ _ h => h) (Or.inl ⟨by rfl, ?_⟩) hHeld ?_ ?_
   rotate_left
   ·rintro w' ⟨s0, s1, s2, s3, s4, s5, s6⟩
    go_simp
    with_reducible rfl
   rotate_left
   ·simp only [Act.put, qsA, qsZ, qsS, i64_w, i32_w]
    rfl
   refine take_ (i := 4) (N := some 19) (v := ?_) (a' := ?_) #[true, true, true, true, true, false, false, false, false, false, false, false, false, false, false] rfl rfl (take_ofW HT_.out HW_.out zd17_8) (fun _ _ _ h => h) (Or.inl ⟨by rfl, ?_⟩) hHeld ?_ ?_
   rotate_left
   ·rintro w' ⟨s0, s1, s2, s3, s4, s5, s6⟩
    go_simp
    with_reducible rfl
   rotate_left
   ·simp only [Act.put, qsA, qsZ, qsS, i64_w, i32_w]
    rfl
   refine one_ (i := 5) (N := some 20) #[true, true, true, true, true, true, false, false, false, false, false, false, false, false, false] rfl rfl (one_of HT_.out zd17_8) (by decide) (fun K hK => ?_)
   refine goes_ Tryz.func18 zd17_8 rfl #[.agg #[.bool a0_0, .slice A0_1 l0_1.length c0_1], .agg #[.bool a1_0, .slice A1_1 l1_1.length c1_1]] (by rfl) rfl rfl zd17_5 ?_
   with_reducible refine (spec_WideCmp.calls k a0_0 _ _ l0_1 a1_0 _ _ l1_1 t340 _ ?side1 ?side2 ?side3 ?side4 A6.out).mono ?_
   (case side1 => repeat (first | exact (Kd.C_below HR0_1.out HB.out) | (with_reducible refine Kd.C_alloc ?_ _) | (with_reducible refine Kd.C_drewN ?_ _) | (with_reducible refine Kd.C_drew ?_)))
   (case side2 => exact HC0_1.out)
   (case side3 => repeat (first | exact (Kd.C_below HR1_1.out HB.out) | (with_reducible refine Kd.C_alloc ?_ _) | (with_reducible refine Kd.C_drewN ?_ _) | (with_reducible refine Kd.C_drew ?_)))
   (case side4 => exact HC1_1.out)
   rintro e w18 ⟨rfl, hb⟩
   have HS6_ := (hb.cell (World.block_lt_of_cell? _ _ (hHeld.2.2.2.2.2.2))).trans (hHeld.2.2.2.2.2.2)
   refine ⟨_, rfl, ?_⟩
   have n0_ := qaM (qrB zd17_9 hb)
   have n1_ := qaM (qbB (g := gb332) (o := .cells #[.bool a0_0, .slice A0_1 l0_1.length c0_1] 27 (0, 0)) zd17_0 hb)
   have n2_ := qaM (qbB (g := gb333) (o := .cells #[.bool a1_0, .slice A1_1 l1_1.length c1_1] 27 (0, 0)) zd17_2 hb)
   have n3_ := qaM (qbB (g := gb334) (o := .cells #[.bool a2_0, .slice A2_1 l2_1.length c2_1] 27 (0, 0)) zd17_7 hb)
   have n4_ := qaM (qbT zd17_1 hb)
   clear HO337
   clear BK332
   clear BK333
   clear BK334
   clear HB
   have HO337 := n0_
   have BK332 := n1_
   have BK333 := n2_
   have BK334 := n3_
   have HB := n4_
   clear n0_ n1_ n2_ n3_ n4_
   (try clear hb)
   (try clear hb2)
   (try clear hk)
   (try clear hi)
   refine hK.out _ _ ⟨(qbC BK332.out 0).trans rfl, (qbC BK332.out 1).trans rfl, (qbC BK333.out 0).trans rfl, (qbC BK333.out 1).trans rfl, (qbC BK334.out 0).trans rfl, (qbC BK334.out 1).trans rfl, HS6_⟩ (fun hHeld => ?_)
   clear hK K
   refine norm_ (a' := ?_) ?_ ?_
   rotate_left
   ·show Act.put _ (some 20) _ = _
    simp only [Act.put, qsA, qsZ, qsS, i64_w, i32_w]
    rfl
   refine pure_ (i := 6) (N := some 21) (v := ?_) (a' := ?_) #[true, true, true, true, true, true, true, false, false, false, false, false, false, false, false] rfl rfl (any_of HT_.out zd17_8) (fun _ _ _ h => h) (Or.inl ⟨by rfl, ?_⟩) ?_ ?_
   rotate_left
   ·intro w'
    go_simp
    with_reducible rfl
   rotate_left
   ·simp only [Act.put, qsA, qsZ, qsS, i64_w, i32_w]
    rfl
   refine pure_ (i := 7) (N := some 22) (v := ?_) (a' := ?_) #[true, true, true, true, true, true, true, true, false, false, false, false, false, false, false] rfl rfl (any_of HT_.out zd17_8) (fun _ _ _ h => h) (Or.inl ⟨by rfl, ?_⟩) ?_ ?_
   rotate_left
   ·intro w'
    go_simp
    with_reducible rfl
   rotate_left
   ·simp only [Act.put, qsA, qsZ, qsS, i64_w, i32_w]
    rfl
   refine take_ (i := 8) (N := some 23) (v := ?_) (a' := ?_) #[true, true, true, true, true, true, true, true, true, false, false, false, false, false, false] rfl rfl (take_ofW HT_.out HW_.out zd17_8) (fun _ _ _ h => h) (Or.inl ⟨by rfl, ?_⟩) hHeld ?_ ?_
   rotate_left
   ·rintro w' ⟨s0, s1, s2, s3, s4, s5, s6⟩
    go_simp
    with_reducible rfl
   rotate_left
   ·simp only [Act.put, qsA, qsZ, qsS, i64_w, i32_w]
    rfl
   refine take_ (i := 9) (N := some 24) (v := ?_) (a' := ?_) #[true, true, true, true, true, true, true, true, true, true, false, false, false, false, false] rfl rfl (take_ofW HT_.out HW_.out zd17_8) (fun _ _ _ h => h) (Or.inl ⟨by rfl, ?_⟩) hHeld ?_ ?_
   rotate_left
   ·rintro w' ⟨s0, s1, s2, s3, s4, s5, s6⟩
    go_simp
    with_reducible rfl
   rotate_left
   ·simp only [Act.put, qsA, qsZ, qsS, i64_w, i32_w]
    rfl
   refine one_ (i := 10) (N := some 25) #[true, true, true, true, true, true, true, true, true, true, true, false, false, false, false] rfl rfl (one_of HT_.out zd17_8) (by decide) (fun K hK => ?_)
   refine goes_ Tryz.func18 zd17_8 rfl #[.agg #[.bool a0_0, .slice A0_1 l0_1.length c0_1], .agg #[.bool a2_0, .slice A2_1 l2_1.length c2_1]] (by rfl) rfl rfl zd17_5 ?_
   with_reducible refine (spec_WideCmp.calls k a0_0 _ _ l0_1 a2_0 _ _ l2_1 t341 _ ?side1 ?side2 ?side3 ?side4 A8.out).mono ?_
   (case side1 => repeat (first | exact (Kd.C_below HR0_1.out HB.out) | (with_reducible refine Kd.C_alloc ?_ _) | (with_reducible refine Kd.C_drewN ?_ _) | (with_reducible refine Kd.C_drew ?_)))
   (case side2 => exact HC0_1.out)
   (case side3 => repeat (first | exact (Kd.C_below HR2_1.out HB.out) | (with_reducible refine Kd.C_alloc ?_ _) | (with_reducible refine Kd.C_drewN ?_ _) | (with_reducible refine Kd.C_drew ?_)))
   (case side4 => exact HC2_1.out)
   rintro e w19 ⟨rfl, hb⟩
   have HS6_ := (hb.cell (World.block_lt_of_cell? _ _ (hHeld.2.2.2.2.2.2))).trans (hHeld.2.2.2.2.2.2)
   refine ⟨_, rfl, ?_⟩
   have n0_ := qaM (qrB zd17_9 hb)
   have n1_ := qaM (qbB (g := gb332) (o := .cells #[.bool a0_0, .slice A0_1 l0_1.length c0_1] 27 (0, 0)) zd17_0 hb)
   have n2_ := qaM (qbB (g := gb333) (o := .cells #[.bool a1_0, .slice A1_1 l1_1.length c1_1] 27 (0, 0)) zd17_2 hb)
   have n3_ := qaM (qbB (g := gb334) (o := .cells #[.bool a2_0, .slice A2_1 l2_1.length c2_1] 27 (0, 0)) zd17_7 hb)
   have n4_ := qaM (qbT zd17_1 hb)
   clear HO337
   clear BK332
   clear BK333
   clear BK334
   clear HB
   have HO337 := n0_
   have BK332 := n1_
   have BK333 := n2_
   have BK334 := n3_
   have HB := n4_
   clear n0_ n1_ n2_ n3_ n4_
   (try clear hb)
   (try clear hb2)
   (try clear hk)
   (try clear hi)
   refine hK.out _ _ ⟨(qbC BK332.out 0).trans rfl, (qbC BK332.out 1).trans rfl, (qbC BK333.out 0).trans rfl, (qbC BK333.out 1).trans rfl, (qbC BK334.out 0).trans rfl, (qbC BK334.out 1).trans rfl, HS6_⟩ (fun hHeld => ?_)
   clear hK K
   refine norm_ (a' := ?_) ?_ ?_
   rotate_left
   ·show Act.put _ (some 25) _ = _
    simp only [Act.put, qsA, qsZ, qsS, i64_w, i32_w]
    rfl
   refine pure_ (i := 11) (N := some 26) (v := ?_) (a' := ?_) #[true, true, true, true, true, true, true, true, true, true, true, true, false, false, false] rfl rfl (any_of HT_.out zd17_8) (fun _ _ _ h => h) (Or.inl ⟨by rfl, ?_⟩) ?_ ?_
   rotate_left
   ·intro w'
    go_simp
    with_reducible rfl
   rotate_left
   ·simp only [Act.put, qsA, qsZ, qsS, i64_w, i32_w]
    rfl
   refine pure_ (i := 12) (N := some 27) (v := ?_) (a' := ?_) #[true, true, true, true, true, true, true, true, true, true, true, true, true, false, false] rfl rfl (any_of HT_.out zd17_8) (fun _ _ _ h => h) (Or.inl ⟨by rfl, ?_⟩) ?_ ?_
   rotate_left
   ·intro w'
    go_simp
    with_reducible rfl
   rotate_left
   ·simp only [Act.put, qsA, qsZ, qsS, i64_w, i32_w]
    rfl
   refine pure_ (i := 13) (N := some 6) (v := ?_) (a' := ?_) #[true, true, true, true, true, true, true, true, true, true, true, true, true, true, false] rfl rfl (any_of HT_.out zd17_8) (fun _ _ _ h => h) (Or.inl ⟨by rfl, ?_⟩) ?_ ?_
   rotate_left
   ·intro w'
    go_simp
    with_reducible rfl
   rotate_left
   ·simp only [Act.put, qsA, qsZ, qsS, i64_w, i32_w]
    rfl
   refine pure_ (i := 14) (N := some 7) (v := ?_) (a' := ?_) #[true, true, true, true, true, true, true, true, true, true, true, true, true, true, true] rfl rfl (any_of HT_.out zd17_8) (fun _ _ _ h => h) (Or.inl ⟨by rfl, ?_⟩) ?_ ?_
   rotate_left
   ·intro w'
    go_simp
    with_reducible rfl
   rotate_left
   ·simp only [Act.put, qsA, qsZ, qsS, i64_w, i32_w]
    rfl
   refine done_ (done_of HT_.out zd17_8) ?_
   try go_wp2
   go_ret2
   exact ⟨by first | rfl | (simp [errW_none, errW_some] <;> rfl) | (simp [*, errW_none, errW_some] <;> rfl), by repeat (first | (with_reducible first | exact HB.out | apply qwA | apply qwN | apply qwD | refine qwS ?_ GE332.out | refine qwS ?_ GE333.out | refine qwS ?_ GE334.out) | exact HB.out)⟩
  ·rw [if_neg c7] at H
   have c7b0 : decide (0 ≤ t340) = false := decide_eq_false c7
   clear c7
   simp only [Option.some.injEq, Prod.mk.injEq] at H
   obtain ⟨rfl, rfl⟩ := H
   go_enter Tryz.func7, Tryz.ntmps7
   try go_wp2_with (first | ((with_reducible refine gate_dst (N := 3) rfl ?_); refine box_event ?hg (N := 3) ?hd (cs := #[.bool a0_0, .slice A0_1 l0_1.length c0_1]) (t := 27) ?hr ?_; (case hd => rfl); (case hg => rfl); (case hr => first | (go_simp; done) | (go_simp; rfl)); intro gb332 hg w20 hbox hb; have n0_ := qaM (qbT zd17_6 hb); have n1_ := qaM (hbox); have n2_ := qaM ((by rw [hg]; exact (qbS zd17_6) : w.heap.size ≤ gb332)); have n3_ := qaM ((by rw [hg]; exact (qbS zd17_6) : w.heap.size ≤ gb332)); clear HB; have HB := n0_; have BK332 := n1_; have GW332 := n2_; have GE332 := n3_; clear n0_ n1_ n2_ n3_; clear hb hbox hg) | ((with_reducible refine gate_dst (N := 4) rfl ?_); refine box_event ?hg (N := 4) ?hd (cs := #[.bool a1_0, .slice A1_1 l1_1.length c1_1]) (t := 27) ?hr ?_; (case hd => rfl); (case hg => rfl); (case hr => first | (go_simp; done) | (go_simp; rfl)); intro gb333 hg w21 hbox hb; have n0_ := qaM (qbB (g := gb332) (o := .cells #[.bool a0_0, .slice A0_1 l0_1.length c0_1] 27 (0, 0)) zd17_0 hb); have n1_ := qaM (qbT zd17_4 hb); have n2_ := qaM (hbox); have n3_ := qaM ((by rw [hg]; exact (qbS zd17_4) : w.heap.size ≤ gb333)); have n4_ := qaM ((by rw [hg]; exact (qbS zd17_4) : w.heap.size ≤ gb333)); have n5_ := qaM ((by rw [hg]; exact qnL (qbL (g := gb332) (o := .cells #[.bool a0_0, .slice A0_1 l0_1.length c0_1] 27 (0, 0)) zd17_0) : gb332 ≠ gb333)); have n6_ := qaM ((by rw [hg]; exact qnG (qbL (g := gb332) (o := .cells #[.bool a0_0, .slice A0_1 l0_1.length c0_1] 27 (0, 0)) zd17_0) : gb333 ≠ gb332)); clear BK332; clear HB; have BK332 := n0_; have HB := n1_; have BK333 := n2_; have GW333 := n3_; have GE333 := n4_; have NB332_333 := n5_; have NB333_332 := n6_; clear n0_ n1_ n2_ n3_ n4_ n5_ n6_; clear hb hbox hg) | ((with_reducible refine gate_dst (N := 5) rfl ?_); refine box_event ?hg (N := 5) ?hd (cs := #[.bool a2_0, .slice A2_1 l2_1.length c2_1]) (t := 27) ?hr ?_; (case hd => rfl); (case hg => rfl); (case hr => first | (go_simp; done) | (go_simp; rfl)); intro gb334 hg w22 hbox hb; have n0_ := qaM (qbB (g := gb332) (o := .cells #[.bool a0_0, .slice A0_1 l0_1.length c0_1] 27 (0, 0)) zd17_0 hb); have n1_ := qaM (qbB (g := gb333) (o := .cells #[.bool a1_0, .slice A1_1 l1_1.length c1_1] 27 (0, 0)) zd17_2 hb); have n2_ := qaM (qbT zd17_3 hb); have n3_ := qaM (hbox); have n4_ := qaM ((by rw [hg]; exact (qbS zd17_3) : w.heap.size ≤ gb334)); have n5_ := qaM ((by rw [hg]; exact (qbS zd17_3) : w.heap.size ≤ gb334)); have n6_ := qaM ((by rw [hg]; exact qnL (qbL (g := gb332) (o := .cells #[.bool a0_0, .slice A0_1 l0_1.length c0_1] 27 (0, 0)) zd17_0) : gb332 ≠ gb334)); have n7_ := qaM ((by rw [hg]; exact qnG (qbL (g := gb332) (o := .cells #[.bool a0_0, .slice A0_1 l0_1.length c0_1] 27 (0, 0)) zd17_0) : gb334 ≠ gb332)); have n8_ := qaM ((by rw [hg]; exact qnL (qbL (g := gb333) (o := .cells #[.bool a1_0, .slice A1_1 l1_1.length c1_1] 27 (0, 0)) zd17_2) : gb333 ≠ gb334)); have n9_ := qaM ((by rw [hg]; exact qnG (qbL (g := gb333) (o := .cells #[.bool a1_0, .slice A1_1 l1_1.length c1_1] 27 (0, 0)) zd17_2) : gb334 ≠ gb333)); clear BK332; clear BK333; clear HB; have BK332 := n0_; have BK333 := n1_; have HB := n2_; have BK334 := n3_; have GW334 := n4_; have GE334 := n5_; have NB332_334 := n6_; have NB334_332 := n7_; have NB333_334 := n8_; have NB334_333 := n9_; clear n0_ n1_ n2_ n3_ n4_ n5_ n6_ n7_ n8_ n9_; clear hb hbox hg; have hnb23 := NB332_333.out; have hnc23 := NB333_332.out; have hnb24 := NB332_334.out; have hnc24 := NB334_332.out; have hcz25_0 : w22.cell? ⟨gb332, 0, none⟩ = some (.bool a0_0) := (qbC BK332.out 0).trans rfl; have hcz25_1 : w22.cell? ⟨gb332, 1, none⟩ = some (.slice A0_1 l0_1.length c0_1) := (qbC BK332.out 1).trans rfl; have hfz25_0 := blk_frozen BK332.out 0; have hfz25_1 := blk_frozen BK332.out 1) | ((with_reducible refine gate_callee (f := 17) rfl ?_); refine goesL_ (some 12) rfl rfl Tryz.func17 zd17_8 rfl #[.agg #[.bool a0_0, .slice A0_1 l0_1.length c0_1], .int .i64 1] rfl zd17_5 ?_; (with_reducible refine (spec_ToWords.calls k a0_0 (fun k_ => k_ < w.heap.size) _ _ l0_1 1 t335 t338 _ ?side1 A4.out).mono ?_); (case side1 => exact Kd.V_mk HC0_1.out (Kd.F_below (Kd.C_F (Kd.heap_int .u32) HR0_1.out) zd17_1)); rintro e w26 ⟨v336, rfl, ho0, hb⟩; refine ⟨_, rfl, ?_⟩; have n0_ := qaM (Kd.R_lower (qrM (ok' := fun k_ => True) ho0 (fun _ hk_ => trivial)) (qbS zd17_1)); have n1_ := qaM (qbB (g := gb332) (o := .cells #[.bool a0_0, .slice A0_1 l0_1.length c0_1] 27 (0, 0)) zd17_0 hb); have n2_ := qaM (qbB (g := gb333) (o := .cells #[.bool a1_0, .slice A1_1 l1_1.length c1_1] 27 (0, 0)) zd17_2 hb); have n3_ := qaM (qbB (g := gb334) (o := .cells #[.bool a2_0, .slice A2_1 l2_1.length c2_1] 27 (0, 0)) zd17_7 hb); have n4_ := qaM (qbT zd17_1 hb); clear BK332; clear BK333; clear BK334; clear HB; have HO337 := n0_; have BK332 := n1_; have BK333 := n2_; have BK334 := n3_; have HB := n4_; clear n0_ n1_ n2_ n3_ n4_; (try clear hb); (try clear hb2); (try clear hk); (try clear hi); (try clear ho0)))
   have n0_ := qaM (qrD HO337.out)
   have n1_ := qaM (qbD BK332.out)
   have n2_ := qaM (qbD BK333.out)
   have n3_ := qaM (qbD BK334.out)
   have n4_ := qaM (qwD HB.out)
   clear HO337
   clear BK332
   clear BK333
   clear BK334
   clear HB
   have HO337 := n0_
   have BK332 := n1_
   have BK333 := n2_
   have BK334 := n3_
   have HB := n4_
   clear n0_ n1_ n2_ n3_ n4_
   obtain ⟨Ao28, co28, eo28⟩ := Kd.R_slice HO337.out
   (first | subst eo28 | (injection eo28 with f1_ f2_ f3_; have f4_ := f1_.symm; have f5_ := f3_.symm; clear f1_ f2_ f3_; subst f4_; subst f5_))
   have p339 : 0 ≤ (0 : Int) := (by omega)
   have q339 : 0 < (t335.length : Int) := qoD (by first | (with_reducible assumption) | assumption)
   obtain ⟨ad339, e339, hx339_0⟩ := Kd.at_int (qrR HO337.out).2.2 0 p339 q339
   cases e339
   have qi339 : (0 < t335.length) = True := eq_true (by omega)
   (try rw [show ((0 : Int)).toNat = 0 from rfl] at hx339_0)
   (try rw [Addr.add_zero'] at hx339_0)
   replace p339 := eq_true p339
   replace q339 := eq_true q339
   refine start_ (n := 15) (S := fun w' => w'.cell? ⟨gb332, 0, none⟩ = some (.bool a0_0) ∧ w'.cell? ⟨gb332, 1, none⟩ = some (.slice A0_1 l0_1.length c0_1) ∧ w'.cell? ⟨gb333, 0, none⟩ = some (.bool a1_0) ∧ w'.cell? ⟨gb333, 1, none⟩ = some (.slice A1_1 l1_1.length c1_1) ∧ w'.cell? ad339 = some (.int .u64 (rd t335 0))) (ds := []) #[false, false, false, false, false, false, false, false, false, false, false, false, false, false, false] zd17_8 rfl rfl ⟨(qbC BK332.out 0).trans rfl, (qbC BK332.out 1).trans rfl, (qbC BK333.out 0).trans rfl, (qbC BK333.out 1).trans rfl, hx339_0⟩ (fun hHeld => ?_); refine with_tabW laws_fitted.tab2 laws_fitted.bits2 (fun HT_ HW_ => ?_)
   generalize w26.drew = w27 at HO337 BK332 BK333 BK334 HB hx339_0 hHeld ⊢
   refine pure_ (i := 0) (N := some 15) (v := ?_) (a' := ?_) #[true, false, false, false, false, false, false, false, false, false, false, false, false, false, false] rfl rfl (any_of HT_.out zd17_8) (fun _ _ _ h => h) (Or.inl ⟨by rfl, ?_⟩) ?_ ?_
   rotate_left
   ·intro w'
    go_simp
    with_reducible rfl
   rotate_left
   ·simp only [Act.put, qsA, qsZ, qsS, i64_w, i32_w]
    rfl
   refine pure_ (i := 1) (N := some 16) (v := ?_) (a' := ?_) #[true, true, false, false, false, false, false, false, false, false, false, false, false, false, false] rfl rfl (any_of HT_.out zd17_8) (fun _ _ _ h => h) (Or.inl ⟨by rfl, ?_⟩) ?_ ?_
   rotate_left
   ·intro w'
    go_simp
    with_reducible rfl
   rotate_left
   ·simp only [Act.put, qsA, qsZ, qsS, i64_w, i32_w]
    rfl
   refine take_ (i := 2) (N := some 17) (v := ?_) (a' := ?_) #[true, true, true, false, false, false, false, false, false, false, false, false, false, false, false] rfl rfl (take_ofW HT_.out HW_.out zd17_8) (fun _ _ _ h => h) (Or.inl ⟨by rfl, ?_⟩) hHeld ?_ ?_
   rotate_left
   ·rintro w' ⟨s0, s1, s2, s3, s4⟩
    go_simp
    with_reducible rfl
   rotate_left
   ·simp only [Act.put, qsA, qsZ, qsS, i64_w, i32_w]
    rfl
   refine take_ (i := 3) (N := some 18) (v := ?_) (a' := ?_) #[true, true, true, true, false, false, false, false, false, false, false, false, false, false, false] rfl rfl (take_ofW HT_.out HW_.out zd17_8) (fun _ _ _ h => h) (Or.inl ⟨by rfl, ?_⟩) hHeld ?_ ?_
   rotate_left
   ·rintro w' ⟨s0, s1, s2, s3, s4⟩
    go_simp
    with_reducible rfl
   rotate_left
   ·simp only [Act.put, qsA, qsZ, qsS, i64_w, i32_w]
    rfl
   refine take_ (i := 4) (N := some 19) (v := ?_) (a' := ?_) #[true, true, true, true, true, false, false, false, false, false, false, false, false, false, false] rfl rfl (take_ofW HT_.out HW_.out zd17_8) (fun _ _ _ h => h) (Or.inl ⟨by rfl, ?_⟩) hHeld ?_ ?_
   rotate_left
   ·rintro w' ⟨s0, s1, s2, s3, s4⟩
    go_simp
    with_reducible rfl
   rotate_left
   ·simp only [Act.put, qsA, qsZ, qsS, i64_w, i32_w]
    rfl
   refine one_ (i := 5) (N := some 20) #[true, true, true, true, true, true, false, false, false, false, false, false, false, false, false] rfl rfl (one_of HT_.out zd17_8) (by decide) (fun K hK => ?_)
   refine goes_ Tryz.func18 zd17_8 rfl #[.agg #[.bool a0_0, .slice A0_1 l0_1.length c0_1], .agg #[.bool a1_0, .slice A1_1 l1_1.length c1_1]] (by rfl) rfl rfl zd17_5 ?_
   with_reducible refine (spec_WideCmp.calls k a0_0 _ _ l0_1 a1_0 _ _ l1_1 t340 _ ?side1 ?side2 ?side3 ?side4 A6.out).mono ?_
   (case side1 => repeat (first | exact (Kd.C_below HR0_1.out HB.out) | (with_reducible refine Kd.C_alloc ?_ _) | (with_reducible refine Kd.C_drewN ?_ _) | (with_reducible refine Kd.C_drew ?_)))
   (case side2 => exact HC0_1.out)
   (case side3 => repeat (first | exact (Kd.C_below HR1_1.out HB.out) | (with_reducible refine Kd.C_alloc ?_ _) | (with_reducible refine Kd.C_drewN ?_ _) | (with_reducible refine Kd.C_drew ?_)))
   (case side4 => exact HC1_1.out)
   rintro e w29 ⟨rfl, hb⟩
   have HS4_ := (hb.cell (World.block_lt_of_cell? _ _ (hHeld.2.2.2.2))).trans (hHeld.2.2.2.2)
   refine ⟨_, rfl, ?_⟩
   have n0_ := qaM (qrB zd17_9 hb)
   have n1_ := qaM (qbB (g := gb332) (o := .cells #[.bool a0_0, .slice A0_1 l0_1.length c0_1] 27 (0, 0)) zd17_0 hb)
   have n2_ := qaM (qbB (g := gb333) (o := .cells #[.bool a1_0, .slice A1_1 l1_1.length c1_1] 27 (0, 0)) zd17_2 hb)
   have n3_ := qaM (qbB (g := gb334) (o := .cells #[.bool a2_0, .slice A2_1 l2_1.length c2_1] 27 (0, 0)) zd17_7 hb)
   have n4_ := qaM (qbT zd17_1 hb)
   clear HO337
   clear BK332
   clear BK333
   clear BK334
   clear HB
   have HO337 := n0_
   have BK332 := n1_
   have BK333 := n2_
   have BK334 := n3_
   have HB := n4_
   clear n0_ n1_ n2_ n3_ n4_
   (try clear hb)
   (try clear hb2)
   (try clear hk)
   (try clear hi)
   refine hK.out _ _ ⟨(qbC BK332.out 0).trans rfl, (qbC BK332.out 1).trans rfl, (qbC BK333.out 0).trans rfl, (qbC BK333.out 1).trans rfl, HS4_⟩ (fun hHeld => ?_)
   clear hK K
   refine norm_ (a' := ?_) ?_ ?_
   rotate_left
   ·show Act.put _ (some 20) _ = _
    simp only [Act.put, qsA, qsZ, qsS, i64_w, i32_w]
    rfl
   refine pure_ (i := 6) (N := some 21) (v := ?_) (a' := ?_) #[true, true, true, true, true, true, true, false, false, false, false, false, false, false, false] rfl rfl (any_of HT_.out zd17_8) (fun _ _ _ h => h) (Or.inl ⟨by rfl, ?_⟩) ?_ ?_
   rotate_left
   ·intro w'
    go_simp
    with_reducible rfl
   rotate_left
   ·simp only [Act.put, qsA, qsZ, qsS, i64_w, i32_w]
    rfl
   refine pure_ (i := 7) (N := some 22) (v := ?_) (a' := ?_) #[true, true, true, true, true, true, true, true, false, false, false, false, false, false, false] rfl rfl (any_of HT_.out zd17_8) (fun _ _ _ h => h) (Or.inl ⟨by rfl, ?_⟩) ?_ ?_
   rotate_left
   ·intro w'
    go_simp
    with_reducible rfl
   rotate_left
   ·simp only [Act.put, qsA, qsZ, qsS, i64_w, i32_w]
    rfl
   refine pure_ (i := 8) (N := some 23) (v := undef) (a' := ?_) #[true, true, true, true, true, true, true, true, true, false, false, false, false, false, false] rfl rfl (any_of HT_.out zd17_8) (fun _ _ _ h => h) (Or.inr ⟨by rfl, rfl⟩) ?_ ?_
   rotate_left
   ·simp only [Act.put, qsA, qsZ, qsS, i64_w, i32_w]
    rfl
   refine pure_ (i := 9) (N := some 24) (v := undef) (a' := ?_) #[true, true, true, true, true, true, true, true, true, true, false, false, false, false, false] rfl rfl (any_of HT_.out zd17_8) (fun _ _ _ h => h) (Or.inr ⟨by rfl, rfl⟩) ?_ ?_
   rotate_left
   ·simp only [Act.put, qsA, qsZ, qsS, i64_w, i32_w]
    rfl
   refine pure_ (i := 10) (N := some 25) (v := undef) (a' := ?_) #[true, true, true, true, true, true, true, true, true, true, true, false, false, false, false] rfl rfl (any_of HT_.out zd17_8) (fun _ _ _ h => h) (Or.inr ⟨by rfl, rfl⟩) ?_ ?_
   rotate_left
   ·simp only [Act.put, qsA, qsZ, qsS, i64_w, i32_w]
    rfl
   refine pure_ (i := 11) (N := some 26) (v := undef) (a' := ?_) #[true, true, true, true, true, true, true, true, true, true, true, true, false, false, false] rfl rfl (any_of HT_.out zd17_8) (fun _ _ _ h => h) (Or.inr ⟨by rfl, rfl⟩) ?_ ?_
   rotate_left
   ·simp only [Act.put, qsA, qsZ, qsS, i64_w, i32_w]
    rfl
   refine pure_ (i := 12) (N := some 27) (v := ?_) (a' := ?_) #[true, true, true, true, true, true, true, true, true, true, true, true, true, false, false] rfl rfl (any_of HT_.out zd17_8) (fun _ _ _ h => h) (Or.inl ⟨by rfl, ?_⟩) ?_ ?_
   rotate_left
   ·intro w'
    go_simp
    with_reducible rfl
   rotate_left
   ·simp only [Act.put, qsA, qsZ, qsS, i64_w, i32_w]
    rfl
   refine pure_ (i := 13) (N := some 6) (v := ?_) (a' := ?_) #[true, true, true, true, true, true, true, true, true, true, true, true, true, true, false] rfl rfl (any_of HT_.out zd17_8) (fun _ _ _ h => h) (Or.inl ⟨by rfl, ?_⟩) ?_ ?_
   rotate_left
   ·intro w'
    go_simp
    with_reducible rfl
   rotate_left
   ·simp only [Act.put, qsA, qsZ, qsS, i64_w, i32_w]
    rfl
   refine pure_ (i := 14) (N := some 7) (v := ?_) (a' := ?_) #[true, true, true, true, true, true, true, true, true, true, true, true, true, true, true] rfl rfl (any_of HT_.out zd17_8) (fun _ _ _ h => h) (Or.inl ⟨by rfl, ?_⟩) ?_ ?_
   rotate_left
   ·intro w'
    go_simp
    with_reducible rfl
   rotate_left
   ·simp only [Act.put, qsA, qsZ, qsS, i64_w, i32_w]
    rfl
   refine done_ (done_of HT_.out zd17_8) ?_
   try go_wp2
   go_ret2
   exact ⟨by first | rfl | (simp [errW_none, errW_some] <;> rfl) | (simp [*, errW_none, errW_some] <;> rfl), by repeat (first | (with_reducible first | exact HB.out | apply qwA | apply qwN | apply qwD | refine qwS ?_ GE332.out | refine qwS ?_ GE333.out | refine qwS ?_ GE334.out) | exact HB.out)⟩
 ·rw [if_neg c5] at H
  exact absurd H (by simp)

end Go.Proofs.YtoaibapjnedhlaaGreat.QAll
