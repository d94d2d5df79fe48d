/- Printed by a program of this session (print2.py) over the kit's print: the functions that a law reaches, over contracts proved by hand. Lean checks it. -/
import Derived.Test.YtelpdndlmhcdoaaQRx0
import Derived.Test.YtelpdndlmhcdoaaQRx1
import Derived.Test.YtelpdndlmhcdoaaQRx6
namespace Go.Proofs.Ytelpdndlmhcdoaa.QR
open Go.RowKit Go.Proofs.YtelpdndlmhcdoaaW.PrintWords Go.Proofs.YtelpdndlmhcdoaaW.PrintLast Go.Proofs.YtelpdndlmhcdoaaW.PrintMore
attribute [local go_sem] max2_int min2_int max_two min_two max_three min_three max_four min_four   -- for this text's walks alone
set_option linter.unusedVariables false
set_option linter.unusedSimpArgs false

theorem zr7_0 {p : Prop} (h : p := by repeat (first | (with_reducible first | exact HB.out | apply qwA | apply qwN | apply qwD) | exact HB.out)) : p := h
theorem zr7_1 {p : Prop} (h : p := by repeat (first | (with_reducible first | exact HB.out | apply qwA | apply qwN | apply qwD | refine qwS ?_ GE353.out | refine qwS ?_ GE354.out | refine qwS ?_ GE355.out) | exact HB.out)) : p := h
theorem zr7_2 {p : Prop} (h : p := by (with_reducible repeat (first | refine qbN ?_ _ | refine qbD ?_ | refine qbA ?_ _)); exact BK353.out) : p := h
theorem zr7_3 {p : Prop} (h : p := by (with_reducible repeat (first | refine qbN ?_ _ | refine qbD ?_ | refine qbA ?_ _)); exact BK354.out) : p := h
theorem zr7_4 {p : Prop} (h : p := by repeat (first | (with_reducible first | exact HB.out | apply qwA | apply qwN | apply qwD | refine qwS ?_ GE353.out | refine qwS ?_ GE354.out) | exact HB.out)) : p := h
theorem zr7_5 {p : Prop} (h : p := by (with_reducible repeat (first | refine qbN ?_ _ | refine qbD ?_ | refine qbA ?_ _)); exact BK355.out) : p := h
theorem zr7_6 {p : Prop} (h : p := by repeat (first | (with_reducible first | exact HB.out | apply qwA | apply qwN | apply qwD | refine qwS ?_ GE353.out) | exact HB.out)) : p := h
theorem zr7_7 {p : Prop} (h : p := by kernel_rfl) : p := h
theorem zr7_8 {p : Prop} (h : p := by (try simp only [List.map_toArray, List.map_cons, List.map_nil]); first | done | rfl | (simp only [List.length_drop, List.length_take]; rfl)) : p := h
/-! ### spec_WideMul: function 16 -/
def spec_WideMul.f (k : Nat) (a0_0 : Bool) (l0_1 : List Int) (a1_0 : Bool) (l1_1 : List Int) : Option (Bool × List Int) := (spec_magMul.f k l0_1 l1_1).bind fun t356 => ((spec_wide.f k (a0_0 != a1_0) t356).bind fun bt359 => (some (bt359.1, bt359.2)))
theorem spec_WideMul.mono : ∀ a0 a1 a2 a3 k, LeO (spec_WideMul.f k a0 a1 a2 a3) (spec_WideMul.f (k + 1) a0 a1 a2 a3) := by
 intro a0 a1 a2 a3 k
 unfold spec_WideMul.f
 repeat' first
   | (with_reducible exact spec_magMul.mono _ _ _)
   | (with_reducible exact spec_wide.mono _ _ _)
   | (with_reducible exact LeO.refl _)
   | (with_reducible exact LeO.none _)
   | (with_reducible refine LeO.ite ?_ ?_)
   | (with_reducible refine LeO.bind ?_ (fun _ => ?_))
   | exact spec_magMul.mono _ _ _
   | exact spec_wide.mono _ _ _
   | exact LeO.none _
   | refine LeO.ite ?_ ?_
   | refine LeO.bind ?_ (fun _ => ?_)
def spec_WideMul.T1 : Bool × List (List Nat × List Nat) := (true, [([], []), ([0], [0]), ([], []), ([2], [2]), ([1, 3], [1, 3]), ([], []), ([5], [5]), ([], []), ([7], [7]), ([6, 8], [6, 8]), ([4, 9, 9], [4, 9]), ([10, 10, 0, 1, 2, 3, 4, 5, 6, 7, 8, 9, 10], [10])])
def spec_WideMul.B1 : List Nat := [0, 1, 0, 4, 15, 0, 32, 0, 128, 480, 1023, 2047]
theorem spec_WideMul.tab1 : rtab .any (opsOf Try.f16 1) = spec_WideMul.T1 := by kernel_rfl
theorem spec_WideMul.bits1 : waitsOk spec_WideMul.T1.2 spec_WideMul.B1 = true := by kernel_rfl
set_option maxHeartbeats 8000000 in
set_option maxRecDepth 100000 in
theorem spec_WideMul.calls (k : Nat) (a0_0 : Bool) (A0_1 : Option Addr) (c0_1 : Nat) (l0_1 : List Int) (a1_0 : Bool) (A1_1 : Option Addr) (c1_1 : Nat) (l1_1 : List Int) (r1 : Bool) (r2 : List Int) (w : World) (hr0_1 : Kd.C (Kd.int .u32) w A0_1 l0_1.length l0_1) (hc0_1 : l0_1.length ≤ c0_1) (hr1_1 : Kd.C (Kd.int .u32) w A1_1 l1_1.length l1_1) (hc1_1 : l1_1.length ≤ c1_1) (h : spec_WideMul.f k a0_0 l0_1 a1_0 l1_1 = some (r1, r2)) :
  Calls Try.prog 16 #[.agg #[.bool a0_0, .slice A0_1 l0_1.length c0_1], .agg #[.bool a1_0, .slice A1_1 l1_1.length c1_1]] w fun e w' => ∃ v1_ : Value, e = .returned (.agg #[.bool r1, v1_]) ∧ Kd.V (Kd.int .u32) 22 w' w.heap.size (fun k_ => (w.heap.size ≤ k_)) v1_ r2 ∧ Below w.heap.size w w' := by
 have hu25 := Try.underlying25
 have HR0_1 := qaM hr0_1
 have HC0_1 := qaM hc0_1
 clear hr0_1 hc0_1
 have HR1_1 := qaM hr1_1
 have HC1_1 := qaM hc1_1
 clear hr1_1 hc1_1
 have HB := qaM (Below.refl w.heap.size w)
 have H : ((spec_magMul.f k l0_1 l1_1).bind fun t356 => ((spec_wide.f k (a0_0 != a1_0) t356).bind fun bt359 => (some (bt359.1, bt359.2)))) = some (r1, r2) := h
 clear h
 replace H := Option.bind_eq_some_iff.mp H
 obtain ⟨t356, A30, H⟩ := H
 replace H : ((spec_wide.f k (a0_0 != a1_0) t356).bind fun bt359 => (some (bt359.1, bt359.2))) = some (r1, r2) := H
 have A3 := qaM A30
 clear A30
 replace H := Option.bind_eq_some_iff.mp H
 obtain ⟨⟨t359, t360⟩, A40, H⟩ := H
 replace H : (some (t359, t360)) = some (r1, r2) := H
 have A4 := qaM A40
 clear A40
 simp only [Option.some.injEq, Prod.mk.injEq] at H
 obtain ⟨rfl, rfl⟩ := H
 go_enter Try.func16, Try.ntmps16
 try go_wp2_with (first | ((with_reducible refine gate_dst (N := 2) rfl ?_); refine box_event ?hg (N := 2) ?hd (cs := #[.bool a0_0, .slice A0_1 l0_1.length c0_1]) (t := 25) ?hr ?_; (case hd => rfl); (case hg => rfl); (case hr => first | (go_simp; done) | (go_simp; rfl)); intro gb353 hg w5 hbox hb; have n0_ := qaM (qbT zr7_0 hb); have n1_ := qaM (hbox); have n2_ := qaM ((by rw [hg]; exact (qbS zr7_0) : w.heap.size ≤ gb353)); have n3_ := qaM ((by rw [hg]; exact (qbS zr7_0) : w.heap.size ≤ gb353)); clear HB; have HB := n0_; have BK353 := n1_; have GW353 := n2_; have GE353 := n3_; clear n0_ n1_ n2_ n3_; clear hb hbox hg) | ((with_reducible refine gate_dst (N := 3) rfl ?_); refine box_event ?hg (N := 3) ?hd (cs := #[.bool a1_0, .slice A1_1 l1_1.length c1_1]) (t := 25) ?hr ?_; (case hd => rfl); (case hg => rfl); (case hr => first | (go_simp; done) | (go_simp; rfl)); intro gb354 hg w6 hbox hb; have n0_ := qaM (qbB (g := gb353) (o := .cells #[.bool a0_0, .slice A0_1 l0_1.length c0_1] 25 (0, 0)) zr7_2 hb); have n1_ := qaM (qbT zr7_6 hb); have n2_ := qaM (hbox); have n3_ := qaM ((by rw [hg]; exact (qbS zr7_6) : w.heap.size ≤ gb354)); have n4_ := qaM ((by rw [hg]; exact (qbS zr7_6) : w.heap.size ≤ gb354)); have n5_ := qaM ((by rw [hg]; exact qnL (qbL (g := gb353) (o := .cells #[.bool a0_0, .slice A0_1 l0_1.length c0_1] 25 (0, 0)) zr7_2) : gb353 ≠ gb354)); have n6_ := qaM ((by rw [hg]; exact qnG (qbL (g := gb353) (o := .cells #[.bool a0_0, .slice A0_1 l0_1.length c0_1] 25 (0, 0)) zr7_2) : gb354 ≠ gb353)); clear BK353; clear HB; have BK353 := n0_; have HB := n1_; have BK354 := n2_; have GW354 := n3_; have GE354 := n4_; have NB353_354 := n5_; have NB354_353 := n6_; clear n0_ n1_ n2_ n3_ n4_ n5_ n6_; clear hb hbox hg) | ((with_reducible refine gate_dst (N := 4) rfl ?_); refine box_event ?hg (N := 4) ?hd (cs := #[.bool false, .slice none 0 0]) (t := 25) ?hr ?_; (case hd => rfl); (case hg => rfl); (case hr => first | (go_simp; done) | (go_simp; rfl)); intro gb355 hg w7 hbox hb; have n0_ := qaM (qbB (g := gb353) (o := .cells #[.bool a0_0, .slice A0_1 l0_1.length c0_1] 25 (0, 0)) zr7_2 hb); have n1_ := qaM (qbB (g := gb354) (o := .cells #[.bool a1_0, .slice A1_1 l1_1.length c1_1] 25 (0, 0)) zr7_3 hb); have n2_ := qaM (qbT zr7_4 hb); have n3_ := qaM (hbox); have n4_ := qaM ((by rw [hg]; exact (qbS zr7_4) : w.heap.size ≤ gb355)); have n5_ := qaM ((by rw [hg]; exact (qbS zr7_4) : w.heap.size ≤ gb355)); have n6_ := qaM ((by rw [hg]; exact qnL (qbL (g := gb353) (o := .cells #[.bool a0_0, .slice A0_1 l0_1.length c0_1] 25 (0, 0)) zr7_2) : gb353 ≠ gb355)); have n7_ := qaM ((by rw [hg]; exact qnG (qbL (g := gb353) (o := .cells #[.bool a0_0, .slice A0_1 l0_1.length c0_1] 25 (0, 0)) zr7_2) : gb355 ≠ gb353)); have n8_ := qaM ((by rw [hg]; exact qnL (qbL (g := gb354) (o := .cells #[.bool a1_0, .slice A1_1 l1_1.length c1_1] 25 (0, 0)) zr7_3) : gb354 ≠ gb355)); have n9_ := qaM ((by rw [hg]; exact qnG (qbL (g := gb354) (o := .cells #[.bool a1_0, .slice A1_1 l1_1.length c1_1] 25 (0, 0)) zr7_3) : gb355 ≠ gb354)); clear BK353; clear BK354; clear HB; have BK353 := n0_; have BK354 := n1_; have HB := n2_; have BK355 := n3_; have GW355 := n4_; have GE355 := n5_; have NB353_355 := n6_; have NB355_353 := n7_; have NB354_355 := n8_; have NB355_354 := n9_; clear n0_ n1_ n2_ n3_ n4_ n5_ n6_ n7_ n8_ n9_; clear hb hbox hg))
 have n0_ := qaM (qbD BK353.out)
 have n1_ := qaM (qbD BK354.out)
 have n2_ := qaM (qbD BK355.out)
 have n3_ := qaM (qwD HB.out)
 clear BK353
 clear BK354
 clear BK355
 clear HB
 have BK353 := n0_
 have BK354 := n1_
 have BK355 := n2_
 have HB := n3_
 clear n0_ n1_ n2_ n3_
 refine start_ (n := 12) (S := fun w' => w'.cell? ⟨gb353, 0, none⟩ = some (.bool a0_0) ∧ w'.cell? ⟨gb353, 1, none⟩ = some (.slice A0_1 l0_1.length c0_1) ∧ w'.cell? ⟨gb354, 0, none⟩ = some (.bool a1_0) ∧ w'.cell? ⟨gb354, 1, none⟩ = some (.slice A1_1 l1_1.length c1_1)) (ds := []) #[false, false, false, false, false, false, false, false, false, false, false, false] zr7_7 rfl rfl ⟨(qbC BK353.out 0).trans rfl, (qbC BK353.out 1).trans rfl, (qbC BK354.out 0).trans rfl, (qbC BK354.out 1).trans rfl⟩ (fun hHeld => ?_); refine with_tabW spec_WideMul.tab1 spec_WideMul.bits1 (fun HT_ HW_ => ?_)
 generalize w7.drew = w8 at BK353 BK354 BK355 HB hHeld ⊢
 refine pure_ (i := 0) (N := some 5) (v := ?_) (a' := ?_) #[true, false, false, false, false, false, false, false, false, false, false, false] rfl rfl (any_of HT_.out zr7_7) (fun _ _ _ h => h) (Or.inl ⟨by rfl, ?_⟩) ?_ ?_
 rotate_left
 ·intro w'
  go_simp
  with_reducible rfl
 rotate_left
 ·simp only [Act.put, qsA, qsZ, qsS, i64_w, i32_w]
  rfl
 refine pure_ (i := 2) (N := some 7) (v := ?_) (a' := ?_) #[true, false, true, false, false, false, false, false, false, false, false, false] rfl rfl (any_of HT_.out zr7_7) (fun _ _ _ h => h) (Or.inl ⟨by rfl, ?_⟩) ?_ ?_
 rotate_left
 ·intro w'
  go_simp
  with_reducible rfl
 rotate_left
 ·simp only [Act.put, qsA, qsZ, qsS, i64_w, i32_w]
  rfl
 refine pure_ (i := 5) (N := some 10) (v := ?_) (a' := ?_) #[true, false, true, false, false, true, false, false, false, false, false, false] rfl rfl (any_of HT_.out zr7_7) (fun _ _ _ h => h) (Or.inl ⟨by rfl, ?_⟩) ?_ ?_
 rotate_left
 ·intro w'
  go_simp
  with_reducible rfl
 rotate_left
 ·simp only [Act.put, qsA, qsZ, qsS, i64_w, i32_w]
  rfl
 refine pure_ (i := 7) (N := some 12) (v := ?_) (a' := ?_) #[true, false, true, false, false, true, false, true, false, false, false, false] rfl rfl (any_of HT_.out zr7_7) (fun _ _ _ h => h) (Or.inl ⟨by rfl, ?_⟩) ?_ ?_
 rotate_left
 ·intro w'
  go_simp
  with_reducible rfl
 rotate_left
 ·simp only [Act.put, qsA, qsZ, qsS, i64_w, i32_w]
  rfl
 refine take_ (i := 1) (N := some 6) (v := ?_) (a' := ?_) #[true, true, true, false, false, true, false, true, false, false, false, false] rfl rfl (take_ofW HT_.out HW_.out zr7_7) (fun _ _ _ h => h) (Or.inl ⟨by rfl, ?_⟩) hHeld ?_ ?_
 rotate_left
 ·rintro w' ⟨s0, s1, s2, s3⟩
  go_simp
  with_reducible rfl
 rotate_left
 ·simp only [Act.put, qsA, qsZ, qsS, i64_w, i32_w]
  rfl
 refine take_ (i := 3) (N := some 8) (v := ?_) (a' := ?_) #[true, true, true, true, false, true, false, true, false, false, false, false] rfl rfl (take_ofW HT_.out HW_.out zr7_7) (fun _ _ _ h => h) (Or.inl ⟨by rfl, ?_⟩) hHeld ?_ ?_
 rotate_left
 ·rintro w' ⟨s0, s1, s2, s3⟩
  go_simp
  with_reducible rfl
 rotate_left
 ·simp only [Act.put, qsA, qsZ, qsS, i64_w, i32_w]
  rfl
 refine pure_ (i := 4) (N := some 9) (v := ?_) (a' := ?_) #[true, true, true, true, true, true, false, true, false, false, false, false] rfl rfl (any_of HT_.out zr7_7) (fun _ _ _ h => h) (Or.inl ⟨by rfl, ?_⟩) ?_ ?_
 rotate_left
 ·intro w'
  go_simp
  with_reducible rfl
 rotate_left
 ·simp only [Act.put, qsA, qsZ, qsS, i64_w, i32_w]
  rfl
 refine take_ (i := 6) (N := some 11) (v := ?_) (a' := ?_) #[true, true, true, true, true, true, true, true, false, false, false, false] rfl rfl (take_ofW HT_.out HW_.out zr7_7) (fun _ _ _ h => h) (Or.inl ⟨by rfl, ?_⟩) hHeld ?_ ?_
 rotate_left
 ·rintro w' ⟨s0, s1, s2, s3⟩
  go_simp
  with_reducible rfl
 rotate_left
 ·simp only [Act.put, qsA, qsZ, qsS, i64_w, i32_w]
  rfl
 refine take_ (i := 8) (N := some 13) (v := ?_) (a' := ?_) #[true, true, true, true, true, true, true, true, true, false, false, false] rfl rfl (take_ofW HT_.out HW_.out zr7_7) (fun _ _ _ h => h) (Or.inl ⟨by rfl, ?_⟩) hHeld ?_ ?_
 rotate_left
 ·rintro w' ⟨s0, s1, s2, s3⟩
  go_simp
  with_reducible rfl
 rotate_left
 ·simp only [Act.put, qsA, qsZ, qsS, i64_w, i32_w]
  rfl
 refine one_ (i := 9) (N := some 14) #[true, true, true, true, true, true, true, true, true, true, false, false] rfl rfl (one_of HT_.out zr7_7) (by decide) (fun K hK => ?_)
 refine goes_ Try.func34 zr7_7 rfl #[.slice A0_1 l0_1.length c0_1, .slice A1_1 l1_1.length c1_1] (by rfl) rfl rfl zr7_8 ?_
 with_reducible refine (spec_magMul.calls k _ _ l0_1 _ _ l1_1 t356 _ ?side1 ?side2 ?side3 ?side4 A3.out).mono ?_
 (case side1 => repeat (first | exact (Kd.C_below HR0_1.out HB.out) | (with_reducible refine Kd.C_alloc ?_ _) | (with_reducible refine Kd.C_drewN ?_ _) | (with_reducible refine Kd.C_drew ?_)))
 (case side2 => exact HC0_1.out)
 (case side3 => repeat (first | exact (Kd.C_below HR1_1.out HB.out) | (with_reducible refine Kd.C_alloc ?_ _) | (with_reducible refine Kd.C_drewN ?_ _) | (with_reducible refine Kd.C_drew ?_)))
 (case side4 => exact HC1_1.out)
 rintro e w9 ⟨v357, rfl, ho0, hb⟩
 refine ⟨_, rfl, ?_⟩
 have n0_ := qaM (qvL (qvM (ok' := fun k_ => (w.heap.size ≤ k_) ∧ k_ ≠ gb353 ∧ k_ ≠ gb354 ∧ k_ ≠ gb355) ho0 (fun k_ hk_ => ⟨(Nat.le_trans (qbS zr7_1) hk_), (qfB (g := gb353) (o := .cells #[.bool a0_0, .slice A0_1 l0_1.length c0_1] 25 (0, 0)) zr7_2 k_ hk_), (qfB (g := gb354) (o := .cells #[.bool a1_0, .slice A1_1 l1_1.length c1_1] 25 (0, 0)) zr7_3 k_ hk_), (qfB (g := gb355) (o := .cells #[.bool false, .slice none 0 0] 25 (0, 0)) zr7_5 k_ hk_)⟩)) (qbS zr7_1))
 have n1_ := qaM (qbB (g := gb353) (o := .cells #[.bool a0_0, .slice A0_1 l0_1.length c0_1] 25 (0, 0)) zr7_2 hb)
 have n2_ := qaM (qbB (g := gb354) (o := .cells #[.bool a1_0, .slice A1_1 l1_1.length c1_1] 25 (0, 0)) zr7_3 hb)
 have n3_ := qaM (qbB (g := gb355) (o := .cells #[.bool false, .slice none 0 0] 25 (0, 0)) zr7_5 hb)
 have n4_ := qaM (qbT zr7_1 hb)
 clear BK353
 clear BK354
 clear BK355
 clear HB
 have HO358 := n0_
 have BK353 := n1_
 have BK354 := n2_
 have BK355 := n3_
 have HB := n4_
 clear n0_ n1_ n2_ n3_ n4_
 (try clear hb)
 (try clear hb2)
 (try clear hk)
 (try clear hi)
 (try clear ho0)
 obtain ⟨Ao10, co10, eo10⟩ := Kd.V_slice HO358.out
 (first | subst eo10 | (injection eo10 with f1_ f2_ f3_; have f4_ := f1_.symm; have f5_ := f3_.symm; clear f1_ f2_ f3_; subst f4_; subst f5_))
 refine hK.out _ _ ⟨(qbC BK353.out 0).trans rfl, (qbC BK353.out 1).trans rfl, (qbC BK354.out 0).trans rfl, (qbC BK354.out 1).trans rfl⟩ (fun hHeld => ?_)
 clear hK K
 refine norm_ (a' := ?_) ?_ ?_
 rotate_left
 ·show Act.put _ (some 14) _ = _
  simp only [Act.put, qsA, qsZ, qsS, i64_w, i32_w]
  rfl
 refine one_ (i := 10) (N := some 15) #[true, true, true, true, true, true, true, true, true, true, true, false] rfl rfl (one_of HT_.out zr7_7) (by decide) (fun K hK => ?_)
 refine goes_ Try.func27 zr7_7 rfl #[.bool (a0_0 != a1_0), .slice Ao10 t356.length co10] (by rfl) rfl rfl zr7_8 ?_
 with_reducible refine (spec_wide.calls k (a0_0 != a1_0) (fun k_ => ((w.heap.size ≤ k_) ∧ (k_ ≠ gb353 ∧ (k_ ≠ gb354 ∧ k_ ≠ gb355)))) _ _ t356 t359 t360 _ ?side1 A4.out).mono ?_
 (case side1 => exact HO358.out)
 rintro e w11 ⟨v361, rfl, ho0, hb⟩
 refine ⟨_, rfl, ?_⟩
 have n0_ := qaM (qvB (by (with_reducible repeat (first | apply qvA | apply qvN | apply qvD)); exact HO358.out) hb)
 have n1_ := qaM (qvL (qvM (ok' := fun k_ => (w.heap.size ≤ k_) ∧ k_ ≠ gb353 ∧ k_ ≠ gb354 ∧ k_ ≠ gb355) ho0 (fun k_ hk_ => ⟨Or.elim hk_ (fun hs_ => hs_.1) (fun hn_ => (Nat.le_trans (qbS zr7_1) hn_)), Or.elim hk_ (fun hs_ => hs_.2.1) (fun hn_ => (qfB (g := gb353) (o := .cells #[.bool a0_0, .slice A0_1 l0_1.length c0_1] 25 (0, 0)) zr7_2 k_ hn_)), Or.elim hk_ (fun hs_ => hs_.2.2.1) (fun hn_ => (qfB (g := gb354) (o := .cells #[.bool a1_0, .slice A1_1 l1_1.length c1_1] 25 (0, 0)) zr7_3 k_ hn_)), Or.elim hk_ (fun hs_ => hs_.2.2.2) (fun hn_ => (qfB (g := gb355) (o := .cells #[.bool false, .slice none 0 0] 25 (0, 0)) zr7_5 k_ hn_))⟩)) (qbS zr7_1))
 have n2_ := qaM (qbB (g := gb353) (o := .cells #[.bool a0_0, .slice A0_1 l0_1.length c0_1] 25 (0, 0)) zr7_2 hb)
 have n3_ := qaM (qbB (g := gb354) (o := .cells #[.bool a1_0, .slice A1_1 l1_1.length c1_1] 25 (0, 0)) zr7_3 hb)
 have n4_ := qaM (qbB (g := gb355) (o := .cells #[.bool false, .slice none 0 0] 25 (0, 0)) zr7_5 hb)
 have n5_ := qaM (qbT zr7_1 hb)
 clear HO358
 clear BK353
 clear BK354
 clear BK355
 clear HB
 have HO358 := n0_
 have HO362 := n1_
 have BK353 := n2_
 have BK354 := n3_
 have BK355 := n4_
 have HB := n5_
 clear n0_ n1_ n2_ n3_ n4_ n5_
 (try clear hb)
 (try clear hb2)
 (try clear hk)
 (try clear hi)
 (try clear ho0)
 obtain ⟨Ao13, co13, eo13⟩ := Kd.V_slice HO362.out
 (first | subst eo13 | (injection eo13 with f1_ f2_ f3_; have f4_ := f1_.symm; have f5_ := f3_.symm; clear f1_ f2_ f3_; subst f4_; subst f5_))
 refine hK.out _ _ ⟨(qbC BK353.out 0).trans rfl, (qbC BK353.out 1).trans rfl, (qbC BK354.out 0).trans rfl, (qbC BK354.out 1).trans rfl⟩ (fun hHeld => ?_)
 clear hK K
 refine norm_ (a' := ?_) ?_ ?_
 rotate_left
 ·show Act.put _ (some 15) _ = _
  simp only [Act.put, qsA, qsZ, qsS, i64_w, i32_w]
  rfl
 refine one_ (i := 11) (N := none) #[true, true, true, true, true, true, true, true, true, true, true, true] rfl rfl (one_of HT_.out zr7_7) (by decide) (fun K hK => ?_)
 have hs12 : w11.cell? ⟨gb355, 0, none⟩ = some (.bool false) := (qbC BK355.out 0).trans rfl
 have hfs12 := blk_frozen BK355.out 0
 have hns12_0 := NB353_355.out
 have hns12_1 := NB354_355.out
 have hms12_0 := NB355_353.out
 have hms12_1 := NB355_354.out
 have hs14 : w11.cell? ⟨gb355, 1, none⟩ = some (.slice none 0 0) := (qbC BK355.out 1).trans rfl
 have hfs14 := blk_frozen BK355.out 1
 have hns14_0 := NB353_355.out
 have hns14_1 := NB354_355.out
 have hms14_0 := NB355_353.out
 have hms14_1 := NB355_354.out
 refine skip_ (w1 := ?_) (by rfl) rfl ?_ ?_
 rotate_left
 ·go_simp
  rfl
 refine hK.out _ _ ⟨((cell_far (p := ⟨gb355, _, none⟩) NB353_355.out _).trans (((cell_far (p := ⟨gb355, _, none⟩) NB353_355.out _).trans (hHeld.1)))), ((cell_far (p := ⟨gb355, _, none⟩) NB353_355.out _).trans (((cell_far (p := ⟨gb355, _, none⟩) NB353_355.out _).trans (hHeld.2.1)))), ((cell_far (p := ⟨gb355, _, none⟩) NB354_355.out _).trans (((cell_far (p := ⟨gb355, _, none⟩) NB354_355.out _).trans (hHeld.2.2.1)))), ((cell_far (p := ⟨gb355, _, none⟩) NB354_355.out _).trans (((cell_far (p := ⟨gb355, _, none⟩) NB354_355.out _).trans (hHeld.2.2.2))))⟩ (fun hHeld => ?_)
 clear hK K
 refine done_ (done_of HT_.out zr7_7) ?_
 try go_wp2
 refine bodyPost_ret (results_cell_row rfl _ _ gb355 25 #[.bool t359, .slice Ao13 t360.length co13] (0, 0) _ rfl (by (with_reducible repeat (first | refine qbN ?_ _ | refine qbD ?_ | refine qbA ?_ _)); refine qbP (cs := #[.bool t359, .slice none 0 0]) ?_ 1 _ rfl; (with_reducible repeat (first | refine qbN ?_ _ | refine qbD ?_ | refine qbA ?_ _)); refine qbP (cs := #[.bool false, .slice none 0 0]) ?_ 0 _ rfl; (with_reducible repeat (first | refine qbN ?_ _ | refine qbD ?_ | refine qbA ?_ _)); exact BK355.out) Try.underlying25 rfl zr7_7) rfl ?_
 exact ⟨_, by first | rfl | (simp [errW_none, errW_some] <;> rfl) | (simp [*, errW_none, errW_some] <;> rfl), by (with_reducible repeat (first | apply qvA | apply qvN | apply qvD)); exact qvM (qvF (p := ⟨gb355, 1, none⟩) (qvF (p := ⟨gb355, 0, none⟩) (qvM HO362.out (fun k_ hk => (⟨hk, hk.2.2.2⟩ : _ ∧ k_ ≠ gb355))) (fun _ hk => hk.2) (.bool t359)) (fun _ hk => hk.2) (.slice Ao13 t360.length co13)) (fun _ hk => hk.1.1), by repeat (first | (with_reducible first | exact HB.out | apply qwA | apply qwN | apply qwD | refine qwS ?_ GE353.out | refine qwS ?_ GE354.out | refine qwS ?_ GE355.out) | exact HB.out)⟩


/-! ### spec_Wide_Sign: function 40 -/
def spec_Wide_Sign.f (a0_0 : Bool) (l0_1 : List Int) : Option (Int) := if a0_0 = true then (some (-1)) else (if (l0_1.length : Int) = 0 then (some 0) else (some 1))
set_option maxHeartbeats 8000000 in
set_option maxRecDepth 100000 in
theorem spec_Wide_Sign.calls (a0_0 : Bool) (A0_1 : Option Addr) (c0_1 : Nat) (l0_1 : List Int) (r : Int) (w : World) (hr0_1 : Kd.C (Kd.int .u32) w A0_1 l0_1.length l0_1) (hc0_1 : l0_1.length ≤ c0_1) (h : spec_Wide_Sign.f a0_0 l0_1 = some r) :
  Calls Try.prog 40 #[.agg #[.bool a0_0, .slice A0_1 l0_1.length c0_1]] w fun e w' => e = .returned (.int .i64 r) ∧ Below w.heap.size w w' := by
 have hu25 := Try.underlying25
 have HR0_1 := qaM hr0_1
 have HC0_1 := qaM hc0_1
 clear hr0_1 hc0_1
 have HB := qaM (Below.refl w.heap.size w)
 have H : (if a0_0 = true then (some (-1)) else (if (l0_1.length : Int) = 0 then (some 0) else (some 1))) = some r := h
 clear h
 by_cases c2 : a0_0 = true
 ·subst c2
  have H1 : (some (-1)) = some r := by rw [if_pos rfl] at H; exact H
  clear H
  have H := H1
  clear H1
  obtain rfl := Option.some.inj H
  go_enter Try.func40, Try.ntmps40
  go_wp2_with (first | ((with_reducible refine gate_dst (N := 1) rfl ?_); refine box_event ?hg (N := 1) ?hd (cs := #[.bool true, .slice A0_1 l0_1.length c0_1]) (t := 25) ?hr ?_; (case hd => rfl); (case hg => rfl); (case hr => first | (go_simp; done) | (go_simp; rfl)); intro gb363 hg w3 hbox hb; have n0_ := qaM (qbT zr7_0 hb); have n1_ := qaM (hbox); have n2_ := qaM ((by rw [hg]; exact (qbS zr7_0) : w.heap.size ≤ gb363)); have n3_ := qaM ((by rw [hg]; exact (qbS zr7_0) : w.heap.size ≤ gb363)); clear HB; have HB := n0_; have BK363 := n1_; have GW363 := n2_; have GE363 := n3_; clear n0_ n1_ n2_ n3_; clear hb hbox hg; have hcz4_0 : w3.cell? ⟨gb363, 0, none⟩ = some (.bool true) := (qbC BK363.out 0).trans rfl; have hcz4_1 : w3.cell? ⟨gb363, 1, none⟩ = some (.slice A0_1 l0_1.length c0_1) := (qbC BK363.out 1).trans rfl; have hfz4_0 := blk_frozen BK363.out 0; have hfz4_1 := blk_frozen BK363.out 1))
  go_ret
  exact ⟨by first | rfl | (simp [errW_none, errW_some] <;> rfl) | (simp [*, errW_none, errW_some] <;> rfl), by repeat (first | (with_reducible first | exact HB.out | apply qwA | apply qwN | apply qwD | refine qwS ?_ GE363.out) | exact HB.out)⟩
 ·replace c2 := Bool.eq_false_iff.mpr c2
  subst c2
  have H1 : (if (l0_1.length : Int) = 0 then (some 0) else (some 1)) = some r := by rw [if_neg (show ¬ (false = true) by decide)] at H; exact H
  clear H
  have H := H1
  clear H1
  by_cases c5 : (l0_1.length : Int) = 0
  ·rw [if_pos c5] at H
   have c5b0 : ((l0_1.length : Int) == 0) = true := beq_iff_eq.mpr c5
   have c5b1 : ((l0_1.length : Int) != 0) = false := bne_eq_false_iff_eq.mpr c5
   clear c5
   obtain rfl := Option.some.inj H
   go_enter Try.func40, Try.ntmps40
   go_wp2_with (first | ((with_reducible refine gate_dst (N := 1) rfl ?_); refine box_event ?hg (N := 1) ?hd (cs := #[.bool false, .slice A0_1 l0_1.length c0_1]) (t := 25) ?hr ?_; (case hd => rfl); (case hg => rfl); (case hr => first | (go_simp; done) | (go_simp; rfl)); intro gb363 hg w6 hbox hb; have n0_ := qaM (qbT zr7_0 hb); have n1_ := qaM (hbox); have n2_ := qaM ((by rw [hg]; exact (qbS zr7_0) : w.heap.size ≤ gb363)); have n3_ := qaM ((by rw [hg]; exact (qbS zr7_0) : w.heap.size ≤ gb363)); clear HB; have HB := n0_; have BK363 := n1_; have GW363 := n2_; have GE363 := n3_; clear n0_ n1_ n2_ n3_; clear hb hbox hg; have hcz7_0 : w6.cell? ⟨gb363, 0, none⟩ = some (.bool false) := (qbC BK363.out 0).trans rfl; have hcz7_1 : w6.cell? ⟨gb363, 1, none⟩ = some (.slice A0_1 l0_1.length c0_1) := (qbC BK363.out 1).trans rfl; have hfz7_0 := blk_frozen BK363.out 0; have hfz7_1 := blk_frozen BK363.out 1))
   go_ret
   exact ⟨by first | rfl | (simp [errW_none, errW_some] <;> rfl) | (simp [*, errW_none, errW_some] <;> rfl), by repeat (first | (with_reducible first | exact HB.out | apply qwA | apply qwN | apply qwD | refine qwS ?_ GE363.out) | exact HB.out)⟩
  ·rw [if_neg c5] at H
   have c5b0 : ((l0_1.length : Int) == 0) = false := beq_eq_false_iff_ne.mpr c5
   have c5b1 : ((l0_1.length : Int) != 0) = true := bne_iff_ne.mpr c5
   have c5b2 : ¬ (l0_1 = []) := fun h_ => c5 (by rw [h_]; rfl)
   obtain rfl := Option.some.inj H
   go_enter Try.func40, Try.ntmps40
   go_wp2_with (first | ((with_reducible refine gate_dst (N := 1) rfl ?_); refine box_event ?hg (N := 1) ?hd (cs := #[.bool false, .slice A0_1 l0_1.length c0_1]) (t := 25) ?hr ?_; (case hd => rfl); (case hg => rfl); (case hr => first | (go_simp; done) | (go_simp; rfl)); intro gb363 hg w8 hbox hb; have n0_ := qaM (qbT zr7_0 hb); have n1_ := qaM (hbox); have n2_ := qaM ((by rw [hg]; exact (qbS zr7_0) : w.heap.size ≤ gb363)); have n3_ := qaM ((by rw [hg]; exact (qbS zr7_0) : w.heap.size ≤ gb363)); clear HB; have HB := n0_; have BK363 := n1_; have GW363 := n2_; have GE363 := n3_; clear n0_ n1_ n2_ n3_; clear hb hbox hg; have hcz9_0 : w8.cell? ⟨gb363, 0, none⟩ = some (.bool false) := (qbC BK363.out 0).trans rfl; have hcz9_1 : w8.cell? ⟨gb363, 1, none⟩ = some (.slice A0_1 l0_1.length c0_1) := (qbC BK363.out 1).trans rfl; have hfz9_0 := blk_frozen BK363.out 0; have hfz9_1 := blk_frozen BK363.out 1))
   go_ret
   exact ⟨by first | rfl | (simp [errW_none, errW_some] <;> rfl) | (simp [*, errW_none, errW_some] <;> rfl), by repeat (first | (with_reducible first | exact HB.out | apply qwA | apply qwN | apply qwD | refine qwS ?_ GE363.out) | exact HB.out)⟩

/-! ### spec_upper: function 41 -/
def spec_upper.f (a0 : Int) (a1 : Int) (a2 : Bool) (a3 : Bool) : Option (Bool) := if a0 = 0 then (some false) else (if a0 = 1 then (some true) else (if a0 = 2 then (some a3) else (if a0 = 3 then (some (!a3)) else (if a1 = 0 then (if a0 = 4 then (some false) else (if a0 = 5 then (some true) else (if a0 = 6 then (some a3) else (if a0 = 7 then (some (!a3)) else (if a0 = 8 then (some (!a2)) else (some a2)))))) else (some (decide (a1 > 0)))))))
set_option maxHeartbeats 8000000 in
set_option maxRecDepth 100000 in
theorem spec_upper.calls (a0 : Int) (a1 : Int) (a2 : Bool) (a3 : Bool) (r : Bool) (w : World) (h : spec_upper.f a0 a1 a2 a3 = some r) :
  Calls Try.prog 41 #[.int .i64 a0, .int .i64 a1, .bool a2, .bool a3] w fun e w' => e = .returned (.bool r) ∧ Drawn0 w w' := by
 have H : (if a0 = 0 then (some false) else (if a0 = 1 then (some true) else (if a0 = 2 then (some a3) else (if a0 = 3 then (some (!a3)) else (if a1 = 0 then (if a0 = 4 then (some false) else (if a0 = 5 then (some true) else (if a0 = 6 then (some a3) else (if a0 = 7 then (some (!a3)) else (if a0 = 8 then (some (!a2)) else (some a2)))))) else (some (decide (a1 > 0)))))))) = some r := h
 clear h
 by_cases c5 : a0 = 0
 ·rw [if_pos c5] at H
  have c5b0 : (a0 == 0) = true := beq_iff_eq.mpr c5
  have c5b1 : (a0 != 0) = false := bne_eq_false_iff_eq.mpr c5
  clear c5
  obtain rfl := Option.some.inj H
  go_enter Try.func41, Try.ntmps41
  go_wp2
  go_ret
  exact ⟨by first | rfl | (simp; done) | (simp [*]; done), by repeat (first | exact Drawn0.refl _ | apply Drawn0.step)⟩
 ·rw [if_neg c5] at H
  have c5b0 : (a0 == 0) = false := beq_eq_false_iff_ne.mpr c5
  have c5b1 : (a0 != 0) = true := bne_iff_ne.mpr c5
  by_cases c6 : a0 = 1
  ·rw [if_pos c6] at H
   have c6b0 : (a0 == 1) = true := beq_iff_eq.mpr c6
   have c6b1 : (a0 != 1) = false := bne_eq_false_iff_eq.mpr c6
   clear c6
   obtain rfl := Option.some.inj H
   go_enter Try.func41, Try.ntmps41
   go_wp2
   go_ret
   exact ⟨by first | rfl | (simp; done) | (simp [*]; done), by repeat (first | exact Drawn0.refl _ | apply Drawn0.step)⟩
  ·rw [if_neg c6] at H
   have c6b0 : (a0 == 1) = false := beq_eq_false_iff_ne.mpr c6
   have c6b1 : (a0 != 1) = true := bne_iff_ne.mpr c6
   by_cases c7 : a0 = 2
   ·rw [if_pos c7] at H
    have c7b0 : (a0 == 2) = true := beq_iff_eq.mpr c7
    have c7b1 : (a0 != 2) = false := bne_eq_false_iff_eq.mpr c7
    clear c7
    obtain rfl := Option.some.inj H
    go_enter Try.func41, Try.ntmps41
    go_wp2
    go_ret
    exact ⟨by first | rfl | (simp; done) | (simp [*]; done), by repeat (first | exact Drawn0.refl _ | apply Drawn0.step)⟩
   ·rw [if_neg c7] at H
    have c7b0 : (a0 == 2) = false := beq_eq_false_iff_ne.mpr c7
    have c7b1 : (a0 != 2) = true := bne_iff_ne.mpr c7
    by_cases c8 : a0 = 3
    ·rw [if_pos c8] at H
     have c8b0 : (a0 == 3) = true := beq_iff_eq.mpr c8
     have c8b1 : (a0 != 3) = false := bne_eq_false_iff_eq.mpr c8
     clear c8
     obtain rfl := Option.some.inj H
     go_enter Try.func41, Try.ntmps41
     go_wp2
     go_ret
     exact ⟨by first | rfl | (simp; done) | (simp [*]; done), by repeat (first | exact Drawn0.refl _ | apply Drawn0.step)⟩
    ·rw [if_neg c8] at H
     have c8b0 : (a0 == 3) = false := beq_eq_false_iff_ne.mpr c8
     have c8b1 : (a0 != 3) = true := bne_iff_ne.mpr c8
     by_cases c9 : a1 = 0
     ·rw [if_pos c9] at H
      have c9b0 : (a1 == 0) = true := beq_iff_eq.mpr c9
      have c9b1 : (a1 != 0) = false := bne_eq_false_iff_eq.mpr c9
      clear c9
      by_cases c10 : a0 = 4
      ·rw [if_pos c10] at H
       have c10b0 : (a0 == 4) = true := beq_iff_eq.mpr c10
       have c10b1 : (a0 != 4) = false := bne_eq_false_iff_eq.mpr c10
       clear c10
       obtain rfl := Option.some.inj H
       go_enter Try.func41, Try.ntmps41
       go_wp2
       go_ret
       exact ⟨by first | rfl | (simp; done) | (simp [*]; done), by repeat (first | exact Drawn0.refl _ | apply Drawn0.step)⟩
      ·rw [if_neg c10] at H
       have c10b0 : (a0 == 4) = false := beq_eq_false_iff_ne.mpr c10
       have c10b1 : (a0 != 4) = true := bne_iff_ne.mpr c10
       by_cases c11 : a0 = 5
       ·rw [if_pos c11] at H
        have c11b0 : (a0 == 5) = true := beq_iff_eq.mpr c11
        have c11b1 : (a0 != 5) = false := bne_eq_false_iff_eq.mpr c11
        clear c11
        obtain rfl := Option.some.inj H
        go_enter Try.func41, Try.ntmps41
        go_wp2
        go_ret
        exact ⟨by first | rfl | (simp; done) | (simp [*]; done), by repeat (first | exact Drawn0.refl _ | apply Drawn0.step)⟩
       ·rw [if_neg c11] at H
        have c11b0 : (a0 == 5) = false := beq_eq_false_iff_ne.mpr c11
        have c11b1 : (a0 != 5) = true := bne_iff_ne.mpr c11
        by_cases c12 : a0 = 6
        ·rw [if_pos c12] at H
         have c12b0 : (a0 == 6) = true := beq_iff_eq.mpr c12
         have c12b1 : (a0 != 6) = false := bne_eq_false_iff_eq.mpr c12
         clear c12
         obtain rfl := Option.some.inj H
         go_enter Try.func41, Try.ntmps41
         go_wp2
         go_ret
         exact ⟨by first | rfl | (simp; done) | (simp [*]; done), by repeat (first | exact Drawn0.refl _ | apply Drawn0.step)⟩
        ·rw [if_neg c12] at H
         have c12b0 : (a0 == 6) = false := beq_eq_false_iff_ne.mpr c12
         have c12b1 : (a0 != 6) = true := bne_iff_ne.mpr c12
         by_cases c13 : a0 = 7
         ·rw [if_pos c13] at H
          have c13b0 : (a0 == 7) = true := beq_iff_eq.mpr c13
          have c13b1 : (a0 != 7) = false := bne_eq_false_iff_eq.mpr c13
          clear c13
          obtain rfl := Option.some.inj H
          go_enter Try.func41, Try.ntmps41
          go_wp2
          go_ret
          exact ⟨by first | rfl | (simp; done) | (simp [*]; done), by repeat (first | exact Drawn0.refl _ | apply Drawn0.step)⟩
         ·rw [if_neg c13] at H
          have c13b0 : (a0 == 7) = false := beq_eq_false_iff_ne.mpr c13
          have c13b1 : (a0 != 7) = true := bne_iff_ne.mpr c13
          by_cases c14 : a0 = 8
          ·rw [if_pos c14] at H
           have c14b0 : (a0 == 8) = true := beq_iff_eq.mpr c14
           have c14b1 : (a0 != 8) = false := bne_eq_false_iff_eq.mpr c14
           clear c14
           obtain rfl := Option.some.inj H
           go_enter Try.func41, Try.ntmps41
           go_wp2
           go_ret
           exact ⟨by first | rfl | (simp; done) | (simp [*]; done), by repeat (first | exact Drawn0.refl _ | apply Drawn0.step)⟩
          ·rw [if_neg c14] at H
           have c14b0 : (a0 == 8) = false := beq_eq_false_iff_ne.mpr c14
           have c14b1 : (a0 != 8) = true := bne_iff_ne.mpr c14
           obtain rfl := Option.some.inj H
           go_enter Try.func41, Try.ntmps41
           go_wp2
           go_ret
           exact ⟨by first | rfl | (simp; done) | (simp [*]; done), by repeat (first | exact Drawn0.refl _ | apply Drawn0.step)⟩
     ·rw [if_neg c9] at H
      have c9b0 : (a1 == 0) = false := beq_eq_false_iff_ne.mpr c9
      have c9b1 : (a1 != 0) = true := bne_iff_ne.mpr c9
      obtain rfl := Option.some.inj H
      go_enter Try.func41, Try.ntmps41
      go_wp2
      go_ret
      exact ⟨by first | rfl | (simp; done) | (simp [*]; done), by repeat (first | exact Drawn0.refl _ | apply Drawn0.step)⟩

end Go.Proofs.Ytelpdndlmhcdoaa.QR
