/- Printed by a program of this session (print2.py) over the kit's print: the functions that a law reaches, over contracts proved by hand. Lean checks it. -/
import Derived.Test.YtoaibapjnedhlaaGreatQAllx0
import Derived.Test.YtoaibapjnedhlaaGreatQAllx3
import Derived.Test.YtoaibapjnedhlaaGreatQAllx6
import Derived.Test.YtoaibapjnedhlaaGreatQAllx7
import Derived.Test.YtoaibapjnedhlaaGreatQAllx8
namespace Go.Proofs.YtoaibapjnedhlaaGreat.QAll
open Go.RowKit Go.Proofs.YtoaibapjnedhlaaGreatW.PrintWords Go.Proofs.YtoaibapjnedhlaaGreatW.PrintLast Go.Proofs.YtoaibapjnedhlaaGreatW.PrintMore
attribute [local go_sem] max2_int min2_int max_two min_two max_three min_three max_four min_four   -- for this text's walks alone
set_option linter.unusedVariables false
set_option linter.unusedSimpArgs false

theorem zd9_0 {p : Prop} (h : p := by repeat (first | (with_reducible first | exact HB.out | apply qwA | apply qwN | apply qwD | refine qwS ?_ GE160.out | refine qwS ?_ GE161.out | refine qwS ?_ GE162.out) | exact HB.out)) : p := h
theorem zd9_1 {p : Prop} (h : p := by (with_reducible repeat (first | refine qbN ?_ _ | refine qbD ?_ | refine qbA ?_ _)); exact BK160.out) : p := h
theorem zd9_2 {p : Prop} (h : p := by (with_reducible repeat (first | refine qbN ?_ _ | refine qbD ?_ | refine qbA ?_ _)); exact BK161.out) : p := h
theorem zd9_3 {p : Prop} (h : p := by repeat (first | (with_reducible first | exact HB.out | apply qwA | apply qwN | apply qwD | refine qwS ?_ GE160.out | refine qwS ?_ GE161.out) | exact HB.out)) : p := h
theorem zd9_4 {p : Prop} (h : p := by (with_reducible repeat (first | refine qbN ?_ _ | refine qbD ?_ | refine qbA ?_ _)); exact BK162.out) : p := h
theorem zd9_5 {p : Prop} (h : p := by repeat (first | (with_reducible first | exact HB.out | apply qwA | apply qwN | apply qwD | refine qwS ?_ GE160.out) | exact HB.out)) : p := h
theorem zd9_6 {p : Prop} (h : p := by (try simp only [List.map_toArray, List.map_cons, List.map_nil]); first | done | rfl | (simp only [List.length_drop, List.length_take]; rfl)) : p := h
theorem zd9_7 {p : Prop} (h : p := by repeat (first | (with_reducible first | exact HB.out | apply qwA | apply qwN | apply qwD) | exact HB.out)) : p := h
theorem zd9_8 {p : Prop} (h : p := by kernel_rfl) : p := h
theorem zd9_9 {p : Prop} (h : p := by decide) : p := h
/-! ### spec_WideAdd: function 25 -/
def spec_WideAdd.f (k : Nat) (a0_0 : Bool) (l0_1 : List Int) (a1_0 : Bool) (l1_1 : List Int) : Option (Bool × List Int) := if (a0_0 == a1_0) = true then ((spec_magAdd.f k l0_1 l1_1).bind fun t163 => ((spec_wide.f k a0_0 t163).bind fun bt166 => (some (bt166.1, bt166.2)))) else ((spec_magCmp.f k l0_1 l1_1).bind fun t170 => (if t170 ≥ 0 then ((spec_magSub.f k l0_1 l1_1).bind fun t171 => ((spec_wide.f k a0_0 t171).bind fun bt174 => (some (bt174.1, bt174.2)))) else ((spec_magSub.f k l1_1 l0_1).bind fun t178 => ((spec_wide.f k a1_0 t178).bind fun bt181 => (some (bt181.1, bt181.2))))))
theorem spec_WideAdd.mono : ∀ a0 a1 a2 a3 k, LeO (spec_WideAdd.f k a0 a1 a2 a3) (spec_WideAdd.f (k + 1) a0 a1 a2 a3) := by
 intro a0 a1 a2 a3 k
 unfold spec_WideAdd.f
 repeat' first
   | (with_reducible exact spec_magAdd.mono _ _ _)
   | (with_reducible exact spec_magCmp.mono _ _ _)
   | (with_reducible exact spec_magSub.mono _ _ _)
   | (with_reducible exact spec_wide.mono _ _ _)
   | (with_reducible exact LeO.refl _)
   | (with_reducible exact LeO.none _)
   | (with_reducible refine LeO.ite ?_ ?_)
   | (with_reducible refine LeO.bind ?_ (fun _ => ?_))
   | exact spec_magAdd.mono _ _ _
   | exact spec_magCmp.mono _ _ _
   | exact spec_magSub.mono _ _ _
   | exact spec_wide.mono _ _ _
   | exact LeO.none _
   | refine LeO.ite ?_ ?_
   | refine LeO.bind ?_ (fun _ => ?_)
def spec_WideAdd.T2 : Bool × List (List Nat × List Nat) := (true, [([], []), ([0], [0]), ([], []), ([2], [2]), ([], []), ([4], [4]), ([3, 5], [3, 5]), ([1, 6, 6], [1, 6]), ([7, 7, 0, 1, 2, 3, 4, 5, 6, 7], [7])])
def spec_WideAdd.B2 : List Nat := [0, 1, 0, 4, 0, 16, 60, 127, 255]
theorem spec_WideAdd.tab2 : rtab .any (opsOf Tryz.f25 2) = spec_WideAdd.T2 := by kernel_rfl
theorem spec_WideAdd.bits2 : waitsOk spec_WideAdd.T2.2 spec_WideAdd.B2 = true := by kernel_rfl
def spec_WideAdd.T4 : Bool × List (List Nat × List Nat) := (true, [([], []), ([0], [0]), ([], []), ([2], [2]), ([], []), ([4], [4]), ([3, 5], [3, 5]), ([1, 6, 6], [1, 6]), ([7, 7, 0, 1, 2, 3, 4, 5, 6, 7], [7])])
def spec_WideAdd.B4 : List Nat := [0, 1, 0, 4, 0, 16, 60, 127, 255]
theorem spec_WideAdd.tab4 : rtab .any (opsOf Tryz.f25 4) = spec_WideAdd.T4 := by kernel_rfl
theorem spec_WideAdd.bits4 : waitsOk spec_WideAdd.T4.2 spec_WideAdd.B4 = true := by kernel_rfl
def spec_WideAdd.T5 : Bool × List (List Nat × List Nat) := (true, [([], []), ([0], [0]), ([], []), ([2], [2]), ([], []), ([4], [4]), ([3, 5], [3, 5]), ([1, 6, 6], [1, 6]), ([7, 7, 0, 1, 2, 3, 4, 5, 6, 7], [7])])
def spec_WideAdd.B5 : List Nat := [0, 1, 0, 4, 0, 16, 60, 127, 255]
theorem spec_WideAdd.tab5 : rtab .any (opsOf Tryz.f25 5) = spec_WideAdd.T5 := by kernel_rfl
theorem spec_WideAdd.bits5 : waitsOk spec_WideAdd.T5.2 spec_WideAdd.B5 = true := by kernel_rfl
set_option maxHeartbeats 8000000 in
set_option maxRecDepth 100000 in
theorem spec_WideAdd.calls (k : Nat) (a0_0 : Bool) (A0_1 : Option Addr) (c0_1 : Nat) (l0_1 : List Int) (a1_0 : Bool) (A1_1 : Option Addr) (c1_1 : Nat) (l1_1 : List Int) (r1 : Bool) (r2 : List Int) (w : World) (hr0_1 : Kd.C (Kd.int .u32) w A0_1 l0_1.length l0_1) (hc0_1 : l0_1.length ≤ c0_1) (hr1_1 : Kd.C (Kd.int .u32) w A1_1 l1_1.length l1_1) (hc1_1 : l1_1.length ≤ c1_1) (h : spec_WideAdd.f k a0_0 l0_1 a1_0 l1_1 = some (r1, r2)) :
  Calls Tryz.prog 25 #[.agg #[.bool a0_0, .slice A0_1 l0_1.length c0_1], .agg #[.bool a1_0, .slice A1_1 l1_1.length c1_1]] w fun e w' => ∃ v1_ : Value, e = .returned (.agg #[.bool r1, v1_]) ∧ Kd.V (Kd.int .u32) 104 w' w.heap.size (fun k_ => (w.heap.size ≤ k_)) v1_ r2 ∧ Below w.heap.size w w' := by
 have hu27 := Tryz.underlying27
 have HR0_1 := qaM hr0_1
 have HC0_1 := qaM hc0_1
 clear hr0_1 hc0_1
 have HR1_1 := qaM hr1_1
 have HC1_1 := qaM hc1_1
 clear hr1_1 hc1_1
 have HB := qaM (Below.refl w.heap.size w)
 have H : (if (a0_0 == a1_0) = true then ((spec_magAdd.f k l0_1 l1_1).bind fun t163 => ((spec_wide.f k a0_0 t163).bind fun bt166 => (some (bt166.1, bt166.2)))) else ((spec_magCmp.f k l0_1 l1_1).bind fun t170 => (if t170 ≥ 0 then ((spec_magSub.f k l0_1 l1_1).bind fun t171 => ((spec_wide.f k a0_0 t171).bind fun bt174 => (some (bt174.1, bt174.2)))) else ((spec_magSub.f k l1_1 l0_1).bind fun t178 => ((spec_wide.f k a1_0 t178).bind fun bt181 => (some (bt181.1, bt181.2))))))) = some (r1, r2) := h
 clear h
 by_cases c3 : (a0_0 == a1_0) = true
 ·rw [if_pos c3] at H
  have c3b0 : (a0_0 == a1_0) = true := c3
  (try (have c3b1 : decide (a0_0 = a1_0) = true := by simpa using c3))
  (try (have c3b2 : (a0_0 == a1_0) = true := by simpa using c3))
  clear c3
  replace H := Option.bind_eq_some_iff.mp H
  obtain ⟨t163, A40, H⟩ := H
  replace H : ((spec_wide.f k a0_0 t163).bind fun bt166 => (some (bt166.1, bt166.2))) = some (r1, r2) := H
  have A4 := qaM A40
  clear A40
  replace H := Option.bind_eq_some_iff.mp H
  obtain ⟨⟨t166, t167⟩, A50, H⟩ := H
  replace H : (some (t166, t167)) = some (r1, r2) := H
  have A5 := qaM A50
  clear A50
  simp only [Option.some.injEq, Prod.mk.injEq] at H
  obtain ⟨rfl, rfl⟩ := H
  go_enter Tryz.func25, Tryz.ntmps25
  try go_wp2_with (first | ((with_reducible refine gate_dst (N := 2) rfl ?_); refine box_event ?hg (N := 2) ?hd (cs := #[.bool a0_0, .slice A0_1 l0_1.length c0_1]) (t := 27) ?hr ?_; (case hd => rfl); (case hg => rfl); (case hr => first | (go_simp; done) | (go_simp; rfl)); intro gb160 hg w6 hbox hb; have n0_ := qaM (qbT zd9_7 hb); have n1_ := qaM (hbox); have n2_ := qaM ((by rw [hg]; exact (qbS zd9_7) : w.heap.size ≤ gb160)); have n3_ := qaM ((by rw [hg]; exact (qbS zd9_7) : w.heap.size ≤ gb160)); clear HB; have HB := n0_; have BK160 := n1_; have GW160 := n2_; have GE160 := n3_; clear n0_ n1_ n2_ n3_; clear hb hbox hg) | ((with_reducible refine gate_dst (N := 3) rfl ?_); refine box_event ?hg (N := 3) ?hd (cs := #[.bool a1_0, .slice A1_1 l1_1.length c1_1]) (t := 27) ?hr ?_; (case hd => rfl); (case hg => rfl); (case hr => first | (go_simp; done) | (go_simp; rfl)); intro gb161 hg w7 hbox hb; have n0_ := qaM (qbB (g := gb160) (o := .cells #[.bool a0_0, .slice A0_1 l0_1.length c0_1] 27 (0, 0)) zd9_1 hb); have n1_ := qaM (qbT zd9_5 hb); have n2_ := qaM (hbox); have n3_ := qaM ((by rw [hg]; exact (qbS zd9_5) : w.heap.size ≤ gb161)); have n4_ := qaM ((by rw [hg]; exact (qbS zd9_5) : w.heap.size ≤ gb161)); have n5_ := qaM ((by rw [hg]; exact qnL (qbL (g := gb160) (o := .cells #[.bool a0_0, .slice A0_1 l0_1.length c0_1] 27 (0, 0)) zd9_1) : gb160 ≠ gb161)); have n6_ := qaM ((by rw [hg]; exact qnG (qbL (g := gb160) (o := .cells #[.bool a0_0, .slice A0_1 l0_1.length c0_1] 27 (0, 0)) zd9_1) : gb161 ≠ gb160)); clear BK160; clear HB; have BK160 := n0_; have HB := n1_; have BK161 := n2_; have GW161 := n3_; have GE161 := n4_; have NB160_161 := n5_; have NB161_160 := n6_; clear n0_ n1_ n2_ n3_ n4_ n5_ n6_; clear hb hbox hg) | ((with_reducible refine gate_dst (N := 4) rfl ?_); refine box_event ?hg (N := 4) ?hd (cs := #[.bool false, .slice none 0 0]) (t := 27) ?hr ?_; (case hd => rfl); (case hg => rfl); (case hr => first | (go_simp; done) | (go_simp; rfl)); intro gb162 hg w8 hbox hb; have n0_ := qaM (qbB (g := gb160) (o := .cells #[.bool a0_0, .slice A0_1 l0_1.length c0_1] 27 (0, 0)) zd9_1 hb); have n1_ := qaM (qbB (g := gb161) (o := .cells #[.bool a1_0, .slice A1_1 l1_1.length c1_1] 27 (0, 0)) zd9_2 hb); have n2_ := qaM (qbT zd9_3 hb); have n3_ := qaM (hbox); have n4_ := qaM ((by rw [hg]; exact (qbS zd9_3) : w.heap.size ≤ gb162)); have n5_ := qaM ((by rw [hg]; exact (qbS zd9_3) : w.heap.size ≤ gb162)); have n6_ := qaM ((by rw [hg]; exact qnL (qbL (g := gb160) (o := .cells #[.bool a0_0, .slice A0_1 l0_1.length c0_1] 27 (0, 0)) zd9_1) : gb160 ≠ gb162)); have n7_ := qaM ((by rw [hg]; exact qnG (qbL (g := gb160) (o := .cells #[.bool a0_0, .slice A0_1 l0_1.length c0_1] 27 (0, 0)) zd9_1) : gb162 ≠ gb160)); have n8_ := qaM ((by rw [hg]; exact qnL (qbL (g := gb161) (o := .cells #[.bool a1_0, .slice A1_1 l1_1.length c1_1] 27 (0, 0)) zd9_2) : gb161 ≠ gb162)); have n9_ := qaM ((by rw [hg]; exact qnG (qbL (g := gb161) (o := .cells #[.bool a1_0, .slice A1_1 l1_1.length c1_1] 27 (0, 0)) zd9_2) : gb162 ≠ gb161)); clear BK160; clear BK161; clear HB; have BK160 := n0_; have BK161 := n1_; have HB := n2_; have BK162 := n3_; have GW162 := n4_; have GE162 := n5_; have NB160_162 := n6_; have NB162_160 := n7_; have NB161_162 := n8_; have NB162_161 := n9_; clear n0_ n1_ n2_ n3_ n4_ n5_ n6_ n7_ n8_ n9_; clear hb hbox hg; have hnb9 := NB160_161.out; have hnc9 := NB161_160.out; have hnb10 := NB160_162.out; have hnc10 := NB162_160.out; have hcz11_0 : w8.cell? ⟨gb160, 0, none⟩ = some (.bool a0_0) := (qbC BK160.out 0).trans rfl; have hcz11_1 : w8.cell? ⟨gb160, 1, none⟩ = some (.slice A0_1 l0_1.length c0_1) := (qbC BK160.out 1).trans rfl; have hfz11_0 := blk_frozen BK160.out 0; have hfz11_1 := blk_frozen BK160.out 1; have hnb12 := NB161_162.out; have hnc12 := NB162_161.out; have hcz13_0 : w8.cell? ⟨gb161, 0, none⟩ = some (.bool a1_0) := (qbC BK161.out 0).trans rfl; have hcz13_1 : w8.cell? ⟨gb161, 1, none⟩ = some (.slice A1_1 l1_1.length c1_1) := (qbC BK161.out 1).trans rfl; have hfz13_0 := blk_frozen BK161.out 0; have hfz13_1 := blk_frozen BK161.out 1))
  have n0_ := qaM (qbD BK160.out)
  have n1_ := qaM (qbD BK161.out)
  have n2_ := qaM (qbD BK162.out)
  have n3_ := qaM (qwD HB.out)
  clear BK160
  clear BK161
  clear BK162
  clear HB
  have BK160 := n0_
  have BK161 := n1_
  have BK162 := n2_
  have HB := n3_
  clear n0_ n1_ n2_ n3_
  refine start_ (n := 9) (S := fun w' => w'.cell? ⟨gb160, 0, none⟩ = some (.bool a0_0) ∧ w'.cell? ⟨gb160, 1, none⟩ = some (.slice A0_1 l0_1.length c0_1) ∧ w'.cell? ⟨gb161, 0, none⟩ = some (.bool a1_0) ∧ w'.cell? ⟨gb161, 1, none⟩ = some (.slice A1_1 l1_1.length c1_1)) (ds := []) #[false, false, false, false, false, false, false, false, false] zd9_8 rfl rfl ⟨(qbC BK160.out 0).trans rfl, (qbC BK160.out 1).trans rfl, (qbC BK161.out 0).trans rfl, (qbC BK161.out 1).trans rfl⟩ (fun hHeld => ?_); refine with_tabW spec_WideAdd.tab2 spec_WideAdd.bits2 (fun HT_ HW_ => ?_)
  generalize w8.drew = w14 at BK160 BK161 BK162 HB hHeld ⊢
  refine pure_ (i := 0) (N := some 10) (v := ?_) (a' := ?_) #[true, false, false, false, false, false, false, false, false] rfl rfl (any_of HT_.out zd9_8) (fun _ _ _ h => h) (Or.inl ⟨by rfl, ?_⟩) ?_ ?_
  rotate_left
  ·intro w'
   go_simp
   with_reducible rfl
  rotate_left
  ·simp only [Act.put, qsA, qsZ, qsS, i64_w, i32_w]
   rfl
  refine pure_ (i := 2) (N := some 12) (v := ?_) (a' := ?_) #[true, false, true, false, false, false, false, false, false] rfl rfl (any_of HT_.out zd9_8) (fun _ _ _ h => h) (Or.inl ⟨by rfl, ?_⟩) ?_ ?_
  rotate_left
  ·intro w'
   go_simp
   with_reducible rfl
  rotate_left
  ·simp only [Act.put, qsA, qsZ, qsS, i64_w, i32_w]
   rfl
  refine pure_ (i := 4) (N := some 14) (v := ?_) (a' := ?_) #[true, false, true, false, true, false, false, false, false] rfl rfl (any_of HT_.out zd9_8) (fun _ _ _ h => h) (Or.inl ⟨by rfl, ?_⟩) ?_ ?_
  rotate_left
  ·intro w'
   go_simp
   with_reducible rfl
  rotate_left
  ·simp only [Act.put, qsA, qsZ, qsS, i64_w, i32_w]
   rfl
  refine take_ (i := 1) (N := some 11) (v := ?_) (a' := ?_) #[true, true, true, false, true, false, false, false, false] rfl rfl (take_ofW HT_.out HW_.out zd9_8) (fun _ _ _ h => h) (Or.inl ⟨by rfl, ?_⟩) hHeld ?_ ?_
  rotate_left
  ·rintro w' ⟨s0, s1, s2, s3⟩
   go_simp
   with_reducible rfl
  rotate_left
  ·simp only [Act.put, qsA, qsZ, qsS, i64_w, i32_w]
   rfl
  refine take_ (i := 3) (N := some 13) (v := ?_) (a' := ?_) #[true, true, true, true, true, false, false, false, false] rfl rfl (take_ofW HT_.out HW_.out zd9_8) (fun _ _ _ h => h) (Or.inl ⟨by rfl, ?_⟩) hHeld ?_ ?_
  rotate_left
  ·rintro w' ⟨s0, s1, s2, s3⟩
   go_simp
   with_reducible rfl
  rotate_left
  ·simp only [Act.put, qsA, qsZ, qsS, i64_w, i32_w]
   rfl
  refine take_ (i := 5) (N := some 15) (v := ?_) (a' := ?_) #[true, true, true, true, true, true, false, false, false] rfl rfl (take_ofW HT_.out HW_.out zd9_8) (fun _ _ _ h => h) (Or.inl ⟨by rfl, ?_⟩) hHeld ?_ ?_
  rotate_left
  ·rintro w' ⟨s0, s1, s2, s3⟩
   go_simp
   with_reducible rfl
  rotate_left
  ·simp only [Act.put, qsA, qsZ, qsS, i64_w, i32_w]
   rfl
  refine one_ (i := 6) (N := some 16) #[true, true, true, true, true, true, true, false, false] rfl rfl (one_of HT_.out zd9_8) zd9_9 (fun K hK => ?_)
  refine goes_ Tryz.func53 zd9_8 rfl #[.slice A0_1 l0_1.length c0_1, .slice A1_1 l1_1.length c1_1] (by rfl) rfl rfl zd9_6 ?_
  with_reducible refine (spec_magAdd.calls k _ _ l0_1 _ _ l1_1 t163 _ ?side1 ?side2 ?side3 ?side4 A4.out).mono ?_
  (case side1 => repeat (first | exact (Kd.C_below HR0_1.out HB.out) | (with_reducible refine Kd.C_alloc ?_ _) | (with_reducible refine Kd.C_drewN ?_ _) | (with_reducible refine Kd.C_drew ?_)))
  (case side2 => exact HC0_1.out)
  (case side3 => repeat (first | exact (Kd.C_below HR1_1.out HB.out) | (with_reducible refine Kd.C_alloc ?_ _) | (with_reducible refine Kd.C_drewN ?_ _) | (with_reducible refine Kd.C_drew ?_)))
  (case side4 => exact HC1_1.out)
  rintro e w15 ⟨v164, rfl, ho0, hb⟩
  refine ⟨_, rfl, ?_⟩
  have n0_ := qaM (Kd.R_lower (Kd.R_newM (M := fun k_ => (w.heap.size ≤ k_)) ho0 (qbS zd9_0) (fun k_ h_ => h_)) (qbS zd9_0))
  have n1_ := qaM (qbB (g := gb160) (o := .cells #[.bool a0_0, .slice A0_1 l0_1.length c0_1] 27 (0, 0)) zd9_1 hb)
  have n2_ := qaM (qbB (g := gb161) (o := .cells #[.bool a1_0, .slice A1_1 l1_1.length c1_1] 27 (0, 0)) zd9_2 hb)
  have n3_ := qaM (qbB (g := gb162) (o := .cells #[.bool false, .slice none 0 0] 27 (0, 0)) zd9_4 hb)
  have n4_ := qaM (qbT zd9_0 hb)
  clear BK160
  clear BK161
  clear BK162
  clear HB
  have HO165 := n0_
  have BK160 := n1_
  have BK161 := n2_
  have BK162 := n3_
  have HB := n4_
  clear n0_ n1_ n2_ n3_ n4_
  (try clear hb)
  (try clear hb2)
  (try clear hk)
  (try clear hi)
  (try clear ho0)
  obtain ⟨Ao16, co16, eo16⟩ := Kd.R_slice HO165.out
  (first | subst eo16 | (injection eo16 with f1_ f2_ f3_; have f4_ := f1_.symm; have f5_ := f3_.symm; clear f1_ f2_ f3_; subst f4_; subst f5_))
  refine hK.out _ _ ⟨(qbC BK160.out 0).trans rfl, (qbC BK160.out 1).trans rfl, (qbC BK161.out 0).trans rfl, (qbC BK161.out 1).trans rfl⟩ (fun hHeld => ?_)
  clear hK K
  refine norm_ (a' := ?_) ?_ ?_
  rotate_left
  ·show Act.put _ (some 16) _ = _
   simp only [Act.put, qsA, qsZ, qsS, i64_w, i32_w]
   rfl
  refine one_ (i := 7) (N := some 17) #[true, true, true, true, true, true, true, true, false] rfl rfl (one_of HT_.out zd9_8) zd9_9 (fun K hK => ?_)
  refine goes_ Tryz.func24 zd9_8 rfl #[.bool a0_0, .slice Ao16 t163.length co16] (by rfl) rfl rfl zd9_6 ?_
  with_reducible refine (spec_wide.calls k a0_0 (fun k_ => some k_ = (.slice Ao16 t163.length co16 : Value).ownBlock) _ _ t163 t166 t167 _ ?side1 A5.out).mono ?_
  (case side1 => exact qrV (Kd.R_tight rfl (qrT (qrT (qrT (HO165.out) BK160.out zd9_9) BK161.out zd9_9) BK162.out zd9_9)))
  rintro e w17 ⟨v168, rfl, ho0, hb⟩
  refine ⟨_, rfl, ?_⟩
  have n0_ := qaM (qrB (by (with_reducible repeat (first | apply qrA | apply qrN | apply qrD)); exact HO165.out) hb)
  have n1_ := qaM (qvL (qvM (ok' := fun k_ => (w.heap.size ≤ k_) ∧ k_ ≠ gb160 ∧ k_ ≠ gb161 ∧ k_ ≠ gb162) ho0 (fun k_ hk_ => ⟨Or.elim hk_ (fun hs_ => ((qrT (qrT (qrT (HO165.out) BK160.out zd9_9) BK161.out zd9_9) BK162.out zd9_9).1 k_ hs_.symm).1.1.1.1) (fun hn_ => (Nat.le_trans (qbS zd9_0) hn_)), Or.elim hk_ (fun hs_ => ((qrT (qrT (qrT (HO165.out) BK160.out zd9_9) BK161.out zd9_9) BK162.out zd9_9).1 k_ hs_.symm).1.1.2) (fun hn_ => (qfB (g := gb160) (o := .cells #[.bool a0_0, .slice A0_1 l0_1.length c0_1] 27 (0, 0)) zd9_1 k_ hn_)), Or.elim hk_ (fun hs_ => ((qrT (qrT (qrT (HO165.out) BK160.out zd9_9) BK161.out zd9_9) BK162.out zd9_9).1 k_ hs_.symm).1.2) (fun hn_ => (qfB (g := gb161) (o := .cells #[.bool a1_0, .slice A1_1 l1_1.length c1_1] 27 (0, 0)) zd9_2 k_ hn_)), Or.elim hk_ (fun hs_ => ((qrT (qrT (qrT (HO165.out) BK160.out zd9_9) BK161.out zd9_9) BK162.out zd9_9).1 k_ hs_.symm).2) (fun hn_ => (qfB (g := gb162) (o := .cells #[.bool false, .slice none 0 0] 27 (0, 0)) zd9_4 k_ hn_))⟩)) (qbS zd9_0))
  have n2_ := qaM (qbB (g := gb160) (o := .cells #[.bool a0_0, .slice A0_1 l0_1.length c0_1] 27 (0, 0)) zd9_1 hb)
  have n3_ := qaM (qbB (g := gb161) (o := .cells #[.bool a1_0, .slice A1_1 l1_1.length c1_1] 27 (0, 0)) zd9_2 hb)
  have n4_ := qaM (qbB (g := gb162) (o := .cells #[.bool false, .slice none 0 0] 27 (0, 0)) zd9_4 hb)
  have n5_ := qaM (qbT zd9_0 hb)
  clear HO165
  clear BK160
  clear BK161
  clear BK162
  clear HB
  have HO165 := n0_
  have HO169 := n1_
  have BK160 := n2_
  have BK161 := n3_
  have BK162 := n4_
  have HB := n5_
  clear n0_ n1_ n2_ n3_ n4_ n5_
  (try clear hb)
  (try clear hb2)
  (try clear hk)
  (try clear hi)
  (try clear ho0)
  obtain ⟨Ao19, co19, eo19⟩ := Kd.V_slice HO169.out
  (first | subst eo19 | (injection eo19 with f1_ f2_ f3_; have f4_ := f1_.symm; have f5_ := f3_.symm; clear f1_ f2_ f3_; subst f4_; subst f5_))
  refine hK.out _ _ ⟨(qbC BK160.out 0).trans rfl, (qbC BK160.out 1).trans rfl, (qbC BK161.out 0).trans rfl, (qbC BK161.out 1).trans rfl⟩ (fun hHeld => ?_)
  clear hK K
  refine norm_ (a' := ?_) ?_ ?_
  rotate_left
  ·show Act.put _ (some 17) _ = _
   simp only [Act.put, qsA, qsZ, qsS, i64_w, i32_w]
   rfl
  refine one_ (i := 8) (N := none) #[true, true, true, true, true, true, true, true, true] rfl rfl (one_of HT_.out zd9_8) zd9_9 (fun K hK => ?_)
  have hs18 : w17.cell? ⟨gb162, 0, none⟩ = some (.bool false) := (qbC BK162.out 0).trans rfl
  have hfs18 := blk_frozen BK162.out 0
  have hns18_0 := NB160_162.out
  have hns18_1 := NB161_162.out
  have hms18_0 := NB162_160.out
  have hms18_1 := NB162_161.out
  have hs20 : w17.cell? ⟨gb162, 1, none⟩ = some (.slice none 0 0) := (qbC BK162.out 1).trans rfl
  have hfs20 := blk_frozen BK162.out 1
  have hns20_0 := NB160_162.out
  have hns20_1 := NB161_162.out
  have hms20_0 := NB162_160.out
  have hms20_1 := NB162_161.out
  refine skip_ (w1 := ?_) (by rfl) rfl ?_ ?_
  rotate_left
  ·go_simp
   rfl
  refine hK.out _ _ ⟨((cell_far (p := ⟨gb162, _, none⟩) NB160_162.out _).trans (((cell_far (p := ⟨gb162, _, none⟩) NB160_162.out _).trans (hHeld.1)))), ((cell_far (p := ⟨gb162, _, none⟩) NB160_162.out _).trans (((cell_far (p := ⟨gb162, _, none⟩) NB160_162.out _).trans (hHeld.2.1)))), ((cell_far (p := ⟨gb162, _, none⟩) NB161_162.out _).trans (((cell_far (p := ⟨gb162, _, none⟩) NB161_162.out _).trans (hHeld.2.2.1)))), ((cell_far (p := ⟨gb162, _, none⟩) NB161_162.out _).trans (((cell_far (p := ⟨gb162, _, none⟩) NB161_162.out _).trans (hHeld.2.2.2))))⟩ (fun hHeld => ?_)
  clear hK K
  refine done_ (done_of HT_.out zd9_8) ?_
  try go_wp2
  refine bodyPost_ret (results_cell_row rfl _ _ gb162 27 #[.bool t166, .slice Ao19 t167.length co19] (0, 0) _ rfl (by (with_reducible repeat (first | refine qbN ?_ _ | refine qbD ?_ | refine qbA ?_ _)); refine qbP (cs := #[.bool t166, .slice none 0 0]) ?_ 1 _ rfl; (with_reducible repeat (first | refine qbN ?_ _ | refine qbD ?_ | refine qbA ?_ _)); refine qbP (cs := #[.bool false, .slice none 0 0]) ?_ 0 _ rfl; (with_reducible repeat (first | refine qbN ?_ _ | refine qbD ?_ | refine qbA ?_ _)); exact BK162.out) Tryz.underlying27 rfl zd9_8) rfl ?_
  exact ⟨_, by first | rfl | (simp [errW_none, errW_some] <;> rfl) | (simp [*, errW_none, errW_some] <;> rfl), by (with_reducible repeat (first | apply qvA | apply qvN | apply qvD)); exact qvM (qvF (p := ⟨gb162, 1, none⟩) (qvF (p := ⟨gb162, 0, none⟩) (qvM HO169.out (fun k_ hk => (⟨hk, hk.2.2.2⟩ : _ ∧ k_ ≠ gb162))) (fun _ hk => hk.2) (.bool t166)) (fun _ hk => hk.2) (.slice Ao19 t167.length co19)) (fun _ hk => hk.1.1), by repeat (first | (with_reducible first | exact HB.out | apply qwA | apply qwN | apply qwD | refine qwS ?_ GE160.out | refine qwS ?_ GE161.out | refine qwS ?_ GE162.out) | exact HB.out)⟩
 ·rw [if_neg c3] at H
  have c3b0 : (a0_0 == a1_0) = false := by simpa using c3
  (try (have c3b1 : decide (a0_0 = a1_0) = false := by simpa using c3))
  (try (have c3b2 : (a0_0 == a1_0) = false := by simpa using c3))
  (try (have c3b3 : ¬ (a0_0 = a1_0) := by simpa using c3))
  clear c3
  replace H := Option.bind_eq_some_iff.mp H
  obtain ⟨t170, A210, H⟩ := H
  replace H : (if t170 ≥ 0 then ((spec_magSub.f k l0_1 l1_1).bind fun t171 => ((spec_wide.f k a0_0 t171).bind fun bt174 => (some (bt174.1, bt174.2)))) else ((spec_magSub.f k l1_1 l0_1).bind fun t178 => ((spec_wide.f k a1_0 t178).bind fun bt181 => (some (bt181.1, bt181.2))))) = some (r1, r2) := H
  have A21 := qaM A210
  clear A210
  by_cases c22 : t170 ≥ 0
  ·rw [if_pos c22] at H
   have c22b0 : decide (0 ≤ t170) = true := decide_eq_true c22
   clear c22
   replace H := Option.bind_eq_some_iff.mp H
   obtain ⟨t171, A230, H⟩ := H
   replace H : ((spec_wide.f k a0_0 t171).bind fun bt174 => (some (bt174.1, bt174.2))) = some (r1, r2) := H
   have A23 := qaM A230
   clear A230
   replace H := Option.bind_eq_some_iff.mp H
   obtain ⟨⟨t174, t175⟩, A240, H⟩ := H
   replace H : (some (t174, t175)) = some (r1, r2) := H
   have A24 := qaM A240
   clear A240
   simp only [Option.some.injEq, Prod.mk.injEq] at H
   obtain ⟨rfl, rfl⟩ := H
   go_enter Tryz.func25, Tryz.ntmps25
   try go_wp2_with (first | ((with_reducible refine gate_dst (N := 2) rfl ?_); refine box_event ?hg (N := 2) ?hd (cs := #[.bool a0_0, .slice A0_1 l0_1.length c0_1]) (t := 27) ?hr ?_; (case hd => rfl); (case hg => rfl); (case hr => first | (go_simp; done) | (go_simp; rfl)); intro gb160 hg w25 hbox hb; have n0_ := qaM (qbT zd9_7 hb); have n1_ := qaM (hbox); have n2_ := qaM ((by rw [hg]; exact (qbS zd9_7) : w.heap.size ≤ gb160)); have n3_ := qaM ((by rw [hg]; exact (qbS zd9_7) : w.heap.size ≤ gb160)); clear HB; have HB := n0_; have BK160 := n1_; have GW160 := n2_; have GE160 := n3_; clear n0_ n1_ n2_ n3_; clear hb hbox hg) | ((with_reducible refine gate_dst (N := 3) rfl ?_); refine box_event ?hg (N := 3) ?hd (cs := #[.bool a1_0, .slice A1_1 l1_1.length c1_1]) (t := 27) ?hr ?_; (case hd => rfl); (case hg => rfl); (case hr => first | (go_simp; done) | (go_simp; rfl)); intro gb161 hg w26 hbox hb; have n0_ := qaM (qbB (g := gb160) (o := .cells #[.bool a0_0, .slice A0_1 l0_1.length c0_1] 27 (0, 0)) zd9_1 hb); have n1_ := qaM (qbT zd9_5 hb); have n2_ := qaM (hbox); have n3_ := qaM ((by rw [hg]; exact (qbS zd9_5) : w.heap.size ≤ gb161)); have n4_ := qaM ((by rw [hg]; exact (qbS zd9_5) : w.heap.size ≤ gb161)); have n5_ := qaM ((by rw [hg]; exact qnL (qbL (g := gb160) (o := .cells #[.bool a0_0, .slice A0_1 l0_1.length c0_1] 27 (0, 0)) zd9_1) : gb160 ≠ gb161)); have n6_ := qaM ((by rw [hg]; exact qnG (qbL (g := gb160) (o := .cells #[.bool a0_0, .slice A0_1 l0_1.length c0_1] 27 (0, 0)) zd9_1) : gb161 ≠ gb160)); clear BK160; clear HB; have BK160 := n0_; have HB := n1_; have BK161 := n2_; have GW161 := n3_; have GE161 := n4_; have NB160_161 := n5_; have NB161_160 := n6_; clear n0_ n1_ n2_ n3_ n4_ n5_ n6_; clear hb hbox hg) | ((with_reducible refine gate_dst (N := 4) rfl ?_); refine box_event ?hg (N := 4) ?hd (cs := #[.bool false, .slice none 0 0]) (t := 27) ?hr ?_; (case hd => rfl); (case hg => rfl); (case hr => first | (go_simp; done) | (go_simp; rfl)); intro gb162 hg w27 hbox hb; have n0_ := qaM (qbB (g := gb160) (o := .cells #[.bool a0_0, .slice A0_1 l0_1.length c0_1] 27 (0, 0)) zd9_1 hb); have n1_ := qaM (qbB (g := gb161) (o := .cells #[.bool a1_0, .slice A1_1 l1_1.length c1_1] 27 (0, 0)) zd9_2 hb); have n2_ := qaM (qbT zd9_3 hb); have n3_ := qaM (hbox); have n4_ := qaM ((by rw [hg]; exact (qbS zd9_3) : w.heap.size ≤ gb162)); have n5_ := qaM ((by rw [hg]; exact (qbS zd9_3) : w.heap.size ≤ gb162)); have n6_ := qaM ((by rw [hg]; exact qnL (qbL (g := gb160) (o := .cells #[.bool a0_0, .slice A0_1 l0_1.length c0_1] 27 (0, 0)) zd9_1) : gb160 ≠ gb162)); have n7_ := qaM ((by rw [hg]; exact qnG (qbL (g := gb160) (o := .cells #[.bool a0_0, .slice A0_1 l0_1.length c0_1] 27 (0, 0)) zd9_1) : gb162 ≠ gb160)); have n8_ := qaM ((by rw [hg]; exact qnL (qbL (g := gb161) (o := .cells #[.bool a1_0, .slice A1_1 l1_1.length c1_1] 27 (0, 0)) zd9_2) : gb161 ≠ gb162)); have n9_ := qaM ((by rw [hg]; exact qnG (qbL (g := gb161) (o := .cells #[.bool a1_0, .slice A1_1 l1_1.length c1_1] 27 (0, 0)) zd9_2) : gb162 ≠ gb161)); clear BK160; clear BK161; clear HB; have BK160 := n0_; have BK161 := n1_; have HB := n2_; have BK162 := n3_; have GW162 := n4_; have GE162 := n5_; have NB160_162 := n6_; have NB162_160 := n7_; have NB161_162 := n8_; have NB162_161 := n9_; clear n0_ n1_ n2_ n3_ n4_ n5_ n6_ n7_ n8_ n9_; clear hb hbox hg; have hnb28 := NB160_161.out; have hnc28 := NB161_160.out; have hnb29 := NB160_162.out; have hnc29 := NB162_160.out; have hcz30_0 : w27.cell? ⟨gb160, 0, none⟩ = some (.bool a0_0) := (qbC BK160.out 0).trans rfl; have hcz30_1 : w27.cell? ⟨gb160, 1, none⟩ = some (.slice A0_1 l0_1.length c0_1) := (qbC BK160.out 1).trans rfl; have hfz30_0 := blk_frozen BK160.out 0; have hfz30_1 := blk_frozen BK160.out 1; have hnb31 := NB161_162.out; have hnc31 := NB162_161.out; have hcz32_0 : w27.cell? ⟨gb161, 0, none⟩ = some (.bool a1_0) := (qbC BK161.out 0).trans rfl; have hcz32_1 : w27.cell? ⟨gb161, 1, none⟩ = some (.slice A1_1 l1_1.length c1_1) := (qbC BK161.out 1).trans rfl; have hfz32_0 := blk_frozen BK161.out 0; have hfz32_1 := blk_frozen BK161.out 1) | ((with_reducible refine gate_callee (f := 27) rfl ?_); refine goesL_ (some 22) rfl rfl Tryz.func27 zd9_8 rfl #[.slice A0_1 l0_1.length c0_1, .slice A1_1 l1_1.length c1_1] rfl zd9_6 ?_; (with_reducible refine (spec_magCmp.calls k _ _ l0_1 _ _ l1_1 t170 _ ?side1 ?side2 ?side3 ?side4 A21.out).mono ?_); (case side1 => repeat (first | exact (Kd.C_below HR0_1.out HB.out) | (with_reducible refine Kd.C_alloc ?_ _) | (with_reducible refine Kd.C_drewN ?_ _) | (with_reducible refine Kd.C_drew ?_))); (case side2 => exact HC0_1.out); (case side3 => repeat (first | exact (Kd.C_below HR1_1.out HB.out) | (with_reducible refine Kd.C_alloc ?_ _) | (with_reducible refine Kd.C_drewN ?_ _) | (with_reducible refine Kd.C_drew ?_))); (case side4 => exact HC1_1.out); rintro e w' ⟨rfl, ⟨nd, rfl⟩⟩; refine ⟨_, rfl, ?_⟩; (try (rw [drewN_self w27]; generalize hq_ : World.drewN w27 _ = w27; have n0_ : Aside0 (w27.heap[gb160]? = some (.cells #[.bool a0_0, .slice A0_1 l0_1.length c0_1] 27 (0, 0))) := ⟨by rw [← hq_]; exact zd9_1⟩; have n1_ : Aside0 (w27.heap[gb161]? = some (.cells #[.bool a1_0, .slice A1_1 l1_1.length c1_1] 27 (0, 0))) := ⟨by rw [← hq_]; exact zd9_2⟩; have n2_ : Aside0 (w27.heap[gb162]? = some (.cells #[.bool false, .slice none 0 0] 27 (0, 0))) := ⟨by rw [← hq_]; exact zd9_4⟩; have n3_ : Aside0 (Below w.heap.size w w27) := ⟨by rw [← hq_]; exact zd9_0⟩; clear BK160 BK161 BK162 HB hq_; have BK160 := n0_; have BK161 := n1_; have BK162 := n2_; have HB := n3_; clear n0_ n1_ n2_ n3_))))
   have n0_ := qaM (qbD BK160.out)
   have n1_ := qaM (qbD BK161.out)
   have n2_ := qaM (qbD BK162.out)
   have n3_ := qaM (qwD HB.out)
   clear BK160
   clear BK161
   clear BK162
   clear HB
   have BK160 := n0_
   have BK161 := n1_
   have BK162 := n2_
   have HB := n3_
   clear n0_ n1_ n2_ n3_
   refine start_ (n := 9) (S := fun w' => w'.cell? ⟨gb160, 0, none⟩ = some (.bool a0_0) ∧ w'.cell? ⟨gb160, 1, none⟩ = some (.slice A0_1 l0_1.length c0_1) ∧ w'.cell? ⟨gb161, 0, none⟩ = some (.bool a1_0) ∧ w'.cell? ⟨gb161, 1, none⟩ = some (.slice A1_1 l1_1.length c1_1)) (ds := []) #[false, false, false, false, false, false, false, false, false] zd9_8 rfl rfl ⟨(qbC BK160.out 0).trans rfl, (qbC BK160.out 1).trans rfl, (qbC BK161.out 0).trans rfl, (qbC BK161.out 1).trans rfl⟩ (fun hHeld => ?_); refine with_tabW spec_WideAdd.tab4 spec_WideAdd.bits4 (fun HT_ HW_ => ?_)
   generalize w27.drew = w33 at BK160 BK161 BK162 HB hHeld ⊢
   refine pure_ (i := 0) (N := some 24) (v := ?_) (a' := ?_) #[true, false, false, false, false, false, false, false, false] rfl rfl (any_of HT_.out zd9_8) (fun _ _ _ h => h) (Or.inl ⟨by rfl, ?_⟩) ?_ ?_
   rotate_left
   ·intro w'
    go_simp
    with_reducible rfl
   rotate_left
   ·simp only [Act.put, qsA, qsZ, qsS, i64_w, i32_w]
    rfl
   refine pure_ (i := 2) (N := some 26) (v := ?_) (a' := ?_) #[true, false, true, false, false, false, false, false, false] rfl rfl (any_of HT_.out zd9_8) (fun _ _ _ h => h) (Or.inl ⟨by rfl, ?_⟩) ?_ ?_
   rotate_left
   ·intro w'
    go_simp
    with_reducible rfl
   rotate_left
   ·simp only [Act.put, qsA, qsZ, qsS, i64_w, i32_w]
    rfl
   refine pure_ (i := 4) (N := some 28) (v := ?_) (a' := ?_) #[true, false, true, false, true, false, false, false, false] rfl rfl (any_of HT_.out zd9_8) (fun _ _ _ h => h) (Or.inl ⟨by rfl, ?_⟩) ?_ ?_
   rotate_left
   ·intro w'
    go_simp
    with_reducible rfl
   rotate_left
   ·simp only [Act.put, qsA, qsZ, qsS, i64_w, i32_w]
    rfl
   refine take_ (i := 1) (N := some 25) (v := ?_) (a' := ?_) #[true, true, true, false, true, false, false, false, false] rfl rfl (take_ofW HT_.out HW_.out zd9_8) (fun _ _ _ h => h) (Or.inl ⟨by rfl, ?_⟩) hHeld ?_ ?_
   rotate_left
   ·rintro w' ⟨s0, s1, s2, s3⟩
    go_simp
    with_reducible rfl
   rotate_left
   ·simp only [Act.put, qsA, qsZ, qsS, i64_w, i32_w]
    rfl
   refine take_ (i := 3) (N := some 27) (v := ?_) (a' := ?_) #[true, true, true, true, true, false, false, false, false] rfl rfl (take_ofW HT_.out HW_.out zd9_8) (fun _ _ _ h => h) (Or.inl ⟨by rfl, ?_⟩) hHeld ?_ ?_
   rotate_left
   ·rintro w' ⟨s0, s1, s2, s3⟩
    go_simp
    with_reducible rfl
   rotate_left
   ·simp only [Act.put, qsA, qsZ, qsS, i64_w, i32_w]
    rfl
   refine take_ (i := 5) (N := some 29) (v := ?_) (a' := ?_) #[true, true, true, true, true, true, false, false, false] rfl rfl (take_ofW HT_.out HW_.out zd9_8) (fun _ _ _ h => h) (Or.inl ⟨by rfl, ?_⟩) hHeld ?_ ?_
   rotate_left
   ·rintro w' ⟨s0, s1, s2, s3⟩
    go_simp
    with_reducible rfl
   rotate_left
   ·simp only [Act.put, qsA, qsZ, qsS, i64_w, i32_w]
    rfl
   refine one_ (i := 6) (N := some 30) #[true, true, true, true, true, true, true, false, false] rfl rfl (one_of HT_.out zd9_8) zd9_9 (fun K hK => ?_)
   refine goes_ Tryz.func54 zd9_8 rfl #[.slice A0_1 l0_1.length c0_1, .slice A1_1 l1_1.length c1_1] (by rfl) rfl rfl zd9_6 ?_
   with_reducible refine (spec_magSub.calls k _ _ l0_1 _ _ l1_1 t171 _ ?side1 ?side2 ?side3 ?side4 A23.out).mono ?_
   (case side1 => repeat (first | exact (Kd.C_below HR0_1.out HB.out) | (with_reducible refine Kd.C_alloc ?_ _) | (with_reducible refine Kd.C_drewN ?_ _) | (with_reducible refine Kd.C_drew ?_)))
   (case side2 => exact HC0_1.out)
   (case side3 => repeat (first | exact (Kd.C_below HR1_1.out HB.out) | (with_reducible refine Kd.C_alloc ?_ _) | (with_reducible refine Kd.C_drewN ?_ _) | (with_reducible refine Kd.C_drew ?_)))
   (case side4 => exact HC1_1.out)
   rintro e w34 ⟨v172, rfl, ho0, hb⟩
   refine ⟨_, rfl, ?_⟩
   have n0_ := qaM (qvL (qvM (ok' := fun k_ => (w.heap.size ≤ k_) ∧ k_ ≠ gb160 ∧ k_ ≠ gb161 ∧ k_ ≠ gb162) ho0 (fun k_ hk_ => ⟨(Nat.le_trans (qbS zd9_0) hk_), (qfB (g := gb160) (o := .cells #[.bool a0_0, .slice A0_1 l0_1.length c0_1] 27 (0, 0)) zd9_1 k_ hk_), (qfB (g := gb161) (o := .cells #[.bool a1_0, .slice A1_1 l1_1.length c1_1] 27 (0, 0)) zd9_2 k_ hk_), (qfB (g := gb162) (o := .cells #[.bool false, .slice none 0 0] 27 (0, 0)) zd9_4 k_ hk_)⟩)) (qbS zd9_0))
   have n1_ := qaM (qbB (g := gb160) (o := .cells #[.bool a0_0, .slice A0_1 l0_1.length c0_1] 27 (0, 0)) zd9_1 hb)
   have n2_ := qaM (qbB (g := gb161) (o := .cells #[.bool a1_0, .slice A1_1 l1_1.length c1_1] 27 (0, 0)) zd9_2 hb)
   have n3_ := qaM (qbB (g := gb162) (o := .cells #[.bool false, .slice none 0 0] 27 (0, 0)) zd9_4 hb)
   have n4_ := qaM (qbT zd9_0 hb)
   clear BK160
   clear BK161
   clear BK162
   clear HB
   have HO173 := n0_
   have BK160 := n1_
   have BK161 := n2_
   have BK162 := n3_
   have HB := n4_
   clear n0_ n1_ n2_ n3_ n4_
   (try clear hb)
   (try clear hb2)
   (try clear hk)
   (try clear hi)
   (try clear ho0)
   obtain ⟨Ao35, co35, eo35⟩ := Kd.V_slice HO173.out
   (first | subst eo35 | (injection eo35 with f1_ f2_ f3_; have f4_ := f1_.symm; have f5_ := f3_.symm; clear f1_ f2_ f3_; subst f4_; subst f5_))
   refine hK.out _ _ ⟨(qbC BK160.out 0).trans rfl, (qbC BK160.out 1).trans rfl, (qbC BK161.out 0).trans rfl, (qbC BK161.out 1).trans rfl⟩ (fun hHeld => ?_)
   clear hK K
   refine norm_ (a' := ?_) ?_ ?_
   rotate_left
   ·show Act.put _ (some 30) _ = _
    simp only [Act.put, qsA, qsZ, qsS, i64_w, i32_w]
    rfl
   refine one_ (i := 7) (N := some 31) #[true, true, true, true, true, true, true, true, false] rfl rfl (one_of HT_.out zd9_8) zd9_9 (fun K hK => ?_)
   refine goes_ Tryz.func24 zd9_8 rfl #[.bool a0_0, .slice Ao35 t171.length co35] (by rfl) rfl rfl zd9_6 ?_
   with_reducible refine (spec_wide.calls k a0_0 (fun k_ => ((w.heap.size ≤ k_) ∧ (k_ ≠ gb160 ∧ (k_ ≠ gb161 ∧ k_ ≠ gb162)))) _ _ t171 t174 t175 _ ?side1 A24.out).mono ?_
   (case side1 => exact HO173.out)
   rintro e w36 ⟨v176, rfl, ho0, hb⟩
   refine ⟨_, rfl, ?_⟩
   have n0_ := qaM (qvB (by (with_reducible repeat (first | apply qvA | apply qvN | apply qvD)); exact HO173.out) hb)
   have n1_ := qaM (qvL (qvM (ok' := fun k_ => (w.heap.size ≤ k_) ∧ k_ ≠ gb160 ∧ k_ ≠ gb161 ∧ k_ ≠ gb162) ho0 (fun k_ hk_ => ⟨Or.elim hk_ (fun hs_ => hs_.1) (fun hn_ => (Nat.le_trans (qbS zd9_0) hn_)), Or.elim hk_ (fun hs_ => hs_.2.1) (fun hn_ => (qfB (g := gb160) (o := .cells #[.bool a0_0, .slice A0_1 l0_1.length c0_1] 27 (0, 0)) zd9_1 k_ hn_)), Or.elim hk_ (fun hs_ => hs_.2.2.1) (fun hn_ => (qfB (g := gb161) (o := .cells #[.bool a1_0, .slice A1_1 l1_1.length c1_1] 27 (0, 0)) zd9_2 k_ hn_)), Or.elim hk_ (fun hs_ => hs_.2.2.2) (fun hn_ => (qfB (g := gb162) (o := .cells #[.bool false, .slice none 0 0] 27 (0, 0)) zd9_4 k_ hn_))⟩)) (qbS zd9_0))
   have n2_ := qaM (qbB (g := gb160) (o := .cells #[.bool a0_0, .slice A0_1 l0_1.length c0_1] 27 (0, 0)) zd9_1 hb)
   have n3_ := qaM (qbB (g := gb161) (o := .cells #[.bool a1_0, .slice A1_1 l1_1.length c1_1] 27 (0, 0)) zd9_2 hb)
   have n4_ := qaM (qbB (g := gb162) (o := .cells #[.bool false, .slice none 0 0] 27 (0, 0)) zd9_4 hb)
   have n5_ := qaM (qbT zd9_0 hb)
   clear HO173
   clear BK160
   clear BK161
   clear BK162
   clear HB
   have HO173 := n0_
   have HO177 := n1_
   have BK160 := n2_
   have BK161 := n3_
   have BK162 := n4_
   have HB := n5_
   clear n0_ n1_ n2_ n3_ n4_ n5_
   (try clear hb)
   (try clear hb2)
   (try clear hk)
   (try clear hi)
   (try clear ho0)
   obtain ⟨Ao38, co38, eo38⟩ := Kd.V_slice HO177.out
   (first | subst eo38 | (injection eo38 with f1_ f2_ f3_; have f4_ := f1_.symm; have f5_ := f3_.symm; clear f1_ f2_ f3_; subst f4_; subst f5_))
   refine hK.out _ _ ⟨(qbC BK160.out 0).trans rfl, (qbC BK160.out 1).trans rfl, (qbC BK161.out 0).trans rfl, (qbC BK161.out 1).trans rfl⟩ (fun hHeld => ?_)
   clear hK K
   refine norm_ (a' := ?_) ?_ ?_
   rotate_left
   ·show Act.put _ (some 31) _ = _
    simp only [Act.put, qsA, qsZ, qsS, i64_w, i32_w]
    rfl
   refine one_ (i := 8) (N := none) #[true, true, true, true, true, true, true, true, true] rfl rfl (one_of HT_.out zd9_8) zd9_9 (fun K hK => ?_)
   have hs37 : w36.cell? ⟨gb162, 0, none⟩ = some (.bool false) := (qbC BK162.out 0).trans rfl
   have hfs37 := blk_frozen BK162.out 0
   have hns37_0 := NB160_162.out
   have hns37_1 := NB161_162.out
   have hms37_0 := NB162_160.out
   have hms37_1 := NB162_161.out
   have hs39 : w36.cell? ⟨gb162, 1, none⟩ = some (.slice none 0 0) := (qbC BK162.out 1).trans rfl
   have hfs39 := blk_frozen BK162.out 1
   have hns39_0 := NB160_162.out
   have hns39_1 := NB161_162.out
   have hms39_0 := NB162_160.out
   have hms39_1 := NB162_161.out
   refine skip_ (w1 := ?_) (by rfl) rfl ?_ ?_
   rotate_left
   ·go_simp
    rfl
   refine hK.out _ _ ⟨((cell_far (p := ⟨gb162, _, none⟩) NB160_162.out _).trans (((cell_far (p := ⟨gb162, _, none⟩) NB160_162.out _).trans (hHeld.1)))), ((cell_far (p := ⟨gb162, _, none⟩) NB160_162.out _).trans (((cell_far (p := ⟨gb162, _, none⟩) NB160_162.out _).trans (hHeld.2.1)))), ((cell_far (p := ⟨gb162, _, none⟩) NB161_162.out _).trans (((cell_far (p := ⟨gb162, _, none⟩) NB161_162.out _).trans (hHeld.2.2.1)))), ((cell_far (p := ⟨gb162, _, none⟩) NB161_162.out _).trans (((cell_far (p := ⟨gb162, _, none⟩) NB161_162.out _).trans (hHeld.2.2.2))))⟩ (fun hHeld => ?_)
   clear hK K
   refine done_ (done_of HT_.out zd9_8) ?_
   try go_wp2
   refine bodyPost_ret (results_cell_row rfl _ _ gb162 27 #[.bool t174, .slice Ao38 t175.length co38] (0, 0) _ rfl (by (with_reducible repeat (first | refine qbN ?_ _ | refine qbD ?_ | refine qbA ?_ _)); refine qbP (cs := #[.bool t174, .slice none 0 0]) ?_ 1 _ rfl; (with_reducible repeat (first | refine qbN ?_ _ | refine qbD ?_ | refine qbA ?_ _)); refine qbP (cs := #[.bool false, .slice none 0 0]) ?_ 0 _ rfl; (with_reducible repeat (first | refine qbN ?_ _ | refine qbD ?_ | refine qbA ?_ _)); exact BK162.out) Tryz.underlying27 rfl zd9_8) rfl ?_
   exact ⟨_, by first | rfl | (simp [errW_none, errW_some] <;> rfl) | (simp [*, errW_none, errW_some] <;> rfl), by (with_reducible repeat (first | apply qvA | apply qvN | apply qvD)); exact qvM (qvF (p := ⟨gb162, 1, none⟩) (qvF (p := ⟨gb162, 0, none⟩) (qvM HO177.out (fun k_ hk => (⟨hk, hk.2.2.2⟩ : _ ∧ k_ ≠ gb162))) (fun _ hk => hk.2) (.bool t174)) (fun _ hk => hk.2) (.slice Ao38 t175.length co38)) (fun _ hk => hk.1.1), by repeat (first | (with_reducible first | exact HB.out | apply qwA | apply qwN | apply qwD | refine qwS ?_ GE160.out | refine qwS ?_ GE161.out | refine qwS ?_ GE162.out) | exact HB.out)⟩
  ·rw [if_neg c22] at H
   have c22b0 : decide (0 ≤ t170) = false := decide_eq_false c22
   clear c22
   replace H := Option.bind_eq_some_iff.mp H
   obtain ⟨t178, A400, H⟩ := H
   replace H : ((spec_wide.f k a1_0 t178).bind fun bt181 => (some (bt181.1, bt181.2))) = some (r1, r2) := H
   have A40 := qaM A400
   clear A400
   replace H := Option.bind_eq_some_iff.mp H
   obtain ⟨⟨t181, t182⟩, A410, H⟩ := H
   replace H : (some (t181, t182)) = some (r1, r2) := H
   have A41 := qaM A410
   clear A410
   simp only [Option.some.injEq, Prod.mk.injEq] at H
   obtain ⟨rfl, rfl⟩ := H
   go_enter Tryz.func25, Tryz.ntmps25
   try go_wp2_with (first | ((with_reducible refine gate_dst (N := 2) rfl ?_); refine box_event ?hg (N := 2) ?hd (cs := #[.bool a0_0, .slice A0_1 l0_1.length c0_1]) (t := 27) ?hr ?_; (case hd => rfl); (case hg => rfl); (case hr => first | (go_simp; done) | (go_simp; rfl)); intro gb160 hg w42 hbox hb; have n0_ := qaM (qbT zd9_7 hb); have n1_ := qaM (hbox); have n2_ := qaM ((by rw [hg]; exact (qbS zd9_7) : w.heap.size ≤ gb160)); have n3_ := qaM ((by rw [hg]; exact (qbS zd9_7) : w.heap.size ≤ gb160)); clear HB; have HB := n0_; have BK160 := n1_; have GW160 := n2_; have GE160 := n3_; clear n0_ n1_ n2_ n3_; clear hb hbox hg) | ((with_reducible refine gate_dst (N := 3) rfl ?_); refine box_event ?hg (N := 3) ?hd (cs := #[.bool a1_0, .slice A1_1 l1_1.length c1_1]) (t := 27) ?hr ?_; (case hd => rfl); (case hg => rfl); (case hr => first | (go_simp; done) | (go_simp; rfl)); intro gb161 hg w43 hbox hb; have n0_ := qaM (qbB (g := gb160) (o := .cells #[.bool a0_0, .slice A0_1 l0_1.length c0_1] 27 (0, 0)) zd9_1 hb); have n1_ := qaM (qbT zd9_5 hb); have n2_ := qaM (hbox); have n3_ := qaM ((by rw [hg]; exact (qbS zd9_5) : w.heap.size ≤ gb161)); have n4_ := qaM ((by rw [hg]; exact (qbS zd9_5) : w.heap.size ≤ gb161)); have n5_ := qaM ((by rw [hg]; exact qnL (qbL (g := gb160) (o := .cells #[.bool a0_0, .slice A0_1 l0_1.length c0_1] 27 (0, 0)) zd9_1) : gb160 ≠ gb161)); have n6_ := qaM ((by rw [hg]; exact qnG (qbL (g := gb160) (o := .cells #[.bool a0_0, .slice A0_1 l0_1.length c0_1] 27 (0, 0)) zd9_1) : gb161 ≠ gb160)); clear BK160; clear HB; have BK160 := n0_; have HB := n1_; have BK161 := n2_; have GW161 := n3_; have GE161 := n4_; have NB160_161 := n5_; have NB161_160 := n6_; clear n0_ n1_ n2_ n3_ n4_ n5_ n6_; clear hb hbox hg) | ((with_reducible refine gate_dst (N := 4) rfl ?_); refine box_event ?hg (N := 4) ?hd (cs := #[.bool false, .slice none 0 0]) (t := 27) ?hr ?_; (case hd => rfl); (case hg => rfl); (case hr => first | (go_simp; done) | (go_simp; rfl)); intro gb162 hg w44 hbox hb; have n0_ := qaM (qbB (g := gb160) (o := .cells #[.bool a0_0, .slice A0_1 l0_1.length c0_1] 27 (0, 0)) zd9_1 hb); have n1_ := qaM (qbB (g := gb161) (o := .cells #[.bool a1_0, .slice A1_1 l1_1.length c1_1] 27 (0, 0)) zd9_2 hb); have n2_ := qaM (qbT zd9_3 hb); have n3_ := qaM (hbox); have n4_ := qaM ((by rw [hg]; exact (qbS zd9_3) : w.heap.size ≤ gb162)); have n5_ := qaM ((by rw [hg]; exact (qbS zd9_3) : w.heap.size ≤ gb162)); have n6_ := qaM ((by rw [hg]; exact qnL (qbL (g := gb160) (o := .cells #[.bool a0_0, .slice A0_1 l0_1.length c0_1] 27 (0, 0)) zd9_1) : gb160 ≠ gb162)); have n7_ := qaM ((by rw [hg]; exact qnG (qbL (g := gb160) (o := .cells #[.bool a0_0, .slice A0_1 l0_1.length c0_1] 27 (0, 0)) zd9_1) : gb162 ≠ gb160)); have n8_ := qaM ((by rw [hg]; exact qnL (qbL (g := gb161) (o := .cells #[.bool a1_0, .slice A1_1 l1_1.length c1_1] 27 (0, 0)) zd9_2) : gb161 ≠ gb162)); have n9_ := qaM ((by rw [hg]; exact qnG (qbL (g := gb161) (o := .cells #[.bool a1_0, .slice A1_1 l1_1.length c1_1] 27 (0, 0)) zd9_2) : gb162 ≠ gb161)); clear BK160; clear BK161; clear HB; have BK160 := n0_; have BK161 := n1_; have HB := n2_; have BK162 := n3_; have GW162 := n4_; have GE162 := n5_; have NB160_162 := n6_; have NB162_160 := n7_; have NB161_162 := n8_; have NB162_161 := n9_; clear n0_ n1_ n2_ n3_ n4_ n5_ n6_ n7_ n8_ n9_; clear hb hbox hg; have hnb45 := NB160_161.out; have hnc45 := NB161_160.out; have hnb46 := NB160_162.out; have hnc46 := NB162_160.out; have hcz47_0 : w44.cell? ⟨gb160, 0, none⟩ = some (.bool a0_0) := (qbC BK160.out 0).trans rfl; have hcz47_1 : w44.cell? ⟨gb160, 1, none⟩ = some (.slice A0_1 l0_1.length c0_1) := (qbC BK160.out 1).trans rfl; have hfz47_0 := blk_frozen BK160.out 0; have hfz47_1 := blk_frozen BK160.out 1; have hnb48 := NB161_162.out; have hnc48 := NB162_161.out; have hcz49_0 : w44.cell? ⟨gb161, 0, none⟩ = some (.bool a1_0) := (qbC BK161.out 0).trans rfl; have hcz49_1 : w44.cell? ⟨gb161, 1, none⟩ = some (.slice A1_1 l1_1.length c1_1) := (qbC BK161.out 1).trans rfl; have hfz49_0 := blk_frozen BK161.out 0; have hfz49_1 := blk_frozen BK161.out 1) | ((with_reducible refine gate_callee (f := 27) rfl ?_); refine goesL_ (some 22) rfl rfl Tryz.func27 zd9_8 rfl #[.slice A0_1 l0_1.length c0_1, .slice A1_1 l1_1.length c1_1] rfl zd9_6 ?_; (with_reducible refine (spec_magCmp.calls k _ _ l0_1 _ _ l1_1 t170 _ ?side1 ?side2 ?side3 ?side4 A21.out).mono ?_); (case side1 => repeat (first | exact (Kd.C_below HR0_1.out HB.out) | (with_reducible refine Kd.C_alloc ?_ _) | (with_reducible refine Kd.C_drewN ?_ _) | (with_reducible refine Kd.C_drew ?_))); (case side2 => exact HC0_1.out); (case side3 => repeat (first | exact (Kd.C_below HR1_1.out HB.out) | (with_reducible refine Kd.C_alloc ?_ _) | (with_reducible refine Kd.C_drewN ?_ _) | (with_reducible refine Kd.C_drew ?_))); (case side4 => exact HC1_1.out); rintro e w' ⟨rfl, ⟨nd, rfl⟩⟩; refine ⟨_, rfl, ?_⟩; (try (rw [drewN_self w44]; generalize hq_ : World.drewN w44 _ = w44; have n0_ : Aside0 (w44.heap[gb160]? = some (.cells #[.bool a0_0, .slice A0_1 l0_1.length c0_1] 27 (0, 0))) := ⟨by rw [← hq_]; exact zd9_1⟩; have n1_ : Aside0 (w44.heap[gb161]? = some (.cells #[.bool a1_0, .slice A1_1 l1_1.length c1_1] 27 (0, 0))) := ⟨by rw [← hq_]; exact zd9_2⟩; have n2_ : Aside0 (w44.heap[gb162]? = some (.cells #[.bool false, .slice none 0 0] 27 (0, 0))) := ⟨by rw [← hq_]; exact zd9_4⟩; have n3_ : Aside0 (Below w.heap.size w w44) := ⟨by rw [← hq_]; exact zd9_0⟩; clear BK160 BK161 BK162 HB hq_; have BK160 := n0_; have BK161 := n1_; have BK162 := n2_; have HB := n3_; clear n0_ n1_ n2_ n3_))))
   have n0_ := qaM (qbD BK160.out)
   have n1_ := qaM (qbD BK161.out)
   have n2_ := qaM (qbD BK162.out)
   have n3_ := qaM (qwD HB.out)
   clear BK160
   clear BK161
   clear BK162
   clear HB
   have BK160 := n0_
   have BK161 := n1_
   have BK162 := n2_
   have HB := n3_
   clear n0_ n1_ n2_ n3_
   refine start_ (n := 9) (S := fun w' => w'.cell? ⟨gb161, 0, none⟩ = some (.bool a1_0) ∧ w'.cell? ⟨gb161, 1, none⟩ = some (.slice A1_1 l1_1.length c1_1) ∧ w'.cell? ⟨gb160, 0, none⟩ = some (.bool a0_0) ∧ w'.cell? ⟨gb160, 1, none⟩ = some (.slice A0_1 l0_1.length c0_1)) (ds := []) #[false, false, false, false, false, false, false, false, false] zd9_8 rfl rfl ⟨(qbC BK161.out 0).trans rfl, (qbC BK161.out 1).trans rfl, (qbC BK160.out 0).trans rfl, (qbC BK160.out 1).trans rfl⟩ (fun hHeld => ?_); refine with_tabW spec_WideAdd.tab5 spec_WideAdd.bits5 (fun HT_ HW_ => ?_)
   generalize w44.drew = w50 at BK160 BK161 BK162 HB hHeld ⊢
   refine pure_ (i := 0) (N := some 32) (v := ?_) (a' := ?_) #[true, false, false, false, false, false, false, false, false] rfl rfl (any_of HT_.out zd9_8) (fun _ _ _ h => h) (Or.inl ⟨by rfl, ?_⟩) ?_ ?_
   rotate_left
   ·intro w'
    go_simp
    with_reducible rfl
   rotate_left
   ·simp only [Act.put, qsA, qsZ, qsS, i64_w, i32_w]
    rfl
   refine pure_ (i := 2) (N := some 34) (v := ?_) (a' := ?_) #[true, false, true, false, false, false, false, false, false] rfl rfl (any_of HT_.out zd9_8) (fun _ _ _ h => h) (Or.inl ⟨by rfl, ?_⟩) ?_ ?_
   rotate_left
   ·intro w'
    go_simp
    with_reducible rfl
   rotate_left
   ·simp only [Act.put, qsA, qsZ, qsS, i64_w, i32_w]
    rfl
   refine pure_ (i := 4) (N := some 36) (v := ?_) (a' := ?_) #[true, false, true, false, true, false, false, false, false] rfl rfl (any_of HT_.out zd9_8) (fun _ _ _ h => h) (Or.inl ⟨by rfl, ?_⟩) ?_ ?_
   rotate_left
   ·intro w'
    go_simp
    with_reducible rfl
   rotate_left
   ·simp only [Act.put, qsA, qsZ, qsS, i64_w, i32_w]
    rfl
   refine take_ (i := 1) (N := some 33) (v := ?_) (a' := ?_) #[true, true, true, false, true, false, false, false, false] rfl rfl (take_ofW HT_.out HW_.out zd9_8) (fun _ _ _ h => h) (Or.inl ⟨by rfl, ?_⟩) hHeld ?_ ?_
   rotate_left
   ·rintro w' ⟨s0, s1, s2, s3⟩
    go_simp
    with_reducible rfl
   rotate_left
   ·simp only [Act.put, qsA, qsZ, qsS, i64_w, i32_w]
    rfl
   refine take_ (i := 3) (N := some 35) (v := ?_) (a' := ?_) #[true, true, true, true, true, false, false, false, false] rfl rfl (take_ofW HT_.out HW_.out zd9_8) (fun _ _ _ h => h) (Or.inl ⟨by rfl, ?_⟩) hHeld ?_ ?_
   rotate_left
   ·rintro w' ⟨s0, s1, s2, s3⟩
    go_simp
    with_reducible rfl
   rotate_left
   ·simp only [Act.put, qsA, qsZ, qsS, i64_w, i32_w]
    rfl
   refine take_ (i := 5) (N := some 37) (v := ?_) (a' := ?_) #[true, true, true, true, true, true, false, false, false] rfl rfl (take_ofW HT_.out HW_.out zd9_8) (fun _ _ _ h => h) (Or.inl ⟨by rfl, ?_⟩) hHeld ?_ ?_
   rotate_left
   ·rintro w' ⟨s0, s1, s2, s3⟩
    go_simp
    with_reducible rfl
   rotate_left
   ·simp only [Act.put, qsA, qsZ, qsS, i64_w, i32_w]
    rfl
   refine one_ (i := 6) (N := some 38) #[true, true, true, true, true, true, true, false, false] rfl rfl (one_of HT_.out zd9_8) zd9_9 (fun K hK => ?_)
   refine goes_ Tryz.func54 zd9_8 rfl #[.slice A1_1 l1_1.length c1_1, .slice A0_1 l0_1.length c0_1] (by rfl) rfl rfl zd9_6 ?_
   with_reducible refine (spec_magSub.calls k _ _ l1_1 _ _ l0_1 t178 _ ?side1 ?side2 ?side3 ?side4 A40.out).mono ?_
   (case side1 => repeat (first | exact (Kd.C_below HR1_1.out HB.out) | (with_reducible refine Kd.C_alloc ?_ _) | (with_reducible refine Kd.C_drewN ?_ _) | (with_reducible refine Kd.C_drew ?_)))
   (case side2 => exact HC1_1.out)
   (case side3 => repeat (first | exact (Kd.C_below HR0_1.out HB.out) | (with_reducible refine Kd.C_alloc ?_ _) | (with_reducible refine Kd.C_drewN ?_ _) | (with_reducible refine Kd.C_drew ?_)))
   (case side4 => exact HC0_1.out)
   rintro e w51 ⟨v179, rfl, ho0, hb⟩
   refine ⟨_, rfl, ?_⟩
   have n0_ := qaM (qvL (qvM (ok' := fun k_ => (w.heap.size ≤ k_) ∧ k_ ≠ gb160 ∧ k_ ≠ gb161 ∧ k_ ≠ gb162) ho0 (fun k_ hk_ => ⟨(Nat.le_trans (qbS zd9_0) hk_), (qfB (g := gb160) (o := .cells #[.bool a0_0, .slice A0_1 l0_1.length c0_1] 27 (0, 0)) zd9_1 k_ hk_), (qfB (g := gb161) (o := .cells #[.bool a1_0, .slice A1_1 l1_1.length c1_1] 27 (0, 0)) zd9_2 k_ hk_), (qfB (g := gb162) (o := .cells #[.bool false, .slice none 0 0] 27 (0, 0)) zd9_4 k_ hk_)⟩)) (qbS zd9_0))
   have n1_ := qaM (qbB (g := gb160) (o := .cells #[.bool a0_0, .slice A0_1 l0_1.length c0_1] 27 (0, 0)) zd9_1 hb)
   have n2_ := qaM (qbB (g := gb161) (o := .cells #[.bool a1_0, .slice A1_1 l1_1.length c1_1] 27 (0, 0)) zd9_2 hb)
   have n3_ := qaM (qbB (g := gb162) (o := .cells #[.bool false, .slice none 0 0] 27 (0, 0)) zd9_4 hb)
   have n4_ := qaM (qbT zd9_0 hb)
   clear BK160
   clear BK161
   clear BK162
   clear HB
   have HO180 := n0_
   have BK160 := n1_
   have BK161 := n2_
   have BK162 := n3_
   have HB := n4_
   clear n0_ n1_ n2_ n3_ n4_
   (try clear hb)
   (try clear hb2)
   (try clear hk)
   (try clear hi)
   (try clear ho0)
   obtain ⟨Ao52, co52, eo52⟩ := Kd.V_slice HO180.out
   (first | subst eo52 | (injection eo52 with f1_ f2_ f3_; have f4_ := f1_.symm; have f5_ := f3_.symm; clear f1_ f2_ f3_; subst f4_; subst f5_))
   refine hK.out _ _ ⟨(qbC BK161.out 0).trans rfl, (qbC BK161.out 1).trans rfl, (qbC BK160.out 0).trans rfl, (qbC BK160.out 1).trans rfl⟩ (fun hHeld => ?_)
   clear hK K
   refine norm_ (a' := ?_) ?_ ?_
   rotate_left
   ·show Act.put _ (some 38) _ = _
    simp only [Act.put, qsA, qsZ, qsS, i64_w, i32_w]
    rfl
   refine one_ (i := 7) (N := some 39) #[true, true, true, true, true, true, true, true, false] rfl rfl (one_of HT_.out zd9_8) zd9_9 (fun K hK => ?_)
   refine goes_ Tryz.func24 zd9_8 rfl #[.bool a1_0, .slice Ao52 t178.length co52] (by rfl) rfl rfl zd9_6 ?_
   with_reducible refine (spec_wide.calls k a1_0 (fun k_ => ((w.heap.size ≤ k_) ∧ (k_ ≠ gb160 ∧ (k_ ≠ gb161 ∧ k_ ≠ gb162)))) _ _ t178 t181 t182 _ ?side1 A41.out).mono ?_
   (case side1 => exact HO180.out)
   rintro e w53 ⟨v183, rfl, ho0, hb⟩
   refine ⟨_, rfl, ?_⟩
   have n0_ := qaM (qvB (by (with_reducible repeat (first | apply qvA | apply qvN | apply qvD)); exact HO180.out) hb)
   have n1_ := qaM (qvL (qvM (ok' := fun k_ => (w.heap.size ≤ k_) ∧ k_ ≠ gb160 ∧ k_ ≠ gb161 ∧ k_ ≠ gb162) ho0 (fun k_ hk_ => ⟨Or.elim hk_ (fun hs_ => hs_.1) (fun hn_ => (Nat.le_trans (qbS zd9_0) hn_)), Or.elim hk_ (fun hs_ => hs_.2.1) (fun hn_ => (qfB (g := gb160) (o := .cells #[.bool a0_0, .slice A0_1 l0_1.length c0_1] 27 (0, 0)) zd9_1 k_ hn_)), Or.elim hk_ (fun hs_ => hs_.2.2.1) (fun hn_ => (qfB (g := gb161) (o := .cells #[.bool a1_0, .slice A1_1 l1_1.length c1_1] 27 (0, 0)) zd9_2 k_ hn_)), Or.elim hk_ (fun hs_ => hs_.2.2.2) (fun hn_ => (qfB (g := gb162) (o := .cells #[.bool false, .slice none 0 0] 27 (0, 0)) zd9_4 k_ hn_))⟩)) (qbS zd9_0))
   have n2_ := qaM (qbB (g := gb160) (o := .cells #[.bool a0_0, .slice A0_1 l0_1.length c0_1] 27 (0, 0)) zd9_1 hb)
   have n3_ := qaM (qbB (g := gb161) (o := .cells #[.bool a1_0, .slice A1_1 l1_1.length c1_1] 27 (0, 0)) zd9_2 hb)
   have n4_ := qaM (qbB (g := gb162) (o := .cells #[.bool false, .slice none 0 0] 27 (0, 0)) zd9_4 hb)
   have n5_ := qaM (qbT zd9_0 hb)
   clear HO180
   clear BK160
   clear BK161
   clear BK162
   clear HB
   have HO180 := n0_
   have HO184 := n1_
   have BK160 := n2_
   have BK161 := n3_
   have BK162 := n4_
   have HB := n5_
   clear n0_ n1_ n2_ n3_ n4_ n5_
   (try clear hb)
   (try clear hb2)
   (try clear hk)
   (try clear hi)
   (try clear ho0)
   obtain ⟨Ao55, co55, eo55⟩ := Kd.V_slice HO184.out
   (first | subst eo55 | (injection eo55 with f1_ f2_ f3_; have f4_ := f1_.symm; have f5_ := f3_.symm; clear f1_ f2_ f3_; subst f4_; subst f5_))
   refine hK.out _ _ ⟨(qbC BK161.out 0).trans rfl, (qbC BK161.out 1).trans rfl, (qbC BK160.out 0).trans rfl, (qbC BK160.out 1).trans rfl⟩ (fun hHeld => ?_)
   clear hK K
   refine norm_ (a' := ?_) ?_ ?_
   rotate_left
   ·show Act.put _ (some 39) _ = _
    simp only [Act.put, qsA, qsZ, qsS, i64_w, i32_w]
    rfl
   refine one_ (i := 8) (N := none) #[true, true, true, true, true, true, true, true, true] rfl rfl (one_of HT_.out zd9_8) zd9_9 (fun K hK => ?_)
   have hs54 : w53.cell? ⟨gb162, 0, none⟩ = some (.bool false) := (qbC BK162.out 0).trans rfl
   have hfs54 := blk_frozen BK162.out 0
   have hns54_0 := NB160_162.out
   have hns54_1 := NB161_162.out
   have hms54_0 := NB162_160.out
   have hms54_1 := NB162_161.out
   have hs56 : w53.cell? ⟨gb162, 1, none⟩ = some (.slice none 0 0) := (qbC BK162.out 1).trans rfl
   have hfs56 := blk_frozen BK162.out 1
   have hns56_0 := NB160_162.out
   have hns56_1 := NB161_162.out
   have hms56_0 := NB162_160.out
   have hms56_1 := NB162_161.out
   refine skip_ (w1 := ?_) (by rfl) rfl ?_ ?_
   rotate_left
   ·go_simp
    rfl
   refine hK.out _ _ ⟨((cell_far (p := ⟨gb162, _, none⟩) NB161_162.out _).trans (((cell_far (p := ⟨gb162, _, none⟩) NB161_162.out _).trans (hHeld.1)))), ((cell_far (p := ⟨gb162, _, none⟩) NB161_162.out _).trans (((cell_far (p := ⟨gb162, _, none⟩) NB161_162.out _).trans (hHeld.2.1)))), ((cell_far (p := ⟨gb162, _, none⟩) NB160_162.out _).trans (((cell_far (p := ⟨gb162, _, none⟩) NB160_162.out _).trans (hHeld.2.2.1)))), ((cell_far (p := ⟨gb162, _, none⟩) NB160_162.out _).trans (((cell_far (p := ⟨gb162, _, none⟩) NB160_162.out _).trans (hHeld.2.2.2))))⟩ (fun hHeld => ?_)
   clear hK K
   refine done_ (done_of HT_.out zd9_8) ?_
   try go_wp2
   refine bodyPost_ret (results_cell_row rfl _ _ gb162 27 #[.bool t181, .slice Ao55 t182.length co55] (0, 0) _ rfl (by (with_reducible repeat (first | refine qbN ?_ _ | refine qbD ?_ | refine qbA ?_ _)); refine qbP (cs := #[.bool t181, .slice none 0 0]) ?_ 1 _ rfl; (with_reducible repeat (first | refine qbN ?_ _ | refine qbD ?_ | refine qbA ?_ _)); refine qbP (cs := #[.bool false, .slice none 0 0]) ?_ 0 _ rfl; (with_reducible repeat (first | refine qbN ?_ _ | refine qbD ?_ | refine qbA ?_ _)); exact BK162.out) Tryz.underlying27 rfl zd9_8) rfl ?_
   exact ⟨_, by first | rfl | (simp [errW_none, errW_some] <;> rfl) | (simp [*, errW_none, errW_some] <;> rfl), by (with_reducible repeat (first | apply qvA | apply qvN | apply qvD)); exact qvM (qvF (p := ⟨gb162, 1, none⟩) (qvF (p := ⟨gb162, 0, none⟩) (qvM HO184.out (fun k_ hk => (⟨hk, hk.2.2.2⟩ : _ ∧ k_ ≠ gb162))) (fun _ hk => hk.2) (.bool t181)) (fun _ hk => hk.2) (.slice Ao55 t182.length co55)) (fun _ hk => hk.1.1), by repeat (first | (with_reducible first | exact HB.out | apply qwA | apply qwN | apply qwD | refine qwS ?_ GE160.out | refine qwS ?_ GE161.out | refine qwS ?_ GE162.out) | exact HB.out)⟩

end Go.Proofs.YtoaibapjnedhlaaGreat.QAll
