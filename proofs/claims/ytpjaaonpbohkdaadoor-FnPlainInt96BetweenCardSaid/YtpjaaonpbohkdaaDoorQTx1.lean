/- Printed by a program of this session (print2.py) over the kit's print: the functions that a law reaches, over contracts proved by hand. Lean checks it. -/
import Derived.Test.YtpjaaonpbohkdaaDoorQTx0
namespace Go.Proofs.YtpjaaonpbohkdaaDoor.QT
open Go.RowKit Go.Proofs.YtpjaaonpbohkdaaDoorW.PrintWords Go.Proofs.YtpjaaonpbohkdaaDoorW.PrintLast Go.Proofs.YtpjaaonpbohkdaaDoorW.PrintMore
attribute [local go_sem] max2_int min2_int max_two min_two max_three min_three max_four min_four   -- for this text's walks alone
set_option linter.unusedVariables false
set_option linter.unusedSimpArgs false

-- NOT PRINTED: function 13 (spec_BetweenNulls)

/-! ### impl_copied: function 22 -/
def impl_copied.f (l0 : List Int) : Option (List Int) := (some (([] : List Int) : List Int)).bind fun y103 => (if y103.length + l0.length < 140737488355328 then (some (y103 ++ l0)) else (none))
set_option maxHeartbeats 8000000 in
set_option maxRecDepth 100000 in
theorem impl_copied.calls (A0 : Option Addr) (c0 : Nat) (l0 : List Int) (r : List Int) (w : World) (hr0 : Kd.C (Kd.int .u8) w A0 l0.length l0) (hc0 : l0.length ≤ c0) (h : impl_copied.f l0 = some r) :
  Calls Tryd.prog 22 #[.slice A0 l0.length c0] w fun e w' => ∃ v0_ : Value, e = .returned (v0_) ∧ Kd.R (Kd.int .u8) 5 w' w.heap.size (fun _ => True) v0_ r ∧ Below w.heap.size w w' := by
 have HR0 := qaM hr0
 have HC0 := qaM hc0
 clear hr0 hc0
 have HB := qaM (Below.refl w.heap.size w)
 have H : ((some (([] : List Int) : List Int)).bind fun y103 => (if y103.length + l0.length < 140737488355328 then (some (y103 ++ l0)) else (none))) = some r := h
 clear h
 obtain ⟨y103, hy103⟩ : ∃ y_ : List Int, y_ = (([] : List Int)) := ⟨_, rfl⟩
 replace H : (if y103.length + l0.length < 140737488355328 then (some (y103 ++ l0)) else (none)) = some r := by first | (rw [hy103]; with_reducible exact H) | (have H2_ := (Option.bind_some _ _).symm.trans H; rw [hy103]; with_reducible exact H2_) | (have H2_ := (Option.bind_some _ _).symm.trans H; with_reducible exact H2_) | with_reducible exact H | (rw [hy103]; exact H) | exact H
 have Ny103 := qaM hy103
 clear hy103
 by_cases c2 : y103.length + l0.length < 140737488355328
 ·rw [if_pos c2] at H
  have LMc2 := qaM c2
  clear c2
  obtain ⟨y106, hy106⟩ : ∃ y_ : List Int, y_ = (y103 ++ l0) := ⟨_, rfl⟩
  replace H : (some y106) = some r := by first | (rw [hy106]; with_reducible exact H) | (have H2_ := (Option.bind_some _ _).symm.trans H; rw [hy106]; with_reducible exact H2_) | (have H2_ := (Option.bind_some _ _).symm.trans H; with_reducible exact H2_) | with_reducible exact H | (rw [hy106]; exact H) | exact H
  have Ny106 := qaM hy106
  clear hy106
  obtain rfl := Option.some.inj H
  go_enter Tryd.func22, Tryd.ntmps22
  go_wp2_with (first | ((with_reducible refine gate_dst (N := 3) rfl ?_); refine Kd.R_lit (Kd.int .u8) _ 5 ?hg (N := 3) ?hd (xs := ([] : List Int)) (inner := []) (ok := fun _ => True) (okp := fun _ => True) ?hr ?hp (fun _ hk => hk) trivial (Below.refl _ _) (Nat.le_refl _) (by simp) ?_; (case hd => rfl); (case hg => rfl); (case hr => first | (go_simp; done) | (go_simp; rfl)); (case hp => exact (Reps.none _ _)); intro v104 w3 ho4 hb hg_ hnew_; clear hg_ hnew_; (first | rw [← Ny103.out] at ho4 | (simp only [Int.reduceToNat] at ho4; rw [← Ny103.out] at ho4)); have n0_ := qaM (Kd.R_lower ho4 (qbS (by repeat (first | (with_reducible first | exact HB.out | apply qwA | apply qwN | apply qwD) | exact HB.out)))); have n1_ := qaM (qbT (by repeat (first | (with_reducible first | exact HB.out | apply qwA | apply qwN | apply qwD) | exact HB.out)) hb); clear HB; have HO105 := n0_; have HB := n1_; clear n0_ n1_; clear hb ho4) | ((with_reducible refine gate_builtin (b := .append) (xs := #[.tmp 3, .tmp 4]) rfl ?_); at_builtin; refine Kd.R_append_rows (Kd.int .u8) (w0 := w) w.heap.size rfl (.tmp 3) (.tmp 4) 23 5 (.int .u8 0) 1 rfl Tryd.underlying23 info5 rfl (by decide) (by omega) v104 y103 l0 _ _ _ (fun _ => True) (fun _ => False) rfl rfl ?aO ?aR (fun _ _ h => h) (fun _ h => h.elim) ?aF ?aB ?aS ?aL ?_; (case aR => repeat (first | exact (Kd.C_below HR0.out HB.out) | (with_reducible refine Kd.C_alloc ?_ _) | (with_reducible refine Kd.C_drewN ?_ _) | (with_reducible refine Kd.C_drew ?_))); (case aB => exact (by repeat (first | (with_reducible first | exact HB.out | apply qwA | apply qwN | apply qwD) | exact HB.out))); (case aF => exact (fun _ _ => trivial)); (case aO => exact (by (with_reducible repeat (first | apply qrA | apply qrN | apply qrD)); exact HO105.out)); (case aS => exact (qbS (by repeat (first | (with_reducible first | exact HB.out | apply qwA | apply qwN | apply qwD) | exact HB.out)))); (case aL => have := LMc2.out; omega); intro v107 w5 ho hb hg hat; rw [← Ny106.out] at ho; have n0_ := qaM (hb); have n1_ := qaM (ho); clear HB; clear HO105; have HB := n0_; have HO108 := n1_; clear n0_ n1_; clear ho hb hg hat))
  go_ret
  exact ⟨_, by first | rfl | (simp [errW_none, errW_some] <;> rfl) | (simp [*, errW_none, errW_some] <;> rfl), by (with_reducible repeat (first | apply qrA | apply qrN | apply qrD)); exact HO108.out, by repeat (first | (with_reducible first | exact HB.out | apply qwA | apply qwN | apply qwD) | exact HB.out)⟩
 ·rw [if_neg c2] at H
  exact absurd H (by simp)

/-! ### encoding_newDecoderBase: function 45 -/
def encoding_newDecoderBase.f  : Option (Int × List Int × Int) := some (0, ([] : List Int), 0)
set_option maxHeartbeats 8000000 in
set_option maxRecDepth 100000 in
theorem encoding_newDecoderBase.calls  (r1 : Int) (r2 : List Int) (r3 : Int) (w : World) (h : encoding_newDecoderBase.f  = some (r1, r2, r3)) :
  Calls Tryd.prog 45 #[] w fun e w' => ∃ v1_ : Value, e = .returned (.agg #[.int .i64 r1, v1_, .int .i64 r3]) ∧ Kd.R (Kd.int .u8) 5 w' w.heap.size (fun _ => True) v1_ r2 ∧ Below w.heap.size w w' := by
 have hu52 := Tryd.underlying52
 have HB := qaM (Below.refl w.heap.size w)
 have H : (some (0, ([] : List Int), 0)) = some (r1, r2, r3) := h
 clear h
 simp only [Option.some.injEq, Prod.mk.injEq] at H
 obtain ⟨rfl, rfl, rfl⟩ := H
 go_enter Tryd.func45, Tryd.ntmps45
 go_wp2_with (first | ((with_reducible refine gate_dst (N := 0) rfl ?_); refine box_event ?hg (N := 0) ?hd (cs := #[.int .i64 0, .slice none 0 0, .int .i64 0]) (t := 52) ?hr ?_; (case hd => rfl); (case hg => rfl); (case hr => first | (go_simp; done) | (go_simp; rfl)); intro gb109 hg w1 hbox hb; have n0_ := qaM (qbT (by repeat (first | (with_reducible first | exact HB.out | apply qwA | apply qwN | apply qwD) | exact HB.out)) hb); have n1_ := qaM (hbox); have n2_ := qaM ((by rw [hg]; exact (qbS (by repeat (first | (with_reducible first | exact HB.out | apply qwA | apply qwN | apply qwD) | exact HB.out))) : w.heap.size ≤ gb109)); have n3_ := qaM ((by rw [hg]; exact (qbS (by repeat (first | (with_reducible first | exact HB.out | apply qwA | apply qwN | apply qwD) | exact HB.out))) : w.heap.size ≤ gb109)); clear HB; have HB := n0_; have BK109 := n1_; have GW109 := n2_; have GE109 := n3_; clear n0_ n1_ n2_ n3_; clear hb hbox hg; have hcz2_0 : w1.cell? ⟨gb109, 0, none⟩ = some (.int .i64 0) := (qbC BK109.out 0).trans rfl; have hcz2_1 : w1.cell? ⟨gb109, 1, none⟩ = some (.slice none 0 0) := (qbC BK109.out 1).trans rfl; have hcz2_2 : w1.cell? ⟨gb109, 2, none⟩ = some (.int .i64 0) := (qbC BK109.out 2).trans rfl; have hfz2_0 := blk_frozen BK109.out 0; have hfz2_1 := blk_frozen BK109.out 1; have hfz2_2 := blk_frozen BK109.out 2))
 refine bodyPost_ret (results_cell_row rfl _ _ gb109 52 #[.int .i64 0, .slice none 0 0, .int .i64 0] (0, 0) _ rfl (by (with_reducible repeat (first | refine qbN ?_ _ | refine qbD ?_ | refine qbA ?_ _)); refine qbP (cs := #[.int .i64 0, .slice none 0 0, .int .i64 0]) ?_ 2 _ rfl; (with_reducible repeat (first | refine qbN ?_ _ | refine qbD ?_ | refine qbA ?_ _)); refine qbP (cs := #[.int .i64 0, .slice none 0 0, .int .i64 0]) ?_ 1 _ rfl; (with_reducible repeat (first | refine qbN ?_ _ | refine qbD ?_ | refine qbA ?_ _)); refine qbP (cs := #[.int .i64 0, .slice none 0 0, .int .i64 0]) ?_ 0 _ rfl; (with_reducible repeat (first | refine qbN ?_ _ | refine qbD ?_ | refine qbA ?_ _)); exact BK109.out) Tryd.underlying52 rfl (by kernel_rfl)) rfl ?_
 exact ⟨_, by first | rfl | (simp [errW_none, errW_some] <;> rfl) | (simp [*, errW_none, errW_some] <;> rfl), by first | exact Kd.R_nil _ _ _ _ _ | exact Kd.N_nil _ _ _ _ _ | exact Kd.V_nil _ _ _ _ _ | exact Kd.Q_nil _ _ _ _ _ | exact Kd.S_nil _ _ _ _ _, by repeat (first | (with_reducible first | exact HB.out | apply qwA | apply qwN | apply qwD | refine qwS ?_ GE109.out) | exact HB.out)⟩

/-! ### impl_valueInt32: function 32 -/
def impl_valueInt32.f (a0 : Int) : Option (Bool × Int × ByteArray × (List (S33))) := some (false, IntKind.u64.wrap (a0), (⟨#[]⟩ : ByteArray), ([] : List (S33)))
set_option maxHeartbeats 8000000 in
set_option maxRecDepth 100000 in
theorem impl_valueInt32.calls (a0 : Int) (r1 : Bool) (r2 : Int) (r3 : ByteArray) (r4 : List (S33)) (w : World) (h : impl_valueInt32.f a0 = some (r1, r2, r3, r4)) :
  Calls Tryd.prog 32 #[.int .i32 a0] w fun e w' => ∃ v3_ : Value, e = .returned (.agg #[.bool r1, .int .u64 r2, .string r3, v3_]) ∧ Kd.R k33 33 w' w.heap.size (fun _ => True) v3_ r4 ∧ Below w.heap.size w w' := by
 have hu33 := Tryd.underlying33
 have HB := qaM (Below.refl w.heap.size w)
 have H : (some (false, IntKind.u64.wrap (a0), (⟨#[]⟩ : ByteArray), ([] : List (S33)))) = some (r1, r2, r3, r4) := h
 clear h
 simp only [Option.some.injEq, Prod.mk.injEq] at H
 obtain ⟨rfl, rfl, rfl, rfl⟩ := H
 go_enter Tryd.func32, Tryd.ntmps32
 go_wp2_with (first | ((with_reducible refine gate_dst (N := 2) rfl ?_); refine box_event ?hg (N := 2) ?hd (cs := #[.bool false, .int .u64 0, .string (⟨#[]⟩ : ByteArray), .slice none 0 0]) (t := 33) ?hr ?_; (case hd => rfl); (case hg => rfl); (case hr => first | (go_simp; done) | (go_simp; rfl)); intro gb110 hg w2 hbox hb; have n0_ := qaM (qbT (by repeat (first | (with_reducible first | exact HB.out | apply qwA | apply qwN | apply qwD) | exact HB.out)) hb); have n1_ := qaM (hbox); have n2_ := qaM ((by rw [hg]; exact (qbS (by repeat (first | (with_reducible first | exact HB.out | apply qwA | apply qwN | apply qwD) | exact HB.out))) : w.heap.size ≤ gb110)); have n3_ := qaM ((by rw [hg]; exact (qbS (by repeat (first | (with_reducible first | exact HB.out | apply qwA | apply qwN | apply qwD) | exact HB.out))) : w.heap.size ≤ gb110)); clear HB; have HB := n0_; have BK110 := n1_; have GW110 := n2_; have GE110 := n3_; clear n0_ n1_ n2_ n3_; clear hb hbox hg; have hcz3_0 : w2.cell? ⟨gb110, 0, none⟩ = some (.bool false) := (qbC BK110.out 0).trans rfl; have hcz3_1 : w2.cell? ⟨gb110, 1, none⟩ = some (.int .u64 0) := (qbC BK110.out 1).trans rfl; have hcz3_2 : w2.cell? ⟨gb110, 2, none⟩ = some (.string (⟨#[]⟩ : ByteArray)) := (qbC BK110.out 2).trans rfl; have hcz3_3 : w2.cell? ⟨gb110, 3, none⟩ = some (.slice none 0 0) := (qbC BK110.out 3).trans rfl; have hfz3_0 := blk_frozen BK110.out 0; have hfz3_1 := blk_frozen BK110.out 1; have hfz3_2 := blk_frozen BK110.out 2; have hfz3_3 := blk_frozen BK110.out 3))
 refine bodyPost_ret (results_cell_row rfl _ _ gb110 33 #[.bool false, .int .u64 (IntKind.u64.wrap (a0)), .string (⟨#[]⟩ : ByteArray), .slice none 0 0] (0, 0) _ rfl (by (with_reducible repeat (first | refine qbN ?_ _ | refine qbD ?_ | refine qbA ?_ _)); refine qbP (cs := #[.bool false, .int .u64 (IntKind.u64.wrap (a0)), .string (⟨#[]⟩ : ByteArray), .slice none 0 0]) ?_ 3 _ rfl; (with_reducible repeat (first | refine qbN ?_ _ | refine qbD ?_ | refine qbA ?_ _)); refine qbP (cs := #[.bool false, .int .u64 (IntKind.u64.wrap (a0)), .string (⟨#[]⟩ : ByteArray), .slice none 0 0]) ?_ 2 _ rfl; (with_reducible repeat (first | refine qbN ?_ _ | refine qbD ?_ | refine qbA ?_ _)); refine qbP (cs := #[.bool false, .int .u64 0, .string (⟨#[]⟩ : ByteArray), .slice none 0 0]) ?_ 1 _ rfl; (with_reducible repeat (first | refine qbN ?_ _ | refine qbD ?_ | refine qbA ?_ _)); refine qbP (cs := #[.bool false, .int .u64 0, .string (⟨#[]⟩ : ByteArray), .slice none 0 0]) ?_ 0 _ rfl; (with_reducible repeat (first | refine qbN ?_ _ | refine qbD ?_ | refine qbA ?_ _)); exact BK110.out) Tryd.underlying33 rfl (by kernel_rfl)) rfl ?_
 exact ⟨_, by first | rfl | (simp [errW_none, errW_some] <;> rfl) | (simp [*, errW_none, errW_some] <;> rfl), by first | exact Kd.R_nil _ _ _ _ _ | exact Kd.N_nil _ _ _ _ _ | exact Kd.V_nil _ _ _ _ _ | exact Kd.Q_nil _ _ _ _ _ | exact Kd.S_nil _ _ _ _ _, by repeat (first | (with_reducible first | exact HB.out | apply qwA | apply qwN | apply qwD | refine qwS ?_ GE110.out) | exact HB.out)⟩

/-! ### impl_valueInt64: function 36 -/
def impl_valueInt64.f (a0 : Int) : Option (Bool × Int × ByteArray × (List (S33))) := some (false, IntKind.u64.wrap (a0), (⟨#[]⟩ : ByteArray), ([] : List (S33)))
set_option maxHeartbeats 8000000 in
set_option maxRecDepth 100000 in
theorem impl_valueInt64.calls (a0 : Int) (r1 : Bool) (r2 : Int) (r3 : ByteArray) (r4 : List (S33)) (w : World) (h : impl_valueInt64.f a0 = some (r1, r2, r3, r4)) :
  Calls Tryd.prog 36 #[.int .i64 a0] w fun e w' => ∃ v3_ : Value, e = .returned (.agg #[.bool r1, .int .u64 r2, .string r3, v3_]) ∧ Kd.R k33 33 w' w.heap.size (fun _ => True) v3_ r4 ∧ Below w.heap.size w w' := by
 have hu33 := Tryd.underlying33
 have HB := qaM (Below.refl w.heap.size w)
 have H : (some (false, IntKind.u64.wrap (a0), (⟨#[]⟩ : ByteArray), ([] : List (S33)))) = some (r1, r2, r3, r4) := h
 clear h
 simp only [Option.some.injEq, Prod.mk.injEq] at H
 obtain ⟨rfl, rfl, rfl, rfl⟩ := H
 go_enter Tryd.func36, Tryd.ntmps36
 go_wp2_with (first | ((with_reducible refine gate_dst (N := 2) rfl ?_); refine box_event ?hg (N := 2) ?hd (cs := #[.bool false, .int .u64 0, .string (⟨#[]⟩ : ByteArray), .slice none 0 0]) (t := 33) ?hr ?_; (case hd => rfl); (case hg => rfl); (case hr => first | (go_simp; done) | (go_simp; rfl)); intro gb111 hg w2 hbox hb; have n0_ := qaM (qbT (by repeat (first | (with_reducible first | exact HB.out | apply qwA | apply qwN | apply qwD) | exact HB.out)) hb); have n1_ := qaM (hbox); have n2_ := qaM ((by rw [hg]; exact (qbS (by repeat (first | (with_reducible first | exact HB.out | apply qwA | apply qwN | apply qwD) | exact HB.out))) : w.heap.size ≤ gb111)); have n3_ := qaM ((by rw [hg]; exact (qbS (by repeat (first | (with_reducible first | exact HB.out | apply qwA | apply qwN | apply qwD) | exact HB.out))) : w.heap.size ≤ gb111)); clear HB; have HB := n0_; have BK111 := n1_; have GW111 := n2_; have GE111 := n3_; clear n0_ n1_ n2_ n3_; clear hb hbox hg; have hcz3_0 : w2.cell? ⟨gb111, 0, none⟩ = some (.bool false) := (qbC BK111.out 0).trans rfl; have hcz3_1 : w2.cell? ⟨gb111, 1, none⟩ = some (.int .u64 0) := (qbC BK111.out 1).trans rfl; have hcz3_2 : w2.cell? ⟨gb111, 2, none⟩ = some (.string (⟨#[]⟩ : ByteArray)) := (qbC BK111.out 2).trans rfl; have hcz3_3 : w2.cell? ⟨gb111, 3, none⟩ = some (.slice none 0 0) := (qbC BK111.out 3).trans rfl; have hfz3_0 := blk_frozen BK111.out 0; have hfz3_1 := blk_frozen BK111.out 1; have hfz3_2 := blk_frozen BK111.out 2; have hfz3_3 := blk_frozen BK111.out 3))
 refine bodyPost_ret (results_cell_row rfl _ _ gb111 33 #[.bool false, .int .u64 (IntKind.u64.wrap (a0)), .string (⟨#[]⟩ : ByteArray), .slice none 0 0] (0, 0) _ rfl (by (with_reducible repeat (first | refine qbN ?_ _ | refine qbD ?_ | refine qbA ?_ _)); refine qbP (cs := #[.bool false, .int .u64 (IntKind.u64.wrap (a0)), .string (⟨#[]⟩ : ByteArray), .slice none 0 0]) ?_ 3 _ rfl; (with_reducible repeat (first | refine qbN ?_ _ | refine qbD ?_ | refine qbA ?_ _)); refine qbP (cs := #[.bool false, .int .u64 (IntKind.u64.wrap (a0)), .string (⟨#[]⟩ : ByteArray), .slice none 0 0]) ?_ 2 _ rfl; (with_reducible repeat (first | refine qbN ?_ _ | refine qbD ?_ | refine qbA ?_ _)); refine qbP (cs := #[.bool false, .int .u64 0, .string (⟨#[]⟩ : ByteArray), .slice none 0 0]) ?_ 1 _ rfl; (with_reducible repeat (first | refine qbN ?_ _ | refine qbD ?_ | refine qbA ?_ _)); refine qbP (cs := #[.bool false, .int .u64 0, .string (⟨#[]⟩ : ByteArray), .slice none 0 0]) ?_ 0 _ rfl; (with_reducible repeat (first | refine qbN ?_ _ | refine qbD ?_ | refine qbA ?_ _)); exact BK111.out) Tryd.underlying33 rfl (by kernel_rfl)) rfl ?_
 exact ⟨_, by first | rfl | (simp [errW_none, errW_some] <;> rfl) | (simp [*, errW_none, errW_some] <;> rfl), by first | exact Kd.R_nil _ _ _ _ _ | exact Kd.N_nil _ _ _ _ _ | exact Kd.V_nil _ _ _ _ _ | exact Kd.Q_nil _ _ _ _ _ | exact Kd.S_nil _ _ _ _ _, by repeat (first | (with_reducible first | exact HB.out | apply qwA | apply qwN | apply qwD | refine qwS ?_ GE111.out) | exact HB.out)⟩

-- NOT PRINTED: function 58 (math_Float32bits)

-- NOT PRINTED: function 44 (impl_valueFloat32)

-- NOT PRINTED: function 50 (math_Float64bits)

-- NOT PRINTED: function 25 (impl_valueFloat64)

-- NOT PRINTED: function 40 (impl_valueInt96)

/-! ### spec_Bit: function 53 -/
def spec_Bit.f (l0 : List Int) (a1 : Int) : Option (Bool) := if 0 ≤ (wrap64 (Int.tdiv a1 8)) then (if (wrap64 (Int.tdiv a1 8)) < (l0.length : Int) then (if 0 ≤ (Int.tmod a1 8) then (some ((Go.bits .and .u8 (shr .u8 (rd l0 (wrap64 (Int.tdiv a1 8))) (Int.tmod a1 8)) 1) == 1)) else (none)) else (none)) else (none)
set_option maxHeartbeats 8000000 in
set_option maxRecDepth 100000 in
theorem spec_Bit.calls (A0 : Option Addr) (c0 : Nat) (l0 : List Int) (a1 : Int) (r : Bool) (w : World) (hr0 : Kd.C (Kd.int .u8) w A0 l0.length l0) (hc0 : l0.length ≤ c0) (h : spec_Bit.f l0 a1 = some r) :
  Calls Tryd.prog 53 #[.slice A0 l0.length c0, .int .i64 a1] w fun e w' => e = .returned (.bool r) ∧ Drawn0 w w' := by
 have HR0 := qaM hr0
 have HC0 := qaM hc0
 clear hr0 hc0
 have H : (if 0 ≤ (wrap64 (Int.tdiv a1 8)) then (if (wrap64 (Int.tdiv a1 8)) < (l0.length : Int) then (if 0 ≤ (Int.tmod a1 8) then (some ((Go.bits .and .u8 (shr .u8 (rd l0 (wrap64 (Int.tdiv a1 8))) (Int.tmod a1 8)) 1) == 1)) else (none)) else (none)) else (none)) = some r := h
 clear h
 obtain ⟨ji3, hji3⟩ : ∃ j_ : Int, (wrap64 (Int.tdiv a1 8)) = j_ := ⟨_, rfl⟩
 replace H : (if 0 ≤ (ji3) then (if (ji3) < (l0.length : Int) then (if 0 ≤ (Int.tmod a1 8) then (some ((Go.bits .and .u8 (shr .u8 (rd l0 (ji3)) (Int.tmod a1 8)) 1) == 1)) else (none)) else (none)) else (none)) = some r := by first | (rw [hji3] at H; exact H) | (simp only [hji3] at H ⊢; exact H)
 have hji3w : (IntKind.i64.wrap (Int.tdiv a1 8)) = ji3 := (i64_w _).trans hji3
 by_cases c4 : 0 ≤ (ji3)
 ·rw [if_pos c4] at H
  have c4b0 : decide (0 ≤ (ji3)) = true := decide_eq_true c4
  clear c4
  by_cases c5 : (ji3) < (l0.length : Int)
  ·rw [if_pos c5] at H
   have c5b0 : decide ((ji3) < (l0.length : Int)) = true := decide_eq_true c5
   clear c5
   obtain ⟨ji6, hji6⟩ : ∃ j_ : Int, (Int.tmod a1 8) = j_ := ⟨_, rfl⟩
   replace H : (if 0 ≤ (ji6) then (some ((Go.bits .and .u8 (shr .u8 (rd l0 (ji3)) (ji6)) 1) == 1)) else (none)) = some r := by first | (rw [hji6] at H; exact H) | (simp only [hji6] at H ⊢; exact H)
   by_cases c7 : 0 ≤ (ji6)
   ·rw [if_pos c7] at H
    have c7b0 := eq_true c7
    have c7b1 : decide (0 ≤ (ji6)) = true := decide_eq_true c7
    clear c7
    obtain ⟨ji8, hji8⟩ : ∃ j_ : Int, (shr .u8 (rd l0 (ji3)) (ji6)) = j_ := ⟨_, rfl⟩
    replace H : (some ((Go.bits .and .u8 (ji8) 1) == 1)) = some r := by first | (rw [hji8] at H; exact H) | (simp only [hji8] at H ⊢; exact H)
    have hji8_ : ((rd l0 (ji3)) / 2 ^ min (ji6).toNat 8) = ji8 := hji8
    have hji8z : (ji6) ≤ 8 → ((rd l0 (ji3)) / 2 ^ (ji6).toNat) = ji8 := shr_small hji8
    obtain rfl := Option.some.inj H
    have p112 : 0 ≤ ((ji3) : Int) := qoD (by first | (with_reducible assumption) | assumption)
    have q112 : (ji3) < (l0.length : Int) := qoD (by first | (with_reducible assumption) | assumption)
    obtain ⟨ad112, e112, hx112_0⟩ := Kd.at_int HR0.out (ji3) p112 q112
    cases e112
    replace p112 := eq_true p112
    replace q112 := eq_true q112
    go_enter Tryd.func53, Tryd.ntmps53
    go_wp2
    go_ret
    exact ⟨by first | rfl | (simp; done) | (simp only [← hji3, ← hji6, ← hji8] <;> (first | rfl | simp)) | (simp [*]; done), by repeat (first | exact Drawn0.refl _ | apply Drawn0.step)⟩
   ·rw [if_neg c7] at H
    exact absurd H (by simp)
  ·rw [if_neg c5] at H
   exact absurd H (by simp)
 ·rw [if_neg c4] at H
  exact absurd H (by simp)

/-! ### spec_BitList: function 27 -/
mutual
def spec_BitList.j0 : Nat → List Int → Int → Int → Bool → Option (List Bool × Bool)
 | 0, _, _, _, _ => none
 | k + 1, x0, x1, x2, x24 => if x24 = true then (some (([] : List Bool), false)) else (if 0 ≤ x2 then (if (x2 : Int).toNat ≤ 281474976710656 then ((some (List.replicate (x2 : Int).toNat false : List Bool)).bind fun y113 => (spec_BitList.l0 k x0 x1 y113 (y113.length : Int) 0)) else (none)) else (none))
def spec_BitList.l0 : Nat → List Int → Int → List Bool → Int → Int → Option (List Bool × Bool)
 | 0, _, _, _, _, _ => none
 | k + 1, x0, x1, x8, x28, x29 => if x29 < x28 then ((spec_Bit.f x0 (wrap64 (x1 + x29))).bind fun t116 => (if 0 ≤ x29 then (if x29 < (x8.length : Int) then (spec_BitList.l0 k x0 x1 (x8.set (x29 : Int).toNat t116) x28 (wrap64 (x29 + 1))) else (none)) else (none))) else (some (x8, true))
end
def spec_BitList.f (k : Nat) (l0 : List Int) (a1 : Int) (a2 : Int) : Option (List Bool × Bool) := if a1 < 0 then (spec_BitList.j0 k l0 a1 a2 true) else (if a2 < 0 then (spec_BitList.j0 k l0 a1 a2 true) else (spec_BitList.j0 k l0 a1 a2 (decide (a1 > (wrap64 ((wrap64 (8 * (l0.length : Int))) - a2))))))
theorem spec_BitList.mono_l : ∀ k, (∀ y0 y1 y2 y3, LeO (spec_BitList.j0 k y0 y1 y2 y3) (spec_BitList.j0 (k + 1) y0 y1 y2 y3)) ∧ (∀ y0 y1 y2 y3 y4, LeO (spec_BitList.l0 k y0 y1 y2 y3 y4) (spec_BitList.l0 (k + 1) y0 y1 y2 y3 y4))
 | 0 => ⟨fun _ _ _ _ r h => by simp [spec_BitList.j0] at h, fun _ _ _ _ _ r h => by simp [spec_BitList.l0] at h⟩
 | k + 1 => by
  obtain ⟨ih0, ih1⟩ := spec_BitList.mono_l k
  refine ⟨?_, ?_⟩
  ·intro y0 y1 y2 y3
   unfold spec_BitList.j0
   repeat' first
   | (with_reducible exact ih0 _ _ _ _)
   | (with_reducible exact ih1 _ _ _ _ _)
   | (with_reducible exact LeO.refl _)
   | (with_reducible exact LeO.none _)
   | (with_reducible refine LeO.ite ?_ ?_)
   | (with_reducible refine LeO.bind ?_ (fun _ => ?_))
   | exact ih0 _ _ _ _
   | exact ih1 _ _ _ _ _
   | exact LeO.none _
   | refine LeO.ite ?_ ?_
   | refine LeO.bind ?_ (fun _ => ?_)
  ·intro y0 y1 y2 y3 y4
   unfold spec_BitList.l0
   repeat' first
   | (with_reducible exact ih0 _ _ _ _)
   | (with_reducible exact ih1 _ _ _ _ _)
   | (with_reducible exact LeO.refl _)
   | (with_reducible exact LeO.none _)
   | (with_reducible refine LeO.ite ?_ ?_)
   | (with_reducible refine LeO.bind ?_ (fun _ => ?_))
   | exact ih0 _ _ _ _
   | exact ih1 _ _ _ _ _
   | exact LeO.none _
   | refine LeO.ite ?_ ?_
   | refine LeO.bind ?_ (fun _ => ?_)
theorem spec_BitList.mono : ∀ a0 a1 a2 k, LeO (spec_BitList.f k a0 a1 a2) (spec_BitList.f (k + 1) a0 a1 a2) := by
 intro a0 a1 a2 k
 obtain ⟨ih0, ih1⟩ := spec_BitList.mono_l k
 unfold spec_BitList.f
 repeat' first
   | (with_reducible exact ih0 _ _ _ _)
   | (with_reducible exact ih1 _ _ _ _ _)
   | (with_reducible exact LeO.refl _)
   | (with_reducible exact LeO.none _)
   | (with_reducible refine LeO.ite ?_ ?_)
   | (with_reducible refine LeO.bind ?_ (fun _ => ?_))
   | exact ih0 _ _ _ _
   | exact ih1 _ _ _ _ _
   | exact LeO.none _
   | refine LeO.ite ?_ ?_
   | refine LeO.bind ?_ (fun _ => ?_)
set_option maxHeartbeats 8000000 in
set_option maxRecDepth 100000 in
theorem spec_BitList.calls (k : Nat) (A0 : Option Addr) (c0 : Nat) (l0 : List Int) (a1 : Int) (a2 : Int) (r1 : List Bool) (r2 : Bool) (w : World) (hr0 : Kd.C (Kd.int .u8) w A0 l0.length l0) (hc0 : l0.length ≤ c0) (h : spec_BitList.f k l0 a1 a2 = some (r1, r2)) :
  Calls Tryd.prog 27 #[.slice A0 l0.length c0, .int .i64 a1, .int .i64 a2] w fun e w' => ∃ v0_ : Value, e = .returned (.tuple #[v0_, .bool r2]) ∧ Kd.R Kd.bool 4 w' w.heap.size (fun _ => True) v0_ r1 ∧ Below w.heap.size w w' := by
 have HR0 := qaM hr0
 have HC0 := qaM hc0
 clear hr0 hc0
 have HB := qaM (Below.refl w.heap.size w)
 have H : (if a1 < 0 then (spec_BitList.j0 k l0 a1 a2 true) else (if a2 < 0 then (spec_BitList.j0 k l0 a1 a2 true) else (spec_BitList.j0 k l0 a1 a2 (decide (a1 > (wrap64 ((wrap64 (8 * (l0.length : Int))) - a2))))))) = some (r1, r2) := h
 clear h
 have HC4 := qaM H
 clear H
 go_enter Tryd.func27, Tryd.ntmps27
 go_upto_region 1 with (fail)
 go_cut [24] (fun v24 wc => ∃ (kq : Nat) (x24_3 : Bool), v24 = .bool x24_3 ∧ Aside0 (spec_BitList.j0 kq l0 a1 a2 x24_3 = some (r1, r2)) ∧ Aside0 (kq ≤ k) ∧ Aside0 (Below w.heap.size w wc))
 case first =>
  have H := HC4.out
  clear HC4
  by_cases c5 : a1 < 0
  ·rw [if_pos c5] at H
   have c5b0 : decide (a1 < 0) = true := decide_eq_true c5
   clear c5
   (first | rw [c5b0] | (simp only [i64_w, i32_w]; rw [c5b0]) | skip)
   have H' := qaM H
   clear H
   go_wp2
   go_meet
   case rel => exact ⟨_, (true), (by first | rfl | (simp; done) | (simp [*]; done)), H', ⟨by first | omega | exact Nat.le_refl _⟩, ⟨by repeat (first | (with_reducible first | exact HB.out | apply qwA | apply qwN | apply qwD) | exact HB.out)⟩⟩
  ·rw [if_neg c5] at H
   have c5b0 : decide (a1 < 0) = false := decide_eq_false c5
   clear c5
   (first | rw [c5b0] | (simp only [i64_w, i32_w]; rw [c5b0]) | skip)
   by_cases c6 : a2 < 0
   ·rw [if_pos c6] at H
    have c6b0 : decide (a2 < 0) = true := decide_eq_true c6
    clear c6
    have H' := qaM H
    clear H
    go_wp2
    go_meet
    case rel => exact ⟨_, (true), (by first | rfl | (simp; done) | (simp [*]; done)), H', ⟨by first | omega | exact Nat.le_refl _⟩, ⟨by repeat (first | (with_reducible first | exact HB.out | apply qwA | apply qwN | apply qwD) | exact HB.out)⟩⟩
   ·rw [if_neg c6] at H
    have c6b0 : decide (a2 < 0) = false := decide_eq_false c6
    clear c6
    have H' := qaM H
    clear H
    go_wp2
    go_meet
    case rel => exact ⟨_, (decide (a1 > (wrap64 ((wrap64 (8 * (l0.length : Int))) - a2)))), (by first | rfl | (simp; done) | (simp [*]; done)), H', ⟨by first | omega | exact Nat.le_refl _⟩, ⟨by repeat (first | (with_reducible first | exact HB.out | apply qwA | apply qwN | apply qwD) | exact HB.out)⟩⟩
 case rest =>
  clear HC4
  try clear c2
  try clear p2
  try clear c5
  try clear c5b0
  try clear c6
  try clear c6b0
  try clear p6
  obtain ⟨kq, x24_3, rfl, HA, HJ3, HB⟩ := hcut
  cases kq with
  | zero => exact absurd HA.out (by simp [spec_BitList.j0])
  | succ kj3 =>
   have H := HA.out
   clear HA
   simp only [spec_BitList.j0] at H
   by_cases c7 : x24_3 = true
   ·subst c7
    have H1 : (some (([] : List Bool), false)) = some (r1, r2) := by rw [if_pos rfl] at H; exact H
    clear H
    have H := H1
    clear H1
    simp only [Option.some.injEq, Prod.mk.injEq] at H
    obtain ⟨rfl, rfl⟩ := H
    go_wp2
    go_ret2
    exact ⟨_, by first | rfl | (simp [errW_none, errW_some] <;> rfl) | (simp [*, errW_none, errW_some] <;> rfl), by first | exact Kd.R_nil _ _ _ _ _ | exact Kd.N_nil _ _ _ _ _ | exact Kd.V_nil _ _ _ _ _ | exact Kd.Q_nil _ _ _ _ _ | exact Kd.S_nil _ _ _ _ _, by repeat (first | (with_reducible first | exact HB.out | apply qwA | apply qwN | apply qwD) | exact HB.out)⟩
   ·replace c7 := Bool.eq_false_iff.mpr c7
    subst c7
    have H1 : (if 0 ≤ a2 then (if (a2 : Int).toNat ≤ 281474976710656 then ((some (List.replicate (a2 : Int).toNat false : List Bool)).bind fun y113 => (spec_BitList.l0 kj3 l0 a1 y113 (y113.length : Int) 0)) else (none)) else (none)) = some (r1, r2) := by rw [if_neg (show ¬ (false = true) by decide)] at H; exact H
    clear H
    have H := H1
    clear H1
    by_cases c8 : 0 ≤ a2
    ·rw [if_pos c8] at H
     have c8b0 := eq_true c8
     have c8b1 : decide (0 ≤ a2) = true := decide_eq_true c8
     clear c8
     by_cases c9 : (a2 : Int).toNat ≤ 281474976710656
     ·rw [if_pos c9] at H
      have c9b0 := eq_true c9
      have c9b1 : decide ((a2 : Int).toNat ≤ 281474976710656) = true := decide_eq_true c9
      clear c9
      obtain ⟨y113, hy113⟩ : ∃ y_ : List Bool, y_ = (List.replicate (a2 : Int).toNat false) := ⟨_, rfl⟩
      replace H : (spec_BitList.l0 kj3 l0 a1 y113 (y113.length : Int) 0) = some (r1, r2) := by first | (rw [hy113]; with_reducible exact H) | (have H2_ := (Option.bind_some _ _).symm.trans H; rw [hy113]; with_reducible exact H2_) | (have H2_ := (Option.bind_some _ _).symm.trans H; with_reducible exact H2_) | with_reducible exact H | (rw [hy113]; exact H) | exact H
      have Ny113 := qaM hy113
      clear hy113
      have H' := qaM H
      clear H
      go_wp2_with (first | ((with_reducible refine gate_dst (N := 26) rfl ?_); (try (refine gate_guard (by rfl) ?_; dsimp only)); refine Kd.R_make Kd.bool _ 4 rfl (N := 26) rfl 35 _ _ rfl a2 rfl rfl Tryd.underlying35 (.bool false) 1 info4 rfl (by decide) (by omega) false (ok := fun _ => True) (okp := fun _ => True) rfl (fun _ hk => hk) trivial (qoD (by first | (with_reducible assumption) | assumption)) (Nat.le_trans (Nat.mul_le_mul_right _ (qoD (by first | (with_reducible assumption) | assumption) : a2.toNat ≤ 281474976710656)) (by omega)) (Below.refl _ _) (Nat.le_refl _) ?_; intro v114 w10 ho11 hb hg_ hnew_; clear hg_ hnew_; (first | rw [← Ny113.out] at ho11 | (simp only [Int.reduceToNat] at ho11; rw [← Ny113.out] at ho11)); have n0_ := qaM (Kd.R_lower ho11 (qbS (by repeat (first | (with_reducible first | exact HB.out | apply qwA | apply qwN | apply qwD) | exact HB.out)))); have n1_ := qaM (qbT (by repeat (first | (with_reducible first | exact HB.out | apply qwA | apply qwN | apply qwD) | exact HB.out)) hb); clear HB; have HO115 := n0_; have HB := n1_; clear n0_ n1_; clear hb ho11; obtain ⟨Ao12, co12, eo12⟩ := Kd.R_slice HO115.out; subst eo12))
      go_loopg [29] kj3 (fun kq v29 w' => ∃ (x8_2 : List Bool) (x29_2 : Int), v29 = .int .i64 x29_2 ∧ Aside0 (spec_BitList.l0 kq l0 a1 x8_2 (y113.length : Int) x29_2 = some (r1, r2)) ∧ Aside0 (kq ≤ kj3) ∧ Aside0 (Kd.R Kd.bool 4 w' w.heap.size (fun _ => True) (.slice Ao12 y113.length co12) x8_2) ∧ Aside0 (Below w.heap.size w w'))
      case atStart => exact ⟨(y113), (0), (by first | rfl | (simp; done) | (simp [*]; done)), H', ⟨Nat.le_refl _⟩, ⟨by (with_reducible repeat (first | apply qrA | apply qrN | apply qrD)); exact HO115.out⟩, ⟨by repeat (first | (with_reducible first | exact HB.out | apply qwA | apply qwN | apply qwD) | exact HB.out)⟩⟩
      case round =>
       clear H'
       try clear c2
       try clear p2
       try clear c5
       try clear c5b0
       try clear c6
       try clear c6b0
       try clear p6
       try clear c7
       try clear c8
       try clear c8b0
       try clear c8b1
       try clear c9
       try clear c9b0
       try clear c9b1
       try clear p2
       try clear p6
       obtain ⟨x8_2, x29_2, rfl, HA, HK2, HO_8, HB⟩ := hrel
       have hl8_2 := (qrR HO_8.out).1
       rw [hl8_2] at HO_8
       (try simp only [hl8_2])
       cases gk with
       | zero => exact absurd HA.out (by simp [spec_BitList.l0])
       | succ k2 =>
        have H := HA.out
        clear HA
        simp only [spec_BitList.l0] at H
        by_cases c13 : x29_2 < (y113.length : Int)
        ·rw [if_pos c13] at H
         have c13b0 : decide (x29_2 < (y113.length : Int)) = true := decide_eq_true c13
         have c13b0h := c13b0
         (try simp only [hl8_2] at c13b0h)
         clear c13
         replace H := Option.bind_eq_some_iff.mp H
         obtain ⟨t116, A140, H⟩ := H
         replace H : (if 0 ≤ x29_2 then (if x29_2 < (x8_2.length : Int) then (spec_BitList.l0 k2 l0 a1 (x8_2.set (x29_2 : Int).toNat t116) (y113.length : Int) (wrap64 (x29_2 + 1))) else (none)) else (none)) = some (r1, r2) := H
         have A14 := qaM A140
         clear A140
         by_cases c15 : 0 ≤ x29_2
         ·rw [if_pos c15] at H
          have c15b0 : decide (0 ≤ x29_2) = true := decide_eq_true c15
          clear c15
          by_cases c16 : x29_2 < (x8_2.length : Int)
          ·rw [if_pos c16] at H
           have c16b0 : decide (x29_2 < (x8_2.length : Int)) = true := decide_eq_true c16
           have c16b0h := c16b0
           (try simp only [hl8_2] at c16b0h)
           clear c16
           obtain ⟨y117, hy117⟩ : ∃ y_ : List Bool, y_ = (x8_2.set (x29_2 : Int).toNat t116) := ⟨_, rfl⟩
           replace H : (spec_BitList.l0 k2 l0 a1 y117 (y113.length : Int) (wrap64 (x29_2 + 1))) = some (r1, r2) := by first | (rw [hy117]; with_reducible exact H) | (have H2_ := (Option.bind_some _ _).symm.trans H; rw [hy117]; with_reducible exact H2_) | (have H2_ := (Option.bind_some _ _).symm.trans H; with_reducible exact H2_) | with_reducible exact H | (rw [hy117]; exact H) | exact H
           have Ny117 := qaM hy117
           clear hy117
           have H' := qaM H
           clear H
           go_wp2_with (first | ((with_reducible refine gate_callee (f := 53) rfl ?_); refine goesL_ (some 38) rfl rfl Tryd.func53 (by kernel_rfl) rfl #[.slice A0 l0.length c0, .int .i64 (wrap64 (a1 + x29_2))] rfl (by (try simp only [List.map_toArray, List.map_cons, List.map_nil]); first | done | rfl | (simp only [List.length_drop, List.length_take]; rfl)) ?_; (with_reducible refine (spec_Bit.calls _ _ l0 (wrap64 (a1 + x29_2)) t116 _ ?side1 ?side2 A14.out).mono ?_); (case side1 => repeat (first | exact (Kd.C_below HR0.out HB.out) | (with_reducible refine Kd.C_alloc ?_ _) | (with_reducible refine Kd.C_drewN ?_ _) | (with_reducible refine Kd.C_drew ?_))); (case side2 => exact HC0.out); rintro e w' ⟨rfl, ⟨nd, rfl⟩⟩; refine ⟨_, rfl, ?_⟩; (try (rw [drewN_self wr]; generalize hq_ : World.drewN wr _ = wr; have n0_ : Aside0 (Kd.R Kd.bool 4 wr w.heap.size (fun _ => True) (.slice Ao12 x8_2.length co12) x8_2) := ⟨by rw [← hq_]; exact (by (with_reducible repeat (first | apply qrA | apply qrN | apply qrD)); exact HO_8.out)⟩; have n1_ : Aside0 (Below w.heap.size w wr) := ⟨by rw [← hq_]; exact (by repeat (first | (with_reducible first | exact HB.out | apply qwA | apply qwN | apply qwD) | exact HB.out))⟩; clear HO_8 HB hq_; have HO_8 := n0_; have HB := n1_; clear n0_ n1_)); have p17 : 0 ≤ (x29_2 : Int) := qoD (by first | (with_reducible assumption) | assumption); have q17 : (x29_2 : Int) < ((x8_2.length : Int) : Int) := qoD (by first | (with_reducible assumption) | assumption); obtain ⟨go17, co17, eo17, gb17, gl17, cl17, HG17⟩ := Kd.R_form HO_8.out (by omega); (first | cases eo17 | (injection eo17 with ea_ en_ ec_; (first | subst ea_ | (injection ea_ with ea_; subst ea_)); subst ec_; clear en_)); have GB17 := qaM gb17; have GG17 := qaM HG17; clear gb17 gl17 HG17; obtain ⟨hx17_0, hf17_0⟩ := Kd.R_celln false HO_8.out (x29_2 : Int) p17 q17; replace p17 := eq_true p17; replace q17 := eq_true q17; obtain ⟨hy18_, hz18_⟩ := Kd.R_celln false HO_8.out (x29_2 : Int) (qoD (by first | (with_reducible assumption) | assumption)) (qoD (by first | (with_reducible assumption) | assumption)); have HP18 := Kd.R_putg HO_8.out (x29_2 : Int) t116) | ((with_reducible refine gate_store (t := 4) (p := 39) rfl ?_); refine store_event (t := 4) (p := 39) (v := ?vo_w19) (w1 := (wr.setCell ⟨go17, (x29_2 : Int).toNat, none⟩ (.bool t116))) ?hg ?ho ?hn ?hr ?_; (case ho => rfl); (case hg => rfl); (case hn => rfl); (case hr => first | (go_simp; done) | (go_simp; rfl)); intro w19 hw; have hg : wr.grownBy w19 (some go17) := (by rw [hw]; exact HP18.2); have hp_ : Kd.R Kd.bool 4 w19 w.heap.size (fun _ => True) (.slice (some ⟨go17, 0, none⟩) x8_2.length co12) y117 := (by rw [hw, Ny117.out]; exact HP18.1); clear HP18; have n0_ := qaM (hp_); have n1_ := qaM ((by rw [hw]; exact qwS (HB.out) GB17.out : Below w.heap.size w w19)); clear HO_8; clear HB; have HO_8 := n0_; have HB := n1_; clear n0_ n1_; clear hg hw hp_))
           (try simp only [← hl8_2])
           go_roundg k2
           case measure => have := HJ3.out; have := HK2.out; omega
           case rel => exact ⟨(y117), (wrap64 (x29_2 + 1)), (by first | rfl | (simp; done) | (simp [*]; done)), H', ⟨by have := HJ3.out; have := HK2.out; omega⟩, ⟨by (try simp only [hl8_2]); (with_reducible repeat (first | apply qrA | apply qrN | apply qrD)); exact HO_8.out⟩, ⟨by repeat (first | (with_reducible first | exact HB.out | apply qwA | apply qwN | apply qwD) | exact HB.out)⟩⟩
          ·rw [if_neg c16] at H
           exact absurd H (by simp)
         ·rw [if_neg c15] at H
          exact absurd H (by simp)
        ·rw [if_neg c13] at H
         have c13b0 : decide (x29_2 < (y113.length : Int)) = false := decide_eq_false c13
         (try rw [hl8_2] at c13b0)
         have c13b0h := c13b0
         (try simp only [hl8_2] at c13b0h)
         clear c13
         simp only [Option.some.injEq, Prod.mk.injEq] at H
         obtain ⟨rfl, rfl⟩ := H
         go_wp2
         go_ret2
         exact ⟨_, by first | rfl | (simp [errW_none, errW_some] <;> rfl) | (simp [*, errW_none, errW_some] <;> rfl), by (with_reducible repeat (first | apply qrA | apply qrN | apply qrD)); exact HO_8.out, by repeat (first | (with_reducible first | exact HB.out | apply qwA | apply qwN | apply qwD) | exact HB.out)⟩
     ·rw [if_neg c9] at H
      exact absurd H (by simp)
    ·rw [if_neg c8] at H
     exact absurd H (by simp)

/-! ### laws_bitsOf: function 11 -/
def laws_bitsOf.f (k : Nat) (l0 : List Int) (a1 : Int) (a2 : Int) : Option (List Bool × Bool) := if a1 < 0 then (some (([] : List Bool), false)) else (if a1 > 100 then (some (([] : List Bool), false)) else (if a2 < 0 then (some (([] : List Bool), false)) else (if a2 > 500 then (some (([] : List Bool), false)) else (if (l0.length : Int) > 200 then (some (([] : List Bool), false)) else ((spec_BitList.f k l0 a1 a2).bind fun bt118 => (some (bt118.1, bt118.2)))))))
theorem laws_bitsOf.mono : ∀ a0 a1 a2 k, LeO (laws_bitsOf.f k a0 a1 a2) (laws_bitsOf.f (k + 1) a0 a1 a2) := by
 intro a0 a1 a2 k
 unfold laws_bitsOf.f
 repeat' first
   | (with_reducible exact spec_BitList.mono _ _ _ _)
   | (with_reducible exact LeO.refl _)
   | (with_reducible exact LeO.none _)
   | (with_reducible refine LeO.ite ?_ ?_)
   | (with_reducible refine LeO.bind ?_ (fun _ => ?_))
   | exact spec_BitList.mono _ _ _ _
   | exact LeO.none _
   | refine LeO.ite ?_ ?_
   | refine LeO.bind ?_ (fun _ => ?_)
set_option maxHeartbeats 8000000 in
set_option maxRecDepth 100000 in
theorem laws_bitsOf.calls (k : Nat) (A0 : Option Addr) (c0 : Nat) (l0 : List Int) (a1 : Int) (a2 : Int) (r1 : List Bool) (r2 : Bool) (w : World) (hr0 : Kd.C (Kd.int .u8) w A0 l0.length l0) (hc0 : l0.length ≤ c0) (h : laws_bitsOf.f k l0 a1 a2 = some (r1, r2)) :
  Calls Tryd.prog 11 #[.slice A0 l0.length c0, .int .i64 a1, .int .i64 a2] w fun e w' => ∃ v0_ : Value, e = .returned (.tuple #[v0_, .bool r2]) ∧ Kd.R Kd.bool 4 w' w.heap.size (fun _ => True) v0_ r1 ∧ Below w.heap.size w w' := by
 have HR0 := qaM hr0
 have HC0 := qaM hc0
 clear hr0 hc0
 have HB := qaM (Below.refl w.heap.size w)
 have H : (if a1 < 0 then (some (([] : List Bool), false)) else (if a1 > 100 then (some (([] : List Bool), false)) else (if a2 < 0 then (some (([] : List Bool), false)) else (if a2 > 500 then (some (([] : List Bool), false)) else (if (l0.length : Int) > 200 then (some (([] : List Bool), false)) else ((spec_BitList.f k l0 a1 a2).bind fun bt118 => (some (bt118.1, bt118.2)))))))) = some (r1, r2) := h
 clear h
 by_cases c4 : a1 < 0
 ·rw [if_pos c4] at H
  have c4b0 : decide (a1 < 0) = true := decide_eq_true c4
  clear c4
  simp only [Option.some.injEq, Prod.mk.injEq] at H
  obtain ⟨rfl, rfl⟩ := H
  go_enter Tryd.func11, Tryd.ntmps11
  go_wp2
  go_ret2
  exact ⟨_, by first | rfl | (simp [errW_none, errW_some] <;> rfl) | (simp [*, errW_none, errW_some] <;> rfl), by first | exact Kd.R_nil _ _ _ _ _ | exact Kd.N_nil _ _ _ _ _ | exact Kd.V_nil _ _ _ _ _ | exact Kd.Q_nil _ _ _ _ _ | exact Kd.S_nil _ _ _ _ _, by repeat (first | (with_reducible first | exact HB.out | apply qwA | apply qwN | apply qwD) | exact HB.out)⟩
 ·rw [if_neg c4] at H
  have c4b0 : decide (a1 < 0) = false := decide_eq_false c4
  clear c4
  by_cases c5 : a1 > 100
  ·rw [if_pos c5] at H
   have c5b0 : decide (100 < a1) = true := decide_eq_true c5
   clear c5
   simp only [Option.some.injEq, Prod.mk.injEq] at H
   obtain ⟨rfl, rfl⟩ := H
   go_enter Tryd.func11, Tryd.ntmps11
   go_wp2
   go_ret2
   exact ⟨_, by first | rfl | (simp [errW_none, errW_some] <;> rfl) | (simp [*, errW_none, errW_some] <;> rfl), by first | exact Kd.R_nil _ _ _ _ _ | exact Kd.N_nil _ _ _ _ _ | exact Kd.V_nil _ _ _ _ _ | exact Kd.Q_nil _ _ _ _ _ | exact Kd.S_nil _ _ _ _ _, by repeat (first | (with_reducible first | exact HB.out | apply qwA | apply qwN | apply qwD) | exact HB.out)⟩
  ·rw [if_neg c5] at H
   have c5b0 : decide (100 < a1) = false := decide_eq_false c5
   clear c5
   by_cases c6 : a2 < 0
   ·rw [if_pos c6] at H
    have c6b0 : decide (a2 < 0) = true := decide_eq_true c6
    clear c6
    simp only [Option.some.injEq, Prod.mk.injEq] at H
    obtain ⟨rfl, rfl⟩ := H
    go_enter Tryd.func11, Tryd.ntmps11
    go_wp2
    go_ret2
    exact ⟨_, by first | rfl | (simp [errW_none, errW_some] <;> rfl) | (simp [*, errW_none, errW_some] <;> rfl), by first | exact Kd.R_nil _ _ _ _ _ | exact Kd.N_nil _ _ _ _ _ | exact Kd.V_nil _ _ _ _ _ | exact Kd.Q_nil _ _ _ _ _ | exact Kd.S_nil _ _ _ _ _, by repeat (first | (with_reducible first | exact HB.out | apply qwA | apply qwN | apply qwD) | exact HB.out)⟩
   ·rw [if_neg c6] at H
    have c6b0 : decide (a2 < 0) = false := decide_eq_false c6
    clear c6
    by_cases c7 : a2 > 500
    ·rw [if_pos c7] at H
     have c7b0 : decide (500 < a2) = true := decide_eq_true c7
     clear c7
     simp only [Option.some.injEq, Prod.mk.injEq] at H
     obtain ⟨rfl, rfl⟩ := H
     go_enter Tryd.func11, Tryd.ntmps11
     go_wp2
     go_ret2
     exact ⟨_, by first | rfl | (simp [errW_none, errW_some] <;> rfl) | (simp [*, errW_none, errW_some] <;> rfl), by first | exact Kd.R_nil _ _ _ _ _ | exact Kd.N_nil _ _ _ _ _ | exact Kd.V_nil _ _ _ _ _ | exact Kd.Q_nil _ _ _ _ _ | exact Kd.S_nil _ _ _ _ _, by repeat (first | (with_reducible first | exact HB.out | apply qwA | apply qwN | apply qwD) | exact HB.out)⟩
    ·rw [if_neg c7] at H
     have c7b0 : decide (500 < a2) = false := decide_eq_false c7
     clear c7
     by_cases c8 : (l0.length : Int) > 200
     ·rw [if_pos c8] at H
      have c8b0 : decide (200 < (l0.length : Int)) = true := decide_eq_true c8
      have c8b1 : decide (200 < l0.length) = true := decide_eq_true (by omega)
      clear c8
      simp only [Option.some.injEq, Prod.mk.injEq] at H
      obtain ⟨rfl, rfl⟩ := H
      go_enter Tryd.func11, Tryd.ntmps11
      go_wp2
      go_ret2
      exact ⟨_, by first | rfl | (simp [errW_none, errW_some] <;> rfl) | (simp [*, errW_none, errW_some] <;> rfl), by first | exact Kd.R_nil _ _ _ _ _ | exact Kd.N_nil _ _ _ _ _ | exact Kd.V_nil _ _ _ _ _ | exact Kd.Q_nil _ _ _ _ _ | exact Kd.S_nil _ _ _ _ _, by repeat (first | (with_reducible first | exact HB.out | apply qwA | apply qwN | apply qwD) | exact HB.out)⟩
     ·rw [if_neg c8] at H
      have c8b0 : decide (200 < (l0.length : Int)) = false := decide_eq_false c8
      have c8b1 : decide (200 < l0.length) = false := decide_eq_false (by omega)
      clear c8
      replace H := Option.bind_eq_some_iff.mp H
      obtain ⟨⟨t118, t119⟩, A90, H⟩ := H
      replace H : (some (t118, t119)) = some (r1, r2) := H
      have A9 := qaM A90
      clear A90
      simp only [Option.some.injEq, Prod.mk.injEq] at H
      obtain ⟨rfl, rfl⟩ := H
      go_enter Tryd.func11, Tryd.ntmps11
      go_wp2_with (first | ((with_reducible refine gate_callee (f := 27) rfl ?_); refine goesL_ (some 30) rfl rfl Tryd.func27 (by kernel_rfl) rfl #[.slice A0 l0.length c0, .int .i64 a1, .int .i64 a2] rfl (by (try simp only [List.map_toArray, List.map_cons, List.map_nil]); first | done | rfl | (simp only [List.length_drop, List.length_take]; rfl)) ?_; (with_reducible refine (spec_BitList.calls k _ _ l0 a1 a2 t118 t119 _ ?side1 ?side2 A9.out).mono ?_); (case side1 => repeat (first | exact HR0.out | (with_reducible refine Kd.C_alloc ?_ _) | (with_reducible refine Kd.C_drewN ?_ _) | (with_reducible refine Kd.C_drew ?_))); (case side2 => exact HC0.out); rintro e w10 ⟨v120, rfl, ho0, hb⟩; refine ⟨_, rfl, ?_⟩; have n0_ := qaM (Kd.R_lower ho0 (qbS (by repeat (first | (with_reducible first | exact HB.out | apply qwA | apply qwN | apply qwD) | exact HB.out)))); have n1_ := qaM (qbT (by repeat (first | (with_reducible first | exact HB.out | apply qwA | apply qwN | apply qwD) | exact HB.out)) hb); clear HB; have HO121 := n0_; have HB := n1_; clear n0_ n1_; (try clear hb); (try clear hb2); (try clear hk); (try clear hi); (try clear ho0)))
      go_ret2
      exact ⟨_, by first | rfl | (simp [errW_none, errW_some] <;> rfl) | (simp [*, errW_none, errW_some] <;> rfl), by (with_reducible repeat (first | apply qrA | apply qrN | apply qrD)); exact HO121.out, by repeat (first | (with_reducible first | exact HB.out | apply qwA | apply qwN | apply qwD) | exact HB.out)⟩

-- NOT PRINTED: function 73 (encoding_widthOf_int32)

-- NOT PRINTED: function 62 (encoding_requiredBytes_int32)

-- NOT PRINTED: function 75 (encoding_widthOf_int64)

-- NOT PRINTED: function 64 (encoding_requiredBytes_int64)

-- NOT PRINTED: function 79 (encoding_widthOf_float32)

-- NOT PRINTED: function 68 (encoding_requiredBytes_float32)

-- NOT PRINTED: function 70 (encoding_widthOf_float64)

-- NOT PRINTED: function 59 (encoding_requiredBytes_float64)

-- NOT PRINTED: function 88 (binary_littleEndian_Uint32)

-- NOT PRINTED: function 89 (binary_littleEndian_Uint64)

-- NOT PRINTED: function 90 (math_Float32frombits)

-- NOT PRINTED: function 91 (math_Float64frombits)

-- NOT PRINTED: function 84 (encoding_getValue_int32)

-- NOT PRINTED: function 74 (encoding_fromBytes_int32)

-- NOT PRINTED: function 63 (encoding_copyFrom_int32)

-- NOT PRINTED: function 77 (parquet_Int96_77)

-- NOT PRINTED: function 66 (parquet_Int96_66)

end Go.Proofs.YtpjaaonpbohkdaaDoor.QT
