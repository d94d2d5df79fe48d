/- Printed by a program of this session (print2.py) over the kit's print: the functions that a law reaches, over contracts proved by hand. Lean checks it. -/
import Derived.Test.YtlnbkmkdapeicaaDoorQTx0
namespace Go.Proofs.YtlnbkmkdapeicaaDoor.QT
open Go.RowKit Go.Proofs.YtlnbkmkdapeicaaDoorW.PrintWords Go.Proofs.YtlnbkmkdapeicaaDoorW.PrintLast Go.Proofs.YtlnbkmkdapeicaaDoorW.PrintMore
attribute [local go_sem] max2_int min2_int max_two min_two max_three min_three max_four min_four   -- for this text's walks alone
set_option linter.unusedVariables false
set_option linter.unusedSimpArgs false

/-! ### impl_copied: function 14 -/
def impl_copied.f (l0 : List Int) : Option (List Int) := (some (([] : List Int) : List Int)).bind fun y101 => (if y101.length + l0.length < 140737488355328 then (some (y101 ++ l0)) else (none))
set_option maxHeartbeats 8000000 in
set_option maxRecDepth 100000 in
theorem impl_copied.calls (A0 : Option Addr) (c0 : Nat) (l0 : List Int) (r : List Int) (w : World) (hr0 : Kd.C (Kd.int .u8) w A0 l0.length l0) (hc0 : l0.length ≤ c0) (h : impl_copied.f l0 = some r) :
  Calls Tryd.prog 14 #[.slice A0 l0.length c0] w fun e w' => ∃ v0_ : Value, e = .returned (v0_) ∧ Kd.R (Kd.int .u8) 5 w' w.heap.size (fun _ => True) v0_ r ∧ Below w.heap.size w w' := by
 have HR0 := qaM hr0
 have HC0 := qaM hc0
 clear hr0 hc0
 have HB := qaM (Below.refl w.heap.size w)
 have H : ((some (([] : List Int) : List Int)).bind fun y101 => (if y101.length + l0.length < 140737488355328 then (some (y101 ++ l0)) else (none))) = some r := h
 clear h
 obtain ⟨y101, hy101⟩ : ∃ y_ : List Int, y_ = (([] : List Int)) := ⟨_, rfl⟩
 replace H : (if y101.length + l0.length < 140737488355328 then (some (y101 ++ l0)) else (none)) = some r := by first | (rw [hy101]; with_reducible exact H) | (have H2_ := (Option.bind_some _ _).symm.trans H; rw [hy101]; with_reducible exact H2_) | (have H2_ := (Option.bind_some _ _).symm.trans H; with_reducible exact H2_) | with_reducible exact H | (rw [hy101]; exact H) | exact H
 have Ny101 := qaM hy101
 clear hy101
 by_cases c2 : y101.length + l0.length < 140737488355328
 ·rw [if_pos c2] at H
  have LMc2 := qaM c2
  clear c2
  obtain ⟨y104, hy104⟩ : ∃ y_ : List Int, y_ = (y101 ++ l0) := ⟨_, rfl⟩
  replace H : (some y104) = some r := by first | (rw [hy104]; with_reducible exact H) | (have H2_ := (Option.bind_some _ _).symm.trans H; rw [hy104]; with_reducible exact H2_) | (have H2_ := (Option.bind_some _ _).symm.trans H; with_reducible exact H2_) | with_reducible exact H | (rw [hy104]; exact H) | exact H
  have Ny104 := qaM hy104
  clear hy104
  obtain rfl := Option.some.inj H
  go_enter Tryd.func14, Tryd.ntmps14
  go_wp2_with (first | ((with_reducible refine gate_dst (N := 3) rfl ?_); refine Kd.R_lit (Kd.int .u8) _ 5 ?hg (N := 3) ?hd (xs := ([] : List Int)) (inner := []) (ok := fun _ => True) (okp := fun _ => True) ?hr ?hp (fun _ hk => hk) trivial (Below.refl _ _) (Nat.le_refl _) (by simp) ?_; (case hd => rfl); (case hg => rfl); (case hr => first | (go_simp; done) | (go_simp; rfl)); (case hp => exact (Reps.none _ _)); intro v102 w3 ho4 hb hg_ hnew_; clear hg_ hnew_; (first | rw [← Ny101.out] at ho4 | (simp only [Int.reduceToNat] at ho4; rw [← Ny101.out] at ho4)); have n0_ := qaM (Kd.R_lower ho4 (qbS (by repeat (first | (with_reducible first | exact HB.out | apply qwA | apply qwN | apply qwD) | exact HB.out)))); have n1_ := qaM (qbT (by repeat (first | (with_reducible first | exact HB.out | apply qwA | apply qwN | apply qwD) | exact HB.out)) hb); clear HB; have HO103 := n0_; have HB := n1_; clear n0_ n1_; clear hb ho4) | ((with_reducible refine gate_builtin (b := .append) (xs := #[.tmp 3, .tmp 4]) rfl ?_); at_builtin; refine Kd.R_append_rows (Kd.int .u8) (w0 := w) w.heap.size rfl (.tmp 3) (.tmp 4) 23 5 (.int .u8 0) 1 rfl Tryd.underlying23 info5 rfl (by decide) (by omega) v102 y101 l0 _ _ _ (fun _ => True) (fun _ => False) rfl rfl ?aO ?aR (fun _ _ h => h) (fun _ h => h.elim) ?aF ?aB ?aS ?aL ?_; (case aR => repeat (first | exact (Kd.C_below HR0.out HB.out) | (with_reducible refine Kd.C_alloc ?_ _) | (with_reducible refine Kd.C_drewN ?_ _) | (with_reducible refine Kd.C_drew ?_))); (case aB => exact (by repeat (first | (with_reducible first | exact HB.out | apply qwA | apply qwN | apply qwD) | exact HB.out))); (case aF => exact (fun _ _ => trivial)); (case aO => exact (by (with_reducible repeat (first | apply qrA | apply qrN | apply qrD)); exact HO103.out)); (case aS => exact (qbS (by repeat (first | (with_reducible first | exact HB.out | apply qwA | apply qwN | apply qwD) | exact HB.out)))); (case aL => have := LMc2.out; omega); intro v105 w5 ho hb hg hat; rw [← Ny104.out] at ho; have n0_ := qaM (hb); have n1_ := qaM (ho); clear HB; clear HO103; have HB := n0_; have HO106 := n1_; clear n0_ n1_; clear ho hb hg hat))
  go_ret
  exact ⟨_, by first | rfl | (simp [errW_none, errW_some] <;> rfl) | (simp [*, errW_none, errW_some] <;> rfl), by (with_reducible repeat (first | apply qrA | apply qrN | apply qrD)); exact HO106.out, by repeat (first | (with_reducible first | exact HB.out | apply qwA | apply qwN | apply qwD) | exact HB.out)⟩
 ·rw [if_neg c2] at H
  exact absurd H (by simp)

/-! ### laws_pairs2: function 6 -/
def laws_pairs2.f (a0 : Int) (a1 : Int) (a2 : Int) : Option (Int × Bool) := if a0 = 0 then (some (a1, (a1 == a2))) else (if a0 = 1 then (some (a1, decide (a2 > 0))) else (if a0 = 2 then (some (a2, decide (a1 > 0))) else (some (0, false))))
set_option maxHeartbeats 8000000 in
set_option maxRecDepth 100000 in
theorem laws_pairs2.calls (a0 : Int) (a1 : Int) (a2 : Int) (r1 : Int) (r2 : Bool) (w : World) (h : laws_pairs2.f a0 a1 a2 = some (r1, r2)) :
  Calls Tryd.prog 6 #[.int .i64 a0, .int .i64 a1, .int .i64 a2] w fun e w' => e = .returned (.tuple #[.int .i64 r1, .bool r2]) ∧ Drawn0 w w' := by
 have H : (if a0 = 0 then (some (a1, (a1 == a2))) else (if a0 = 1 then (some (a1, decide (a2 > 0))) else (if a0 = 2 then (some (a2, decide (a1 > 0))) else (some (0, false))))) = some (r1, r2) := h
 clear h
 by_cases c4 : a0 = 0
 ·rw [if_pos c4] at H
  have c4b0 : (a0 == 0) = true := beq_iff_eq.mpr c4
  have c4b1 : (a0 != 0) = false := bne_eq_false_iff_eq.mpr c4
  clear c4
  simp only [Option.some.injEq, Prod.mk.injEq] at H
  obtain ⟨rfl, rfl⟩ := H
  go_enter Tryd.func6, Tryd.ntmps6
  go_wp2
  go_ret2
  exact ⟨by first | rfl | (simp; done) | (simp [*]; done), by repeat (first | exact Drawn0.refl _ | apply Drawn0.step)⟩
 ·rw [if_neg c4] at H
  have c4b0 : (a0 == 0) = false := beq_eq_false_iff_ne.mpr c4
  have c4b1 : (a0 != 0) = true := bne_iff_ne.mpr c4
  by_cases c5 : a0 = 1
  ·rw [if_pos c5] at H
   have c5b0 : (a0 == 1) = true := beq_iff_eq.mpr c5
   have c5b1 : (a0 != 1) = false := bne_eq_false_iff_eq.mpr c5
   clear c5
   simp only [Option.some.injEq, Prod.mk.injEq] at H
   obtain ⟨rfl, rfl⟩ := H
   go_enter Tryd.func6, Tryd.ntmps6
   go_wp2
   go_ret2
   exact ⟨by first | rfl | (simp; done) | (simp [*]; done), by repeat (first | exact Drawn0.refl _ | apply Drawn0.step)⟩
  ·rw [if_neg c5] at H
   have c5b0 : (a0 == 1) = false := beq_eq_false_iff_ne.mpr c5
   have c5b1 : (a0 != 1) = true := bne_iff_ne.mpr c5
   by_cases c6 : a0 = 2
   ·rw [if_pos c6] at H
    have c6b0 : (a0 == 2) = true := beq_iff_eq.mpr c6
    have c6b1 : (a0 != 2) = false := bne_eq_false_iff_eq.mpr c6
    clear c6
    simp only [Option.some.injEq, Prod.mk.injEq] at H
    obtain ⟨rfl, rfl⟩ := H
    go_enter Tryd.func6, Tryd.ntmps6
    go_wp2
    go_ret2
    exact ⟨by first | rfl | (simp; done) | (simp [*]; done), by repeat (first | exact Drawn0.refl _ | apply Drawn0.step)⟩
   ·rw [if_neg c6] at H
    have c6b0 : (a0 == 2) = false := beq_eq_false_iff_ne.mpr c6
    have c6b1 : (a0 != 2) = true := bne_iff_ne.mpr c6
    simp only [Option.some.injEq, Prod.mk.injEq] at H
    obtain ⟨rfl, rfl⟩ := H
    go_enter Tryd.func6, Tryd.ntmps6
    go_wp2
    go_ret2
    exact ⟨by first | rfl | (simp; done) | (simp [*]; done), by repeat (first | exact Drawn0.refl _ | apply Drawn0.step)⟩

/-! ### laws_room: function 7 -/
def laws_room.f (l0 : List Int) (a1 : Int) (a2 : Int) : Option (Bool) := if a1 ≥ 0 then (if a1 ≤ 7 then (if a2 ≤ 300 then (if (l0.length : Int) ≤ 100 then (some (decide ((wrap64 (a1 + a2)) ≤ (wrap64 (8 * (l0.length : Int)))))) else (some false)) else (some false)) else (some false)) else (some false)
set_option maxHeartbeats 8000000 in
set_option maxRecDepth 100000 in
theorem laws_room.calls (A0 : Option Addr) (c0 : Nat) (l0 : List Int) (a1 : Int) (a2 : Int) (r : Bool) (w : World) (hr0 : Kd.C (Kd.int .u8) w A0 l0.length l0) (hc0 : l0.length ≤ c0) (h : laws_room.f l0 a1 a2 = some r) :
  Calls Tryd.prog 7 #[.slice A0 l0.length c0, .int .i64 a1, .int .i64 a2] w fun e w' => e = .returned (.bool r) ∧ Drawn0 w w' := by
 have HR0 := qaM hr0
 have HC0 := qaM hc0
 clear hr0 hc0
 have H : (if a1 ≥ 0 then (if a1 ≤ 7 then (if a2 ≤ 300 then (if (l0.length : Int) ≤ 100 then (some (decide ((wrap64 (a1 + a2)) ≤ (wrap64 (8 * (l0.length : Int)))))) else (some false)) else (some false)) else (some false)) else (some false)) = some r := h
 clear h
 by_cases c4 : a1 ≥ 0
 ·rw [if_pos c4] at H
  have c4b0 : decide (0 ≤ a1) = true := decide_eq_true c4
  clear c4
  by_cases c5 : a1 ≤ 7
  ·rw [if_pos c5] at H
   have c5b0 : decide (a1 ≤ 7) = true := decide_eq_true c5
   clear c5
   by_cases c6 : a2 ≤ 300
   ·rw [if_pos c6] at H
    have c6b0 : decide (a2 ≤ 300) = true := decide_eq_true c6
    clear c6
    by_cases c7 : (l0.length : Int) ≤ 100
    ·rw [if_pos c7] at H
     have c7b0 : decide ((l0.length : Int) ≤ 100) = true := decide_eq_true c7
     have c7b1 : decide (l0.length ≤ 100) = true := decide_eq_true (by omega)
     clear c7
     obtain rfl := Option.some.inj H
     go_enter Tryd.func7, Tryd.ntmps7
     go_wp2
     go_ret
     exact ⟨by first | rfl | (simp; done) | (simp [*]; done), by repeat (first | exact Drawn0.refl _ | apply Drawn0.step)⟩
    ·rw [if_neg c7] at H
     have c7b0 : decide ((l0.length : Int) ≤ 100) = false := decide_eq_false c7
     have c7b1 : decide (l0.length ≤ 100) = false := decide_eq_false (by omega)
     clear c7
     obtain rfl := Option.some.inj H
     go_enter Tryd.func7, Tryd.ntmps7
     go_wp2
     go_ret
     exact ⟨by first | rfl | (simp; done) | (simp [*]; done), by repeat (first | exact Drawn0.refl _ | apply Drawn0.step)⟩
   ·rw [if_neg c6] at H
    have c6b0 : decide (a2 ≤ 300) = false := decide_eq_false c6
    clear c6
    obtain rfl := Option.some.inj H
    go_enter Tryd.func7, Tryd.ntmps7
    go_wp2
    go_ret
    exact ⟨by first | rfl | (simp; done) | (simp [*]; done), by repeat (first | exact Drawn0.refl _ | apply Drawn0.step)⟩
  ·rw [if_neg c5] at H
   have c5b0 : decide (a1 ≤ 7) = false := decide_eq_false c5
   clear c5
   obtain rfl := Option.some.inj H
   go_enter Tryd.func7, Tryd.ntmps7
   go_wp2
   go_ret
   exact ⟨by first | rfl | (simp; done) | (simp [*]; done), by repeat (first | exact Drawn0.refl _ | apply Drawn0.step)⟩
 ·rw [if_neg c4] at H
  have c4b0 : decide (0 ≤ a1) = false := decide_eq_false c4
  clear c4
  obtain rfl := Option.some.inj H
  go_enter Tryd.func7, Tryd.ntmps7
  go_wp2
  go_ret
  exact ⟨by first | rfl | (simp; done) | (simp [*]; done), by repeat (first | exact Drawn0.refl _ | apply Drawn0.step)⟩

/-- THE ONE PURE STATEMENT of laws_room: yours. -/
def laws_room.Pure : Prop := ∀ (l0 : List Int) (a1 : Int) (a2 : Int), l0.length ≤ maxLen → l0.length * 1 ≤ 140737488351232 → (∀ x ∈ l0, (Lit.int .u8 x).wf = true) → (Lit.int .i64 a1).wf = true → (Lit.int .i64 a2).wf = true → laws_room.f l0 a1 a2 = some true
theorem laws_room.walk (P : laws_room.Pure) (a0 : Option Addr) (len0 cap0 : Nat) (z0 : List Int) (a1 : Int) (a2 : Int) (w : World) (w0 : (a0 = none ∧ len0 = 0 ∧ cap0 = 0 ∧ z0 = []) ∨ ∃ x, a0 = some x ∧ len0 ≤ cap0 ∧ cap0 ≤ maxLen ∧ z0.length = cap0 ∧ (∀ i, i < z0.length → w.cell? (x.add i) = some (.int .u8 (z0.getD i 0))) ∧ ∀ n ∈ z0, (Lit.int .u8 n).wf = true) (y0 : len0 * 1 ≤ 140737488351232) (w1 : (Lit.int .i64 a1).wf = true) (w2 : (Lit.int .i64 a2).wf = true) :
  Calls Tryd.prog 7 #[.slice a0 len0 cap0, .int .i64 a1, .int .i64 a2] w fun e w' => e = .returned (.bool true) ∧ Below w.heap.size w w' := by
 obtain ⟨l0, rfl, hr0, hm0, hw0, hc0⟩ := ReadsInt.ofRowC w0
 have h := P l0 a1 a2 hm0 y0 hw0 w1 w2
 refine (laws_room.calls _ _ l0 a1 a2 true w (Kd.C_of_reads (d := (0 : Int)) (h1 := fun _ => rfl) hr0) hc0 h).mono ?_
 rintro e w' ⟨rfl, hd⟩
 exact ⟨rfl, hd.below⟩

/-! ### spec_Bit: function 23 -/
def spec_Bit.f (l0 : List Int) (a1 : Int) : Option (Bool) := if 0 ≤ (wrap64 (Int.tdiv a1 8)) then (if (wrap64 (Int.tdiv a1 8)) < (l0.length : Int) then (if 0 ≤ (Int.tmod a1 8) then (some ((Go.bits .and .u8 (shr .u8 (rd l0 (wrap64 (Int.tdiv a1 8))) (Int.tmod a1 8)) 1) == 1)) else (none)) else (none)) else (none)
set_option maxHeartbeats 8000000 in
set_option maxRecDepth 100000 in
theorem spec_Bit.calls (A0 : Option Addr) (c0 : Nat) (l0 : List Int) (a1 : Int) (r : Bool) (w : World) (hr0 : Kd.C (Kd.int .u8) w A0 l0.length l0) (hc0 : l0.length ≤ c0) (h : spec_Bit.f l0 a1 = some r) :
  Calls Tryd.prog 23 #[.slice A0 l0.length c0, .int .i64 a1] w fun e w' => e = .returned (.bool r) ∧ Drawn0 w w' := by
 have HR0 := qaM hr0
 have HC0 := qaM hc0
 clear hr0 hc0
 have H : (if 0 ≤ (wrap64 (Int.tdiv a1 8)) then (if (wrap64 (Int.tdiv a1 8)) < (l0.length : Int) then (if 0 ≤ (Int.tmod a1 8) then (some ((Go.bits .and .u8 (shr .u8 (rd l0 (wrap64 (Int.tdiv a1 8))) (Int.tmod a1 8)) 1) == 1)) else (none)) else (none)) else (none)) = some r := h
 clear h
 obtain ⟨ji3, hji3⟩ : ∃ j_ : Int, (wrap64 (Int.tdiv a1 8)) = j_ := ⟨_, rfl⟩
 replace H : (if 0 ≤ (ji3) then (if (ji3) < (l0.length : Int) then (if 0 ≤ (Int.tmod a1 8) then (some ((Go.bits .and .u8 (shr .u8 (rd l0 (ji3)) (Int.tmod a1 8)) 1) == 1)) else (none)) else (none)) else (none)) = some r := by first | (rw [hji3] at H; exact H) | (simp only [hji3] at H ⊢; exact H)
 have hji3w : (IntKind.i64.wrap (Int.tdiv a1 8)) = ji3 := (i64_w _).trans hji3
 by_cases c4 : 0 ≤ (ji3)
 ·rw [if_pos c4] at H
  have c4b0 : decide (0 ≤ (ji3)) = true := decide_eq_true c4
  clear c4
  by_cases c5 : (ji3) < (l0.length : Int)
  ·rw [if_pos c5] at H
   have c5b0 : decide ((ji3) < (l0.length : Int)) = true := decide_eq_true c5
   clear c5
   obtain ⟨ji6, hji6⟩ : ∃ j_ : Int, (Int.tmod a1 8) = j_ := ⟨_, rfl⟩
   replace H : (if 0 ≤ (ji6) then (some ((Go.bits .and .u8 (shr .u8 (rd l0 (ji3)) (ji6)) 1) == 1)) else (none)) = some r := by first | (rw [hji6] at H; exact H) | (simp only [hji6] at H ⊢; exact H)
   by_cases c7 : 0 ≤ (ji6)
   ·rw [if_pos c7] at H
    have c7b0 := eq_true c7
    have c7b1 : decide (0 ≤ (ji6)) = true := decide_eq_true c7
    clear c7
    obtain ⟨ji8, hji8⟩ : ∃ j_ : Int, (shr .u8 (rd l0 (ji3)) (ji6)) = j_ := ⟨_, rfl⟩
    replace H : (some ((Go.bits .and .u8 (ji8) 1) == 1)) = some r := by first | (rw [hji8] at H; exact H) | (simp only [hji8] at H ⊢; exact H)
    have hji8_ : ((rd l0 (ji3)) / 2 ^ min (ji6).toNat 8) = ji8 := hji8
    have hji8z : (ji6) ≤ 8 → ((rd l0 (ji3)) / 2 ^ (ji6).toNat) = ji8 := shr_small hji8
    obtain rfl := Option.some.inj H
    have p107 : 0 ≤ ((ji3) : Int) := qoD (by first | (with_reducible assumption) | assumption)
    have q107 : (ji3) < (l0.length : Int) := qoD (by first | (with_reducible assumption) | assumption)
    obtain ⟨ad107, e107, hx107_0⟩ := Kd.at_int HR0.out (ji3) p107 q107
    cases e107
    replace p107 := eq_true p107
    replace q107 := eq_true q107
    go_enter Tryd.func23, Tryd.ntmps23
    go_wp2
    go_ret
    exact ⟨by first | rfl | (simp; done) | (simp only [← hji3, ← hji6, ← hji8] <;> (first | rfl | simp)) | (simp [*]; done), by repeat (first | exact Drawn0.refl _ | apply Drawn0.step)⟩
   ·rw [if_neg c7] at H
    exact absurd H (by simp)
  ·rw [if_neg c5] at H
   exact absurd H (by simp)
 ·rw [if_neg c4] at H
  exact absurd H (by simp)

/-! ### laws_bitsDue: function 12 -/
mutual
def laws_bitsDue.l0 : Nat → List Int → List Int → Int → List Bool → Int → Option (Bool)
 | 0, _, _, _, _, _ => none
 | k + 1, x0, x1, x2, x3, x9 => if x9 < x2 then ((spec_Bit.f x0 x9).bind fun t108 => ((spec_Bit.f x1 x9).bind fun t109 => (if (t108 != t109) = true then (some false) else (laws_bitsDue.l0 k x0 x1 x2 x3 (wrap64 (x9 + 1)))))) else (laws_bitsDue.l1 k x1 x2 x3 (x3.length : Int) 0)
def laws_bitsDue.l1 : Nat → List Int → Int → List Bool → Int → Int → Option (Bool)
 | 0, _, _, _, _, _ => none
 | k + 1, x1, x2, x29, x30, x31 => if x31 < x30 then (if 0 ≤ x31 then (if x31 < (x29.length : Int) then ((spec_Bit.f x1 (wrap64 (x2 + x31))).bind fun t111 => (if (t111 != (rdOf false x29 x31)) = true then (some false) else (laws_bitsDue.l1 k x1 x2 x29 x30 (wrap64 (x31 + 1))))) else (none)) else (none)) else (some true)
end
def laws_bitsDue.f (k : Nat) (l0 : List Int) (l1 : List Int) (a2 : Int) (l3 : List Bool) : Option (Bool) := if (l1.length : Int) = (l0.length : Int) then (laws_bitsDue.l0 k l0 l1 a2 l3 0) else (some false)
theorem laws_bitsDue.mono_l : ∀ k, (∀ y0 y1 y2 y3 y4, LeO (laws_bitsDue.l0 k y0 y1 y2 y3 y4) (laws_bitsDue.l0 (k + 1) y0 y1 y2 y3 y4)) ∧ (∀ y0 y1 y2 y3 y4, LeO (laws_bitsDue.l1 k y0 y1 y2 y3 y4) (laws_bitsDue.l1 (k + 1) y0 y1 y2 y3 y4))
 | 0 => ⟨fun _ _ _ _ _ r h => by simp [laws_bitsDue.l0] at h, fun _ _ _ _ _ r h => by simp [laws_bitsDue.l1] at h⟩
 | k + 1 => by
  obtain ⟨ih0, ih1⟩ := laws_bitsDue.mono_l k
  refine ⟨?_, ?_⟩
  ·intro y0 y1 y2 y3 y4
   unfold laws_bitsDue.l0
   repeat' first
   | (with_reducible exact ih0 _ _ _ _ _)
   | (with_reducible exact ih1 _ _ _ _ _)
   | (with_reducible exact LeO.refl _)
   | (with_reducible exact LeO.none _)
   | (with_reducible refine LeO.ite ?_ ?_)
   | (with_reducible refine LeO.bind ?_ (fun _ => ?_))
   | exact ih0 _ _ _ _ _
   | exact ih1 _ _ _ _ _
   | exact LeO.none _
   | refine LeO.ite ?_ ?_
   | refine LeO.bind ?_ (fun _ => ?_)
  ·intro y0 y1 y2 y3 y4
   unfold laws_bitsDue.l1
   repeat' first
   | (with_reducible exact ih0 _ _ _ _ _)
   | (with_reducible exact ih1 _ _ _ _ _)
   | (with_reducible exact LeO.refl _)
   | (with_reducible exact LeO.none _)
   | (with_reducible refine LeO.ite ?_ ?_)
   | (with_reducible refine LeO.bind ?_ (fun _ => ?_))
   | exact ih0 _ _ _ _ _
   | exact ih1 _ _ _ _ _
   | exact LeO.none _
   | refine LeO.ite ?_ ?_
   | refine LeO.bind ?_ (fun _ => ?_)
theorem laws_bitsDue.mono : ∀ a0 a1 a2 a3 k, LeO (laws_bitsDue.f k a0 a1 a2 a3) (laws_bitsDue.f (k + 1) a0 a1 a2 a3) := by
 intro a0 a1 a2 a3 k
 obtain ⟨ih0, ih1⟩ := laws_bitsDue.mono_l k
 unfold laws_bitsDue.f
 repeat' first
   | (with_reducible exact ih0 _ _ _ _ _)
   | (with_reducible exact ih1 _ _ _ _ _)
   | (with_reducible exact LeO.refl _)
   | (with_reducible exact LeO.none _)
   | (with_reducible refine LeO.ite ?_ ?_)
   | (with_reducible refine LeO.bind ?_ (fun _ => ?_))
   | exact ih0 _ _ _ _ _
   | exact ih1 _ _ _ _ _
   | exact LeO.none _
   | refine LeO.ite ?_ ?_
   | refine LeO.bind ?_ (fun _ => ?_)
set_option maxHeartbeats 8000000 in
set_option maxRecDepth 100000 in
theorem laws_bitsDue.calls (k : Nat) (A0 : Option Addr) (c0 : Nat) (l0 : List Int) (A1 : Option Addr) (c1 : Nat) (l1 : List Int) (a2 : Int) (A3 : Option Addr) (c3 : Nat) (l3 : List Bool) (r : Bool) (w : World) (hr0 : Kd.C (Kd.int .u8) w A0 l0.length l0) (hc0 : l0.length ≤ c0) (hr1 : Kd.C (Kd.int .u8) w A1 l1.length l1) (hc1 : l1.length ≤ c1) (hr3 : Kd.C Kd.bool w A3 l3.length l3) (hc3 : l3.length ≤ c3) (h : laws_bitsDue.f k l0 l1 a2 l3 = some r) :
  Calls Tryd.prog 12 #[.slice A0 l0.length c0, .slice A1 l1.length c1, .int .i64 a2, .slice A3 l3.length c3] w fun e w' => e = .returned (.bool r) ∧ Drawn0 w w' := by
 have HR0 := qaM hr0
 have HC0 := qaM hc0
 clear hr0 hc0
 have HR1 := qaM hr1
 have HC1 := qaM hc1
 clear hr1 hc1
 have HR3 := qaM hr3
 have HC3 := qaM hc3
 clear hr3 hc3
 have H : (if (l1.length : Int) = (l0.length : Int) then (laws_bitsDue.l0 k l0 l1 a2 l3 0) else (some false)) = some r := h
 clear h
 by_cases c5 : (l1.length : Int) = (l0.length : Int)
 ·rw [if_pos c5] at H
  have c5b0 : ((l1.length : Int) == (l0.length : Int)) = true := beq_iff_eq.mpr c5
  have c5b1 : ((l1.length : Int) != (l0.length : Int)) = false := bne_eq_false_iff_eq.mpr c5
  have c5b2 : (l1.length == l0.length) = true := by first | simpa using c5 | (simp at c5 ⊢; omega)
  clear c5
  have H' := qaM H
  clear H
  go_enter Tryd.func12, Tryd.ntmps12
  go_wp2
  go_loopg [9] k (fun kq v9 w' => ∃ (x9_1 : Int), v9 = .int .i64 x9_1 ∧ Aside0 (laws_bitsDue.l0 kq l0 l1 a2 l3 x9_1 = some r) ∧ Aside0 (kq ≤ k) ∧ Drawn0 w w')
  case atStart => exact ⟨(0), (by first | rfl | (simp; done) | (simp [*]; done)), H', ⟨Nat.le_refl _⟩, by repeat (first | exact Drawn0.refl _ | apply Drawn0.step)⟩
  case round =>
   clear H'
   try clear c1
   try clear p2
   try clear c3
   try clear c5
   try clear c5b0
   try clear c5b1
   try clear c5b2
   obtain ⟨x9_1, rfl, HA, HK1, ⟨m1, rfl⟩⟩ := hrel
   cases gk with
   | zero => exact absurd HA.out (by simp [laws_bitsDue.l0])
   | succ k1 =>
    have H := HA.out
    clear HA
    simp only [laws_bitsDue.l0] at H
    by_cases c6 : x9_1 < a2
    ·rw [if_pos c6] at H
     have c6b0 : decide (x9_1 < a2) = true := decide_eq_true c6
     clear c6
     replace H := Option.bind_eq_some_iff.mp H
     obtain ⟨t108, A70, H⟩ := H
     replace H : ((spec_Bit.f l1 x9_1).bind fun t109 => (if (t108 != t109) = true then (some false) else (laws_bitsDue.l0 k1 l0 l1 a2 l3 (wrap64 (x9_1 + 1))))) = some r := H
     have A7 := qaM A70
     clear A70
     replace H := Option.bind_eq_some_iff.mp H
     obtain ⟨t109, A80, H⟩ := H
     replace H : (if (t108 != t109) = true then (some false) else (laws_bitsDue.l0 k1 l0 l1 a2 l3 (wrap64 (x9_1 + 1)))) = some r := H
     have A8 := qaM A80
     clear A80
     by_cases c9 : (t108 != t109) = true
     ·rw [if_pos c9] at H
      have c9b0 : (t108 != t109) = true := c9
      (try (have c9b1 : decide (t108 = t109) = false := by simpa using c9))
      (try (have c9b2 : (t108 == t109) = false := by simpa using c9))
      (try (have c9b3 : ¬ (t108 = t109) := by simpa using c9))
      clear c9
      obtain rfl := Option.some.inj H
      go_wp2_with (first | ((with_reducible refine gate_callee (f := 23) rfl ?_); refine goesL_ (some 24) rfl rfl Tryd.func23 (by kernel_rfl) rfl #[.slice A0 l0.length c0, .int .i64 x9_1] rfl (by (try simp only [List.map_toArray, List.map_cons, List.map_nil]); first | done | rfl | (simp only [List.length_drop, List.length_take]; rfl)) ?_; (with_reducible refine (spec_Bit.calls _ _ l0 x9_1 t108 _ ?side1 ?side2 A7.out).mono ?_); (case side1 => repeat (first | exact HR0.out | (with_reducible refine Kd.C_alloc ?_ _) | (with_reducible refine Kd.C_drewN ?_ _) | (with_reducible refine Kd.C_drew ?_))); (case side2 => exact HC0.out); rintro e w' ⟨rfl, ⟨nd, rfl⟩⟩; refine ⟨_, rfl, ?_⟩) | ((with_reducible refine gate_callee (f := 23) rfl ?_); refine goesL_ (some 27) rfl rfl Tryd.func23 (by kernel_rfl) rfl #[.slice A1 l1.length c1, .int .i64 x9_1] rfl (by (try simp only [List.map_toArray, List.map_cons, List.map_nil]); first | done | rfl | (simp only [List.length_drop, List.length_take]; rfl)) ?_; (with_reducible refine (spec_Bit.calls _ _ l1 x9_1 t109 _ ?side1 ?side2 A8.out).mono ?_); (case side1 => repeat (first | exact HR1.out | (with_reducible refine Kd.C_alloc ?_ _) | (with_reducible refine Kd.C_drewN ?_ _) | (with_reducible refine Kd.C_drew ?_))); (case side2 => exact HC1.out); rintro e w' ⟨rfl, ⟨nd, rfl⟩⟩; refine ⟨_, rfl, ?_⟩))
      go_ret
      exact ⟨by first | rfl | (simp; done) | (simp [*]; done), by repeat (first | exact Drawn0.refl _ | apply Drawn0.step)⟩
     ·rw [if_neg c9] at H
      have c9b0 : (t108 != t109) = false := by simpa using c9
      (try (have c9b1 : decide (t108 = t109) = true := by simpa using c9))
      (try (have c9b2 : (t108 == t109) = true := by simpa using c9))
      clear c9
      have H' := qaM H
      clear H
      go_wp2_with (first | ((with_reducible refine gate_callee (f := 23) rfl ?_); refine goesL_ (some 24) rfl rfl Tryd.func23 (by kernel_rfl) rfl #[.slice A0 l0.length c0, .int .i64 x9_1] rfl (by (try simp only [List.map_toArray, List.map_cons, List.map_nil]); first | done | rfl | (simp only [List.length_drop, List.length_take]; rfl)) ?_; (with_reducible refine (spec_Bit.calls _ _ l0 x9_1 t108 _ ?side1 ?side2 A7.out).mono ?_); (case side1 => repeat (first | exact HR0.out | (with_reducible refine Kd.C_alloc ?_ _) | (with_reducible refine Kd.C_drewN ?_ _) | (with_reducible refine Kd.C_drew ?_))); (case side2 => exact HC0.out); rintro e w' ⟨rfl, ⟨nd, rfl⟩⟩; refine ⟨_, rfl, ?_⟩) | ((with_reducible refine gate_callee (f := 23) rfl ?_); refine goesL_ (some 27) rfl rfl Tryd.func23 (by kernel_rfl) rfl #[.slice A1 l1.length c1, .int .i64 x9_1] rfl (by (try simp only [List.map_toArray, List.map_cons, List.map_nil]); first | done | rfl | (simp only [List.length_drop, List.length_take]; rfl)) ?_; (with_reducible refine (spec_Bit.calls _ _ l1 x9_1 t109 _ ?side1 ?side2 A8.out).mono ?_); (case side1 => repeat (first | exact HR1.out | (with_reducible refine Kd.C_alloc ?_ _) | (with_reducible refine Kd.C_drewN ?_ _) | (with_reducible refine Kd.C_drew ?_))); (case side2 => exact HC1.out); rintro e w' ⟨rfl, ⟨nd, rfl⟩⟩; refine ⟨_, rfl, ?_⟩))
      go_roundg k1
      case measure => have := HK1.out; omega
      case rel => exact ⟨(wrap64 (x9_1 + 1)), (by first | rfl | (simp; done) | (simp [*]; done)), H', ⟨by have := HK1.out; omega⟩, by repeat (first | exact Drawn0.refl _ | apply Drawn0.step)⟩
    ·rw [if_neg c6] at H
     have c6b0 : decide (x9_1 < a2) = false := decide_eq_false c6
     clear c6
     have H' := qaM H
     clear H
     go_wp2
     go_loopg [31] k1 (fun kq v31 w' => ∃ (x31_2 : Int), v31 = .int .i64 x31_2 ∧ Aside0 (laws_bitsDue.l1 kq l1 a2 l3 (l3.length : Int) x31_2 = some r) ∧ Aside0 (kq ≤ k1) ∧ Drawn0 w w')
     case atStart => exact ⟨(0), (by first | rfl | (simp; done) | (simp [*]; done)), H', ⟨Nat.le_refl _⟩, by repeat (first | exact Drawn0.refl _ | apply Drawn0.step)⟩
     case round =>
      clear H'
      try clear c1
      try clear c2
      try clear p2
      try clear c3
      try clear c5
      try clear c5b0
      try clear c5b1
      try clear c5b2
      try clear c6
      try clear c6b0
      try clear p6
      try clear c9
      try clear c9b0
      try clear c9b1
      try clear c9b2
      try clear p2
      obtain ⟨x31_2, rfl, HA, HK2, ⟨m2, rfl⟩⟩ := hrel
      cases gk with
      | zero => exact absurd HA.out (by simp [laws_bitsDue.l1])
      | succ k2 =>
       have H := HA.out
       clear HA
       simp only [laws_bitsDue.l1] at H
       by_cases c10 : x31_2 < (l3.length : Int)
       ·rw [if_pos c10] at H
        have c10b0 : decide (x31_2 < (l3.length : Int)) = true := decide_eq_true c10
        clear c10
        by_cases c11 : 0 ≤ x31_2
        ·rw [if_pos c11] at H
         have c11b0 : decide (0 ≤ x31_2) = true := decide_eq_true c11
         clear c11
         by_cases c12 : x31_2 < (l3.length : Int)
         ·rw [if_pos c12] at H
          have c12b0 : decide (x31_2 < (l3.length : Int)) = true := decide_eq_true c12
          clear c12
          replace H := Option.bind_eq_some_iff.mp H
          obtain ⟨t111, A130, H⟩ := H
          replace H : (if (t111 != (rdOf false l3 x31_2)) = true then (some false) else (laws_bitsDue.l1 k2 l1 a2 l3 (l3.length : Int) (wrap64 (x31_2 + 1)))) = some r := H
          have A13 := qaM A130
          clear A130
          by_cases c14 : (t111 != (rdOf false l3 x31_2)) = true
          ·rw [if_pos c14] at H
           have c14b0 : (t111 != (rdOf false l3 x31_2)) = true := c14
           (try (have c14b1 : decide (t111 = (rdOf false l3 x31_2)) = false := by simpa using c14))
           (try (have c14b2 : (t111 == (rdOf false l3 x31_2)) = false := by simpa using c14))
           (try (have c14b3 : ¬ (t111 = (rdOf false l3 x31_2)) := by simpa using c14))
           clear c14
           obtain rfl := Option.some.inj H
           have p110 : 0 ≤ (x31_2 : Int) := qoD (by first | (with_reducible assumption) | assumption)
           have q110 : x31_2 < (l3.length : Int) := qoD (by first | (with_reducible assumption) | assumption)
           obtain ⟨ad110, e110, hx110_0⟩ := Kd.at_bool HR3.out x31_2 p110 q110
           cases e110
           replace p110 := eq_true p110
           replace q110 := eq_true q110
           go_wp2_with (first | ((with_reducible refine gate_callee (f := 23) rfl ?_); refine goesL_ (some 40) rfl rfl Tryd.func23 (by kernel_rfl) rfl #[.slice A1 l1.length c1, .int .i64 (wrap64 (a2 + x31_2))] rfl (by (try simp only [List.map_toArray, List.map_cons, List.map_nil]); first | done | rfl | (simp only [List.length_drop, List.length_take]; rfl)) ?_; (with_reducible refine (spec_Bit.calls _ _ l1 (wrap64 (a2 + x31_2)) t111 _ ?side1 ?side2 A13.out).mono ?_); (case side1 => repeat (first | exact HR1.out | (with_reducible refine Kd.C_alloc ?_ _) | (with_reducible refine Kd.C_drewN ?_ _) | (with_reducible refine Kd.C_drew ?_))); (case side2 => exact HC1.out); rintro e w' ⟨rfl, ⟨nd, rfl⟩⟩; refine ⟨_, rfl, ?_⟩))
           go_ret
           exact ⟨by first | rfl | (simp; done) | (simp [*]; done), by repeat (first | exact Drawn0.refl _ | apply Drawn0.step)⟩
          ·rw [if_neg c14] at H
           have c14b0 : (t111 != (rdOf false l3 x31_2)) = false := by simpa using c14
           (try (have c14b1 : decide (t111 = (rdOf false l3 x31_2)) = true := by simpa using c14))
           (try (have c14b2 : (t111 == (rdOf false l3 x31_2)) = true := by simpa using c14))
           clear c14
           have H' := qaM H
           clear H
           have p110 : 0 ≤ (x31_2 : Int) := qoD (by first | (with_reducible assumption) | assumption)
           have q110 : x31_2 < (l3.length : Int) := qoD (by first | (with_reducible assumption) | assumption)
           obtain ⟨ad110, e110, hx110_0⟩ := Kd.at_bool HR3.out x31_2 p110 q110
           cases e110
           replace p110 := eq_true p110
           replace q110 := eq_true q110
           go_wp2_with (first | ((with_reducible refine gate_callee (f := 23) rfl ?_); refine goesL_ (some 40) rfl rfl Tryd.func23 (by kernel_rfl) rfl #[.slice A1 l1.length c1, .int .i64 (wrap64 (a2 + x31_2))] rfl (by (try simp only [List.map_toArray, List.map_cons, List.map_nil]); first | done | rfl | (simp only [List.length_drop, List.length_take]; rfl)) ?_; (with_reducible refine (spec_Bit.calls _ _ l1 (wrap64 (a2 + x31_2)) t111 _ ?side1 ?side2 A13.out).mono ?_); (case side1 => repeat (first | exact HR1.out | (with_reducible refine Kd.C_alloc ?_ _) | (with_reducible refine Kd.C_drewN ?_ _) | (with_reducible refine Kd.C_drew ?_))); (case side2 => exact HC1.out); rintro e w' ⟨rfl, ⟨nd, rfl⟩⟩; refine ⟨_, rfl, ?_⟩))
           go_roundg k2
           case measure => have := HK1.out; have := HK2.out; omega
           case rel => exact ⟨(wrap64 (x31_2 + 1)), (by first | rfl | (simp; done) | (simp [*]; done)), H', ⟨by have := HK1.out; have := HK2.out; omega⟩, by repeat (first | exact Drawn0.refl _ | apply Drawn0.step)⟩
         ·rw [if_neg c12] at H
          exact absurd H (by simp)
        ·rw [if_neg c11] at H
         exact absurd H (by simp)
       ·rw [if_neg c10] at H
        have c10b0 : decide (x31_2 < (l3.length : Int)) = false := decide_eq_false c10
        clear c10
        obtain rfl := Option.some.inj H
        go_wp2
        go_ret
        exact ⟨by first | rfl | (simp; done) | (simp [*]; done), by repeat (first | exact Drawn0.refl _ | apply Drawn0.step)⟩
 ·rw [if_neg c5] at H
  have c5b0 : ((l1.length : Int) == (l0.length : Int)) = false := beq_eq_false_iff_ne.mpr c5
  have c5b1 : ((l1.length : Int) != (l0.length : Int)) = true := bne_iff_ne.mpr c5
  have c5b2 : (l1.length == l0.length) = false := by first | simpa using c5 | (simp at c5 ⊢; omega)
  obtain rfl := Option.some.inj H
  go_enter Tryd.func12, Tryd.ntmps12
  go_wp2
  go_ret
  exact ⟨by first | rfl | (simp; done) | (simp [*]; done), by repeat (first | exact Drawn0.refl _ | apply Drawn0.step)⟩

/-! ### laws_place2: function 8 -/
def laws_place2.f (a0 : Int) (a1 : Int) : Option (Int × Int) := if a0 = 1 then (some (a1, 0)) else (if a0 = 2 then (some (0, a1)) else (some (a1, a1)))
set_option maxHeartbeats 8000000 in
set_option maxRecDepth 100000 in
theorem laws_place2.calls (a0 : Int) (a1 : Int) (r1 : Int) (r2 : Int) (w : World) (h : laws_place2.f a0 a1 = some (r1, r2)) :
  Calls Tryd.prog 8 #[.int .i64 a0, .int .i64 a1] w fun e w' => e = .returned (.tuple #[.int .i64 r1, .int .i64 r2]) ∧ Drawn0 w w' := by
 have H : (if a0 = 1 then (some (a1, 0)) else (if a0 = 2 then (some (0, a1)) else (some (a1, a1)))) = some (r1, r2) := h
 clear h
 by_cases c3 : a0 = 1
 ·rw [if_pos c3] at H
  have c3b0 : (a0 == 1) = true := beq_iff_eq.mpr c3
  have c3b1 : (a0 != 1) = false := bne_eq_false_iff_eq.mpr c3
  clear c3
  simp only [Option.some.injEq, Prod.mk.injEq] at H
  obtain ⟨rfl, rfl⟩ := H
  go_enter Tryd.func8, Tryd.ntmps8
  go_wp2
  go_ret2
  exact ⟨by first | rfl | (simp; done) | (simp [*]; done), by repeat (first | exact Drawn0.refl _ | apply Drawn0.step)⟩
 ·rw [if_neg c3] at H
  have c3b0 : (a0 == 1) = false := beq_eq_false_iff_ne.mpr c3
  have c3b1 : (a0 != 1) = true := bne_iff_ne.mpr c3
  by_cases c4 : a0 = 2
  ·rw [if_pos c4] at H
   have c4b0 : (a0 == 2) = true := beq_iff_eq.mpr c4
   have c4b1 : (a0 != 2) = false := bne_eq_false_iff_eq.mpr c4
   clear c4
   simp only [Option.some.injEq, Prod.mk.injEq] at H
   obtain ⟨rfl, rfl⟩ := H
   go_enter Tryd.func8, Tryd.ntmps8
   go_wp2
   go_ret2
   exact ⟨by first | rfl | (simp; done) | (simp [*]; done), by repeat (first | exact Drawn0.refl _ | apply Drawn0.step)⟩
  ·rw [if_neg c4] at H
   have c4b0 : (a0 == 2) = false := beq_eq_false_iff_ne.mpr c4
   have c4b1 : (a0 != 2) = true := bne_iff_ne.mpr c4
   simp only [Option.some.injEq, Prod.mk.injEq] at H
   obtain ⟨rfl, rfl⟩ := H
   go_enter Tryd.func8, Tryd.ntmps8
   go_wp2
   go_ret2
   exact ⟨by first | rfl | (simp; done) | (simp [*]; done), by repeat (first | exact Drawn0.refl _ | apply Drawn0.step)⟩

/-! ### laws_answer: function 9 -/
def laws_answer.f (a0 : Int) (a1 : Int) (a2 : Bool) : Option (Bool) := if a2 = true then (some (a0 == 1)) else (if a0 = 0 then (some (a1 == 0)) else (if a0 = 1 then (some (a1 != 0)) else (if a0 = 2 then (some (decide (a1 > 0))) else (some (decide (a1 ≥ 0))))))
set_option maxHeartbeats 8000000 in
set_option maxRecDepth 100000 in
theorem laws_answer.calls (a0 : Int) (a1 : Int) (a2 : Bool) (r : Bool) (w : World) (h : laws_answer.f a0 a1 a2 = some r) :
  Calls Tryd.prog 9 #[.int .i64 a0, .int .i64 a1, .bool a2] w fun e w' => e = .returned (.bool r) ∧ Drawn0 w w' := by
 have H : (if a2 = true then (some (a0 == 1)) else (if a0 = 0 then (some (a1 == 0)) else (if a0 = 1 then (some (a1 != 0)) else (if a0 = 2 then (some (decide (a1 > 0))) else (some (decide (a1 ≥ 0))))))) = some r := h
 clear h
 by_cases c4 : a2 = true
 ·subst c4
  have H1 : (some (a0 == 1)) = some r := by rw [if_pos rfl] at H; exact H
  clear H
  have H := H1
  clear H1
  obtain rfl := Option.some.inj H
  go_enter Tryd.func9, Tryd.ntmps9
  go_wp2
  go_ret
  exact ⟨by first | rfl | (simp; done) | (simp [*]; done), by repeat (first | exact Drawn0.refl _ | apply Drawn0.step)⟩
 ·replace c4 := Bool.eq_false_iff.mpr c4
  subst c4
  have H1 : (if a0 = 0 then (some (a1 == 0)) else (if a0 = 1 then (some (a1 != 0)) else (if a0 = 2 then (some (decide (a1 > 0))) else (some (decide (a1 ≥ 0)))))) = some r := by rw [if_neg (show ¬ (false = true) by decide)] at H; exact H
  clear H
  have H := H1
  clear H1
  by_cases c5 : a0 = 0
  ·rw [if_pos c5] at H
   have c5b0 : (a0 == 0) = true := beq_iff_eq.mpr c5
   have c5b1 : (a0 != 0) = false := bne_eq_false_iff_eq.mpr c5
   clear c5
   obtain rfl := Option.some.inj H
   go_enter Tryd.func9, Tryd.ntmps9
   go_wp2
   go_ret
   exact ⟨by first | rfl | (simp; done) | (simp [*]; done), by repeat (first | exact Drawn0.refl _ | apply Drawn0.step)⟩
  ·rw [if_neg c5] at H
   have c5b0 : (a0 == 0) = false := beq_eq_false_iff_ne.mpr c5
   have c5b1 : (a0 != 0) = true := bne_iff_ne.mpr c5
   by_cases c6 : a0 = 1
   ·rw [if_pos c6] at H
    have c6b0 : (a0 == 1) = true := beq_iff_eq.mpr c6
    have c6b1 : (a0 != 1) = false := bne_eq_false_iff_eq.mpr c6
    clear c6
    obtain rfl := Option.some.inj H
    go_enter Tryd.func9, Tryd.ntmps9
    go_wp2
    go_ret
    exact ⟨by first | rfl | (simp; done) | (simp [*]; done), by repeat (first | exact Drawn0.refl _ | apply Drawn0.step)⟩
   ·rw [if_neg c6] at H
    have c6b0 : (a0 == 1) = false := beq_eq_false_iff_ne.mpr c6
    have c6b1 : (a0 != 1) = true := bne_iff_ne.mpr c6
    by_cases c7 : a0 = 2
    ·rw [if_pos c7] at H
     have c7b0 : (a0 == 2) = true := beq_iff_eq.mpr c7
     have c7b1 : (a0 != 2) = false := bne_eq_false_iff_eq.mpr c7
     clear c7
     obtain rfl := Option.some.inj H
     go_enter Tryd.func9, Tryd.ntmps9
     go_wp2
     go_ret
     exact ⟨by first | rfl | (simp; done) | (simp [*]; done), by repeat (first | exact Drawn0.refl _ | apply Drawn0.step)⟩
    ·rw [if_neg c7] at H
     have c7b0 : (a0 == 2) = false := beq_eq_false_iff_ne.mpr c7
     have c7b1 : (a0 != 2) = true := bne_iff_ne.mpr c7
     obtain rfl := Option.some.inj H
     go_enter Tryd.func9, Tryd.ntmps9
     go_wp2
     go_ret
     exact ⟨by first | rfl | (simp; done) | (simp [*]; done), by repeat (first | exact Drawn0.refl _ | apply Drawn0.step)⟩

/-- THE ONE PURE STATEMENT of laws_answer: yours. -/
def laws_answer.Pure : Prop := ∀ (a0 : Int) (a1 : Int) (a2 : Bool), (Lit.int .i64 a0).wf = true → (Lit.int .i64 a1).wf = true → laws_answer.f a0 a1 a2 = some true
theorem laws_answer.walk (P : laws_answer.Pure) (a0 : Int) (a1 : Int) (a2 : Bool) (w : World) (w0 : (Lit.int .i64 a0).wf = true) (w1 : (Lit.int .i64 a1).wf = true) :
  Calls Tryd.prog 9 #[.int .i64 a0, .int .i64 a1, .bool a2] w fun e w' => e = .returned (.bool true) ∧ Below w.heap.size w w' := by
 have h := P a0 a1 a2 w0 w1
 refine (laws_answer.calls a0 a1 a2 true w h).mono ?_
 rintro e w' ⟨rfl, hd⟩
 exact ⟨rfl, hd.below⟩

/-! ### impl_operator: function 18 -/
def impl_operator.f (a0 : Int) : Option (Int) := (some (([0, 1, 2, 3] : List Int) : List Int)).bind fun y112 => (if 0 ≤ a0 then (if a0 < (y112.length : Int) then (some (rd y112 a0)) else (none)) else (none))
set_option maxHeartbeats 8000000 in
set_option maxRecDepth 100000 in
theorem impl_operator.calls (a0 : Int) (r : Int) (w : World) (h : impl_operator.f a0 = some r) :
  Calls Tryd.prog 18 #[.int .i64 a0] w fun e w' => e = .returned (.int .i8 r) ∧ Below w.heap.size w w' := by
 have HB := qaM (Below.refl w.heap.size w)
 have H : ((some (([0, 1, 2, 3] : List Int) : List Int)).bind fun y112 => (if 0 ≤ a0 then (if a0 < (y112.length : Int) then (some (rd y112 a0)) else (none)) else (none))) = some r := h
 clear h
 obtain ⟨y112, hy112⟩ : ∃ y_ : List Int, y_ = (([0, 1, 2, 3] : List Int)) := ⟨_, rfl⟩
 replace H : (if 0 ≤ a0 then (if a0 < (y112.length : Int) then (some (rd y112 a0)) else (none)) else (none)) = some r := by first | (rw [hy112]; with_reducible exact H) | (have H2_ := (Option.bind_some _ _).symm.trans H; rw [hy112]; with_reducible exact H2_) | (have H2_ := (Option.bind_some _ _).symm.trans H; with_reducible exact H2_) | with_reducible exact H | (rw [hy112]; exact H) | exact H
 have Ny112 := qaM hy112
 clear hy112
 by_cases c2 : 0 ≤ a0
 ·rw [if_pos c2] at H
  have c2b0 : decide (0 ≤ a0) = true := decide_eq_true c2
  clear c2
  by_cases c3 : a0 < (y112.length : Int)
  ·rw [if_pos c3] at H
   have c3b0 : decide (a0 < (y112.length : Int)) = true := decide_eq_true c3
   clear c3
   obtain rfl := Option.some.inj H
   go_enter Tryd.func18, Tryd.ntmps18
   go_wp2_with (first | ((with_reducible refine gate_dst (N := 3) rfl ?_); refine Kd.R_lit (Kd.int .i8) _ 54 ?hg (N := 3) ?hd (xs := ([0, 1, 2, 3] : List Int)) (inner := [.int .i8 0, .int .i8 1, .int .i8 2, .int .i8 3]) (ok := fun _ => True) (okp := fun _ => True) ?hr ?hp (fun _ hk => hk) trivial (Below.refl _ _) (Nat.le_refl _) (by simp) ?_; (case hd => rfl); (case hg => rfl); (case hr => first | (go_simp; done) | (go_simp; rfl)); (case hp => exact (Reps.one (show Kd.M (Kd.int .i8) _ _ _ 0 [.int .i8 0] from rfl) (Reps.one (show Kd.M (Kd.int .i8) _ _ _ 1 [.int .i8 1] from rfl) (Reps.one (show Kd.M (Kd.int .i8) _ _ _ 2 [.int .i8 2] from rfl) (Reps.one (show Kd.M (Kd.int .i8) _ _ _ 3 [.int .i8 3] from rfl) (Reps.none _ _)))))); intro v113 w4 ho5 hb hg_ hnew_; clear hg_ hnew_; (first | rw [← Ny112.out] at ho5 | (simp only [Int.reduceToNat] at ho5; rw [← Ny112.out] at ho5)); have n0_ := qaM (Kd.R_lower ho5 (qbS (by repeat (first | (with_reducible first | exact HB.out | apply qwA | apply qwN | apply qwD) | exact HB.out)))); have n1_ := qaM (qbT (by repeat (first | (with_reducible first | exact HB.out | apply qwA | apply qwN | apply qwD) | exact HB.out)) hb); clear HB; have HO114 := n0_; have HB := n1_; clear n0_ n1_; clear hb ho5; obtain ⟨Ao6, co6, eo6⟩ := Kd.R_slice HO114.out; subst eo6; have p115 : 0 ≤ (a0 : Int) := qoD (by first | (with_reducible assumption) | assumption); have q115 : a0 < (y112.length : Int) := qoD (by first | (with_reducible assumption) | assumption); obtain ⟨ad115, e115, hx115_0⟩ := Kd.at_int (qrR HO114.out).2.2 a0 p115 q115; cases e115; replace p115 := eq_true p115; replace q115 := eq_true q115))
   go_ret
   exact ⟨by first | rfl | (simp [errW_none, errW_some] <;> rfl) | (simp [*, errW_none, errW_some] <;> rfl), by repeat (first | (with_reducible first | exact HB.out | apply qwA | apply qwN | apply qwD) | exact HB.out)⟩
  ·rw [if_neg c3] at H
   exact absurd H (by simp)
 ·rw [if_neg c2] at H
  exact absurd H (by simp)

/-! ### spec_magCmp: function 19 -/
def spec_magCmp.l0 : Nat → List Int → List Int → Int → Option (Int)
 | 0, _, _, _ => none
 | k + 1, x0, x1, x5 => if x5 ≥ 0 then (if 0 ≤ x5 then (if x5 < (x0.length : Int) then (if x5 < (x1.length : Int) then (if (rd x0 x5) < (rd x1 x5) then (some (-1)) else (if (rd x0 x5) > (rd x1 x5) then (some 1) else (spec_magCmp.l0 k x0 x1 (wrap64 (x5 - 1))))) else (none)) else (none)) else (none)) else (some 0)
def spec_magCmp.f (k : Nat) (l0 : List Int) (l1 : List Int) : Option (Int) := if (l0.length : Int) = (l1.length : Int) then (spec_magCmp.l0 k l0 l1 (wrap64 ((l0.length : Int) - 1))) else (if (l0.length : Int) < (l1.length : Int) then (some (-1)) else (some 1))
theorem spec_magCmp.mono_l : ∀ k, (∀ y0 y1 y2, LeO (spec_magCmp.l0 k y0 y1 y2) (spec_magCmp.l0 (k + 1) y0 y1 y2))
 | 0 => fun _ _ _ r h => by simp [spec_magCmp.l0] at h
 | k + 1 => by
  have ih0 := spec_magCmp.mono_l k
  ·intro y0 y1 y2
   unfold spec_magCmp.l0
   repeat' first
   | (with_reducible exact ih0 _ _ _)
   | (with_reducible exact LeO.refl _)
   | (with_reducible exact LeO.none _)
   | (with_reducible refine LeO.ite ?_ ?_)
   | (with_reducible refine LeO.bind ?_ (fun _ => ?_))
   | exact ih0 _ _ _
   | exact LeO.none _
   | refine LeO.ite ?_ ?_
   | refine LeO.bind ?_ (fun _ => ?_)
theorem spec_magCmp.mono : ∀ a0 a1 k, LeO (spec_magCmp.f k a0 a1) (spec_magCmp.f (k + 1) a0 a1) := by
 intro a0 a1 k
 have ih0 := spec_magCmp.mono_l k
 unfold spec_magCmp.f
 repeat' first
   | (with_reducible exact ih0 _ _ _)
   | (with_reducible exact LeO.refl _)
   | (with_reducible exact LeO.none _)
   | (with_reducible refine LeO.ite ?_ ?_)
   | (with_reducible refine LeO.bind ?_ (fun _ => ?_))
   | exact ih0 _ _ _
   | exact LeO.none _
   | refine LeO.ite ?_ ?_
   | refine LeO.bind ?_ (fun _ => ?_)
set_option maxHeartbeats 8000000 in
set_option maxRecDepth 100000 in
theorem spec_magCmp.calls (k : Nat) (A0 : Option Addr) (c0 : Nat) (l0 : List Int) (A1 : Option Addr) (c1 : Nat) (l1 : List Int) (r : Int) (w : World) (hr0 : Kd.C (Kd.int .u32) w A0 l0.length l0) (hc0 : l0.length ≤ c0) (hr1 : Kd.C (Kd.int .u32) w A1 l1.length l1) (hc1 : l1.length ≤ c1) (h : spec_magCmp.f k l0 l1 = some r) :
  Calls Tryd.prog 19 #[.slice A0 l0.length c0, .slice A1 l1.length c1] w fun e w' => e = .returned (.int .i64 r) ∧ Drawn0 w w' := by
 have HR0 := qaM hr0
 have HC0 := qaM hc0
 clear hr0 hc0
 have HR1 := qaM hr1
 have HC1 := qaM hc1
 clear hr1 hc1
 have H : (if (l0.length : Int) = (l1.length : Int) then (spec_magCmp.l0 k l0 l1 (wrap64 ((l0.length : Int) - 1))) else (if (l0.length : Int) < (l1.length : Int) then (some (-1)) else (some 1))) = some r := h
 clear h
 by_cases c3 : (l0.length : Int) = (l1.length : Int)
 ·rw [if_pos c3] at H
  have c3b0 : ((l0.length : Int) == (l1.length : Int)) = true := beq_iff_eq.mpr c3
  have c3b1 : ((l0.length : Int) != (l1.length : Int)) = false := bne_eq_false_iff_eq.mpr c3
  have c3b2 : (l0.length == l1.length) = true := by first | simpa using c3 | (simp at c3 ⊢; omega)
  clear c3
  have H' := qaM H
  clear H
  go_enter Tryd.func19, Tryd.ntmps19
  go_wp2
  repeat (go_quiet (fail); try go_wp2)
  go_loopg [5] k (fun kq v5 w' => ∃ (x5_1 : Int), v5 = .int .i64 x5_1 ∧ Aside0 (spec_magCmp.l0 kq l0 l1 x5_1 = some r) ∧ Aside0 (kq ≤ k) ∧ Drawn0 w w')
  case atStart => exact ⟨(wrap64 ((l0.length : Int) - 1)), (by first | rfl | (simp; done) | (simp [*]; done)), H', ⟨Nat.le_refl _⟩, by repeat (first | exact Drawn0.refl _ | apply Drawn0.step)⟩
  case round =>
   clear H'
   try clear c1
   try clear p2
   try clear c3
   try clear c3b0
   try clear c3b1
   try clear c3b2
   obtain ⟨x5_1, rfl, HA, HK1, ⟨m1, rfl⟩⟩ := hrel
   cases gk with
   | zero => exact absurd HA.out (by simp [spec_magCmp.l0])
   | succ k1 =>
    have H := HA.out
    clear HA
    simp only [spec_magCmp.l0] at H
    by_cases c4 : x5_1 ≥ 0
    ·rw [if_pos c4] at H
     have c4b0 : decide (0 ≤ x5_1) = true := decide_eq_true c4
     clear c4
     by_cases c5 : 0 ≤ x5_1
     ·rw [if_pos c5] at H
      have c5b0 : decide (0 ≤ x5_1) = true := decide_eq_true c5
      clear c5
      by_cases c6 : x5_1 < (l0.length : Int)
      ·rw [if_pos c6] at H
       have c6b0 : decide (x5_1 < (l0.length : Int)) = true := decide_eq_true c6
       clear c6
       by_cases c7 : x5_1 < (l1.length : Int)
       ·rw [if_pos c7] at H
        have c7b0 : decide (x5_1 < (l1.length : Int)) = true := decide_eq_true c7
        clear c7
        by_cases c8 : (rd l0 x5_1) < (rd l1 x5_1)
        ·rw [if_pos c8] at H
         have c8b0 : decide ((rd l0 x5_1) < (rd l1 x5_1)) = true := decide_eq_true c8
         clear c8
         obtain rfl := Option.some.inj H
         have p116 : 0 ≤ (x5_1 : Int) := qoD (by first | (with_reducible assumption) | assumption)
         have q116 : x5_1 < (l0.length : Int) := qoD (by first | (with_reducible assumption) | assumption)
         obtain ⟨ad116, e116, hx116_0⟩ := Kd.at_int HR0.out x5_1 p116 q116
         cases e116
         replace p116 := eq_true p116
         replace q116 := eq_true q116
         have p117 : 0 ≤ (x5_1 : Int) := qoD (by first | (with_reducible assumption) | assumption)
         have q117 : x5_1 < (l1.length : Int) := qoD (by first | (with_reducible assumption) | assumption)
         obtain ⟨ad117, e117, hx117_0⟩ := Kd.at_int HR1.out x5_1 p117 q117
         cases e117
         replace p117 := eq_true p117
         replace q117 := eq_true q117
         go_wp2
         repeat (go_quiet (fail); try go_wp2)
         go_ret
         exact ⟨by first | rfl | (simp; done) | (simp [*]; done), by repeat (first | exact Drawn0.refl _ | apply Drawn0.step)⟩
        ·rw [if_neg c8] at H
         have c8b0 : decide ((rd l0 x5_1) < (rd l1 x5_1)) = false := decide_eq_false c8
         clear c8
         by_cases c9 : (rd l0 x5_1) > (rd l1 x5_1)
         ·rw [if_pos c9] at H
          have c9b0 : decide ((rd l1 x5_1) < (rd l0 x5_1)) = true := decide_eq_true c9
          clear c9
          obtain rfl := Option.some.inj H
          have p116 : 0 ≤ (x5_1 : Int) := qoD (by first | (with_reducible assumption) | assumption)
          have q116 : x5_1 < (l0.length : Int) := qoD (by first | (with_reducible assumption) | assumption)
          obtain ⟨ad116, e116, hx116_0⟩ := Kd.at_int HR0.out x5_1 p116 q116
          cases e116
          replace p116 := eq_true p116
          replace q116 := eq_true q116
          have p117 : 0 ≤ (x5_1 : Int) := qoD (by first | (with_reducible assumption) | assumption)
          have q117 : x5_1 < (l1.length : Int) := qoD (by first | (with_reducible assumption) | assumption)
          obtain ⟨ad117, e117, hx117_0⟩ := Kd.at_int HR1.out x5_1 p117 q117
          cases e117
          replace p117 := eq_true p117
          replace q117 := eq_true q117
          have p118 : 0 ≤ (x5_1 : Int) := qoD (by first | (with_reducible assumption) | assumption)
          have q118 : x5_1 < (l0.length : Int) := qoD (by first | (with_reducible assumption) | assumption)
          obtain ⟨ad118, e118, hx118_0⟩ := Kd.at_int HR0.out x5_1 p118 q118
          obtain rfl : ad116 = ad118 := (by injection e118)
          replace p118 := eq_true p118
          replace q118 := eq_true q118
          have p119 : 0 ≤ (x5_1 : Int) := qoD (by first | (with_reducible assumption) | assumption)
          have q119 : x5_1 < (l1.length : Int) := qoD (by first | (with_reducible assumption) | assumption)
          obtain ⟨ad119, e119, hx119_0⟩ := Kd.at_int HR1.out x5_1 p119 q119
          obtain rfl : ad117 = ad119 := (by injection e119)
          replace p119 := eq_true p119
          replace q119 := eq_true q119
          go_wp2
          repeat (go_quiet (fail); try go_wp2)
          go_ret
          exact ⟨by first | rfl | (simp; done) | (simp [*]; done), by repeat (first | exact Drawn0.refl _ | apply Drawn0.step)⟩
         ·rw [if_neg c9] at H
          have c9b0 : decide ((rd l1 x5_1) < (rd l0 x5_1)) = false := decide_eq_false c9
          clear c9
          have H' := qaM H
          clear H
          have p116 : 0 ≤ (x5_1 : Int) := qoD (by first | (with_reducible assumption) | assumption)
          have q116 : x5_1 < (l0.length : Int) := qoD (by first | (with_reducible assumption) | assumption)
          obtain ⟨ad116, e116, hx116_0⟩ := Kd.at_int HR0.out x5_1 p116 q116
          cases e116
          replace p116 := eq_true p116
          replace q116 := eq_true q116
          have p117 : 0 ≤ (x5_1 : Int) := qoD (by first | (with_reducible assumption) | assumption)
          have q117 : x5_1 < (l1.length : Int) := qoD (by first | (with_reducible assumption) | assumption)
          obtain ⟨ad117, e117, hx117_0⟩ := Kd.at_int HR1.out x5_1 p117 q117
          cases e117
          replace p117 := eq_true p117
          replace q117 := eq_true q117
          have p118 : 0 ≤ (x5_1 : Int) := qoD (by first | (with_reducible assumption) | assumption)
          have q118 : x5_1 < (l0.length : Int) := qoD (by first | (with_reducible assumption) | assumption)
          obtain ⟨ad118, e118, hx118_0⟩ := Kd.at_int HR0.out x5_1 p118 q118
          obtain rfl : ad116 = ad118 := (by injection e118)
          replace p118 := eq_true p118
          replace q118 := eq_true q118
          have p119 : 0 ≤ (x5_1 : Int) := qoD (by first | (with_reducible assumption) | assumption)
          have q119 : x5_1 < (l1.length : Int) := qoD (by first | (with_reducible assumption) | assumption)
          obtain ⟨ad119, e119, hx119_0⟩ := Kd.at_int HR1.out x5_1 p119 q119
          obtain rfl : ad117 = ad119 := (by injection e119)
          replace p119 := eq_true p119
          replace q119 := eq_true q119
          go_wp2
          repeat (go_quiet (fail); try go_wp2)
          go_roundg k1
          case measure => have := HK1.out; omega
          case rel => exact ⟨(wrap64 (x5_1 - 1)), (by first | rfl | (simp; done) | (simp [*]; done)), H', ⟨by have := HK1.out; omega⟩, by repeat (first | exact Drawn0.refl _ | apply Drawn0.step)⟩
       ·rw [if_neg c7] at H
        exact absurd H (by simp)
      ·rw [if_neg c6] at H
       exact absurd H (by simp)
     ·rw [if_neg c5] at H
      exact absurd H (by simp)
    ·rw [if_neg c4] at H
     have c4b0 : decide (0 ≤ x5_1) = false := decide_eq_false c4
     clear c4
     obtain rfl := Option.some.inj H
     go_wp2
     repeat (go_quiet (fail); try go_wp2)
     go_ret
     exact ⟨by first | rfl | (simp; done) | (simp [*]; done), by repeat (first | exact Drawn0.refl _ | apply Drawn0.step)⟩
 ·rw [if_neg c3] at H
  have c3b0 : ((l0.length : Int) == (l1.length : Int)) = false := beq_eq_false_iff_ne.mpr c3
  have c3b1 : ((l0.length : Int) != (l1.length : Int)) = true := bne_iff_ne.mpr c3
  have c3b2 : (l0.length == l1.length) = false := by first | simpa using c3 | (simp at c3 ⊢; omega)
  by_cases c10 : (l0.length : Int) < (l1.length : Int)
  ·rw [if_pos c10] at H
   have c10b0 : decide ((l0.length : Int) < (l1.length : Int)) = true := decide_eq_true c10
   have c10b1 : decide (l0.length < l1.length) = true := decide_eq_true (Int.ofNat_lt.mp c10)
   clear c10
   obtain rfl := Option.some.inj H
   go_enter Tryd.func19, Tryd.ntmps19
   go_wp2
   repeat (go_quiet (fail); try go_wp2)
   go_ret
   exact ⟨by first | rfl | (simp; done) | (simp [*]; done), by repeat (first | exact Drawn0.refl _ | apply Drawn0.step)⟩
  ·rw [if_neg c10] at H
   have c10b0 : decide ((l0.length : Int) < (l1.length : Int)) = false := decide_eq_false c10
   have c10b1 : decide (l0.length < l1.length) = false := decide_eq_false (fun h => c10 (Int.ofNat_lt.mpr h))
   clear c10
   obtain rfl := Option.some.inj H
   go_enter Tryd.func19, Tryd.ntmps19
   go_wp2
   repeat (go_quiet (fail); try go_wp2)
   go_ret
   exact ⟨by first | rfl | (simp; done) | (simp [*]; done), by repeat (first | exact Drawn0.refl _ | apply Drawn0.step)⟩

end Go.Proofs.YtlnbkmkdapeicaaDoor.QT
