/- The kernels' checked products and sums, and the product of 64 bits, for every two numbers: the number and true where it fits the type, else 0 and false (of 64 bits: what the code gives, spelt out). -/
import Derived.Test.YtelpdndlmhcdoaaWMore
import Derived.Test.YtelpdndlmhcdoaaProg
import Derived.WalkKit
import Derived.Deep.QuietTactic
import Derived.BigQuiet
import Derived.WideLaws
import Derived.KernelRfl
namespace Go.Proofs.Ytelpdndlmhcdoaa.QAll
open Go.RowKit Go.Proofs.YtelpdndlmhcdoaaW.PrintWords Go.Proofs.YtelpdndlmhcdoaaW.PrintLast Go.Proofs.YtelpdndlmhcdoaaW.PrintMore
set_option linter.unusedVariables false
theorem err_new (s : ByteArray) (w : World) : Calls Try.prog 50 #[.string s] w fun e w' => (∃ v, e = .returned (.iface 90 v)) ∧ Below w.heap.size w w' := by
  go_enter Try.func50, Try.ntmps50
  go_wp2
  go_ret
  exact ⟨⟨_, rfl⟩, below_alloc (Below.refl _ _) _⟩
theorem size_i32 (w : World) : Calls Try.prog 58 #[] w fun e w' => e = .returned (.int .u64 4) ∧ w = w' := by
  go_enter Try.func58, Try.ntmps58
  go_wp2
  go_ret
  exact ⟨congrArg (fun x => Ending.returned (Value.int .u64 x)) (by decide +kernel), rfl⟩
theorem size_i8 (w : World) : Calls Try.prog 59 #[] w fun e w' => e = .returned (.int .u64 1) ∧ w = w' := by
  go_enter Try.func59, Try.ntmps59
  go_wp2
  go_ret
  exact ⟨congrArg (fun x => Ending.returned (Value.int .u64 x)) (by decide +kernel), rfl⟩
theorem size_u32 (w : World) : Calls Try.prog 56 #[] w fun e w' => e = .returned (.int .u64 4) ∧ w = w' := by
  go_enter Try.func56, Try.ntmps56
  go_wp2
  go_ret
  exact ⟨congrArg (fun x => Ending.returned (Value.int .u64 x)) (by decide +kernel), rfl⟩
theorem size_u8 (w : World) : Calls Try.prog 57 #[] w fun e w' => e = .returned (.int .u64 1) ∧ w = w' := by
  go_enter Try.func57, Try.ntmps57
  go_wp2
  go_ret
  exact ⟨congrArg (fun x => Ending.returned (Value.int .u64 x)) (by decide +kernel), rfl⟩
theorem min_i32 (w : World) : Calls Try.prog 52 #[] w fun e w' => e = .returned (.int .i32 (-2147483648)) ∧ w = w' := by
  go_enter Try.func52, Try.ntmps52
  go_wp2_with (go_at_call 58; refine (size_i32 _).mono ?_; rintro e w' ⟨rfl, rfl⟩)
  go_ret
  exact ⟨congrArg (fun x => Ending.returned (Value.int .i32 x)) (by decide +kernel), rfl⟩
theorem max_i32 (w : World) : Calls Try.prog 53 #[] w fun e w' => e = .returned (.int .i32 2147483647) ∧ w = w' := by
  go_enter Try.func53, Try.ntmps53
  go_wp2_with (go_at_call 58; refine (size_i32 _).mono ?_; rintro e w' ⟨rfl, rfl⟩)
  go_ret
  exact ⟨congrArg (fun x => Ending.returned (Value.int .i32 x)) (by decide +kernel), rfl⟩
theorem min_i8 (w : World) : Calls Try.prog 54 #[] w fun e w' => e = .returned (.int .i8 (-128)) ∧ w = w' := by
  go_enter Try.func54, Try.ntmps54
  go_wp2_with (go_at_call 59; refine (size_i8 _).mono ?_; rintro e w' ⟨rfl, rfl⟩)
  go_ret
  exact ⟨congrArg (fun x => Ending.returned (Value.int .i8 x)) (by decide +kernel), rfl⟩
theorem max_i8 (w : World) : Calls Try.prog 55 #[] w fun e w' => e = .returned (.int .i8 127) ∧ w = w' := by
  go_enter Try.func55, Try.ntmps55
  go_wp2_with (go_at_call 59; refine (size_i8 _).mono ?_; rintro e w' ⟨rfl, rfl⟩)
  go_ret
  exact ⟨congrArg (fun x => Ending.returned (Value.int .i8 x)) (by decide +kernel), rfl⟩
theorem max_u32 (w : World) : Calls Try.prog 49 #[] w fun e w' => e = .returned (.int .u32 4294967295) ∧ w = w' := by
  go_enter Try.func49, Try.ntmps49
  go_wp2_with (go_at_call 56; refine (size_u32 _).mono ?_; rintro e w' ⟨rfl, rfl⟩)
  go_ret
  exact ⟨congrArg (fun x => Ending.returned (Value.int .u32 x)) (by decide +kernel), rfl⟩
theorem max_u8 (w : World) : Calls Try.prog 51 #[] w fun e w' => e = .returned (.int .u8 255) ∧ w = w' := by
  go_enter Try.func51, Try.ntmps51
  go_wp2_with (go_at_call 57; refine (size_u8 _).mono ?_; rintro e w' ⟨rfl, rfl⟩)
  go_ret
  exact ⟨congrArg (fun x => Ending.returned (Value.int .u8 x)) (by decide +kernel), rfl⟩


/-! ### what the tests say -/
theorem quo_pp {a b M : Int} (hb : 0 < b) : (M / b < a ↔ M < a * b) := Int.ediv_lt_iff_lt_mul hb
theorem quo_np {a b m : Int} (ha : 0 < a) (hm : 0 ≤ m) : (b < -(Int.tdiv m a) ↔ a * b < -m) := by
  rw [Int.tdiv_eq_ediv_of_nonneg hm]
  have h := Int.ediv_lt_iff_lt_mul (a := m) (b := -b) (c := a) ha
  rw [Int.neg_mul, Int.mul_comm b a] at h
  omega
theorem quo_nn {a b M : Int} (ha : a < 0) (hM : 0 ≤ M) : (b < M.tdiv a ↔ M < a * b) := by
  have h0 : M.tdiv a = -(M / (-a)) := by
    have : M.tdiv (-(-a)) = -(M.tdiv (-a)) := Int.tdiv_neg _ _
    rw [Int.neg_neg] at this
    rw [this, Int.tdiv_eq_ediv_of_nonneg hM]
  have h := Int.ediv_lt_iff_lt_mul (a := M) (b := -b) (c := -a) (by omega)
  rw [h0, show a * b = (-b) * (-a) from by rw [Int.neg_mul_neg, Int.mul_comm]]
  omega
theorem quo_bd {a m : Int} (hm : 0 ≤ m) : -m ≤ -(Int.tdiv m a) ∧ -(Int.tdiv m a) ≤ m := by
  have h := Int.natAbs_tdiv_le_natAbs m a
  omega
theorem quo_bd2 {a m : Int} (hm : 0 ≤ m) : -m ≤ m.tdiv a ∧ m.tdiv a ≤ m := by
  have h := Int.natAbs_tdiv_le_natAbs m a
  omega

/-! ### products of i32 -/
def End_i32 (a b : Int) (e : Ending) : Prop := ((-2147483648) ≤ a * b ∧ a * b ≤ 2147483647 ∧ e = .returned (.tuple #[.int .i32 (a * b), .nilIface])) ∨ (¬ ((-2147483648) ≤ a * b ∧ a * b ≤ 2147483647) ∧ ∃ v, e = .returned (.tuple #[.int .i32 0, .iface 90 v]))
theorem end_no_i32 {a b : Int} {v : Value} (h : a * b < (-2147483648) ∨ 2147483647 < a * b) : End_i32 a b (.returned (.tuple #[.int .i32 0, .iface 90 v])) := .inr ⟨by omega, v, rfl⟩
theorem wrap_i32 {x : Int} (h : (-2147483648) ≤ x) (h' : x ≤ 2147483647) : wrap32 x = x := by unfold wrap32; omega
theorem end_yes_i32 {a b : Int} (h : (-2147483648) ≤ a * b) (h' : a * b ≤ 2147483647) : End_i32 a b (.returned (.tuple #[.int .i32 (wrap32 (a * b)), .nilIface])) := .inl ⟨h, h', by rw [wrap_i32 h h']⟩
theorem quo_lo_i32 (d : Int) (hd : 0 < d) : -(Int.tdiv 2147483648 d) ≤ 0 := by
  rw [Int.tdiv_eq_ediv_of_nonneg (by omega)]
  have := Int.ediv_nonneg (a := 2147483648) (b := d) (by omega) (by omega)
  omega
theorem mul_pp_no_i32 (a b : Int) (w : World) (hx : (-2147483648) ≤ a) (hx' : a ≤ 2147483647) (hy : (-2147483648) ≤ b) (hy' : b ≤ 2147483647) (ha : 0 < a) (hp : 0 < b) (h : 2147483647 / b < a) : Calls Try.prog 46 #[.int .i32 a, .int .i32 b] w fun e w' => End_i32 a b e ∧ Below w.heap.size w w' := by
  have X : Aside0 (a * b < (-2147483648) ∨ 2147483647 < a * b) := ⟨.inr ((quo_pp hp).1 h)⟩
  have h1 : decide (2147483647 / b < a) = true := decide_eq_true h
  go_enter Try.func46, Try.ntmps46
  go_wp2_with (first | (go_at_call 52; refine (min_i32 _).mono ?_; rintro e w' ⟨rfl, rfl⟩) | (go_at_call 53; refine (max_i32 _).mono ?_; rintro e w' ⟨rfl, rfl⟩) | (go_at_call 50; refine (err_new _ _).mono ?_; rintro e w' ⟨⟨v, rfl⟩, hb⟩))
  go_ret2
  exact ⟨end_no_i32 X.out, hb⟩
theorem mul_pp_yes_i32 (a b : Int) (w : World) (hx : (-2147483648) ≤ a) (hx' : a ≤ 2147483647) (hy : (-2147483648) ≤ b) (hy' : b ≤ 2147483647) (ha : 0 < a) (hp : 0 < b) (h : ¬ 2147483647 / b < a) : Calls Try.prog 46 #[.int .i32 a, .int .i32 b] w fun e w' => End_i32 a b e ∧ Below w.heap.size w w' := by
  have h0 : ¬ 2147483647 < a * b := fun hc => h ((quo_pp hp).2 hc)
  have hpos : 0 < a * b := Int.mul_pos ha hp
  have X : Aside0 ((-2147483648) ≤ a * b ∧ a * b ≤ 2147483647) := ⟨⟨by omega, by omega⟩⟩
  have h1 : decide (2147483647 / b < a) = false := decide_eq_false h
  clear h0 hpos
  go_enter Try.func46, Try.ntmps46
  go_wp2_with (first | (go_at_call 52; refine (min_i32 _).mono ?_; rintro e w' ⟨rfl, rfl⟩) | (go_at_call 53; refine (max_i32 _).mono ?_; rintro e w' ⟨rfl, rfl⟩) | (go_at_call 50; refine (err_new _ _).mono ?_; rintro e w' ⟨⟨v, rfl⟩, hb⟩))
  go_ret2
  exact ⟨end_yes_i32 X.out.1 X.out.2, Below.refl _ _⟩
theorem mul_pn_no_i32 (a b : Int) (w : World) (hx : (-2147483648) ≤ a) (hx' : a ≤ 2147483647) (hy : (-2147483648) ≤ b) (hy' : b ≤ 2147483647) (ha : 0 < a) (hp : ¬ 0 < b) (h : b < wrap32 (-Int.tdiv 2147483648 a)) : Calls Try.prog 46 #[.int .i32 a, .int .i32 b] w fun e w' => End_i32 a b e ∧ Below w.heap.size w w' := by
  have hw : wrap32 (-Int.tdiv 2147483648 a) = (-Int.tdiv 2147483648 a) := wrap_i32 (by have := quo_bd (a := a) (m := 2147483648) (by omega); omega) (by have := quo_lo_i32 a (by omega); omega)
  have hq := (quo_np ha (m := 2147483648) (b := b) (by omega)).1 (by rw [← hw]; exact h)
  have X : Aside0 (a * b < (-2147483648) ∨ 2147483647 < a * b) := ⟨.inl hq⟩
  have h1 : decide (b < wrap32 (-Int.tdiv 2147483648 a)) = true := decide_eq_true h
  clear hw hq
  go_enter Try.func46, Try.ntmps46
  go_wp2_with (first | (go_at_call 52; refine (min_i32 _).mono ?_; rintro e w' ⟨rfl, rfl⟩) | (go_at_call 53; refine (max_i32 _).mono ?_; rintro e w' ⟨rfl, rfl⟩) | (go_at_call 50; refine (err_new _ _).mono ?_; rintro e w' ⟨⟨v, rfl⟩, hb⟩))
  go_ret2
  exact ⟨end_no_i32 X.out, hb⟩
theorem mul_pn_yes_i32 (a b : Int) (w : World) (hx : (-2147483648) ≤ a) (hx' : a ≤ 2147483647) (hy : (-2147483648) ≤ b) (hy' : b ≤ 2147483647) (ha : 0 < a) (hp : ¬ 0 < b) (h : ¬ b < wrap32 (-Int.tdiv 2147483648 a)) : Calls Try.prog 46 #[.int .i32 a, .int .i32 b] w fun e w' => End_i32 a b e ∧ Below w.heap.size w w' := by
  have hw : wrap32 (-Int.tdiv 2147483648 a) = (-Int.tdiv 2147483648 a) := wrap_i32 (by have := quo_bd (a := a) (m := 2147483648) (by omega); omega) (by have := quo_lo_i32 a (by omega); omega)
  have hq : ¬ a * b < -2147483648 := fun hc => h (by rw [hw]; exact (quo_np ha (m := 2147483648) (b := b) (by omega)).2 hc)
  have hneg : a * b ≤ 0 := by have := Int.mul_nonneg (Int.le_of_lt ha) (show 0 ≤ -b by omega); rw [Int.mul_neg] at this; omega
  have X : Aside0 ((-2147483648) ≤ a * b ∧ a * b ≤ 2147483647) := ⟨⟨by omega, by omega⟩⟩
  have h1 : decide (b < wrap32 (-Int.tdiv 2147483648 a)) = false := decide_eq_false h
  clear hw hq hneg
  go_enter Try.func46, Try.ntmps46
  go_wp2_with (first | (go_at_call 52; refine (min_i32 _).mono ?_; rintro e w' ⟨rfl, rfl⟩) | (go_at_call 53; refine (max_i32 _).mono ?_; rintro e w' ⟨rfl, rfl⟩) | (go_at_call 50; refine (err_new _ _).mono ?_; rintro e w' ⟨⟨v, rfl⟩, hb⟩))
  go_ret2
  exact ⟨end_yes_i32 X.out.1 X.out.2, Below.refl _ _⟩
theorem mul_np_no_i32 (a b : Int) (w : World) (hx : (-2147483648) ≤ a) (hx' : a ≤ 2147483647) (hy : (-2147483648) ≤ b) (hy' : b ≤ 2147483647) (ha : ¬ 0 < a) (hp : 0 < b) (h : a < wrap32 (-Int.tdiv 2147483648 b)) : Calls Try.prog 46 #[.int .i32 a, .int .i32 b] w fun e w' => End_i32 a b e ∧ Below w.heap.size w w' := by
  have hw : wrap32 (-Int.tdiv 2147483648 b) = (-Int.tdiv 2147483648 b) := wrap_i32 (by have := quo_bd (a := b) (m := 2147483648) (by omega); omega) (by have := quo_lo_i32 b (by omega); omega)
  have hq := (quo_np hp (m := 2147483648) (b := a) (by omega)).1 (by rw [← hw]; exact h)
  rw [Int.mul_comm b a] at hq
  have X : Aside0 (a * b < (-2147483648) ∨ 2147483647 < a * b) := ⟨.inl hq⟩
  have h1 : decide (a < wrap32 (-Int.tdiv 2147483648 b)) = true := decide_eq_true h
  clear hw hq
  go_enter Try.func46, Try.ntmps46
  go_wp2_with (first | (go_at_call 52; refine (min_i32 _).mono ?_; rintro e w' ⟨rfl, rfl⟩) | (go_at_call 53; refine (max_i32 _).mono ?_; rintro e w' ⟨rfl, rfl⟩) | (go_at_call 50; refine (err_new _ _).mono ?_; rintro e w' ⟨⟨v, rfl⟩, hb⟩))
  go_ret2
  exact ⟨end_no_i32 X.out, hb⟩
theorem mul_np_yes_i32 (a b : Int) (w : World) (hx : (-2147483648) ≤ a) (hx' : a ≤ 2147483647) (hy : (-2147483648) ≤ b) (hy' : b ≤ 2147483647) (ha : ¬ 0 < a) (hp : 0 < b) (h : ¬ a < wrap32 (-Int.tdiv 2147483648 b)) : Calls Try.prog 46 #[.int .i32 a, .int .i32 b] w fun e w' => End_i32 a b e ∧ Below w.heap.size w w' := by
  have hw : wrap32 (-Int.tdiv 2147483648 b) = (-Int.tdiv 2147483648 b) := wrap_i32 (by have := quo_bd (a := b) (m := 2147483648) (by omega); omega) (by have := quo_lo_i32 b (by omega); omega)
  have hq : ¬ b * a < -2147483648 := fun hc => h (by rw [hw]; exact (quo_np hp (m := 2147483648) (b := a) (by omega)).2 hc)
  have hneg : b * a ≤ 0 := by have := Int.mul_nonneg (Int.le_of_lt hp) (show 0 ≤ -a by omega); rw [Int.mul_neg] at this; omega
  rw [Int.mul_comm b a] at hq
  rw [Int.mul_comm b a] at hneg
  have X : Aside0 ((-2147483648) ≤ a * b ∧ a * b ≤ 2147483647) := ⟨⟨by omega, by omega⟩⟩
  have h1 : decide (a < wrap32 (-Int.tdiv 2147483648 b)) = false := decide_eq_false h
  clear hw hq hneg
  go_enter Try.func46, Try.ntmps46
  go_wp2_with (first | (go_at_call 52; refine (min_i32 _).mono ?_; rintro e w' ⟨rfl, rfl⟩) | (go_at_call 53; refine (max_i32 _).mono ?_; rintro e w' ⟨rfl, rfl⟩) | (go_at_call 50; refine (err_new _ _).mono ?_; rintro e w' ⟨⟨v, rfl⟩, hb⟩))
  go_ret2
  exact ⟨end_yes_i32 X.out.1 X.out.2, Below.refl _ _⟩
theorem mul_nn_no_i32 (a b : Int) (w : World) (hx : (-2147483648) ≤ a) (hx' : a ≤ 2147483647) (hy : (-2147483648) ≤ b) (hy' : b ≤ 2147483647) (ha : a < 0) (hp : ¬ 0 < b) (h : b < wrap32 (Int.tdiv 2147483647 a)) : Calls Try.prog 46 #[.int .i32 a, .int .i32 b] w fun e w' => End_i32 a b e ∧ Below w.heap.size w w' := by
  have hw : wrap32 (Int.tdiv 2147483647 a) = Int.tdiv 2147483647 a := wrap_i32 (by have := quo_bd2 (a := a) (m := 2147483647) (by omega); omega) (by have := quo_bd2 (a := a) (m := 2147483647) (by omega); omega)
  have hq := (quo_nn (b := b) ha (M := 2147483647) (by omega)).1 (by rw [← hw]; exact h)
  have X : Aside0 (a * b < (-2147483648) ∨ 2147483647 < a * b) := ⟨.inr hq⟩
  have h1 : decide (b < wrap32 (Int.tdiv 2147483647 a)) = true := decide_eq_true h
  have h2 : (a != 0) = true := by rw [bne_iff_ne]; omega
  clear hw hq
  go_enter Try.func46, Try.ntmps46
  go_wp2_with (first | (go_at_call 52; refine (min_i32 _).mono ?_; rintro e w' ⟨rfl, rfl⟩) | (go_at_call 53; refine (max_i32 _).mono ?_; rintro e w' ⟨rfl, rfl⟩) | (go_at_call 50; refine (err_new _ _).mono ?_; rintro e w' ⟨⟨v, rfl⟩, hb⟩))
  go_ret2
  exact ⟨end_no_i32 X.out, hb⟩
theorem mul_nn_yes_i32 (a b : Int) (w : World) (hx : (-2147483648) ≤ a) (hx' : a ≤ 2147483647) (hy : (-2147483648) ≤ b) (hy' : b ≤ 2147483647) (ha : a < 0) (hp : ¬ 0 < b) (h : ¬ b < wrap32 (Int.tdiv 2147483647 a)) : Calls Try.prog 46 #[.int .i32 a, .int .i32 b] w fun e w' => End_i32 a b e ∧ Below w.heap.size w w' := by
  have hw : wrap32 (Int.tdiv 2147483647 a) = Int.tdiv 2147483647 a := wrap_i32 (by have := quo_bd2 (a := a) (m := 2147483647) (by omega); omega) (by have := quo_bd2 (a := a) (m := 2147483647) (by omega); omega)
  have hq : ¬ 2147483647 < a * b := fun hc => h (by rw [hw]; exact (quo_nn (b := b) ha (M := 2147483647) (by omega)).2 hc)
  have hpos : 0 ≤ a * b := by have := Int.mul_nonneg (show 0 ≤ -a by omega) (show 0 ≤ -b by omega); rwa [Int.neg_mul_neg] at this
  have X : Aside0 ((-2147483648) ≤ a * b ∧ a * b ≤ 2147483647) := ⟨⟨by omega, by omega⟩⟩
  have h1 : decide (b < wrap32 (Int.tdiv 2147483647 a)) = false := decide_eq_false h
  have h2 : (a != 0) = true := by rw [bne_iff_ne]; omega
  clear hw hq hpos
  go_enter Try.func46, Try.ntmps46
  go_wp2_with (first | (go_at_call 52; refine (min_i32 _).mono ?_; rintro e w' ⟨rfl, rfl⟩) | (go_at_call 53; refine (max_i32 _).mono ?_; rintro e w' ⟨rfl, rfl⟩) | (go_at_call 50; refine (err_new _ _).mono ?_; rintro e w' ⟨⟨v, rfl⟩, hb⟩))
  go_ret2
  exact ⟨end_yes_i32 X.out.1 X.out.2, Below.refl _ _⟩
theorem mul_zn_i32 (a b : Int) (w : World) (hx : (-2147483648) ≤ a) (hx' : a ≤ 2147483647) (hy : (-2147483648) ≤ b) (hy' : b ≤ 2147483647) (ha : a = 0) (hp : ¬ 0 < b) : Calls Try.prog 46 #[.int .i32 a, .int .i32 b] w fun e w' => End_i32 a b e ∧ Below w.heap.size w w' := by
  subst ha
  have X : Aside0 ((-2147483648) ≤ 0 * b ∧ 0 * b ≤ 2147483647) := ⟨⟨by omega, by omega⟩⟩
  go_enter Try.func46, Try.ntmps46
  go_wp2_with (first | (go_at_call 52; refine (min_i32 _).mono ?_; rintro e w' ⟨rfl, rfl⟩) | (go_at_call 53; refine (max_i32 _).mono ?_; rintro e w' ⟨rfl, rfl⟩) | (go_at_call 50; refine (err_new _ _).mono ?_; rintro e w' ⟨⟨v, rfl⟩, hb⟩))
  go_ret2
  exact ⟨.inl ⟨X.out.1, X.out.2, by rw [Int.zero_mul]; rfl⟩, Below.refl _ _⟩
theorem mul_all_i32 (a b : Int) (w : World) (hx : (-2147483648) ≤ a) (hx' : a ≤ 2147483647) (hy : (-2147483648) ≤ b) (hy' : b ≤ 2147483647) : Calls Try.prog 46 #[.int .i32 a, .int .i32 b] w fun e w' => End_i32 a b e ∧ Below w.heap.size w w' := by
  by_cases ha : 0 < a
  · by_cases hp : 0 < b
    · by_cases h : 2147483647 / b < a
      · exact mul_pp_no_i32 a b w hx hx' hy hy' ha hp h
      · exact mul_pp_yes_i32 a b w hx hx' hy hy' ha hp h
    · by_cases h : b < wrap32 (-Int.tdiv 2147483648 a)
      · exact mul_pn_no_i32 a b w hx hx' hy hy' ha hp h
      · exact mul_pn_yes_i32 a b w hx hx' hy hy' ha hp h
  · by_cases hp : 0 < b
    · by_cases h : a < wrap32 (-Int.tdiv 2147483648 b)
      · exact mul_np_no_i32 a b w hx hx' hy hy' ha hp h
      · exact mul_np_yes_i32 a b w hx hx' hy hy' ha hp h
    · by_cases hz : a = 0
      · exact mul_zn_i32 a b w hx hx' hy hy' hz hp
      · by_cases h : b < wrap32 (Int.tdiv 2147483647 a)
        · exact mul_nn_no_i32 a b w hx hx' hy hy' (by omega) hp h
        · exact mul_nn_yes_i32 a b w hx hx' hy hy' (by omega) hp h

/-! ### products of i8 -/
def End_i8 (a b : Int) (e : Ending) : Prop := ((-128) ≤ a * b ∧ a * b ≤ 127 ∧ e = .returned (.tuple #[.int .i8 (a * b), .nilIface])) ∨ (¬ ((-128) ≤ a * b ∧ a * b ≤ 127) ∧ ∃ v, e = .returned (.tuple #[.int .i8 0, .iface 90 v]))
theorem end_no_i8 {a b : Int} {v : Value} (h : a * b < (-128) ∨ 127 < a * b) : End_i8 a b (.returned (.tuple #[.int .i8 0, .iface 90 v])) := .inr ⟨by omega, v, rfl⟩
theorem wrap_i8 {x : Int} (h : (-128) ≤ x) (h' : x ≤ 127) : IntKind.i8.wrap x = x := by simp [IntKind.wrap, IntKind.signed, IntKind.bits]; omega
theorem end_yes_i8 {a b : Int} (h : (-128) ≤ a * b) (h' : a * b ≤ 127) : End_i8 a b (.returned (.tuple #[.int .i8 (IntKind.i8.wrap (a * b)), .nilIface])) := .inl ⟨h, h', by rw [wrap_i8 h h']⟩
theorem quo_lo_i8 (d : Int) (hd : 0 < d) : -(Int.tdiv 128 d) ≤ 0 := by
  rw [Int.tdiv_eq_ediv_of_nonneg (by omega)]
  have := Int.ediv_nonneg (a := 128) (b := d) (by omega) (by omega)
  omega
theorem mul_pp_no_i8 (a b : Int) (w : World) (hx : (-128) ≤ a) (hx' : a ≤ 127) (hy : (-128) ≤ b) (hy' : b ≤ 127) (ha : 0 < a) (hp : 0 < b) (h : 127 / b < a) : Calls Try.prog 47 #[.int .i8 a, .int .i8 b] w fun e w' => End_i8 a b e ∧ Below w.heap.size w w' := by
  have X : Aside0 (a * b < (-128) ∨ 127 < a * b) := ⟨.inr ((quo_pp hp).1 h)⟩
  have hw : IntKind.i8.wrap (Int.tdiv 127 b) = 127 / b := by
    rw [Int.tdiv_eq_ediv_of_nonneg (by omega)]
    refine wrap_i8 ?_ ?_
    · have := Int.ediv_nonneg (a := 127) (b := b) (by omega) (by omega); omega
    · exact Int.ediv_le_self _ (by omega)
  have h1 : decide (IntKind.i8.wrap (Int.tdiv 127 b) < a) = true := decide_eq_true (by rw [hw]; exact h)
  clear hw
  go_enter Try.func47, Try.ntmps47
  go_wp2_with (first | (go_at_call 54; refine (min_i8 _).mono ?_; rintro e w' ⟨rfl, rfl⟩) | (go_at_call 55; refine (max_i8 _).mono ?_; rintro e w' ⟨rfl, rfl⟩) | (go_at_call 50; refine (err_new _ _).mono ?_; rintro e w' ⟨⟨v, rfl⟩, hb⟩))
  go_ret2
  exact ⟨end_no_i8 X.out, hb⟩
theorem mul_pp_yes_i8 (a b : Int) (w : World) (hx : (-128) ≤ a) (hx' : a ≤ 127) (hy : (-128) ≤ b) (hy' : b ≤ 127) (ha : 0 < a) (hp : 0 < b) (h : ¬ 127 / b < a) : Calls Try.prog 47 #[.int .i8 a, .int .i8 b] w fun e w' => End_i8 a b e ∧ Below w.heap.size w w' := by
  have h0 : ¬ 127 < a * b := fun hc => h ((quo_pp hp).2 hc)
  have hpos : 0 < a * b := Int.mul_pos ha hp
  have X : Aside0 ((-128) ≤ a * b ∧ a * b ≤ 127) := ⟨⟨by omega, by omega⟩⟩
  have hw : IntKind.i8.wrap (Int.tdiv 127 b) = 127 / b := by
    rw [Int.tdiv_eq_ediv_of_nonneg (by omega)]
    refine wrap_i8 ?_ ?_
    · have := Int.ediv_nonneg (a := 127) (b := b) (by omega) (by omega); omega
    · exact Int.ediv_le_self _ (by omega)
  have h1 : decide (IntKind.i8.wrap (Int.tdiv 127 b) < a) = false := decide_eq_false (by rw [hw]; exact h)
  clear hw
  clear h0 hpos
  go_enter Try.func47, Try.ntmps47
  go_wp2_with (first | (go_at_call 54; refine (min_i8 _).mono ?_; rintro e w' ⟨rfl, rfl⟩) | (go_at_call 55; refine (max_i8 _).mono ?_; rintro e w' ⟨rfl, rfl⟩) | (go_at_call 50; refine (err_new _ _).mono ?_; rintro e w' ⟨⟨v, rfl⟩, hb⟩))
  go_ret2
  exact ⟨end_yes_i8 X.out.1 X.out.2, Below.refl _ _⟩
theorem mul_pn_no_i8 (a b : Int) (w : World) (hx : (-128) ≤ a) (hx' : a ≤ 127) (hy : (-128) ≤ b) (hy' : b ≤ 127) (ha : 0 < a) (hp : ¬ 0 < b) (h : b < IntKind.i8.wrap (-Int.tdiv 128 a)) : Calls Try.prog 47 #[.int .i8 a, .int .i8 b] w fun e w' => End_i8 a b e ∧ Below w.heap.size w w' := by
  have hw : IntKind.i8.wrap (-Int.tdiv 128 a) = (-Int.tdiv 128 a) := wrap_i8 (by have := quo_bd (a := a) (m := 128) (by omega); omega) (by have := quo_lo_i8 a (by omega); omega)
  have hq := (quo_np ha (m := 128) (b := b) (by omega)).1 (by rw [← hw]; exact h)
  have X : Aside0 (a * b < (-128) ∨ 127 < a * b) := ⟨.inl hq⟩
  have h1 : decide (b < IntKind.i8.wrap (-Int.tdiv 128 a)) = true := decide_eq_true h
  clear hw hq
  go_enter Try.func47, Try.ntmps47
  go_wp2_with (first | (go_at_call 54; refine (min_i8 _).mono ?_; rintro e w' ⟨rfl, rfl⟩) | (go_at_call 55; refine (max_i8 _).mono ?_; rintro e w' ⟨rfl, rfl⟩) | (go_at_call 50; refine (err_new _ _).mono ?_; rintro e w' ⟨⟨v, rfl⟩, hb⟩))
  go_ret2
  exact ⟨end_no_i8 X.out, hb⟩
theorem mul_pn_yes_i8 (a b : Int) (w : World) (hx : (-128) ≤ a) (hx' : a ≤ 127) (hy : (-128) ≤ b) (hy' : b ≤ 127) (ha : 0 < a) (hp : ¬ 0 < b) (h : ¬ b < IntKind.i8.wrap (-Int.tdiv 128 a)) : Calls Try.prog 47 #[.int .i8 a, .int .i8 b] w fun e w' => End_i8 a b e ∧ Below w.heap.size w w' := by
  have hw : IntKind.i8.wrap (-Int.tdiv 128 a) = (-Int.tdiv 128 a) := wrap_i8 (by have := quo_bd (a := a) (m := 128) (by omega); omega) (by have := quo_lo_i8 a (by omega); omega)
  have hq : ¬ a * b < -128 := fun hc => h (by rw [hw]; exact (quo_np ha (m := 128) (b := b) (by omega)).2 hc)
  have hneg : a * b ≤ 0 := by have := Int.mul_nonneg (Int.le_of_lt ha) (show 0 ≤ -b by omega); rw [Int.mul_neg] at this; omega
  have X : Aside0 ((-128) ≤ a * b ∧ a * b ≤ 127) := ⟨⟨by omega, by omega⟩⟩
  have h1 : decide (b < IntKind.i8.wrap (-Int.tdiv 128 a)) = false := decide_eq_false h
  clear hw hq hneg
  go_enter Try.func47, Try.ntmps47
  go_wp2_with (first | (go_at_call 54; refine (min_i8 _).mono ?_; rintro e w' ⟨rfl, rfl⟩) | (go_at_call 55; refine (max_i8 _).mono ?_; rintro e w' ⟨rfl, rfl⟩) | (go_at_call 50; refine (err_new _ _).mono ?_; rintro e w' ⟨⟨v, rfl⟩, hb⟩))
  go_ret2
  exact ⟨end_yes_i8 X.out.1 X.out.2, Below.refl _ _⟩
theorem mul_np_no_i8 (a b : Int) (w : World) (hx : (-128) ≤ a) (hx' : a ≤ 127) (hy : (-128) ≤ b) (hy' : b ≤ 127) (ha : ¬ 0 < a) (hp : 0 < b) (h : a < IntKind.i8.wrap (-Int.tdiv 128 b)) : Calls Try.prog 47 #[.int .i8 a, .int .i8 b] w fun e w' => End_i8 a b e ∧ Below w.heap.size w w' := by
  have hw : IntKind.i8.wrap (-Int.tdiv 128 b) = (-Int.tdiv 128 b) := wrap_i8 (by have := quo_bd (a := b) (m := 128) (by omega); omega) (by have := quo_lo_i8 b (by omega); omega)
  have hq := (quo_np hp (m := 128) (b := a) (by omega)).1 (by rw [← hw]; exact h)
  rw [Int.mul_comm b a] at hq
  have X : Aside0 (a * b < (-128) ∨ 127 < a * b) := ⟨.inl hq⟩
  have h1 : decide (a < IntKind.i8.wrap (-Int.tdiv 128 b)) = true := decide_eq_true h
  clear hw hq
  go_enter Try.func47, Try.ntmps47
  go_wp2_with (first | (go_at_call 54; refine (min_i8 _).mono ?_; rintro e w' ⟨rfl, rfl⟩) | (go_at_call 55; refine (max_i8 _).mono ?_; rintro e w' ⟨rfl, rfl⟩) | (go_at_call 50; refine (err_new _ _).mono ?_; rintro e w' ⟨⟨v, rfl⟩, hb⟩))
  go_ret2
  exact ⟨end_no_i8 X.out, hb⟩
theorem mul_np_yes_i8 (a b : Int) (w : World) (hx : (-128) ≤ a) (hx' : a ≤ 127) (hy : (-128) ≤ b) (hy' : b ≤ 127) (ha : ¬ 0 < a) (hp : 0 < b) (h : ¬ a < IntKind.i8.wrap (-Int.tdiv 128 b)) : Calls Try.prog 47 #[.int .i8 a, .int .i8 b] w fun e w' => End_i8 a b e ∧ Below w.heap.size w w' := by
  have hw : IntKind.i8.wrap (-Int.tdiv 128 b) = (-Int.tdiv 128 b) := wrap_i8 (by have := quo_bd (a := b) (m := 128) (by omega); omega) (by have := quo_lo_i8 b (by omega); omega)
  have hq : ¬ b * a < -128 := fun hc => h (by rw [hw]; exact (quo_np hp (m := 128) (b := a) (by omega)).2 hc)
  have hneg : b * a ≤ 0 := by have := Int.mul_nonneg (Int.le_of_lt hp) (show 0 ≤ -a by omega); rw [Int.mul_neg] at this; omega
  rw [Int.mul_comm b a] at hq
  rw [Int.mul_comm b a] at hneg
  have X : Aside0 ((-128) ≤ a * b ∧ a * b ≤ 127) := ⟨⟨by omega, by omega⟩⟩
  have h1 : decide (a < IntKind.i8.wrap (-Int.tdiv 128 b)) = false := decide_eq_false h
  clear hw hq hneg
  go_enter Try.func47, Try.ntmps47
  go_wp2_with (first | (go_at_call 54; refine (min_i8 _).mono ?_; rintro e w' ⟨rfl, rfl⟩) | (go_at_call 55; refine (max_i8 _).mono ?_; rintro e w' ⟨rfl, rfl⟩) | (go_at_call 50; refine (err_new _ _).mono ?_; rintro e w' ⟨⟨v, rfl⟩, hb⟩))
  go_ret2
  exact ⟨end_yes_i8 X.out.1 X.out.2, Below.refl _ _⟩
theorem mul_nn_no_i8 (a b : Int) (w : World) (hx : (-128) ≤ a) (hx' : a ≤ 127) (hy : (-128) ≤ b) (hy' : b ≤ 127) (ha : a < 0) (hp : ¬ 0 < b) (h : b < IntKind.i8.wrap (Int.tdiv 127 a)) : Calls Try.prog 47 #[.int .i8 a, .int .i8 b] w fun e w' => End_i8 a b e ∧ Below w.heap.size w w' := by
  have hw : IntKind.i8.wrap (Int.tdiv 127 a) = Int.tdiv 127 a := wrap_i8 (by have := quo_bd2 (a := a) (m := 127) (by omega); omega) (by have := quo_bd2 (a := a) (m := 127) (by omega); omega)
  have hq := (quo_nn (b := b) ha (M := 127) (by omega)).1 (by rw [← hw]; exact h)
  have X : Aside0 (a * b < (-128) ∨ 127 < a * b) := ⟨.inr hq⟩
  have h1 : decide (b < IntKind.i8.wrap (Int.tdiv 127 a)) = true := decide_eq_true h
  have h2 : (a != 0) = true := by rw [bne_iff_ne]; omega
  clear hw hq
  go_enter Try.func47, Try.ntmps47
  go_wp2_with (first | (go_at_call 54; refine (min_i8 _).mono ?_; rintro e w' ⟨rfl, rfl⟩) | (go_at_call 55; refine (max_i8 _).mono ?_; rintro e w' ⟨rfl, rfl⟩) | (go_at_call 50; refine (err_new _ _).mono ?_; rintro e w' ⟨⟨v, rfl⟩, hb⟩))
  go_ret2
  exact ⟨end_no_i8 X.out, hb⟩
theorem mul_nn_yes_i8 (a b : Int) (w : World) (hx : (-128) ≤ a) (hx' : a ≤ 127) (hy : (-128) ≤ b) (hy' : b ≤ 127) (ha : a < 0) (hp : ¬ 0 < b) (h : ¬ b < IntKind.i8.wrap (Int.tdiv 127 a)) : Calls Try.prog 47 #[.int .i8 a, .int .i8 b] w fun e w' => End_i8 a b e ∧ Below w.heap.size w w' := by
  have hw : IntKind.i8.wrap (Int.tdiv 127 a) = Int.tdiv 127 a := wrap_i8 (by have := quo_bd2 (a := a) (m := 127) (by omega); omega) (by have := quo_bd2 (a := a) (m := 127) (by omega); omega)
  have hq : ¬ 127 < a * b := fun hc => h (by rw [hw]; exact (quo_nn (b := b) ha (M := 127) (by omega)).2 hc)
  have hpos : 0 ≤ a * b := by have := Int.mul_nonneg (show 0 ≤ -a by omega) (show 0 ≤ -b by omega); rwa [Int.neg_mul_neg] at this
  have X : Aside0 ((-128) ≤ a * b ∧ a * b ≤ 127) := ⟨⟨by omega, by omega⟩⟩
  have h1 : decide (b < IntKind.i8.wrap (Int.tdiv 127 a)) = false := decide_eq_false h
  have h2 : (a != 0) = true := by rw [bne_iff_ne]; omega
  clear hw hq hpos
  go_enter Try.func47, Try.ntmps47
  go_wp2_with (first | (go_at_call 54; refine (min_i8 _).mono ?_; rintro e w' ⟨rfl, rfl⟩) | (go_at_call 55; refine (max_i8 _).mono ?_; rintro e w' ⟨rfl, rfl⟩) | (go_at_call 50; refine (err_new _ _).mono ?_; rintro e w' ⟨⟨v, rfl⟩, hb⟩))
  go_ret2
  exact ⟨end_yes_i8 X.out.1 X.out.2, Below.refl _ _⟩
theorem mul_zn_i8 (a b : Int) (w : World) (hx : (-128) ≤ a) (hx' : a ≤ 127) (hy : (-128) ≤ b) (hy' : b ≤ 127) (ha : a = 0) (hp : ¬ 0 < b) : Calls Try.prog 47 #[.int .i8 a, .int .i8 b] w fun e w' => End_i8 a b e ∧ Below w.heap.size w w' := by
  subst ha
  have X : Aside0 ((-128) ≤ 0 * b ∧ 0 * b ≤ 127) := ⟨⟨by omega, by omega⟩⟩
  go_enter Try.func47, Try.ntmps47
  go_wp2_with (first | (go_at_call 54; refine (min_i8 _).mono ?_; rintro e w' ⟨rfl, rfl⟩) | (go_at_call 55; refine (max_i8 _).mono ?_; rintro e w' ⟨rfl, rfl⟩) | (go_at_call 50; refine (err_new _ _).mono ?_; rintro e w' ⟨⟨v, rfl⟩, hb⟩))
  go_ret2
  exact ⟨.inl ⟨X.out.1, X.out.2, by rw [Int.zero_mul]; rfl⟩, Below.refl _ _⟩
theorem mul_all_i8 (a b : Int) (w : World) (hx : (-128) ≤ a) (hx' : a ≤ 127) (hy : (-128) ≤ b) (hy' : b ≤ 127) : Calls Try.prog 47 #[.int .i8 a, .int .i8 b] w fun e w' => End_i8 a b e ∧ Below w.heap.size w w' := by
  by_cases ha : 0 < a
  · by_cases hp : 0 < b
    · by_cases h : 127 / b < a
      · exact mul_pp_no_i8 a b w hx hx' hy hy' ha hp h
      · exact mul_pp_yes_i8 a b w hx hx' hy hy' ha hp h
    · by_cases h : b < IntKind.i8.wrap (-Int.tdiv 128 a)
      · exact mul_pn_no_i8 a b w hx hx' hy hy' ha hp h
      · exact mul_pn_yes_i8 a b w hx hx' hy hy' ha hp h
  · by_cases hp : 0 < b
    · by_cases h : a < IntKind.i8.wrap (-Int.tdiv 128 b)
      · exact mul_np_no_i8 a b w hx hx' hy hy' ha hp h
      · exact mul_np_yes_i8 a b w hx hx' hy hy' ha hp h
    · by_cases hz : a = 0
      · exact mul_zn_i8 a b w hx hx' hy hy' hz hp
      · by_cases h : b < IntKind.i8.wrap (Int.tdiv 127 a)
        · exact mul_nn_no_i8 a b w hx hx' hy hy' (by omega) hp h
        · exact mul_nn_yes_i8 a b w hx hx' hy hy' (by omega) hp h

theorem mulW_i32 (a b : Int) (w : World) (hx : (-2147483648) ≤ a) (hx' : a ≤ 2147483647) (hy : (-2147483648) ≤ b) (hy' : b ≤ 2147483647) : Calls Try.prog 36 #[.int .i32 a, .int .i32 b] w fun e w' => End_i32 a b e ∧ Below w.heap.size w w' := by
  go_enter Try.func36, Try.ntmps36
  go_wp2_with fail
  refine (mul_all_i32 a b _ hx hx' hy hy').mono ?_
  rintro e w' ⟨h | h, hb⟩
  · obtain ⟨h1, h2, rfl⟩ := h
    have X : Aside0 ((-2147483648) ≤ a * b ∧ a * b ≤ 2147483647) := ⟨⟨h1, h2⟩⟩
    clear h1 h2
    go_wp2
    go_ret2
    exact ⟨.inl ⟨X.out.1, X.out.2, rfl⟩, hb⟩
  · obtain ⟨h1, v, rfl⟩ := h
    have X := Aside0.mk h1
    clear h1
    go_wp2
    go_ret2
    exact ⟨.inr ⟨X.out, v, rfl⟩, hb⟩
def impl_MulInt32.f (a b : Int) : Option (Int × Bool) := if (-2147483648) ≤ a ∧ a ≤ 2147483647 ∧ (-2147483648) ≤ b ∧ b ≤ 2147483647 then some (if (-2147483648) ≤ a * b ∧ a * b ≤ 2147483647 then a * b else 0, decide ((-2147483648) ≤ a * b ∧ a * b ≤ 2147483647)) else none
theorem impl_MulInt32.calls (a0 : Int) (a1 : Int) (r1 : Int) (r2 : Bool) (w : World) (h : impl_MulInt32.f a0 a1 = some (r1, r2)) : Calls Try.prog 19 #[.int .i32 a0, .int .i32 a1] w fun e w' => e = .returned (.tuple #[.int .i32 r1, .bool r2]) ∧ Below w.heap.size w w' := by
  unfold impl_MulInt32.f at h
  by_cases hr : (-2147483648) ≤ a0 ∧ a0 ≤ 2147483647 ∧ (-2147483648) ≤ a1 ∧ a1 ≤ 2147483647
  · rw [if_pos hr] at h
    have h2 := Option.some.inj h
    simp only [Prod.mk.injEq] at h2
    have H2 := Aside0.mk h2
    obtain ⟨hx, hx', hy, hy'⟩ := hr
    clear h h2
    go_enter Try.func19, Try.ntmps19
    go_wp2_with fail
    refine (mulW_i32 a0 a1 _ hx hx' hy hy').mono ?_
    rintro e w' ⟨h | h, hb⟩
    · obtain ⟨h1, h2, rfl⟩ := h
      have X : Aside0 ((-2147483648) ≤ a0 * a1 ∧ a0 * a1 ≤ 2147483647) := ⟨⟨h1, h2⟩⟩
      clear h1 h2
      go_wp2
      go_quiet (fail)
      go_wp2
      go_ret2
      have h3 := H2.out
      rw [if_pos X.out, decide_eq_true X.out] at h3
      exact ⟨by rw [← h3.1, ← h3.2]; rfl, pw_below_drewN hb _⟩
    · obtain ⟨h1, v, rfl⟩ := h
      have X := Aside0.mk h1
      clear h1
      go_wp2
      go_quiet (fail)
      go_wp2
      go_ret2
      have h3 := H2.out
      rw [if_neg X.out, decide_eq_false X.out] at h3
      exact ⟨by rw [← h3.1, ← h3.2]; rfl, pw_below_drewN hb _⟩
  · rw [if_neg hr] at h
    cases h

theorem mulW_i8 (a b : Int) (w : World) (hx : (-128) ≤ a) (hx' : a ≤ 127) (hy : (-128) ≤ b) (hy' : b ≤ 127) : Calls Try.prog 37 #[.int .i8 a, .int .i8 b] w fun e w' => End_i8 a b e ∧ Below w.heap.size w w' := by
  go_enter Try.func37, Try.ntmps37
  go_wp2_with fail
  refine (mul_all_i8 a b _ hx hx' hy hy').mono ?_
  rintro e w' ⟨h | h, hb⟩
  · obtain ⟨h1, h2, rfl⟩ := h
    have X : Aside0 ((-128) ≤ a * b ∧ a * b ≤ 127) := ⟨⟨h1, h2⟩⟩
    clear h1 h2
    go_wp2
    go_ret2
    exact ⟨.inl ⟨X.out.1, X.out.2, rfl⟩, hb⟩
  · obtain ⟨h1, v, rfl⟩ := h
    have X := Aside0.mk h1
    clear h1
    go_wp2
    go_ret2
    exact ⟨.inr ⟨X.out, v, rfl⟩, hb⟩
def impl_MulInt8.f (a b : Int) : Option (Int × Bool) := if (-128) ≤ a ∧ a ≤ 127 ∧ (-128) ≤ b ∧ b ≤ 127 then some (if (-128) ≤ a * b ∧ a * b ≤ 127 then a * b else 0, decide ((-128) ≤ a * b ∧ a * b ≤ 127)) else none
theorem impl_MulInt8.calls (a0 : Int) (a1 : Int) (r1 : Int) (r2 : Bool) (w : World) (h : impl_MulInt8.f a0 a1 = some (r1, r2)) : Calls Try.prog 20 #[.int .i8 a0, .int .i8 a1] w fun e w' => e = .returned (.tuple #[.int .i8 r1, .bool r2]) ∧ Below w.heap.size w w' := by
  unfold impl_MulInt8.f at h
  by_cases hr : (-128) ≤ a0 ∧ a0 ≤ 127 ∧ (-128) ≤ a1 ∧ a1 ≤ 127
  · rw [if_pos hr] at h
    have h2 := Option.some.inj h
    simp only [Prod.mk.injEq] at h2
    have H2 := Aside0.mk h2
    obtain ⟨hx, hx', hy, hy'⟩ := hr
    clear h h2
    go_enter Try.func20, Try.ntmps20
    go_wp2_with fail
    refine (mulW_i8 a0 a1 _ hx hx' hy hy').mono ?_
    rintro e w' ⟨h | h, hb⟩
    · obtain ⟨h1, h2, rfl⟩ := h
      have X : Aside0 ((-128) ≤ a0 * a1 ∧ a0 * a1 ≤ 127) := ⟨⟨h1, h2⟩⟩
      clear h1 h2
      go_wp2
      go_quiet (fail)
      go_wp2
      go_ret2
      have h3 := H2.out
      rw [if_pos X.out, decide_eq_true X.out] at h3
      exact ⟨by rw [← h3.1, ← h3.2]; rfl, pw_below_drewN hb _⟩
    · obtain ⟨h1, v, rfl⟩ := h
      have X := Aside0.mk h1
      clear h1
      go_wp2
      go_quiet (fail)
      go_wp2
      go_ret2
      have h3 := H2.out
      rw [if_neg X.out, decide_eq_false X.out] at h3
      exact ⟨by rw [← h3.1, ← h3.2]; rfl, pw_below_drewN hb _⟩
  · rw [if_neg hr] at h
    cases h

def End_u32 (a b : Int) (e : Ending) : Prop := (a + b ≤ 4294967295 ∧ e = .returned (.tuple #[.int .u32 (a + b), .nilIface])) ∨ (¬ a + b ≤ 4294967295 ∧ ∃ v, e = .returned (.tuple #[.int .u32 0, .iface 90 v]))
theorem add_u32 (a b : Int) (w : World) (hx : 0 ≤ a) (hx' : a ≤ 4294967295) (hy : 0 ≤ b) (hy' : b ≤ 4294967295) : Calls Try.prog 43 #[.int .u32 a, .int .u32 b] w fun e w' => End_u32 a b e ∧ Below w.heap.size w w' := by
  by_cases h : a + b ≤ 4294967295
  · have h1 : decide (4294967295 - b < a) = false := decide_eq_false (by omega)
    have X := Aside0.mk h
    go_enter Try.func43, Try.ntmps43
    go_wp2_with (first | (go_at_call 49; refine (max_u32 _).mono ?_; rintro e w' ⟨rfl, rfl⟩) | (go_at_call 50; refine (err_new _ _).mono ?_; rintro e w' ⟨⟨v, rfl⟩, hb⟩))
    go_ret2
    exact ⟨.inl ⟨X.out, rfl⟩, Below.refl _ _⟩
  · have h1 : decide (4294967295 - b < a) = true := decide_eq_true (by omega)
    have X := Aside0.mk h
    clear h
    go_enter Try.func43, Try.ntmps43
    go_wp2_with (first | (go_at_call 49; refine (max_u32 _).mono ?_; rintro e w' ⟨rfl, rfl⟩) | (go_at_call 50; refine (err_new _ _).mono ?_; rintro e w' ⟨⟨v, rfl⟩, hb⟩))
    go_ret2
    exact ⟨.inr ⟨(by have := X.out; omega), _, rfl⟩, hb⟩
theorem addW_u32 (a b : Int) (w : World) (hx : 0 ≤ a) (hx' : a ≤ 4294967295) (hy : 0 ≤ b) (hy' : b ≤ 4294967295) : Calls Try.prog 31 #[.int .u32 a, .int .u32 b] w fun e w' => End_u32 a b e ∧ Below w.heap.size w w' := by
  go_enter Try.func31, Try.ntmps31
  go_wp2_with fail
  refine (add_u32 a b _ hx hx' hy hy').mono ?_
  rintro e w' ⟨h | h, hb⟩
  · obtain ⟨h1, rfl⟩ := h
    have X := Aside0.mk h1
    clear h1
    go_wp2
    go_ret2
    exact ⟨.inl ⟨X.out, rfl⟩, hb⟩
  · obtain ⟨h1, v, rfl⟩ := h
    have X := Aside0.mk h1
    clear h1
    go_wp2
    go_ret2
    exact ⟨.inr ⟨(by have := X.out; omega), v, rfl⟩, hb⟩
def impl_AddUint32.f (a b : Int) : Option (Int × Bool) := if 0 ≤ a ∧ a ≤ 4294967295 ∧ 0 ≤ b ∧ b ≤ 4294967295 then some (if a + b ≤ 4294967295 then a + b else 0, decide (a + b ≤ 4294967295)) else none
theorem impl_AddUint32.calls (a0 : Int) (a1 : Int) (r1 : Int) (r2 : Bool) (w : World) (h : impl_AddUint32.f a0 a1 = some (r1, r2)) : Calls Try.prog 13 #[.int .u32 a0, .int .u32 a1] w fun e w' => e = .returned (.tuple #[.int .u32 r1, .bool r2]) ∧ Below w.heap.size w w' := by
  unfold impl_AddUint32.f at h
  by_cases hr : 0 ≤ a0 ∧ a0 ≤ 4294967295 ∧ 0 ≤ a1 ∧ a1 ≤ 4294967295
  · rw [if_pos hr] at h
    have h2 := Option.some.inj h
    simp only [Prod.mk.injEq] at h2
    have H2 := Aside0.mk h2
    obtain ⟨hx, hx', hy, hy'⟩ := hr
    clear h h2
    go_enter Try.func13, Try.ntmps13
    go_wp2_with fail
    refine (addW_u32 a0 a1 _ hx hx' hy hy').mono ?_
    rintro e w' ⟨h | h, hb⟩
    · obtain ⟨h1, rfl⟩ := h
      have X := Aside0.mk h1
      clear h1
      go_wp2
      go_quiet (fail)
      go_wp2
      go_ret2
      have h3 := H2.out
      rw [if_pos X.out, decide_eq_true X.out] at h3
      exact ⟨by rw [← h3.1, ← h3.2]; rfl, pw_below_drewN hb _⟩
    · obtain ⟨h1, v, rfl⟩ := h
      have X := Aside0.mk h1
      clear h1
      go_wp2
      go_quiet (fail)
      go_wp2
      go_ret2
      have h3 := H2.out
      rw [if_neg (show ¬ _ ≤ _ by have := X.out; omega), decide_eq_false (show ¬ _ ≤ _ by have := X.out; omega)] at h3
      exact ⟨by rw [← h3.1, ← h3.2]; rfl, pw_below_drewN hb _⟩
  · rw [if_neg hr] at h
    cases h

def End_u8 (a b : Int) (e : Ending) : Prop := (a + b ≤ 255 ∧ e = .returned (.tuple #[.int .u8 (a + b), .nilIface])) ∨ (¬ a + b ≤ 255 ∧ ∃ v, e = .returned (.tuple #[.int .u8 0, .iface 90 v]))
theorem add_u8 (a b : Int) (w : World) (hx : 0 ≤ a) (hx' : a ≤ 255) (hy : 0 ≤ b) (hy' : b ≤ 255) : Calls Try.prog 44 #[.int .u8 a, .int .u8 b] w fun e w' => End_u8 a b e ∧ Below w.heap.size w w' := by
  by_cases h : a + b ≤ 255
  · have h1 : decide (255 - b < a) = false := decide_eq_false (by omega)
    have X := Aside0.mk h
    go_enter Try.func44, Try.ntmps44
    go_wp2_with (first | (go_at_call 51; refine (max_u8 _).mono ?_; rintro e w' ⟨rfl, rfl⟩) | (go_at_call 50; refine (err_new _ _).mono ?_; rintro e w' ⟨⟨v, rfl⟩, hb⟩))
    go_ret2
    exact ⟨.inl ⟨X.out, rfl⟩, Below.refl _ _⟩
  · have h1 : decide (255 - b < a) = true := decide_eq_true (by omega)
    have X := Aside0.mk h
    clear h
    go_enter Try.func44, Try.ntmps44
    go_wp2_with (first | (go_at_call 51; refine (max_u8 _).mono ?_; rintro e w' ⟨rfl, rfl⟩) | (go_at_call 50; refine (err_new _ _).mono ?_; rintro e w' ⟨⟨v, rfl⟩, hb⟩))
    go_ret2
    exact ⟨.inr ⟨(by have := X.out; omega), _, rfl⟩, hb⟩
theorem addW_u8 (a b : Int) (w : World) (hx : 0 ≤ a) (hx' : a ≤ 255) (hy : 0 ≤ b) (hy' : b ≤ 255) : Calls Try.prog 32 #[.int .u8 a, .int .u8 b] w fun e w' => End_u8 a b e ∧ Below w.heap.size w w' := by
  go_enter Try.func32, Try.ntmps32
  go_wp2_with fail
  refine (add_u8 a b _ hx hx' hy hy').mono ?_
  rintro e w' ⟨h | h, hb⟩
  · obtain ⟨h1, rfl⟩ := h
    have X := Aside0.mk h1
    clear h1
    go_wp2
    go_ret2
    exact ⟨.inl ⟨X.out, rfl⟩, hb⟩
  · obtain ⟨h1, v, rfl⟩ := h
    have X := Aside0.mk h1
    clear h1
    go_wp2
    go_ret2
    exact ⟨.inr ⟨(by have := X.out; omega), v, rfl⟩, hb⟩
def impl_AddUint8.f (a b : Int) : Option (Int × Bool) := if 0 ≤ a ∧ a ≤ 255 ∧ 0 ≤ b ∧ b ≤ 255 then some (if a + b ≤ 255 then a + b else 0, decide (a + b ≤ 255)) else none
theorem impl_AddUint8.calls (a0 : Int) (a1 : Int) (r1 : Int) (r2 : Bool) (w : World) (h : impl_AddUint8.f a0 a1 = some (r1, r2)) : Calls Try.prog 14 #[.int .u8 a0, .int .u8 a1] w fun e w' => e = .returned (.tuple #[.int .u8 r1, .bool r2]) ∧ Below w.heap.size w w' := by
  unfold impl_AddUint8.f at h
  by_cases hr : 0 ≤ a0 ∧ a0 ≤ 255 ∧ 0 ≤ a1 ∧ a1 ≤ 255
  · rw [if_pos hr] at h
    have h2 := Option.some.inj h
    simp only [Prod.mk.injEq] at h2
    have H2 := Aside0.mk h2
    obtain ⟨hx, hx', hy, hy'⟩ := hr
    clear h h2
    go_enter Try.func14, Try.ntmps14
    go_wp2_with fail
    refine (addW_u8 a0 a1 _ hx hx' hy hy').mono ?_
    rintro e w' ⟨h | h, hb⟩
    · obtain ⟨h1, rfl⟩ := h
      have X := Aside0.mk h1
      clear h1
      go_wp2
      go_quiet (fail)
      go_wp2
      go_ret2
      have h3 := H2.out
      rw [if_pos X.out, decide_eq_true X.out] at h3
      exact ⟨by rw [← h3.1, ← h3.2]; rfl, pw_below_drewN hb _⟩
    · obtain ⟨h1, v, rfl⟩ := h
      have X := Aside0.mk h1
      clear h1
      go_wp2
      go_quiet (fail)
      go_wp2
      go_ret2
      have h3 := H2.out
      rw [if_neg (show ¬ _ ≤ _ by have := X.out; omega), decide_eq_false (show ¬ _ ≤ _ by have := X.out; omega)] at h3
      exact ⟨by rw [← h3.1, ← h3.2]; rfl, pw_below_drewN hb _⟩
  · rw [if_neg hr] at h
    cases h

/-! ### the product of 64 bits -/
def mul64 (a b : Int) : Int × Bool :=
  if a = 0 ∨ b = 0 then (0, true)
  else if (decide (0 < wrap64 (a * b)) == !(decide (a < 0) == decide (b < 0))) = true then (wrap64 (a * b), false)
  else if (-2147483648 ≤ a ∧ a ≤ 2147483647 ∧ -2147483648 ≤ b ∧ b ≤ 2147483647) ∨ a = 1 ∨ b = 1 then (wrap64 (a * b), true)
  else (wrap64 (a * b), wrap64 ((wrap64 (a * b)).tdiv a) == b)
def End64 (a b : Int) (e : Ending) : Prop := e = .returned (.tuple #[.int .i64 (mul64 a b).1, .bool (mul64 a b).2])
theorem m64_a (a b : Int) (w : World) (h : a = 0 ∨ b = 0) : Calls Try.prog 35 #[.int .i64 a, .int .i64 b] w fun e w' => End64 a b e ∧ Drawn0 w w' := by
  have X : Aside0 (mul64 a b = (0, true)) := ⟨by unfold mul64; rw [if_pos h]⟩
  by_cases h0 : a = 0
  · have h1 : (a == 0) = true := by simp [h0]
    clear h h0
    go_enter Try.func35, Try.ntmps35
    go_wp2
    go_ret2
    exact ⟨by unfold End64; rw [X.out]; rfl, Drawn0.refl _⟩
  · have h1 : (a == 0) = false := by simp [h0]
    have h2 : (b == 0) = true := by rcases h with h | h <;> simp_all
    clear h h0
    go_enter Try.func35, Try.ntmps35
    go_wp2
    go_ret2
    exact ⟨by unfold End64; rw [X.out]; rfl, Drawn0.refl _⟩
theorem m64_b (a b : Int) (w : World) (ha : ¬ a = 0) (hb : ¬ b = 0) (h : (decide (0 < wrap64 (a * b)) == !(decide (a < 0) == decide (b < 0))) = true) : Calls Try.prog 35 #[.int .i64 a, .int .i64 b] w fun e w' => End64 a b e ∧ Drawn0 w w' := by
  have X : Aside0 (mul64 a b = (wrap64 (a * b), false)) := ⟨by unfold mul64; rw [if_neg (by omega), if_pos h]⟩
  have h1 : (a == 0) = false := by simp [ha]
  have h2 : (b == 0) = false := by simp [hb]
  clear ha hb
  go_enter Try.func35, Try.ntmps35
  go_wp2
  go_ret2
  exact ⟨by unfold End64; rw [X.out]; rfl, Drawn0.refl _⟩
theorem m64_c (a b : Int) (w : World) (ha : ¬ a = 0) (hb : ¬ b = 0) (h : (decide (0 < wrap64 (a * b)) == !(decide (a < 0) == decide (b < 0))) = false) (h3 : ¬ ((-2147483648 ≤ a ∧ a ≤ 2147483647 ∧ -2147483648 ≤ b ∧ b ≤ 2147483647) ∨ a = 1 ∨ b = 1)) : Calls Try.prog 35 #[.int .i64 a, .int .i64 b] w fun e w' => End64 a b e ∧ Drawn0 w w' := by
  have X : Aside0 (mul64 a b = (wrap64 (a * b), wrap64 ((wrap64 (a * b)).tdiv a) == b)) := ⟨by unfold mul64; rw [if_neg (by omega), if_neg (by simp [h]), if_neg h3]⟩
  have h1 : (a == 0) = false := by simp [ha]
  have h2 : (b == 0) = false := by simp [hb]
  have h4 : (a == 1) = false := by rw [beq_eq_false_iff_ne]; omega
  have h5 : (b == 1) = false := by rw [beq_eq_false_iff_ne]; omega
  have n1 : ¬ b = 1 := by omega
  have n2 : ¬ a = 1 := by omega
  have hr : ¬ (-2147483648 ≤ a ∧ a ≤ 2147483647 ∧ -2147483648 ≤ b ∧ b ≤ 2147483647) := by omega
  have HR := Aside0.mk hr
  clear hr h3
  go_enter Try.func35, Try.ntmps35
  go_wp2
  all_goals
    first
    | (exfalso; have := HR.out; omega)
    | skip
  all_goals
    go_quiet (fail)
    go_wp2
    go_ret2
    exact ⟨by unfold End64; rw [X.out]; rfl, ⟨⟨_, rfl⟩⟩⟩
theorem m64_d (a b : Int) (w : World) (ha : ¬ a = 0) (hb : ¬ b = 0) (h : (decide (0 < wrap64 (a * b)) == !(decide (a < 0) == decide (b < 0))) = false) (h3 : (-2147483648 ≤ a ∧ a ≤ 2147483647 ∧ -2147483648 ≤ b ∧ b ≤ 2147483647) ∨ a = 1 ∨ b = 1) : Calls Try.prog 35 #[.int .i64 a, .int .i64 b] w fun e w' => End64 a b e ∧ Drawn0 w w' := by
  have X : Aside0 (mul64 a b = (wrap64 (a * b), true)) := ⟨by unfold mul64; rw [if_neg (by omega), if_neg (by simp [h]), if_pos h3]⟩
  have h1 : (a == 0) = false := by simp [ha]
  have h2 : (b == 0) = false := by simp [hb]
  by_cases e1 : a = 1
  · have h4 : (a == 1) = true := by rw [beq_iff_eq]; exact e1
    clear h3 e1
    go_enter Try.func35, Try.ntmps35
    go_wp2
    all_goals
      go_ret2
      exact ⟨by unfold End64; rw [X.out]; rfl, Drawn0.refl _⟩
  · have h4 : (a == 1) = false := by rw [beq_eq_false_iff_ne]; exact e1
    by_cases e2 : b = 1
    · have h5 : (b == 1) = true := by rw [beq_iff_eq]; exact e2
      clear h3 e2
      go_enter Try.func35, Try.ntmps35
      go_wp2
      all_goals
        go_ret2
        exact ⟨by unfold End64; rw [X.out]; rfl, Drawn0.refl _⟩
    · obtain ⟨r1, r2, r3, r4⟩ := h3.resolve_right (by omega)
      clear h3
      go_enter Try.func35, Try.ntmps35
      go_wp2
      go_ret2
      exact ⟨by unfold End64; rw [X.out]; rfl, Drawn0.refl _⟩
def utils_Mul64.f (a b : Int) : Option (Int × Bool) := some (mul64 a b)
theorem utils_Mul64.calls (a0 : Int) (a1 : Int) (r1 : Int) (r2 : Bool) (w : World) (h : utils_Mul64.f a0 a1 = some (r1, r2)) : Calls Try.prog 35 #[.int .i64 a0, .int .i64 a1] w fun e w' => e = .returned (.tuple #[.int .i64 r1, .bool r2]) ∧ Drawn0 w w' := by
  have h2 : mul64 a0 a1 = (r1, r2) := Option.some.inj h
  have key : Calls Try.prog 35 #[.int .i64 a0, .int .i64 a1] w fun e w' => End64 a0 a1 e ∧ Drawn0 w w' := by
    by_cases h0 : a0 = 0 ∨ a1 = 0
    · exact m64_a a0 a1 w h0
    · cases hs : (decide (0 < wrap64 (a0 * a1)) == !(decide (a0 < 0) == decide (a1 < 0))) with
      | true => exact m64_b a0 a1 w (by omega) (by omega) hs
      | false =>
        by_cases h3 : (-2147483648 ≤ a0 ∧ a0 ≤ 2147483647 ∧ -2147483648 ≤ a1 ∧ a1 ≤ 2147483647) ∨ a0 = 1 ∨ a1 = 1
        · exact m64_d a0 a1 w (by omega) (by omega) hs h3
        · exact m64_c a0 a1 w (by omega) (by omega) hs h3
  refine key.mono ?_
  rintro e w' ⟨he, hd⟩
  unfold End64 at he
  rw [h2] at he
  exact ⟨he, hd⟩
end Go.Proofs.Ytelpdndlmhcdoaa.QAll
