/- Frexp and Ldexp as Mod calls them. -/
import Derived.Test.YtmiafomaglijgaaL13
namespace Go.Proofs.Ytmiafomaglijgaa.QR
open Ieee Go.Proofs.Ytmiafomaglijgaa.Fl Go.RowKit Go.Proofs.YtmiafomaglijgaaW.PrintWords Go.Proofs.YtmiafomaglijgaaW.PrintLast Go.Proofs.YtmiafomaglijgaaW.PrintMore
set_option linter.unusedVariables false
set_option linter.unusedSimpArgs false
set_option maxHeartbeats 8000000 in
set_option maxRecDepth 100000 in
theorem Frx_is (n k : Nat) (hn : n ≠ 0) (h : n < 16777216) (hk : IW false n = F64.word false ((n.log2 + 1022) * 4503599627370496 + k)) (hk1 : 4503599627370496 ≤ k) (hk2 : k < 9007199254740992) (hl : n.log2 < 24) (w : World) : Calls Try.prog 43 #[.float .f64 (IW false n)] w fun e w' => e = .returned (.tuple #[.float .f64 (1021 * 4503599627370496 + k), .int .i64 ((n.log2 + 1 : Nat) : Int)]) ∧ Below w.heap.size w w' := by
  have Q := Aside0.mk (fun w => frx_is n k hn h hk hk1 hk2 hl w)
  generalize IW false n = x at Q ⊢
  generalize 1021 * 4503599627370496 + k = y at Q ⊢
  generalize n.log2 + 1 = z at Q ⊢
  clear hk hk1 hk2 hl hn h
  go_enter Try.func43, Try.ntmps43
  go_wp2_with (go_at_call 51; with_reducible refine Calls.mono (Q.out _) ?_; rintro e w1 ⟨rfl, hb⟩; have Q1 := Aside0.mk hb; clear hb)
  refine bodyPost_ret (v := .tuple #[.float .f64 y, .int .i64 (z : Int)]) (by simp [results, Try.results43, go_sem]) rfl ?_
  exact ⟨rfl, Q1.out⟩
/-- Ten twos. -/
theorem word_pow (a : Nat) (ha : a < 24) : IW false (pw a) = (a + 1023) * 4503599627370496 := by
  have e : pw a * U1 = 4503599627370496 * pw (a + 1022) := by
    rw [show U1 = pw (52 + 1022) from rfl, show (4503599627370496 : Nat) = pw 52 from rfl, ← pw_add, ← pw_add]
    exact congrArg pw (by omega)
  unfold IW
  rw [e, W64_word false (Nat.le_refl _) (by omega) (by omega), word_eq]
  simp only [Bool.false_eq_true, if_false]
  omega
theorem one_times (a : Nat) (ha : a < 24) : floatBits .mul .f64 4607182418800017408 ((a + 1023) * 4503599627370496) = some ((a + 1023) * 4503599627370496) := by
  have hl : pw a < 16777216 := by
    rw [show (16777216 : Nat) = pw 24 from rfl]
    have := pw_succ a
    have h2 := pw_le (show a + 1 ≤ 24 by omega)
    have := pw_pos a
    omega
  have h1 : F64.read 4607182418800017408 = .number false 4503599627370496 (-52) := by decide
  obtain ⟨m, i, h2, h3, h4⟩ := IW_units false hl
  rw [word_pow a ha] at h2
  show ((F64.read 4607182418800017408).product (F64.read ((a + 1023) * 4503599627370496))).map F64.write = _
  rw [h1, h2]
  show some (F64.nearest (false ^^ false) (4503599627370496 * m) (-52 + i)) = _
  refine congrArg some ?_
  have h5 := nearest_scale' F64 false m 52 i
  rw [show pw 52 = 4503599627370496 from rfl, Nat.mul_comm] at h5
  rw [show (-52 + i : Int) = i - ((52 : Nat) : Int) by omega, show (false ^^ false) = false from rfl, h5, W_of F64 false m i h3, ← h4]
  exact word_pow a ha
set_option maxHeartbeats 8000000 in
set_option maxRecDepth 100000 in
theorem ldx_is (a : Nat) (ha1 : 1 ≤ a) (ha : a < 24) (w : World) : Calls Try.prog 53 #[.float .f64 4611686018427387904, .int .i64 ((a - 1 : Nat) : Int)] w fun e w' => e = .returned (.float .f64 ((a + 1023) * 4503599627370496)) ∧ Below w.heap.size w w' := by
  have hu := IW_units false (show 2 < 16777216 by omega)
  have hmul := one_times a ha
  have QN := Aside0.mk (fun w => nrm_is 2 (by omega) (by omega) w)
  rw [IW_2] at hu QN
  have QI := Aside0.mk (fun w => isinf_is 4611686018427387904 (by omega) (units_fin hu).2 w)
  rw [(units_fin hu).1] at QI
  have o0 : (FloatKind.f64.format.order 4611686018427387904 0 == some Ordering.eq) = false := by
    rw [order_eq hu read_0, decide_eq_false]
    unfold sg
    simp only [Bool.false_eq_true, if_false]
    have := U1_pos
    omega
  have on : (FloatKind.f64.format.order 4611686018427387904 4611686018427387904 != some Ordering.eq) = false := by
    have := order_eq hu hu
    rw [decide_eq_true rfl] at this
    simp only [bne, this]
    rfl
  have QK := Aside0.mk (fun w => isnan_is 4611686018427387904 false on w)
  have c1 := f64_bits 4611686018427387904
  have b1 : Go.bits .and .i64 1024 2047 = 1024 := by decide
  have b2 : Go.bits .andNot .u64 4611686018427387904 9218868437227405312 = 0 := by decide
  have b3 : Go.bits .or .u64 0 (((a : Int) + 1023) * 4503599627370496) = (((a + 1023) * 4503599627370496 : Nat) : Int) := by
    have h := put_bits 0 (a + 1023) (by omega) (by omega)
    have e1 : ((a : Int) + 1023) * 4503599627370496 = (((a + 1023) * 4503599627370496 : Nat) : Int) := by omega
    rw [e1]
    refine Eq.trans h ?_
    omega
  have c2 := f64_of (((a + 1023) * 4503599627370496 : Nat) : Int)
  rw [Int.toNat_natCast] at c2
  have c3 := fun w => run_float_arith (P := Try.prog) (w := w) .mul 29 .f64 _ _ _ hmul
  generalize (a + 1023) * 4503599627370496 = y at b3 c2 c3 ⊢
  have ha1i : (1 : Int) ≤ a := by omega
  have hai : (a : Int) < 24 := by omega
  have haj : ((a - 1 : Nat) : Int) = (a : Int) - 1 := by omega
  rw [haj]
  clear on hu ha ha1 haj hmul
  go_enter Try.func53, Try.ntmps53
  go_upto_region 20 with (first | (go_at_call 7; with_reducible refine Calls.mono (QI.out _) ?_; rintro e w1 ⟨rfl, hb⟩; have Q1 := Aside0.mk hb; clear hb) | (go_at_call 38; with_reducible refine Calls.mono (QK.out _) ?_; rintro e w2 ⟨rfl, hb⟩; have Q2 := Aside0.mk (Q1.out.trans (hb.mono Q1.out.size)); clear hb) | (go_at_call 54; with_reducible refine Calls.mono (QN.out _) ?_; rintro e w3 ⟨rfl, hb⟩; have Q3 := Aside0.mk (Q2.out.trans (hb.mono Q2.out.size)); clear hb))
  go_wp2
  go_ret
  exact ⟨rfl, Q3.out⟩
set_option maxHeartbeats 8000000 in
set_option maxRecDepth 100000 in
theorem Ldx_is (a : Nat) (ha1 : 1 ≤ a) (ha : a < 24) (w : World) : Calls Try.prog 44 #[.float .f64 4611686018427387904, .int .i64 ((a - 1 : Nat) : Int)] w fun e w' => e = .returned (.float .f64 ((a + 1023) * 4503599627370496)) ∧ Below w.heap.size w w' := by
  have Q := Aside0.mk (fun w => ldx_is a ha1 ha w)
  generalize (a + 1023) * 4503599627370496 = y at Q ⊢
  generalize a - 1 = z at Q ⊢
  clear ha1 ha
  go_enter Try.func44, Try.ntmps44
  go_wp2_with (go_at_call 53; with_reducible refine Calls.mono (Q.out _) ?_; rintro e w1 ⟨rfl, hb⟩; have Q1 := Aside0.mk hb; clear hb)
  go_ret
  exact ⟨rfl, Q1.out⟩
end Go.Proofs.Ytmiafomaglijgaa.QR
