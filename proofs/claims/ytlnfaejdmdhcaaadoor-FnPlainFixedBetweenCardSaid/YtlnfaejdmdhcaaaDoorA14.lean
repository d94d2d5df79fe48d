/- FnPlainFixedBetween, the walk: whatever comes in, it answers true. -/
import Derived.Test.YtlnfaejdmdhcaaaDoorA12
namespace Go.Proofs.YtlnfaejdmdhcaaaDoor.QR
open Go.RowKit Go.Proofs.YtlnfaejdmdhcaaaDoorW.PrintWords Go.Proofs.YtlnfaejdmdhcaaaDoorW.PrintLast Go.Proofs.YtlnfaejdmdhcaaaDoorW.PrintMore
set_option linter.unusedVariables false
set_option linter.unusedSimpArgs false
set_option maxHeartbeats 8000000 in
set_option maxRecDepth 100000 in
theorem lawf_is (wd : Int) (A0 : Option Addr) (c0 : Nat) (l0 : List QT.S34) (n : Int) (A2 : Option Addr) (c2 : Nat) (l2 : List Int) (f : Int) (w : World) (h0 : Kd.C QT.k34 w A0 l0.length l0) (h2 : Cu w A2 l2) (hc2 : l2.length ≤ c2) (hbo : bytesOk l2 = true) (hM : Bm w) :
    Calls Tryd.prog 3 #[.int .i64 wd, .slice A0 l0.length c0, .int .i64 n, .slice A2 l2.length c2, .int .i64 f] w fun e w' => e = .returned (.bool true) ∧ Below w.heap.size w w' := by
  obtain ⟨L0, hL0⟩ : ∃ L, L = l0.length := ⟨_, rfl⟩
  obtain ⟨L2, hL2⟩ : ∃ L, L = l2.length := ⟨_, rfl⟩
  rw [← hL0, ← hL2]
  have Q0 := Aside0.mk (And.intro hL0 (And.intro hL2 h0))
  have Q2 := Aside0.mk (And.intro h2 (And.intro hc2 (And.intro hbo hM)))
  clear h0 h2 hc2 hbo hM hL0 hL2
  by_cases b1 : (2147483647 : Int) < (L0 : Int)
  · have b1' := decide_eq_true b1
    have b2 : 2147483647 < L0 := by omega
    go_enter Tryd.func3, Tryd.ntmps3
    go_wp2
    go_ret
    exact ⟨rfl, Below.refl _ _⟩
  have b1' := decide_eq_false b1
  have b1n : ¬ 2147483647 < L0 := by omega
  by_cases b2 : (2147483647 : Int) < (L2 : Int)
  · have b2' := decide_eq_true b2
    have b2n : 2147483647 < L2 := by omega
    go_enter Tryd.func3, Tryd.ntmps3
    go_wp2
    go_ret
    exact ⟨rfl, Below.refl _ _⟩
  have b2' := decide_eq_false b2
  have b2n : ¬ 2147483647 < L2 := by omega
  have Qb := Aside0.mk (And.intro b1n b2n)
  go_enter Tryd.func3, Tryd.ntmps3
  go_upto_region 3 with (fail)
  clear b1 b1' b1n b2 b2' b2n
  have QP := Aside0.mk (fun (A : Option Addr) (c : Nat) (w : World) (hC : Kd.C kV w A 1 [(false, 0, sA)]) => ply_is 15 (.inr rfl) 1 A c [(false, 0, sA)] w hC (by simp) (by decide) (by simp))
  have QF1 := Aside0.mk (fxt_is 1)
  go_wp2_with (go_at_call 7; refine (QF1.out _).mono ?_; rintro e wF ⟨rfl, hb⟩; have BF := Aside0.mk hb; clear hb)
  refine (QP.out _ _ _ (one_C (blk_new wF _))).mono ?_
  rintro e w1 ⟨A1, c1, rfl, hc1, hC1, hb1⟩
  have hB1 := (BF.out.alloc BF.out.size (.cells #[.bool false, .int .u64 0, .string sA, .slice none 0 0] 34)).trans (hb1.mono (BF.out.alloc BF.out.size _).size)
  have hw0 : 0 < w.heap.size := Q2.out.2.2.2.1
  have hM1 : Bm w1 := Q2.out.2.2.2.below hB1 hw0
  have hBn := hB1.alloc hB1.size (.cells #[.int .u8 1] 5)
  have QT1 := Aside0.mk (pfb_is 1 A1 c1 1 [(false, 0, sA)] (some ⟨w1.heap.size, 0, none⟩) [1] 1 0 (w1.alloc (.cells #[.int .u8 1] 5)) (by rw [← plAll_15]; exact Kd.C_below hC1 (b2 w1 _)) (by rw [← plAll_15]; exact hc1) (by rw [← plAll_15]; decide) (by omega) (by omega) (by decide) (byte_C (blk_new w1 _)) (Nat.le_refl _) (by decide) (by decide) (by decide) (by omega) (by omega) (by decide) (by simp) (Q2.out.2.2.2.below hBn hw0))
  rw [← plAll_15] at QT1
  have QB1 := Aside0.mk (And.intro hBn hw0)
  clear hB1 hM1 hBn hw0 hb1 hC1 hc1 QP
  go_upto_region 4 with (go_at_call 5; refine QT1.out.mono ?_; rintro e w2 ⟨A3, c3, rfl, hc3, hC3, hb3⟩; have K2 := Aside0.mk (And.intro hC3 (QB1.out.1.trans (hb3.mono QB1.out.1.size))); clear hc3 hC3 hb3)
  have hone := K2.out.1
  rw [want_one] at hone
  obtain ⟨ad, A4, c4, e4, p0, p1, p2, p3⟩ := kV_one hone
  subst e4
  simp only at p0 p1 p2 p3
  have QS := Aside0.mk (fun w => sv_is (false, 0, sA) A4 none c4 0 w)
  unfold VA at QS
  have B2 := Aside0.mk K2.out.2
  clear hone QT1 QB1 K2
  go_upto_region 5 with (go_at_call 8; refine (QS.out _).mono ?_; rintro e w3 ⟨rfl, hb⟩; have B3 := Aside0.mk (B2.out.trans (hb.mono B2.out.size)); clear hb)
  clear p0 p1 p2 p3 QS B2
  have hw0 : 0 < w.heap.size := Q2.out.2.2.2.1
  obtain ⟨ok, hok⟩ : ∃ ok, ok = okB l2 f n := ⟨_, rfl⟩
  have QO := Aside0.mk (bof_is A2 l2 c2 f n w3 (Kd.C_below Q2.out.1 B3.out) Q2.out.2.2.1)
  rw [← hok, ← Q0.out.2.1] at QO
  have Qok := Aside0.mk (And.intro hok hw0)
  clear hok hw0
  go_upto_region 6 with (go_at_call 9; refine QO.out.mono ?_; rintro e w4 ⟨v0, rfl, hb, hh⟩; have B4 := Aside0.mk (And.intro (B3.out.trans (hb.mono B3.out.size)) hh); clear hb hh)
  clear QO B3
  by_cases hw1 : wd < 1
  · have hw1' := decide_eq_true hw1
    go_wp2
    go_ret
    exact ⟨rfl, B4.out.1⟩
  have hw1' := decide_eq_false hw1
  by_cases hw2 : (40 : Int) < wd
  · have hw2' := decide_eq_true hw2
    go_wp2
    go_ret
    exact ⟨rfl, B4.out.1⟩
  have hw2' := decide_eq_false hw2
  obtain ⟨t, rfl⟩ := Int.eq_ofNat_of_zero_le (show 0 ≤ wd by omega)
  have Qt := Aside0.mk (show 0 < t ∧ t ≤ 40 by omega)
  have QFX := Aside0.mk (fxt_is t)
  cases ok
  · go_wp2
    go_ret
    exact ⟨rfl, B4.out.1⟩
  by_cases hn0 : n = 0
  · subst hn0
    go_wp2
    go_ret
    exact ⟨rfl, B4.out.1⟩
  have hn1 : (n == 0) = false := by simpa using hn0
  have QA := Aside0.mk (fun w' (hb : Below w.heap.size w w') => pal_is 15 (.inr rfl) t A0 c0 l0 w' (Kd.C_below Q0.out.2.2 hb))
  obtain ⟨al, hal⟩ : ∃ al, al = allT 15 t l0 := ⟨_, rfl⟩
  rw [← hal, ← Q0.out.1] at QA
  have Qal := Aside0.mk hal
  clear hal
  cases al
  · go_wp2_with (first | (go_at_call 7; refine (QFX.out _).mono ?_; rintro e wx ⟨rfl, hb⟩; have BX := Aside0.mk (B4.out.1.trans (hb.mono B4.out.1.size)); have BX4 := Aside0.mk hb; clear hb) | (go_at_call 10; refine (QA.out _ BX.out).mono ?_; rintro e w5 ⟨rfl, hb⟩; have B5 := Aside0.mk (BX.out.trans (hb.mono BX.out.size)); clear hb))
    go_ret
    exact ⟨rfl, B5.out⟩
  go_upto_region 8 with (first | (go_at_call 7; refine (QFX.out _).mono ?_; rintro e wx ⟨rfl, hb⟩; have BX := Aside0.mk (B4.out.1.trans (hb.mono B4.out.1.size)); have BX4 := Aside0.mk hb; clear hb) | (go_at_call 10; refine (QA.out _ BX.out).mono ?_; rintro e w5 ⟨rfl, hb⟩; have B5 := Aside0.mk (BX.out.trans (hb.mono BX.out.size)); have B45 := Aside0.mk (BX4.out.trans (hb.mono BX4.out.size)); clear hb))
  have hk := of_decide_eq_true (show decide _ = true from Qok.out.1.symm)
  obtain ⟨F, rfl⟩ := Int.eq_ofNat_of_zero_le hk.1
  obtain ⟨m, rfl⟩ := Int.eq_ofNat_of_zero_le hk.2.2.1
  rw [Int.toNat_natCast, Int.toNat_natCast] at hk
  obtain ⟨A5, c5, e5, hc5, hC5⟩ := B4.out.2 trivial
  subst e5
  rw [Int.toNat_natCast, Int.toNat_natCast] at hC5
  rw [Int.toNat_natCast] at hc5
  have hall := allT_all Qal.out.symm
  obtain ⟨xs, hxs⟩ : ∃ xs, xs = l0.map convV := ⟨_, rfl⟩
  have hxl : xs.length = L0 := by rw [hxs, List.length_map, Q0.out.1]
  have hxn : ∀ y ∈ xs, y.1 = false ∧ y.2.1 = 0 := by rw [hxs]; exact conv_null Qal.out.symm
  have hCx : ∀ w', Below w.heap.size w w' → Kd.C kV w' A0 xs.length xs := fun w' hb => by
    rw [hxl, hxs, Q0.out.1]
    exact C_conv (Kd.C_below Q0.out.2.2 hb) (fun x hx => (hall.2 x hx).2.1)
  have hpl : ∀ y ∈ xs, (plainT 15 y.2.2).length ≤ 40 := by
    rw [hxs]
    intro y hy
    obtain ⟨x, hx, rfl⟩ := List.mem_map.1 hy
    have h := (hall.2 x hx).2.2.2
    rw [if_neg (by decide)] at h
    unfold plainT
    rw [if_neg (by decide), bytesOf_length]
    show x.f2.size ≤ 40
    have := Qt.out
    omega
  have hplb := plAll_bound 15 40 xs hpl
  have htx : ∀ u ∈ textsL xs, u.length = t := by
    intro u hu
    unfold textsL at hu
    obtain ⟨y, hy, rfl⟩ := List.mem_map.1 hu
    rw [hxs] at hy
    obtain ⟨x, hx, rfl⟩ := List.mem_map.1 hy
    have h := (hall.2 x hx).2.2.2
    rw [if_neg (by decide)] at h
    rw [bytesOf_length]
    exact h.symm
  have hL : L0 ≤ 500 := by rw [Q0.out.1]; exact hall.1
  have hpl6 : (plAll 15 xs).length ≤ 1000000 := by
    have : xs.length * 40 ≤ 500 * 40 := Nat.mul_le_mul_right _ (by omega)
    omega
  have QBN := Aside0.mk (btn_is (bt1 l2) F A0 c0 xs A5 c5 (bitsL (bt1 l2) F m) w5 (hCx w5 B5.out) (by rw [bitsL_len]; exact Kd.C_below hC5 B45.out) (fun i hi => by rw [bitsL_len] at hi; exact bitsL_get _ _ _ _ hi) (by rw [bitsL_len]; omega) (by omega))
  rw [bitsL_len, hxl] at QBN
  obtain ⟨fit, hfit⟩ : ∃ fit, fit = decide (rk (bt1 l2) F m ≤ L0) := ⟨_, rfl⟩
  rw [← hfit] at QBN
  have Qfit := Aside0.mk hfit
  have QPL := Aside0.mk (fun w' hb => ply_is 15 (.inr rfl) t A0 c0 xs w' (hCx w' hb) (fun y hy => (hxn y hy).1) hpl6 (by omega))
  rw [hxl] at QPL
  have Qk := Aside0.mk (And.intro hk (And.intro hxl (And.intro hxn (And.intro hpl6 htx))))
  clear hk hc5 hC5 hall hxs hxl hxn hCx hpl hplb hL hpl6 htx hfit B4 B45 BX BX4 Qal QA hn0 hn1 hw1 hw1' hw2 hw2'
  cases fit
  · go_wp2_with (go_at_call 11; refine QBN.out.mono ?_; rintro e w6 ⟨v1, rfl, hb, _⟩; have B6 := Aside0.mk (B5.out.trans (hb.mono B5.out.size)); clear hb)
    go_ret
    exact ⟨rfl, B6.out⟩
  go_upto_region 11 with (go_at_call 11; refine QBN.out.mono ?_; rintro e w6 ⟨v1, rfl, hb, hh⟩; have B6 := Aside0.mk (And.intro (B5.out.trans (hb.mono B5.out.size)) (hh (of_decide_eq_true Qfit.out.symm))); clear hb hh)
  obtain ⟨A6, c6, e6, hc6, hC6⟩ := B6.out.2
  subst e6
  have Q6 := Aside0.mk (And.intro B6.out.1 hC6)
  clear hc6 hC6 B6 B5 QBN
  go_upto_region 12 with (first | (go_at_call 7; refine (QFX.out _).mono ?_; rintro e wy ⟨rfl, hb⟩; have BY := Aside0.mk (And.intro (Q6.out.1.trans (hb.mono Q6.out.1.size)) (Kd.C_below Q6.out.2 hb)); clear hb) | (go_at_call 6; refine (QPL.out _ BY.out.1).mono ?_; rintro e w7 ⟨A7, c7, rfl, hc7, hC7, hb⟩; have B7 := Aside0.mk (And.intro (BY.out.1.trans (hb.mono BY.out.1.size)) (Kd.C_below BY.out.2 hb)); have QPT := Aside0.mk (pfb_is t A7 c7 m xs A2 l2 c2 F w7 (by rw [← plAll_15]; exact hC7) (by rw [← plAll_15]; exact hc7) (by rw [← plAll_15]; exact Qk.out.2.2.2.1) Qt.out.1 Qt.out.2 Qk.out.2.2.2.2 (Kd.C_below Q2.out.1 B7.out.1) Q2.out.2.1 Q2.out.2.2.1 (by have := Qk.out.1; omega) (by have := Qk.out.1; omega) (by have := Qk.out.1; omega) (by have := Qk.out.1; omega) (by rw [Qk.out.2.1]; exact of_decide_eq_true Qfit.out.symm) Qk.out.2.2.1 (Q2.out.2.2.2.below B7.out.1 Qok.out.2)); rw [← plAll_15, ← Q0.out.2.1] at QPT; clear hc7 hC7 hb) | (go_at_call 5; refine QPT.out.mono ?_; rintro e w8 ⟨A8, c8, rfl, hc8, hC8, hb⟩; have B8 := Aside0.mk (And.intro (B7.out.1.trans (hb.mono B7.out.1.size)) (And.intro hC8 (Kd.C_below B7.out.2 hb))); clear hc8 hC8 hb))
  have QSV := Aside0.mk (svs_is A8 A6 c8 c6 (wantL (bt1 l2) F xs m) w8 (by rw [wantL_len]; exact B8.out.2.1) (by rw [wantL_len]; exact B8.out.2.2) (by rw [wantL_len]; have := Qk.out.1; omega))
  rw [wantL_len] at QSV
  go_wp2_with (go_at_call 12; refine QSV.out.mono ?_; rintro e w9 ⟨rfl, hb⟩; have B9 := Aside0.mk (B8.out.1.trans (hb.mono B8.out.1.size)); clear hb)
  go_ret
  exact ⟨rfl, B9.out⟩
end Go.Proofs.YtlnfaejdmdhcaaaDoor.QR
