/- What is read of numbers of 96 bits that were written plainly: the texts of twelve bytes. -/
import Derived.Test.YtpjaaonpbohkdaaDoorCI96
import Derived.Test.YtpjaaonpbohkdaaDoorZA8
namespace Go.Proofs.YtpjaaonpbohkdaaDoor.QR
open Go.RowKit Go.Proofs.YtpjaaonpbohkdaaDoorW.PrintWords Go.Proofs.YtpjaaonpbohkdaaDoorW.PrintLast Go.Proofs.YtpjaaonpbohkdaaDoorW.PrintMore
set_option linter.unusedVariables false
set_option linter.unusedSimpArgs false
namespace I96
theorem allT_all {k : Int} {t : Nat} {xs : List QT.S33} (h : allT k t xs = true) : xs.length ≤ 500 ∧ ∀ x ∈ xs, x.f0 = false ∧ x.f3 = [] ∧ x.f1 = 0 ∧ (if k = 4 then x.f2.size ≤ 200 else t = x.f2.size) := by
  unfold allT at h
  rw [Bool.and_eq_true] at h
  refine ⟨of_decide_eq_true h.2, fun x hx => ?_⟩
  have h1 := List.all_eq_true.1 h.1 x hx
  unfold goodV fitsT at h1
  simp only [Bool.and_eq_true, Bool.not_eq_true', decide_eq_true_eq] at h1
  refine ⟨h1.1, List.eq_nil_of_length_eq_zero h1.2.1, h1.2.2.1, ?_⟩
  have h2 := h1.2.2.2
  split at h2
  · rename_i hk; rw [if_pos hk]; exact of_decide_eq_true h2
  · rename_i hk; rw [if_neg hk]; exact of_decide_eq_true h2
theorem conv_null {k : Int} {t : Nat} {xs : List QT.S33} (h : allT k t xs = true) : ∀ y ∈ xs.map convV, y.1 = false ∧ y.2.1 = 0 := by
  intro y hy
  obtain ⟨x, hx, rfl⟩ := List.mem_map.1 hy
  have := (allT_all h).2 x hx
  exact ⟨this.1, this.2.2.1⟩
theorem plAll_bound (k : Int) (m : Nat) : ∀ xs : List TV, (∀ x ∈ xs, (plainT k x.2.2).length ≤ m) → (plAll k xs).length ≤ xs.length * m
  | [], _ => by simp [plAll]
  | x :: r, h => by
    have h1 := h x (List.mem_cons_self ..)
    have h2 := plAll_bound k m r (fun y hy => h y (List.mem_cons_of_mem _ hy))
    simp only [plAll]
    rw [List.length_append, List.length_cons, Nat.add_mul, Nat.one_mul]
    omega
theorem str_bytes (s : ByteArray) : strOfNums (bytesOf s) = s := by
  obtain ⟨a⟩ := s
  simp only [strOfNums, bytesOf, List.map_map]
  congr 1
  rw [← Array.toList_inj]
  simp only [List.toList_toArray]
  conv => rhs; rw [← List.map_id a.toList]
  apply List.map_congr_left
  intro x _
  simp
theorem chunk_app {a r : List Int} (h : a.length = 12) (j : Nat) : chunk (a ++ r) (j + 1) = chunk r j := by
  unfold chunk
  rw [show 12 * (j + 1) = 12 + 12 * j by omega, ← List.drop_drop, List.drop_append_of_le_length (by omega), show a.drop 12 = [] from List.drop_eq_nil_of_le (by omega), List.nil_append]
theorem plAll_chunk : ∀ (xs : List TV), (∀ x ∈ xs, x.2.2.size = 12) → (plAll 15 xs).length = 12 * xs.length ∧ ∀ j x, xs[j]? = some x → strOfNums (chunk (plAll 15 xs) j) = x.2.2
  | [], _ => ⟨rfl, fun j x h => by cases h⟩
  | y :: r, h => by
    have hy : (plainT 15 y.2.2).length = 12 := by unfold plainT; rw [if_neg (by decide), bytesOf_length]; exact h y (List.mem_cons_self ..)
    obtain ⟨h1, h2⟩ := plAll_chunk r (fun x hx => h x (List.mem_cons_of_mem _ hx))
    simp only [plAll]
    refine ⟨by rw [List.length_append, h1, hy, List.length_cons]; omega, fun j x hx => ?_⟩
    cases j with
    | zero =>
      simp only [List.getElem?_cons_zero, Option.some.injEq] at hx
      subst hx
      unfold chunk
      rw [Nat.mul_zero, List.drop_zero, List.take_append_of_le_length (by omega), List.take_of_length_le (by omega)]
      unfold plainT
      rw [if_neg (by decide), str_bytes]
    | succ j =>
      rw [chunk_app hy]
      exact h2 j x (by simpa using hx)
end I96
end Go.Proofs.YtpjaaonpbohkdaaDoor.QR
/- The law of numbers of 96 bits read with nulls between them, the walk: whatever comes in, it answers true. -/
namespace Go.Proofs.YtpjaaonpbohkdaaDoor.QR
open Go.RowKit Go.Proofs.YtpjaaonpbohkdaaDoorW.PrintWords Go.Proofs.YtpjaaonpbohkdaaDoorW.PrintLast Go.Proofs.YtpjaaonpbohkdaaDoorW.PrintMore
set_option linter.unusedVariables false
set_option linter.unusedSimpArgs false
namespace I96
def sA : ByteArray := ⟨#[97, 98, 99, 100, 101, 102, 103, 104, 105, 106, 107, 108]⟩
theorem sA_chunk : ∀ j x, [((false, 0, sA) : TV)][j]? = some x → x = (false, 0, strOfNums (chunk (plAll 15 [(false, 0, sA)]) j)) := by
  intro j x h
  have := (plAll_chunk [(false, 0, sA)] (by intro x hx; rw [List.mem_singleton.1 hx]; rfl)).2 j x h
  rw [this]
  have hx : x = (false, 0, sA) := by
    have := List.mem_of_getElem? h
    exact List.mem_singleton.1 this
  rw [hx]
set_option maxHeartbeats 8000000 in
set_option maxRecDepth 100000 in
theorem law_is (A0 : Option Addr) (c0 : Nat) (l0 : List QT.S33) (n : Int) (A2 : Option Addr) (c2 : Nat) (l2 : List Int) (f : Int) (w : World) (h0 : Kd.C QT.k33 w A0 l0.length l0) (h2 : Cu w A2 l2) (hc2 : l2.length ≤ c2) (hbo : bytesOk l2 = true) (hM : Bm w) :
    Calls Tryd.prog 6 #[.slice A0 l0.length c0, .int .i64 n, .slice A2 l2.length c2, .int .i64 f] w fun e w' => e = .returned (.bool true) ∧ Below w.heap.size w w' := by
  obtain ⟨L0, hL0⟩ : ∃ L, L = l0.length := ⟨_, rfl⟩
  obtain ⟨L2, hL2⟩ : ∃ L, L = l2.length := ⟨_, rfl⟩
  rw [← hL0, ← hL2]
  have Q0 := Aside0.mk (And.intro hL0 (And.intro hL2 h0))
  have Q2 := Aside0.mk (And.intro h2 (And.intro hc2 (And.intro hbo hM)))
  clear h0 h2 hc2 hbo hM hL0 hL2
  by_cases b1 : (2147483647 : Int) < (L0 : Int)
  · have b1' := decide_eq_true b1
    have b2 : 2147483647 < L0 := by omega
    go_enter Tryd.func6, Tryd.ntmps6
    go_wp2
    go_ret
    exact ⟨rfl, Below.refl _ _⟩
  have b1' := decide_eq_false b1
  have b1n : ¬ 2147483647 < L0 := by omega
  by_cases b2 : (2147483647 : Int) < (L2 : Int)
  · have b2' := decide_eq_true b2
    have b2n : 2147483647 < L2 := by omega
    go_enter Tryd.func6, Tryd.ntmps6
    go_wp2
    go_ret
    exact ⟨rfl, Below.refl _ _⟩
  have b2' := decide_eq_false b2
  have b2n : ¬ 2147483647 < L2 := by omega
  have Qb := Aside0.mk (And.intro b1n b2n)
  go_enter Tryd.func6, Tryd.ntmps6
  go_upto_region 3 with (fail)
  clear b1 b1' b1n b2 b2' b2n
  have QP := Aside0.mk (fun (A : Option Addr) (c : Nat) (w : World) (hC : Kd.C kV w A 1 [(false, 0, sA)]) => ply_is 15 (.inr rfl) 12 A c [(false, 0, sA)] w hC (by simp) (by decide) (by simp))
  go_wp2_with fail
  refine (QP.out _ _ _ (one_C (blk_new w _))).mono ?_
  rintro e w1 ⟨A1, c1, rfl, hc1, hC1, hb1⟩
  have hB1 := (b2 w (.cells #[.bool false, .int .u64 0, .string sA, .slice none 0 0] 33)).trans (hb1.mono (b2 w _).size)
  have hw0 : 0 < w.heap.size := Q2.out.2.2.2.1
  have hM1 : Bm w1 := Q2.out.2.2.2.below hB1 hw0
  have hBn := hB1.alloc hB1.size (.cells #[.int .u8 1] 5)
  have QT1 := Aside0.mk (ptb_is A1 c1 1 (plAll 15 [(false, 0, sA)]) [(false, 0, sA)] (some ⟨w1.heap.size, 0, none⟩) [1] 1 0 (w1.alloc (.cells #[.int .u8 1] 5)) (Kd.C_below hC1 (b2 w1 _)) hc1 (by decide) (by decide) (byte_C (blk_new w1 _)) (Nat.le_refl _) (by decide) (by decide) (by decide) (by omega) (by omega) (by decide) (by decide) sA_chunk (Q2.out.2.2.2.below hBn hw0))
  have QB1 := Aside0.mk (And.intro hBn hw0)
  clear hB1 hM1 hBn hw0 hb1 hC1 hc1 QP
  go_upto_region 4 with (go_at_call 17; refine QT1.out.mono ?_; rintro e w2 ⟨A3, c3, rfl, hc3, hC3, hb3⟩; have K2 := Aside0.mk (And.intro hC3 (QB1.out.1.trans (hb3.mono QB1.out.1.size))); clear hc3 hC3 hb3)
  have hone := K2.out.1
  rw [want_one] at hone
  obtain ⟨ad, A4, c4, e4, p0, p1, p2, p3⟩ := kV_one hone
  subst e4
  simp only at p0 p1 p2 p3
  have QS := Aside0.mk (fun w => sv_is (false, 0, sA) A4 none c4 0 w)
  unfold VA at QS
  have B2 := Aside0.mk K2.out.2
  clear hone QT1 QB1 K2
  go_upto_region 5 with (go_at_call 10; refine (QS.out _).mono ?_; rintro e w3 ⟨rfl, hb⟩; have B3 := Aside0.mk (B2.out.trans (hb.mono B2.out.size)); clear hb)
  clear p0 p1 p2 p3 QS B2
  have hw0 : 0 < w.heap.size := Q2.out.2.2.2.1
  obtain ⟨ok, hok⟩ : ∃ ok, ok = okB l2 f n := ⟨_, rfl⟩
  have QO := Aside0.mk (bof_is A2 l2 c2 f n w3 (Kd.C_below Q2.out.1 B3.out) Q2.out.2.2.1)
  rw [← hok, ← Q0.out.2.1] at QO
  have Qok := Aside0.mk (And.intro hok hw0)
  clear hok hw0
  go_upto_region 6 with (go_at_call 11; refine QO.out.mono ?_; rintro e w4 ⟨v0, rfl, hb, hh⟩; have B4 := Aside0.mk (And.intro (B3.out.trans (hb.mono B3.out.size)) hh); clear hb hh)
  clear QO B3
  cases ok
  · go_wp2
    go_ret
    exact ⟨rfl, B4.out.1⟩
  by_cases hn0 : n = 0
  · subst hn0
    go_wp2
    go_ret
    exact ⟨rfl, B4.out.1⟩
  have hn1 : (n == 0) = false := by simpa using hn0
  have QA := Aside0.mk (pal_is 15 (.inr rfl) 12 A0 c0 l0 w4 (Kd.C_below Q0.out.2.2 B4.out.1))
  obtain ⟨al, hal⟩ : ∃ al, al = allT 15 12 l0 := ⟨_, rfl⟩
  rw [← hal, ← Q0.out.1] at QA
  have Qal := Aside0.mk hal
  clear hal
  cases al
  · go_wp2_with (go_at_call 12; refine QA.out.mono ?_; rintro e w5 ⟨rfl, hb⟩; have B5 := Aside0.mk (B4.out.1.trans (hb.mono B4.out.1.size)); clear hb)
    go_ret
    exact ⟨rfl, B5.out⟩
  go_upto_region 8 with (go_at_call 12; refine QA.out.mono ?_; rintro e w5 ⟨rfl, hb⟩; have B5 := Aside0.mk (B4.out.1.trans (hb.mono B4.out.1.size)); have B45 := Aside0.mk hb; clear hb)
  have hk := of_decide_eq_true (show decide _ = true from Qok.out.1.symm)
  obtain ⟨F, rfl⟩ := Int.eq_ofNat_of_zero_le hk.1
  obtain ⟨m, rfl⟩ := Int.eq_ofNat_of_zero_le hk.2.2.1
  rw [Int.toNat_natCast, Int.toNat_natCast] at hk
  obtain ⟨A5, c5, e5, hc5, hC5⟩ := B4.out.2 trivial
  subst e5
  rw [Int.toNat_natCast, Int.toNat_natCast] at hC5
  rw [Int.toNat_natCast] at hc5
  have hall := allT_all Qal.out.symm
  obtain ⟨xs, hxs⟩ : ∃ xs, xs = l0.map convV := ⟨_, rfl⟩
  have hxl : xs.length = L0 := by rw [hxs, List.length_map, Q0.out.1]
  have hxn : ∀ y ∈ xs, y.1 = false ∧ y.2.1 = 0 := by rw [hxs]; exact conv_null Qal.out.symm
  have hCx : ∀ w', Below w.heap.size w w' → Kd.C kV w' A0 xs.length xs := fun w' hb => by
    rw [hxl, hxs, Q0.out.1]
    exact C_conv (Kd.C_below Q0.out.2.2 hb) (fun x hx => (hall.2 x hx).2.1)
  have hsz : ∀ x ∈ xs, x.2.2.size = 12 := by
    rw [hxs]
    intro y hy
    obtain ⟨x, hx, rfl⟩ := List.mem_map.1 hy
    have h := (hall.2 x hx).2.2.2
    rw [if_neg (by decide)] at h
    exact h.symm
  have hL : L0 ≤ 500 := by rw [Q0.out.1]; exact hall.1
  have hch := plAll_chunk xs hsz
  have hx0 : ∀ j x, xs[j]? = some x → x = (false, 0, strOfNums (chunk (plAll 15 xs) j)) := by
    intro j x hx
    rw [hch.2 j x hx]
    have := hxn x (List.mem_of_getElem? hx)
    obtain ⟨x0, x1, x2⟩ := x
    simp only at this
    rw [this.1, this.2]
  have hpl6 : (plAll 15 xs).length ≤ 1000000 := by rw [hch.1]; omega
  have QBN := Aside0.mk (btn_is (bt1 l2) F A0 c0 xs A5 c5 (bitsL (bt1 l2) F m) w5 (hCx w5 B5.out) (by rw [bitsL_len]; exact Kd.C_below hC5 B45.out) (fun i hi => by rw [bitsL_len] at hi; exact bitsL_get _ _ _ _ hi) (by rw [bitsL_len]; omega) (by omega))
  rw [bitsL_len, hxl] at QBN
  obtain ⟨fit, hfit⟩ : ∃ fit, fit = decide (rk (bt1 l2) F m ≤ L0) := ⟨_, rfl⟩
  rw [← hfit] at QBN
  have Qfit := Aside0.mk hfit
  have QPL := Aside0.mk (fun w' hb => ply_is 15 (.inr rfl) 12 A0 c0 xs w' (hCx w' hb) (fun y hy => (hxn y hy).1) hpl6 (by omega))
  rw [hxl] at QPL
  have Qk := Aside0.mk (And.intro hk (And.intro hxl (And.intro hxn (And.intro hpl6 (And.intro hch.1 hx0)))))
  have hm0 : 0 < m := by omega
  have Qm0 := Aside0.mk hm0
  clear hk hc5 hC5 hall hxs hxl hxn hCx hsz hL hch hx0 hm0 hpl6 hfit B4 B45 Qal QA hn0 hn1
  cases fit
  · go_wp2_with (go_at_call 13; refine QBN.out.mono ?_; rintro e w6 ⟨v1, rfl, hb, _⟩; have B6 := Aside0.mk (B5.out.trans (hb.mono B5.out.size)); clear hb)
    go_ret
    exact ⟨rfl, B6.out⟩
  go_upto_region 11 with (go_at_call 13; refine QBN.out.mono ?_; rintro e w6 ⟨v1, rfl, hb, hh⟩; have B6 := Aside0.mk (And.intro (B5.out.trans (hb.mono B5.out.size)) (hh (of_decide_eq_true Qfit.out.symm))); clear hb hh)
  obtain ⟨A6, c6, e6, hc6, hC6⟩ := B6.out.2
  subst e6
  have Q6 := Aside0.mk (And.intro B6.out.1 hC6)
  clear hc6 hC6 B6 B5 QBN
  go_upto_region 12 with (first | (go_at_call 9; refine (QPL.out _ Q6.out.1).mono ?_; rintro e w7 ⟨A7, c7, rfl, hc7, hC7, hb⟩; have B7 := Aside0.mk (And.intro (Q6.out.1.trans (hb.mono Q6.out.1.size)) (Kd.C_below Q6.out.2 hb)); have QPT := Aside0.mk (ptb_is A7 c7 m (plAll 15 xs) xs A2 l2 c2 F w7 hC7 hc7 Qk.out.2.2.2.1 Qm0.out (Kd.C_below Q2.out.1 B7.out.1) Q2.out.2.1 Q2.out.2.2.1 (by have := Qk.out.1; omega) (by have := Qk.out.1; omega) (by have := Qk.out.1; omega) (by have := Qk.out.1; omega) (by rw [Qk.out.2.1]; exact of_decide_eq_true Qfit.out.symm) (by rw [Qk.out.2.2.2.2.1]; exact Nat.mul_le_mul_left _ (by rw [Qk.out.2.1]; exact of_decide_eq_true Qfit.out.symm)) Qk.out.2.2.2.2.2 (Q2.out.2.2.2.below B7.out.1 Qok.out.2)); rw [← Q0.out.2.1] at QPT; clear hc7 hC7 hb) | (go_at_call 17; refine QPT.out.mono ?_; rintro e w8 ⟨A8, c8, rfl, hc8, hC8, hb⟩; have B8 := Aside0.mk (And.intro (B7.out.1.trans (hb.mono B7.out.1.size)) (And.intro hC8 (Kd.C_below B7.out.2 hb))); clear hc8 hC8 hb))
  have QSV := Aside0.mk (svs_is A8 A6 c8 c6 (wantL (bt1 l2) F xs m) w8 (by rw [wantL_len]; exact B8.out.2.1) (by rw [wantL_len]; exact B8.out.2.2) (by rw [wantL_len]; have := Qk.out.1; omega))
  rw [wantL_len] at QSV
  go_wp2_with (go_at_call 14; refine QSV.out.mono ?_; rintro e w9 ⟨rfl, hb⟩; have B9 := Aside0.mk (B8.out.1.trans (hb.mono B8.out.1.size)); clear hb)
  go_ret
  exact ⟨rfl, B9.out⟩
end I96
end Go.Proofs.YtpjaaonpbohkdaaDoor.QR
