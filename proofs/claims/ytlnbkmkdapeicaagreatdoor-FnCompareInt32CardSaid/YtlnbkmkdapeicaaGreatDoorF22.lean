/- The law of numbers compared, the walk: whatever comes in, it answers true. -/
import Derived.Test.YtlnbkmkdapeicaaGreatDoorF21
namespace Go.Proofs.YtlnbkmkdapeicaaGreatDoor.QR
open Go.RowKit Go.Proofs.YtlnbkmkdapeicaaGreatDoorW.PrintWords Go.Proofs.YtlnbkmkdapeicaaGreatDoorW.PrintLast Go.Proofs.YtlnbkmkdapeicaaGreatDoorW.PrintMore
set_option linter.unusedVariables false
set_option linter.unusedSimpArgs false
set_option maxHeartbeats 8000000 in
set_option maxRecDepth 100000 in
theorem law_is (op how : Int) (Aa : Option Addr) (ca : Nat) (xs : List Int) (Ab : Option Addr) (cb : Nat) (ys : List Int) (B : Option Addr) (cB' : Nat) (bl : List Int) (f : Int) (w : World)
    (hx : Kd.C (Kd.int .u64) w Aa xs.length xs) (hy : Kd.C (Kd.int .u64) w Ab ys.length ys) (hbC : Cu w B bl) (hcx : xs.length ≤ ca) (hcy : ys.length ≤ cb) (hcb : bl.length ≤ cB') (hux : u64s xs) (huy : u64s ys) (hbo : bytesOk bl = true) (hM : Bm w) :
    Calls Tryz.prog 3 #[.int .i64 op, .int .i64 how, .slice Aa xs.length ca, .slice Ab ys.length cb, .slice B bl.length cB', .int .i64 f] w fun e w' => e = .returned (.bool true) ∧ Below w.heap.size w w' := by
  obtain ⟨nl, hnl⟩ : ∃ nl, nl = xs.length := ⟨_, rfl⟩
  obtain ⟨nr, hnr⟩ : ∃ nr, nr = ys.length := ⟨_, rfl⟩
  obtain ⟨L, hL⟩ : ∃ L, L = bl.length := ⟨_, rfl⟩
  rw [← hnl, ← hnr, ← hL]
  have Q0 := Aside0.mk (show nl = xs.length ∧ nr = ys.length ∧ L = bl.length ∧ Kd.C (Kd.int .u64) w Aa xs.length xs ∧ Kd.C (Kd.int .u64) w Ab ys.length ys ∧ Cu w B bl from ⟨hnl, hnr, hL, hx, hy, hbC⟩)
  have Q1 := Aside0.mk (show nl ≤ ca ∧ nr ≤ cb ∧ L ≤ cB' ∧ u64s xs ∧ u64s ys ∧ bytesOk bl = true ∧ Bm w from ⟨by omega, by omega, by omega, hux, huy, hbo, hM⟩)
  clear hx hy hbC hcx hcy hcb hux huy hbo hM hnl hnr hL
  by_cases b1 : (2147483647 : Int) < (nl : Int)
  · have b1' := decide_eq_true b1
    have b1n : 2147483647 < nl := by omega
    go_enter Tryz.func3, Tryz.ntmps3
    go_wp2
    go_ret
    exact ⟨rfl, Below.refl _ _⟩
  have b1' := decide_eq_false b1
  have b1n : ¬ 2147483647 < nl := by omega
  by_cases b2 : (2147483647 : Int) < (nr : Int)
  · have b2' := decide_eq_true b2
    have b2n : 2147483647 < nr := by omega
    go_enter Tryz.func3, Tryz.ntmps3
    go_wp2
    go_ret
    exact ⟨rfl, Below.refl _ _⟩
  have b2' := decide_eq_false b2
  have b2n : ¬ 2147483647 < nr := by omega
  by_cases b3 : (2147483647 : Int) < (L : Int)
  · have b3' := decide_eq_true b3
    have b3n : 2147483647 < L := by omega
    go_enter Tryz.func3, Tryz.ntmps3
    go_wp2
    go_ret
    exact ⟨rfl, Below.refl _ _⟩
  have b3' := decide_eq_false b3
  have b3n : ¬ 2147483647 < L := by omega
  have Qb := Aside0.mk (And.intro b1n (And.intro b2n b3n))
  go_enter Tryz.func3, Tryz.ntmps3
  go_upto_region 3 with (fail)
  clear b1 b1' b1n b2 b2' b2n b3 b3' b3n
  have QI := Aside0.mk (fun (w1 : World) (hb : Below w.heap.size w w1) (g1 g2 g3 : Nat) (h1 : w1.heap[g1]? = some (.cells #[.int .u64 1] 26 (0, 0))) (h2 : w1.heap[g2]? = some (.cells #[.int .u64 1] 26 (0, 0))) (h3 : w1.heap[g3]? = some (.cells #[.int .u8 0] 5 (0, 0))) => ci_is 0 0 (by omega) (by omega) (some ⟨g1, 0, none⟩) [1] 1 (some ⟨g2, 0, none⟩) [1] 1 (some ⟨g3, 0, none⟩) [0] 1 0 1 w1 (u64_C h1) (u64_C h2) (u8_C h3) (by decide) (by decide) (by decide) (by decide) (by decide) (by decide) (fun _ => ⟨rfl, rfl⟩) (fun h => by omega) (fun h => by omega) (by decide) (by decide) (Q1.out.2.2.2.2.2.2.below hb Q1.out.2.2.2.2.2.2.1))
  have hbr : ∀ w1, Below w.heap.size w w1 → Bm w1 := fun w1 hb => Q1.out.2.2.2.2.2.2.below hb Q1.out.2.2.2.2.2.2.1
  have QBm := Aside0.mk hbr
  clear hbr
  have e1 : (((w.alloc (.cells #[.int .u64 1] 26)).alloc (.cells #[.int .u64 1] 26)).alloc (.cells #[.int .u8 0] 5)).heap[w.heap.size]? = some (.cells #[.int .u64 1] 26 (0, 0)) := blk_alloc (blk_alloc (blk_new w _) _) _
  have e2 : (((w.alloc (.cells #[.int .u64 1] 26)).alloc (.cells #[.int .u64 1] 26)).alloc (.cells #[.int .u8 0] 5)).heap[w.heap.size + 1]? = some (.cells #[.int .u64 1] 26 (0, 0)) := by
    have := blk_alloc (blk_new (w.alloc (.cells #[.int .u64 1] 26)) (.cells #[.int .u64 1] 26)) (.cells #[.int .u8 0] 5)
    rw [World.size_alloc] at this; exact this
  have e3 : (((w.alloc (.cells #[.int .u64 1] 26)).alloc (.cells #[.int .u64 1] 26)).alloc (.cells #[.int .u8 0] 5)).heap[w.heap.size + 2]? = some (.cells #[.int .u8 0] 5 (0, 0)) := by
    have := blk_new ((w.alloc (.cells #[.int .u64 1] 26)).alloc (.cells #[.int .u64 1] 26)) (.cells #[.int .u8 0] 5)
    rw [World.size_alloc, World.size_alloc] at this; exact this
  have eb : Below w.heap.size w (((w.alloc (.cells #[.int .u64 1] 26)).alloc (.cells #[.int .u64 1] 26)).alloc (.cells #[.int .u8 0] 5)) := (b3 w _ _).alloc (b3 w _ _).size _
  have QI2 := Aside0.mk (QI.out _ eb _ _ _ e1 e2 e3)
  have Qeb := Aside0.mk eb
  clear QI e1 e2 e3 eb
  go_upto_region 4 with (go_at_call 4; go_must (refine QI2.out.mono ?_; rintro e w2 ⟨A1, c1, l1, rfl, h1, h2, h3, h4, h5, h6⟩; have K1 := Aside0.mk (show 1 ≤ c1 ∧ l1.length = 1 ∧ bytesOk l1 = true ∧ Cu w2 A1 l1 ∧ bt1 l1 0 = true ∧ Below w.heap.size w w2 from ⟨h1, h2, h3, h4, h5 0 (by decide), Qeb.out.trans (h6.mono Qeb.out.size)⟩); clear h1 h2 h3 h4 h5 h6))
  obtain ⟨ad1, ea1, c11⟩ := Kd.at_int K1.out.2.2.2.1 0 (by decide) (by rw [K1.out.2.1]; decide)
  subst ea1
  obtain ⟨x1, hx1⟩ : ∃ x, x = rd l1 0 := ⟨_, rfl⟩
  rw [← hx1] at c11
  have hand : (Go.bits .and .u8 x1 1 == 1) = true := by
    have hx := bytes_ok K1.out.2.2.1 0
    rw [← hx1] at hx
    have hb := K1.out.2.2.2.2.1
    unfold bt1 at hb
    have h := and_one ⟨x1.toNat, by omega⟩
    simp only [Int.toNat_of_nonneg hx.1] at h
    exact h (by rw [hx1]; exact hb)
  have hand2 : Go.bits .and .u8 x1 1 = 1 := eq_of_beq hand
  have c11' : w2.cell? ad1 = some (.int .u8 x1) := by
    have h := c11
    rw [show ad1.add (0 : Int).toNat = ad1 by simp [Addr.add]] at h
    exact h
  have B2 := Aside0.mk K1.out.2.2.2.2.2
  clear hx1 K1 QI2 Qeb
  go_upto_region 5 with (fail)
  clear hand hand2 c11 c11'
  obtain ⟨r1, r2, hpr, hpg⟩ := pairs_is how nl nr
  have QP := Aside0.mk (QT.laws_pairs2.calls how (nl : Int) (nr : Int) r1 r2 w2 hpr)
  have Qpg := Aside0.mk hpg
  clear hpr hpg
  go_upto_region 6 with (go_at_call 5; go_must (refine QP.out.mono ?_; rintro e w3 ⟨rfl, hb⟩; have B3 := Aside0.mk (B2.out.trans (hb.below.mono B2.out.size)); clear hb))
  have QAx := Aside0.mk (asv_is Aa xs ca w3 (Kd.C_below Q0.out.2.2.2.1 B3.out) Q1.out.2.2.2.1 (by rw [← Q0.out.1]; have := Qb.out; omega))
  rw [← Q0.out.1] at QAx
  obtain ⟨ox, hox⟩ : ∃ ox, ox = okA xs := ⟨_, rfl⟩
  rw [← hox] at QAx
  have Qox := Aside0.mk hox
  clear hox B2 QP
  unfold TyI TyN at QAx
  go_upto_region 7 with (go_at_call 6; go_must (refine QAx.out.mono ?_; rintro e w4 ⟨v1, rfl, h1, hb⟩; have B4 := Aside0.mk (And.intro (B3.out.trans (hb.mono B3.out.size)) h1); clear h1 hb))
  have QAy := Aside0.mk (asv_is Ab ys cb w4 (Kd.C_below Q0.out.2.2.2.2.1 B4.out.1) Q1.out.2.2.2.2.1 (by rw [← Q0.out.2.1]; have := Qb.out; omega))
  rw [← Q0.out.2.1] at QAy
  obtain ⟨oy, hoy⟩ : ∃ oy, oy = okA ys := ⟨_, rfl⟩
  rw [← hoy] at QAy
  have Qoy := Aside0.mk hoy
  clear hoy B3 QAx
  unfold TyI TyN at QAy
  go_upto_region 8 with (go_at_call 6; go_must (refine QAy.out.mono ?_; rintro e w5 ⟨v2, rfl, h1, hb⟩; have B5 := Aside0.mk (show Below w.heap.size w w5 ∧ Below w4.heap.size w4 w5 ∧ _ from And.intro (B4.out.1.trans (hb.mono B4.out.1.size)) (And.intro hb h1)); clear h1 hb))
  clear QAy
  cases r2
  · go_wp2
    go_ret
    exact ⟨rfl, B5.out.1⟩
  cases ox
  · go_wp2
    go_ret
    exact ⟨rfl, B5.out.1⟩
  cases oy
  · go_wp2
    go_ret
    exact ⟨rfl, B5.out.1⟩
  by_cases o1 : op < 0
  · have o1' := decide_eq_true o1
    go_wp2
    go_ret
    exact ⟨rfl, B5.out.1⟩
  have o1' := decide_eq_false o1
  by_cases o2 : (3 : Int) < op
  · have o2' := decide_eq_true o2
    go_wp2
    go_ret
    exact ⟨rfl, B5.out.1⟩
  have o2' := decide_eq_false o2
  obtain ⟨rr, hrr, hrg⟩ := room_is bl f r1
  have QR := Aside0.mk (QT.laws_room.calls B cB' bl f r1 rr w5 (Kd.C_below Q0.out.2.2.2.2.2 B5.out.1) (by rw [← Q0.out.2.2.1]; exact Q1.out.2.2.1) hrr)
  rw [← Q0.out.2.2.1] at QR
  have Qrg := Aside0.mk hrg
  clear hrr hrg
  cases rr
  · go_wp2_with (go_at_call 7; go_must (refine QR.out.mono ?_; rintro e w6 ⟨rfl, hb⟩; have B6 := Aside0.mk (B5.out.1.trans (hb.below.mono B5.out.1.size)); clear hb))
    go_ret
    exact ⟨rfl, B6.out⟩
  go_upto_region 10 with (go_at_call 7; go_must (refine QR.out.mono ?_; rintro e w6 ⟨rfl, hb⟩; have B6 := Aside0.mk (show Below w.heap.size w w6 ∧ Below w5.heap.size w5 w6 from ⟨B5.out.1.trans (hb.below.mono B5.out.1.size), hb.below⟩); clear hb))
  obtain ⟨hw, n, rfl, hhw, rfl, hp0, hp1, hp2⟩ := Qpg.out (by trivial)
  obtain ⟨F, rfl, hF7, hn3, hL1, hFn⟩ := Qrg.out (by trivial) (by omega)
  obtain ⟨o, rfl⟩ := Int.eq_ofNat_of_zero_le (show 0 ≤ op by omega)
  have hop : o ≤ 3 := by omega
  have hxa := okA_all Qox.out.symm
  have hya := okA_all Qoy.out.symm
  obtain ⟨A1, c1', ev1, hc1, hK1⟩ := B4.out.2 (by trivial)
  obtain ⟨A2, c2', ev2, hc2, hK2⟩ := B5.out.2.2 (by trivial)
  subst ev1
  subst ev2
  have hpx : ∀ i, i < n → plX hw i < xs.length := by
    intro i hi
    rw [← Q0.out.1]
    unfold plX
    have h3 : hw = 0 ∨ hw = 1 ∨ hw = 2 := by omega
    rcases h3 with h | h | h
    · rw [if_neg (by omega)]; have := hp0 h; omega
    · rw [if_neg (by omega)]; have := hp1 h; omega
    · rw [if_pos h]; have := hp2 h; omega
  have hpy : ∀ i, i < n → plY hw i < ys.length := by
    intro i hi
    rw [← Q0.out.2.1]
    unfold plY
    have h3 : hw = 0 ∨ hw = 1 ∨ hw = 2 := by omega
    rcases h3 with h | h | h
    · rw [if_neg (by omega)]; have := hp0 h; omega
    · rw [if_pos h]; have := hp1 h; omega
    · rw [if_neg (by omega)]; have := hp2 h; omega
  have QCI := Aside0.mk (ci_is o hw hop hhw Aa xs ca Ab ys cb B bl cB' F n w6 (Kd.C_below Q0.out.2.2.2.1 B6.out.1) (Kd.C_below Q0.out.2.2.2.2.1 B6.out.1) (Kd.C_below Q0.out.2.2.2.2.2 B6.out.1) (by rw [← Q0.out.2.2.1]; exact Q1.out.2.2.1) Q1.out.2.2.2.2.2.1 (by omega) hxa.1 hya.1 (by omega) (fun h => by rw [← Q0.out.1, ← Q0.out.2.1]; exact hp0 h) (fun h => by rw [← Q0.out.1, ← Q0.out.2.1]; exact hp1 h) (fun h => by rw [← Q0.out.1, ← Q0.out.2.1]; exact hp2 h) hF7 (by omega) (QBm.out w6 B6.out.1))
  rw [← Q0.out.1, ← Q0.out.2.1, ← Q0.out.2.2.1] at QCI
  have QCD := Aside0.mk (fun (w7 : World) (hb : Below w6.heap.size w6 w7) => cd_is o hw n hop hhw (by omega) A1 xs c1' A2 ys c2' w7 (by rw [← Q0.out.1]; exact Kd.C_below (Kd.C_below (Kd.C_below hK1 B5.out.2.1) (B6.out.2.mono (Nat.le_refl _))) hb) (by rw [← Q0.out.2.1]; exact Kd.C_below (Kd.C_below hK2 B6.out.2) hb) hpx hpy hxa.1 hya.1)
  rw [← Q0.out.1, ← Q0.out.2.1] at QCD
  have Qdue := Aside0.mk (fun i (hi : i < n) => due_is o hw hop xs ys Q1.out.2.2.2.1 Q1.out.2.2.2.2.1 hxa.2 hya.2 i (hpx i hi) (hpy i hi))
  have Qfin := Aside0.mk (show F + n ≤ 8 * bl.length ∧ bl.length ≤ 100 from ⟨by omega, hL1⟩)
  clear hpx hpy hxa hya hK1 hK2 hc1 hc2 hp0 hp1 hp2 hFn hL1 hn3 hF7 o1 o1' o2 o2' hop hhw QR Qpg Qrg B4 B5
  go_upto_region 11 with (go_at_call 4; go_must (refine QCI.out.mono ?_; rintro e w7 ⟨A7, c7, l7, rfl, h1, h2, h3, h4, h5, h6⟩; have K7 := Aside0.mk (And.intro h1 (And.intro h2 (And.intro h3 (And.intro h4 (And.intro h5 h6))))); clear h1 h2 h3 h4 h5 h6))
  have hdue : ∃ k, QT.laws_bitsDue.f k bl l7 (F : Int) (dueL o hw xs ys n) = some true := by
    have hl7 : l7.length = bl.length := by rw [K7.out.2.1, Q0.out.2.2.1]
    have hb7 := K7.out.2.2.2.2.1
    refine bitsDue_is hl7 (by rw [hl7]; have := Qfin.out; omega) Q1.out.2.2.2.2.2.1 K7.out.2.2.1 F n _ (dueL_len _ _ _ _ _) (by rw [hl7]; exact Qfin.out.1) (fun i hi => ?_) (fun i hi => ?_)
    · have h := hb7 i (by omega)
      rw [if_pos hi] at h
      exact h
    · have h := hb7 (F + i) (by omega)
      rw [if_neg (by omega), show F + i - F = i by omega, ← Qdue.out i hi] at h
      rw [h]
      unfold dueL
      rw [List.getElem?_map, List.getElem?_range hi]
      rfl
  obtain ⟨kk, hkk⟩ := hdue
  have QDD := Aside0.mk (QCD.out w7 K7.out.2.2.2.2.2)
  have QBD := Aside0.mk (fun (w8 : World) (hb : Below w7.heap.size w7 w8) (A3 : Option Addr) (c3 : Nat) (h3 : n ≤ c3) (hr : Kd.C Kd.bool w8 A3 n (dueL o hw xs ys n)) => show Calls Tryz.prog 8 #[.slice B L cB', .slice A7 L c7, .int .i64 (F : Int), .slice A3 n c3] w8 fun e w' => e = .returned (.bool true) ∧ Below w8.heap.size w8 w' from by
    have hB7 : Below w.heap.size w w7 := B6.out.1.trans (K7.out.2.2.2.2.2.mono B6.out.1.size)
    have h := QT.laws_bitsDue.calls kk B cB' bl A7 c7 l7 (F : Int) A3 c3 (dueL o hw xs ys n) true w8 (Kd.C_below (Kd.C_below Q0.out.2.2.2.2.2 hB7) (hb.mono hB7.size |> fun h => ⟨hb.os, hb.tape, hb.output, hb.size, hb.block⟩)) (by rw [← Q0.out.2.2.1]; exact Q1.out.2.2.1) (Kd.C_below K7.out.2.2.2.1 hb) (by rw [K7.out.2.1]; exact K7.out.1) (by rw [dueL_len]; exact hr) (by rw [dueL_len]; exact h3) hkk
    rw [dueL_len, ← Q0.out.2.2.1, K7.out.2.1] at h
    exact h.mono (fun e w' hh => ⟨hh.1, hh.2.below⟩))
  have hT : TyI = .agg #[.int .i64 2, .int .i64 ((32 : Nat) : Int), .bool true, .int .i64 0, .int .i64 0, .int .i64 0, .string ⟨#[]⟩, .bool false, .slice none 0 0, .slice none 0 0] := rfl
  rw [hT] at QDD
  have QB7 := Aside0.mk (B6.out.1.trans (K7.out.2.2.2.2.2.mono B6.out.1.size))
  clear hT hkk QCI QCD Qdue Qfin K7 B6
  go_wp2_with (first | (go_at_call 9; go_must (refine QDD.out.mono ?_; rintro e w8 ⟨A3, c3, rfl, h3, hr, hb⟩; have K8 := Aside0.mk (And.intro h3 (And.intro hr hb)); clear h3 hr hb)) | (go_at_call 8; go_must (refine (QBD.out w8 K8.out.2.2 A3 c3 K8.out.1 K8.out.2.1).mono ?_; rintro e w9 ⟨rfl, hb⟩; have B9 := Aside0.mk (QB7.out.trans ((K8.out.2.2.trans (hb.mono K8.out.2.2.size)).mono QB7.out.size)); clear hb)))
  go_ret
  exact ⟨rfl, B9.out⟩
end Go.Proofs.YtlnbkmkdapeicaaGreatDoor.QR
