/- The law of decimals compared, the walk: whatever comes in, it answers true. -/
import Derived.Test.YtlnbkmkdapeicaaDoorF21d
import Derived.Deep.RegionHeld3
namespace Go.Proofs.YtlnbkmkdapeicaaDoor.QR
open Go.RowKit Go.Proofs.YtlnbkmkdapeicaaDoorW.PrintWords Go.Proofs.YtlnbkmkdapeicaaDoorW.PrintLast Go.Proofs.YtlnbkmkdapeicaaDoorW.PrintMore
set_option linter.unusedVariables false
set_option linter.unusedSimpArgs false
/-- All words are words. -/
def Us (xs : List (List Int)) : Prop := ∀ r ∈ xs, ∀ x ∈ r, 0 ≤ x ∧ x < 18446744073709551616
theorem fits_g (l : List (List Int)) : ∃ k r, QT.laws_zzFits1.f k l = some r ∧ (r = true → l.length ≤ 2147483647) := by
  by_cases hl : (l.length : Int) > 2147483647
  · exact ⟨0, false, by unfold QT.laws_zzFits1.f; rw [if_pos hl], fun h => by cases h⟩
  have key : ∀ d i : Nat, i + d = l.length → ∃ k r, QT.laws_zzFits1.l0 k l (l.length : Int) (i : Int) = some r := by
    intro d
    induction d with
    | zero =>
      intro i hi
      exact ⟨1, true, by unfold QT.laws_zzFits1.l0; rw [if_neg (by omega)]⟩
    | succ d ih =>
      intro i hi
      by_cases h2 : ((QT.rd_L5 l (i : Int)).length : Int) > 2147483647
      · exact ⟨1, false, by unfold QT.laws_zzFits1.l0; rw [if_pos (by omega), if_pos (by omega), if_pos (by omega), if_pos h2]⟩
      · obtain ⟨k, r, h⟩ := ih (i + 1) (by omega)
        refine ⟨k + 1, r, ?_⟩
        rw [QT.laws_zzFits1.l0, if_pos (by omega), if_pos (by omega), if_pos (by omega), if_neg h2, show wrap64 ((i : Int) + 1) = ((i + 1 : Nat) : Int) by unfold wrap64; omega]
        exact h
  obtain ⟨k, r, h⟩ := key l.length 0 (by omega)
  exact ⟨k, r, by unfold QT.laws_zzFits1.f; rw [if_neg hl]; exact h, fun _ => by omega⟩
abbrev w1c : Obj := .cells #[.int .u64 1, .int .u64 0] 27
abbrev w2c (s : Nat) : Obj := .cells #[.slice (some ⟨s, 0, none⟩) 2 2] 28
/-- What the law makes for its first call. -/
def mk5 (w : World) : World := ((((w.alloc w1c).alloc (w2c w.heap.size)).alloc w1c).alloc (w2c (w.heap.size + 2))).alloc (.cells #[.int .u8 0] 5)
theorem mk5_is (w : World) : (mk5 w).heap[w.heap.size]? = some (.cells #[.int .u64 1, .int .u64 0] 27 (0, 0)) ∧ (mk5 w).heap[w.heap.size + 1]? = some (.cells #[.slice (some ⟨w.heap.size, 0, none⟩) 2 2] 28 (0, 0)) ∧ (mk5 w).heap[w.heap.size + 2]? = some (.cells #[.int .u64 1, .int .u64 0] 27 (0, 0)) ∧ (mk5 w).heap[w.heap.size + 3]? = some (.cells #[.slice (some ⟨w.heap.size + 2, 0, none⟩) 2 2] 28 (0, 0)) ∧ (mk5 w).heap[w.heap.size + 4]? = some (.cells #[.int .u8 0] 5 (0, 0)) ∧ Below w.heap.size w (mk5 w) := by
  have h0 := blk_new w w1c
  have h1 := blk_new (w.alloc w1c) (w2c w.heap.size)
  have h2 := blk_new ((w.alloc w1c).alloc (w2c w.heap.size)) w1c
  have h3 := blk_new (((w.alloc w1c).alloc (w2c w.heap.size)).alloc w1c) (w2c (w.heap.size + 2))
  have h4 := blk_new ((((w.alloc w1c).alloc (w2c w.heap.size)).alloc w1c).alloc (w2c (w.heap.size + 2))) (.cells #[.int .u8 0] 5)
  simp only [World.size_alloc] at h1 h2 h3 h4
  unfold mk5
  refine ⟨blk_alloc (blk_alloc (blk_alloc (blk_alloc h0 _) _) _) _, blk_alloc (blk_alloc (blk_alloc h1 _) _) _, blk_alloc (blk_alloc h2 _) _, blk_alloc h3 _, h4, ?_⟩
  exact ((((b2 w _).alloc (b2 w _).size _).alloc (b3 w _ _).size _).alloc ((b3 w _ _).alloc (b3 w _ _).size _).size _).alloc (((b3 w _ _).alloc (b3 w _ _).size _).alloc ((b3 w _ _).alloc (b3 w _ _).size _).size _).size _
theorem sd_of {W w' : World} {P Q : Addr} {u v : Value} (h : W.cell? P = some u ∧ W.cell? Q = some v) (hb : Below W.heap.size W w') : Below W.heap.size W w' ∧ w'.cell? P = some u ∧ w'.cell? Q = some v := ⟨hb, cell_keep h.1 hb, cell_keep h.2 hb⟩
theorem sd_alloc {W w' : World} (o : Obj) (hb : Below W.heap.size W w') : Below W.heap.size W (w'.alloc o) := hb.alloc hb.size o
theorem sd_go {W w1 w2 : World} {R : Prop} (h : Below W.heap.size W w1 ∧ R) (hb : Below w1.heap.size w1 w2) : Below W.heap.size W w2 := h.1.trans (hb.mono h.1.size)
/-- A row of two words is read, the words of the integer stand. -/
theorem fw_is {W : World} {A : Option Addr} {c : Nat} {r : List Int} {k : Nat} {b : Bool} {m : List Int} (hC : Kd.C (Kd.int .u64) W A 2 r) (hl : r.length = 2) (hc : 2 ≤ c) (hf : QT.spec_FromWords.f k r = some (b, m)) (w1 : World) (hb : Below W.heap.size W w1) :
    Calls Tryd.prog 11 #[.slice A 2 c] w1 fun e w' => ∃ A' c', e = .returned (.agg #[.bool b, .slice A' m.length c']) ∧ m.length ≤ c' ∧ Kd.C (Kd.int .u32) w' A' m.length m ∧ Below w1.heap.size w1 w' := by
  have h := QT.spec_FromWords.calls k A c r b m w1 (by rw [hl]; exact Kd.C_below hC hb) (by rw [hl]; exact hc) hf
  rw [hl] at h
  refine h.mono ?_
  rintro e w' ⟨v, rfl, hV, hb'⟩
  obtain ⟨A', c', rfl⟩ := Kd.V_slice hV
  exact ⟨A', c', rfl, (Kd.V_reads' hV).2.1, (Kd.V_reads' hV).2.2, hb'⟩
set_option maxHeartbeats 8000000 in
set_option maxRecDepth 100000 in
theorem law_is (op how : Int) (Aa : Option Addr) (ca : Nat) (xs : List (List Int)) (Ab : Option Addr) (cb : Nat) (ys : List (List Int)) (B : Option Addr) (cB' : Nat) (bl : List Int) (f : Int) (w : World)
    (hx : Kd.C (Kd.slice 27 (Kd.int .u64)) w Aa xs.length xs) (hy : Kd.C (Kd.slice 27 (Kd.int .u64)) w Ab ys.length ys) (hbC : Cu w B bl) (hcx : xs.length ≤ ca) (hcy : ys.length ≤ cb) (hcb : bl.length ≤ cB') (hux : Us xs) (huy : Us ys) (hbo : bytesOk bl = true) (hM : Bm w) :
    Calls Tryd.prog 3 #[.int .i64 op, .int .i64 how, .slice Aa xs.length ca, .slice Ab ys.length cb, .slice B bl.length cB', .int .i64 f] w fun e w' => e = .returned (.bool true) ∧ Below w.heap.size w w' := by
  obtain ⟨k1, r1, hf1, hg1⟩ := fits_g xs
  obtain ⟨k2, r2, hf2, hg2⟩ := fits_g ys
  have QZ1 := Aside0.mk (fun w1 (hb : Below w.heap.size w w1) => QT.laws_zzFits1.calls k1 Aa ca xs r1 w1 (Kd.C_below hx hb) hcx hf1)
  have QZ2 := Aside0.mk (fun w1 (hb : Below w.heap.size w w1) => QT.laws_zzFits1.calls k2 Ab cb ys r2 w1 (Kd.C_below hy hb) hcy hf2)
  obtain ⟨nl, hnl⟩ : ∃ nl, nl = xs.length := ⟨_, rfl⟩
  obtain ⟨nr, hnr⟩ : ∃ nr, nr = ys.length := ⟨_, rfl⟩
  obtain ⟨L, hL⟩ : ∃ L, L = bl.length := ⟨_, rfl⟩
  rw [← hnl] at QZ1 hg1
  rw [← hnr] at QZ2 hg2
  rw [← hnl, ← hnr, ← hL]
  have Q0 := Aside0.mk (show nl = xs.length ∧ nr = ys.length ∧ L = bl.length ∧ Kd.C (Kd.slice 27 (Kd.int .u64)) w Aa xs.length xs ∧ Kd.C (Kd.slice 27 (Kd.int .u64)) w Ab ys.length ys ∧ Cu w B bl from ⟨hnl, hnr, hL, hx, hy, hbC⟩)
  have Q1 := Aside0.mk (show nl ≤ ca ∧ nr ≤ cb ∧ L ≤ cB' ∧ Us xs ∧ Us ys ∧ bytesOk bl = true ∧ Bm w from ⟨by omega, by omega, by omega, hux, huy, hbo, hM⟩)
  have Qb := Aside0.mk (And.intro hg1 hg2)
  clear hx hy hbC hcx hcy hcb hux huy hbo hM hnl hnr hL hf1 hf2 hg1 hg2
  cases r1
  · go_enter Tryd.func3, Tryd.ntmps3
    go_wp2_with (go_at_call 4; go_must (refine (QZ1.out _ (Below.refl _ _)).mono ?_; rintro e w1 ⟨rfl, hb⟩; have B1 := Aside0.mk hb.below; clear hb))
    go_ret
    exact ⟨rfl, B1.out⟩
  cases r2
  · go_enter Tryd.func3, Tryd.ntmps3
    go_wp2_with (go_at_call 4; (first | (with_reducible refine Calls.mono (QZ1.out _ (Below.refl _ _)) ?_; rintro e w1 ⟨rfl, hb⟩; have B1 := Aside0.mk hb.below; clear hb) | (with_reducible refine Calls.mono (QZ2.out _ B1.out) ?_; rintro e w2 ⟨rfl, hb⟩; have B2 := Aside0.mk (B1.out.trans (hb.below.mono B1.out.size)); clear hb)))
    go_ret
    exact ⟨rfl, B2.out⟩
  by_cases b3 : (2147483647 : Int) < (L : Int)
  · have b3' := decide_eq_true b3
    have b3n : 2147483647 < L := by omega
    go_enter Tryd.func3, Tryd.ntmps3
    go_wp2_with (go_at_call 4; (first | (with_reducible refine Calls.mono (QZ1.out _ (Below.refl _ _)) ?_; rintro e w1 ⟨rfl, hb⟩; have B1 := Aside0.mk hb.below; clear hb) | (with_reducible refine Calls.mono (QZ2.out _ B1.out) ?_; rintro e w2 ⟨rfl, hb⟩; have B2 := Aside0.mk (B1.out.trans (hb.below.mono B1.out.size)); clear hb)))
    go_ret
    exact ⟨rfl, B2.out⟩
  have b3' := decide_eq_false b3
  have b3n : ¬ 2147483647 < L := by omega
  go_enter Tryd.func3, Tryd.ntmps3
  go_upto_region 3 with (go_at_call 4; (first | (with_reducible refine Calls.mono (QZ1.out _ (Below.refl _ _)) ?_; rintro e w1 ⟨rfl, hb⟩; have B1 := Aside0.mk hb.below; clear hb) | (with_reducible refine Calls.mono (QZ2.out _ B1.out) ?_; rintro e w2 ⟨rfl, hb⟩; have B2 := Aside0.mk (B1.out.trans (hb.below.mono B1.out.size)); clear hb)))
  clear b3 b3' b3n QZ1 QZ2 B1
  have hbr : ∀ w1, Below w.heap.size w w1 → Bm w1 := fun w1 hb => Q1.out.2.2.2.2.2.2.below hb Q1.out.2.2.2.2.2.2.1
  have QBm := Aside0.mk hbr
  clear hbr
  have QI2 := Aside0.mk (show Calls Tryd.prog 5 #[.int .i64 0, .int .i64 0, .slice (some ⟨w2.heap.size + 1, 0, none⟩) 1 1, .slice (some ⟨w2.heap.size + 3, 0, none⟩) 1 1, .slice (some ⟨w2.heap.size + 4, 0, none⟩) 1 1, .int .i64 0] (mk5 w2) _ from by
    obtain ⟨e0, e1, e2, e3, e4, eb⟩ := mk5_is w2
    have hp : Pw [[1, 0]] := by
      intro r hr
      rw [List.mem_singleton.1 hr]
      exact ⟨rfl, by decide⟩
    exact ci_is 0 0 (by omega) (by omega) (some ⟨w2.heap.size + 1, 0, none⟩) [[1, 0]] 1 (some ⟨w2.heap.size + 3, 0, none⟩) [[1, 0]] 1 (some ⟨w2.heap.size + 4, 0, none⟩) [0] 1 0 1 (mk5 w2) (row_C e0 e1) (row_C e2 e3) hp hp (u8_C e4) (by decide) (by decide) (by decide) (by decide) (by decide) (by decide) (fun _ => ⟨rfl, rfl⟩) (fun h => by omega) (fun h => by omega) (by decide) (by decide) (QBm.out _ (B2.out.trans (eb.mono B2.out.size))))
  have Qeb := Aside0.mk (B2.out.trans ((mk5_is w2).2.2.2.2.2.mono B2.out.size))
  go_upto_region 4 with (go_at_call 5; go_must (refine QI2.out.mono ?_; rintro e w3 ⟨A1, c1, l1, rfl, h1, h2, h3, h4, h5, h6⟩; have K1 := Aside0.mk (show 1 ≤ c1 ∧ l1.length = 1 ∧ bytesOk l1 = true ∧ Cu w3 A1 l1 ∧ bt1 l1 0 = true ∧ Below w.heap.size w w3 from ⟨h1, h2, h3, h4, h5 0 (by decide), Qeb.out.trans (h6.mono Qeb.out.size)⟩); clear h1 h2 h3 h4 h5 h6))
  obtain ⟨ad1, ea1, c11⟩ := Kd.at_int K1.out.2.2.2.1 0 (by decide) (by rw [K1.out.2.1]; decide)
  subst ea1
  obtain ⟨x1, hx1⟩ : ∃ x, x = rd l1 0 := ⟨_, rfl⟩
  rw [← hx1] at c11
  have hand : (Go.bits .and .u8 x1 1 == 1) = true := by
    have hx := bytes_ok K1.out.2.2.1 0
    rw [← hx1] at hx
    have hb := K1.out.2.2.2.2.1
    unfold bt1 at hb
    have h := and_one ⟨x1.toNat, by omega⟩
    simp only [Int.toNat_of_nonneg hx.1] at h
    exact h (by rw [hx1]; exact hb)
  have hand2 : Go.bits .and .u8 x1 1 = 1 := eq_of_beq hand
  have c11' : w3.cell? ad1 = some (.int .u8 x1) := by
    have h := c11
    rw [show ad1.add (0 : Int).toNat = ad1 by simp [Addr.add]] at h
    exact h
  have B3 := Aside0.mk K1.out.2.2.2.2.2
  clear hx1 K1 QI2 Qeb B2
  go_upto_region 5 with (fail)
  clear hand hand2 c11 c11'
  obtain ⟨r1, r2, hpr, hpg⟩ := pairs_is how nl nr
  have QP := Aside0.mk (QT.laws_pairs2.calls how (nl : Int) (nr : Int) r1 r2 w3 hpr)
  have Qpg := Aside0.mk hpg
  clear hpr hpg
  go_upto_region 6 with (go_at_call 6; go_must (refine QP.out.mono ?_; rintro e w4 ⟨rfl, hb⟩; have B4 := Aside0.mk (B3.out.trans (hb.below.mono B3.out.size)); clear hb))
  clear QP B3
  cases r2
  · go_wp2
    go_ret
    exact ⟨rfl, B4.out⟩
  by_cases o1 : op < 0
  · have o1' := decide_eq_true o1
    go_wp2
    go_ret
    exact ⟨rfl, B4.out⟩
  have o1' := decide_eq_false o1
  by_cases o2 : (3 : Int) < op
  · have o2' := decide_eq_true o2
    go_wp2
    go_ret
    exact ⟨rfl, B4.out⟩
  have o2' := decide_eq_false o2
  by_cases m1 : (300 : Int) < (nl : Int)
  · have m1' := decide_eq_true m1
    have m1n : 300 < nl := by omega
    go_wp2
    go_ret
    exact ⟨rfl, B4.out⟩
  have m1' := decide_eq_false m1
  have m1n : ¬ 300 < nl := by omega
  by_cases m2 : (300 : Int) < (nr : Int)
  · have m2' := decide_eq_true m2
    have m2n : 300 < nr := by omega
    go_wp2
    go_ret
    exact ⟨rfl, B4.out⟩
  have m2' := decide_eq_false m2
  have m2n : ¬ 300 < nr := by omega
  obtain ⟨rr, hrr, hrg⟩ := room_is bl f r1
  have QR := Aside0.mk (QT.laws_room.calls B cB' bl f r1 rr w4 (Kd.C_below Q0.out.2.2.2.2.2 B4.out) (by rw [← Q0.out.2.2.1]; exact Q1.out.2.2.1) hrr)
  rw [← Q0.out.2.2.1] at QR
  have Qrg := Aside0.mk hrg
  clear hrr hrg
  cases rr
  · go_wp2_with (go_at_call 7; go_must (refine QR.out.mono ?_; rintro e w5 ⟨rfl, hb⟩; have B5 := Aside0.mk (B4.out.trans (hb.below.mono B4.out.size)); clear hb))
    go_ret
    exact ⟨rfl, B5.out⟩
  go_upto_region 8 with (go_at_call 7; go_must (refine QR.out.mono ?_; rintro e w5 ⟨rfl, hb⟩; have B5 := Aside0.mk (B4.out.trans (hb.below.mono B4.out.size)); clear hb))
  obtain ⟨hw, n, rfl, hhw, rfl, hp0, hp1, hp2⟩ := Qpg.out (by trivial)
  obtain ⟨F, rfl, hF7, hn3, hL1, hFn⟩ := Qrg.out (by trivial) (by omega)
  obtain ⟨o, rfl⟩ := Int.eq_ofNat_of_zero_le (show 0 ≤ op by omega)
  have hop : o ≤ 3 := by omega
  have hpx : ∀ i, i < n → plX hw i < xs.length := by
    intro i hi
    rw [← Q0.out.1]
    unfold plX
    have h3 : hw = 0 ∨ hw = 1 ∨ hw = 2 := by omega
    rcases h3 with h | h | h
    · rw [if_neg (by omega)]; have := hp0 h; omega
    · rw [if_neg (by omega)]; have := hp1 h; omega
    · rw [if_pos h]; have := hp2 h; omega
  have hpy : ∀ i, i < n → plY hw i < ys.length := by
    intro i hi
    rw [← Q0.out.2.1]
    unfold plY
    have h3 : hw = 0 ∨ hw = 1 ∨ hw = 2 := by omega
    rcases h3 with h | h | h
    · rw [if_neg (by omega)]; have := hp0 h; omega
    · rw [if_pos h]; have := hp1 h; omega
    · rw [if_neg (by omega)]; have := hp2 h; omega
  have Qpp := Aside0.mk (show (∀ i, i < n → plX hw i < xs.length) ∧ ∀ i, i < n → plY hw i < ys.length from ⟨hpx, hpy⟩)
  have Qx := Aside0.mk (show o ≤ 3 ∧ hw ≤ 2 ∧ n ≤ 300 ∧ F ≤ 7 ∧ bl.length ≤ 100 ∧ F + n ≤ 8 * bl.length ∧ nl ≤ 300 ∧ nr ≤ 300 ∧ (hw = 0 → nl = n ∧ nr = n) ∧ (hw = 1 → nl = n ∧ 1 ≤ nr) ∧ (hw = 2 → nr = n ∧ 1 ≤ nl) from ⟨hop, hhw, by omega, hF7, hL1, by omega, by omega, by omega, hp0, hp1, hp2⟩)
  have hni : (n : Int) ≤ 300 := by omega
  have hnli : (nl : Int) ≤ 300 := by omega
  have hnri : (nr : Int) ≤ 300 := by omega
  clear o1 o1' o2 o2' m1 m1' m1n m2 m2' m2n QR Qpg Qrg hp0 hp1 hp2 hpx hpy hF7 hn3 hL1 hFn hop hhw B4 Qb
  -- HERE
  go_wp2_with fail
  obtain ⟨W6, hW6⟩ : ∃ W6, W6 = w5.alloc (.cells #[.slice Aa nl ca, .slice Ab nr cb] 22) := ⟨_, rfl⟩
  obtain ⟨gl, hgl⟩ : ∃ gl, gl = w5.heap.size := ⟨_, rfl⟩
  have gq : W6.heap[gl]? = some (.cells #[.slice Aa nl ca, .slice Ab nr cb] 22 (0, 0)) := by rw [hW6, hgl]; exact blk_new w5 _
  have g0 : W6.cell? ⟨gl, 0, none⟩ = some (.slice Aa nl ca) := (blk_cell gq 0).trans rfl
  have g1 : W6.cell? ⟨gl, 1, none⟩ = some (.slice Ab nr cb) := (blk_cell gq 1).trans rfl
  have B6 := Aside0.mk (show Below w.heap.size w W6 by rw [hW6]; exact B5.out.alloc B5.out.size _)
  rw [← hW6, ← hgl]
  clear hW6 hgl gq
  go_loopg [104] 2 (fun kq v104 w' => ∃ i : Nat, v104 = .int .i64 (i : Int) ∧ w' = W6 ∧ Aside0 (i + kq = 2) ∧ Aside0 ((0 < i → ∀ r ∈ xs, r.length = 2) ∧ (1 < i → ∀ r ∈ ys, r.length = 2)))
  case atStart => exact ⟨0, rfl, rfl, ⟨by omega⟩, ⟨fun h => by omega, fun h => by omega⟩⟩
  case round =>
    obtain ⟨i, rfl, hwr, HA, HP⟩ := hrel
    subst wr
    rcases Nat.eq_zero_or_pos gk with h0 | h0
    · have hi : i = 2 := by have := HA.out; omega
      subst hi
      clear g0 g1
      have QPw := Aside0.mk (show Pw xs ∧ Pw ys from ⟨fun r hr => ⟨HP.out.1 (by omega) r hr, Q1.out.2.2.2.1 r hr⟩, fun r hr => ⟨HP.out.2 (by omega) r hr, Q1.out.2.2.2.2.1 r hr⟩⟩)
      clear HP HA h0
      have QPL := Aside0.mk (fun (i : Nat) (w1 : World) => QT.laws_place2.calls (hw : Int) (i : Int) _ _ w1 (place_is hw i Qx.out.2.1))
      have QAN := Aside0.mk (fun (c : Int) (w1 : World) => QT.laws_answer.calls (o : Int) c false _ w1 (answer_is o Qx.out.1 c))
      go_wp2_with fail
      go_loopg [22, 23] n (fun kq v22 v23 w' => ∃ i : Nat, v23 = .int .i64 (i : Int) ∧ Aside0 (i + kq = n) ∧ Aside0 (Kd.R Kd.bool 4 w' W6.heap.size (fun _ => True) v22 (dueL o hw (dOf xs) (dOf ys) i)) ∧ Aside0 (Below W6.heap.size W6 w'))
      case atStart => exact ⟨0, rfl, ⟨by omega⟩, ⟨Kd.R_nil _ _ _ _ _⟩, ⟨Below.refl _ _⟩⟩
      case round =>
        obtain ⟨i, rfl, HA, HR, HB⟩ := hrel
        obtain ⟨A7, c7, rfl⟩ := Kd.R_slice HR.out
        rcases Nat.eq_zero_or_pos gk with hk0 | hk0
        · have hin2 : n = i := by have := HA.out; omega
          subst hin2
          have hi : ((n : Int) < (n : Int)) = False := by simp
          obtain ⟨A9, c9, e9, l9, r9⟩ := Kd.R_reads HR.out
          rw [dueL_len] at e9 l9 r9
          rw [dueL_len]
          have QDU := Aside0.mk (And.intro e9 (And.intro l9 r9))
          have hB7 := B6.out.trans (HB.out.mono B6.out.size)
          have QW := Aside0.mk hB7
          have QCI := Aside0.mk (ci_is o hw Qx.out.1 Qx.out.2.1 Aa xs ca Ab ys cb B bl cB' F n wr (Kd.C_below Q0.out.2.2.2.1 hB7) (Kd.C_below Q0.out.2.2.2.2.1 hB7) QPw.out.1 QPw.out.2 (Kd.C_below Q0.out.2.2.2.2.2 hB7) (by rw [← Q0.out.2.2.1]; exact Q1.out.2.2.1) Q1.out.2.2.2.2.2.1 (by have := Qx.out; omega) (by have := Qx.out; have := Q0.out; omega) (by have := Qx.out; have := Q0.out; omega) (by have := Qx.out; omega) (fun h => by rw [← Q0.out.1, ← Q0.out.2.1]; exact Qx.out.2.2.2.2.2.2.2.2.1 h) (fun h => by rw [← Q0.out.1, ← Q0.out.2.1]; exact Qx.out.2.2.2.2.2.2.2.2.2.1 h) (fun h => by rw [← Q0.out.1, ← Q0.out.2.1]; exact Qx.out.2.2.2.2.2.2.2.2.2.2 h) (by have := Qx.out; omega) (by have := Qx.out; omega) (QBm.out wr hB7))
          rw [← Q0.out.1, ← Q0.out.2.1, ← Q0.out.2.2.1] at QCI
          clear e9 l9 r9 hB7 hk0 HA HR HB QPL QAN
          go_upto_region 25 with (go_at_call 5; go_must (refine QCI.out.mono ?_; rintro e w7 ⟨A8, c8, l8, rfl, h1, h2, h3, h4, h5, h6⟩; have K7 := Aside0.mk (And.intro h1 (And.intro h2 (And.intro h3 (And.intro h4 (And.intro h5 h6))))); clear h1 h2 h3 h4 h5 h6))
          have hdue : ∃ k, QT.laws_bitsDue.f k bl l8 (F : Int) (dueL o hw (dOf xs) (dOf ys) n) = some true := by
            have hl7 : l8.length = bl.length := by rw [K7.out.2.1, Q0.out.2.2.1]
            have hb7 := K7.out.2.2.2.2.1
            have hQ := Qx.out
            refine bitsDue_is hl7 (by rw [hl7]; omega) Q1.out.2.2.2.2.2.1 K7.out.2.2.1 F n _ (dueL_len _ _ _ _ _) (by rw [hl7]; omega) (fun i hi => ?_) (fun i hi => ?_)
            · have h := hb7 i (by omega)
              rw [if_pos hi] at h
              exact h
            · have h := hb7 (F + i) (by omega)
              rw [if_neg (by omega), show F + i - F = i by omega, ← due_is o hw hQ.1] at h
              rw [h]
              unfold dueL
              rw [List.getElem?_map, List.getElem?_range hi]
              rfl
          obtain ⟨kk, hkk⟩ := hdue
          have hB8 := QW.out.trans (K7.out.2.2.2.2.2.mono QW.out.size)
          have QB := Aside0.mk hB8
          obtain ⟨A9', c9', e9, h9⟩ : ∃ A9' c9', Value.slice A7 n c7 = .slice A9' n c9' ∧ A9' = A9 ∧ c9' = c9 := ⟨A9, c9, QDU.out.1, rfl, rfl⟩
          cases e9
          obtain ⟨rfl, rfl⟩ := h9
          have hbd := QT.laws_bitsDue.calls kk B cB' bl A8 c8 l8 (F : Int) A7 c7 (dueL o hw (dOf xs) (dOf ys) n) true w7 (Kd.C_below Q0.out.2.2.2.2.2 hB8) (by rw [← Q0.out.2.2.1]; exact Q1.out.2.2.1) K7.out.2.2.2.1 (by rw [K7.out.2.1]; exact K7.out.1) (by rw [dueL_len]; exact Kd.C_below QDU.out.2.2 K7.out.2.2.2.2.2) (by rw [dueL_len]; exact QDU.out.2.1) hkk
          rw [dueL_len, ← Q0.out.2.2.1, K7.out.2.1] at hbd
          have QBD := Aside0.mk hbd
          clear hkk hbd hB8 QCI K7
          go_wp2_with (go_at_call 12; go_must (refine QBD.out.mono ?_; rintro e w9 ⟨rfl, hb⟩; have B9 := Aside0.mk (QB.out.trans (hb.below.mono QB.out.size)); clear hb))
          go_ret
          exact ⟨rfl, B9.out⟩
        · obtain ⟨zi, hzi⟩ : ∃ zi, zi = dueL o hw (dOf xs) (dOf ys) i := ⟨_, rfl⟩
          have hzl : zi.length = i := by rw [hzi, dueL_len]
          rw [← hzi] at HR ⊢
          have Qz := Aside0.mk (And.intro hzi hzl)
          clear hzi hzl
          have hi : (i : Int) < (n : Int) := by have := HA.out; omega
          have hi2 : i < n := by have := HA.out; omega
          have QI := Aside0.mk hi2
          obtain ⟨k1, rfl⟩ : ∃ k1, gk = k1 + 1 := ⟨gk - 1, by omega⟩
          obtain ⟨px, hpx⟩ : ∃ px, px = plX hw i := ⟨_, rfl⟩
          obtain ⟨py, hpy⟩ : ∃ py, py = plY hw i := ⟨_, rfl⟩
          have hpx1 : px < xs.length := by rw [hpx]; exact Qpp.out.1 i hi2
          have hpy1 : py < ys.length := by rw [hpy]; exact Qpp.out.2 i hi2
          have hpxi : (px : Int) < (nl : Int) := by have := Q0.out; omega
          have hpyi : (py : Int) < (nr : Int) := by have := Q0.out; omega
          have hpxn : px < nl := by omega
          have hpyn : py < nr := by omega
          obtain ⟨adx, A3, c3, ex, kx, hc3, hC3⟩ := QT.at_L5 (Kd.C_below Q0.out.2.2.2.1 B6.out) (px : Int) (by omega) (by omega)
          obtain ⟨ady, A4, c4, ey, ky, hc4, hC4⟩ := QT.at_L5 (Kd.C_below Q0.out.2.2.2.2.1 B6.out) (py : Int) (by omega) (by omega)
          subst ex
          subst ey
          rw [Int.toNat_natCast] at kx ky
          have hmx : QT.rd_L5 xs (px : Int) ∈ xs := by
            unfold QT.rd_L5
            rw [Int.toNat_natCast, List.getD_eq_getElem?_getD, List.getElem?_eq_getElem hpx1]
            exact List.getElem_mem hpx1
          have hmy : QT.rd_L5 ys (py : Int) ∈ ys := by
            unfold QT.rd_L5
            rw [Int.toNat_natCast, List.getD_eq_getElem?_getD, List.getElem?_eq_getElem hpy1]
            exact List.getElem_mem hpy1
          obtain ⟨hlx, hrx⟩ := QPw.out.1 _ hmx
          obtain ⟨hly, hry⟩ := QPw.out.2 _ hmy
          have hdx : rdD (dOf xs) px = (rd (QT.rd_L5 xs (px : Int)) 0, IntKind.i64.wrap (rd (QT.rd_L5 xs (px : Int)) 1)) := by
            unfold rdD QT.rd_L5
            rw [Int.toNat_natCast, List.getD_eq_getElem?_getD, List.getElem?_map, List.getD_eq_getElem?_getD, List.getElem?_eq_getElem hpx1]
            rfl
          have hdy : rdD (dOf ys) py = (rd (QT.rd_L5 ys (py : Int)) 0, IntKind.i64.wrap (rd (QT.rd_L5 ys (py : Int)) 1)) := by
            unfold rdD QT.rd_L5
            rw [Int.toNat_natCast, List.getD_eq_getElem?_getD, List.getElem?_map, List.getD_eq_getElem?_getD, List.getElem?_eq_getElem hpy1]
            rfl
          obtain ⟨rx, hrxe⟩ : ∃ rx, rx = QT.rd_L5 xs (px : Int) := ⟨_, rfl⟩
          obtain ⟨ry, hrye⟩ : ∃ ry, ry = QT.rd_L5 ys (py : Int) := ⟨_, rfl⟩
          rw [← hrxe] at kx hc3 hC3 hlx hrx hdx
          rw [← hrye] at ky hc4 hC4 hly hry hdy
          rw [hlx] at kx hc3 hC3
          rw [hly] at ky hc4 hC4
          obtain ⟨kx1, bx, mx, hfx, hnx, hwx, hlx2⟩ := from_is hlx hrx
          obtain ⟨ky1, by1, my, hfy, hny, hwy, hly2⟩ := from_is hly hry
          have hbx : 0 ≤ (rdD (dOf xs) px).1 ∧ (rdD (dOf xs) px).1 < 18446744073709551616 := by rw [hdx]; exact rd_in hrx 0
          have hby : 0 ≤ (rdD (dOf ys) py).1 ∧ (rdD (dOf ys) py).1 < 18446744073709551616 := by rw [hdy]; exact rd_in hry 0
          rw [← hdx] at hnx
          rw [← hdy] at hny
          obtain ⟨kc, hkc⟩ := wcmp_is hbx hby hnx hwx hlx2 hny hwy
          have hd : dueR o hw (dOf xs) (dOf ys) i = ansB o (ordD (rdD (dOf xs) px) (rdD (dOf ys) py)) := by unfold dueR; rw [← hpx, ← hpy]
          obtain ⟨cv, hcv⟩ : ∃ cv, cv = ordD (rdD (dOf xs) px) (rdD (dOf ys) py) := ⟨_, rfl⟩
          rw [← hcv] at hkc hd
          obtain ⟨bv, hbv⟩ : ∃ bv, bv = ansB o cv := ⟨_, rfl⟩
          have QA2 := Aside0.mk (fun w1 => QAN.out cv w1)
          rw [← hbv] at hd QA2
          have Qd := Aside0.mk hd
          have QFx := Aside0.mk (fun w1 hb => fw_is hC3 hlx hc3 hfx w1 hb)
          have QFy := Aside0.mk (fun w1 hb => fw_is hC4 hly hc4 hfy w1 hb)
          have QWC := Aside0.mk (fun (A : Option Addr) (c : Nat) (A' : Option Addr) (c' : Nat) (w1 : World) (h1 : mx.length ≤ c) (h2 : Kd.C (Kd.int .u32) w1 A mx.length mx) (h3 : my.length ≤ c') (h4 : Kd.C (Kd.int .u32) w1 A' my.length my) => QT.spec_WideCmp.calls kc bx A c mx by1 A' c' my cv w1 h2 h1 h4 h3 hkc)
          have QP := Aside0.mk (fun w1 => QPL.out i w1)
          rw [← hpx, ← hpy] at QP
          have QC0 := Aside0.mk (And.intro kx ky)
          generalize mx.length = lmx at QFx QWC
          generalize my.length = lmy at QFy QWC
          clear hd hbv hcv hkc hbx hby hnx hny hwx hwy hlx2 hly2 hfx hfy hdx hdy hrx hry hlx hly hC3 hC4 hc3 hc4 hmx hmy hrxe hrye hpx1 hpy1 hpx hpy hk0 hi2 kx ky
          go_upto_region 23 with (go_at_call 8; refine (QP.out _).mono ?_; rintro e w7 ⟨rfl, hb⟩; have Q7 := Aside0.mk (And.intro (HB.out.trans (hb.below.mono HB.out.size)) (Kd.R_below HR.out hb.below)); clear hb)
          have QS := sd_of QC0.out (show Below W6.heap.size W6 w7.drew from ⟨Q7.out.1.os, Q7.out.1.tape, Q7.out.1.output, Q7.out.1.size, Q7.out.1.block⟩)
          have R0 := Aside0.mk (Kd.R_below Q7.out.2 (show Below w7.heap.size w7 w7.drew from ⟨rfl, rfl, rfl, Nat.le_refl _, fun _ _ => rfl⟩))
          go_region_held3 (fun w' => Below W6.heap.size W6 w' ∧ w'.cell? (adx.add px) = some (.slice A3 2 c3) ∧ w'.cell? (ady.add py) = some (.slice A4 2 c4)) (first | assumption | exact sd_of QC0.out (by assumption) | exact sd_of QC0.out (sd_alloc _ (by assumption))) (first
            | (go_at_call 11; (first
                | (with_reducible refine Calls.mono (QFx.out _ (And.left (by assumption))) ?_; rintro e w2 ⟨A5, c5, rfl, hl5, hC5, hb⟩; have X5 := Aside0.mk (And.intro hl5 hC5); have hbw := sd_go (by assumption) hb; (first | (have RB := Aside0.mk (Kd.R_below RA.out hb); have Y6 := Aside0.mk (And.intro Y5.out.1 (Kd.C_below Y5.out.2 hb))) | (have RA := Aside0.mk (Kd.R_below R0.out hb))); clear hb hl5 hC5)
                | (with_reducible refine Calls.mono (QFy.out _ (And.left (by assumption))) ?_; rintro e w3 ⟨A6, c6, rfl, hl6, hC6, hb⟩; have Y5 := Aside0.mk (And.intro hl6 hC6); have hbw := sd_go (by assumption) hb; (first | (have RB := Aside0.mk (Kd.R_below RA.out hb); have X6 := Aside0.mk (And.intro X5.out.1 (Kd.C_below X5.out.2 hb))) | (have RA := Aside0.mk (Kd.R_below R0.out hb))); clear hb hl6 hC6)))
            | (go_at_call 10; (first | with_reducible refine Calls.mono (QWC.out _ _ _ _ _ X6.out.1 X6.out.2 Y5.out.1 Y5.out.2) ?_ | with_reducible refine Calls.mono (QWC.out _ _ _ _ _ X5.out.1 X5.out.2 Y6.out.1 Y6.out.2) ?_); rintro e w4 ⟨rfl, hb⟩; have hbw := sd_go (by assumption) hb; have RC := Aside0.mk (Kd.R_below RB.out hb); clear hb)
            | (go_at_call 9; with_reducible refine Calls.mono (QA2.out _) ?_; rintro e w8 ⟨rfl, hb⟩; have hbw := sd_go (by assumption) hb.below; have BD := Aside0.mk hbw; have RD := Aside0.mk (Kd.R_below RC.out hb.below); clear hb)
            | (refine Kd.R_append_step Kd.bool (w0 := W6) W6.heap.size (by rfl) (.tmp 131) (.tmp 145) 33 4 (.bool false) 1 rfl Tryd.underlying33 infoB rfl (by decide) (by omega) _ zi bv [.bool bv] (fun _ => True) (fun _ => False) rfl rfl rfl (fun _ h => h.elim) (fun _ _ => trivial) RD.out BD.out BD.out.size (by rw [Qz.out.2]; have := QI.out; have := Qx.out; omega) ?_; intro v9 w9 hr9 hb9 _ _; have QR9 := Aside0.mk hr9; have QB9 := Aside0.mk hb9; clear hr9))
          go_wp2
          go_roundg k1
          case rel =>
            refine ⟨i + 1, rfl, ⟨by have := HA.out; omega⟩, ⟨?_⟩, QB9⟩
            rw [dueL_succ, Qd.out, ← Qz.out.1]
            exact QR9.out
          · omega
    · obtain ⟨k1, rfl⟩ : ∃ k1, gk = k1 + 1 := ⟨gk - 1, by omega⟩
      have hi : i = 0 ∨ i = 1 := by have := HA.out; omega
      rcases hi with rfl | rfl
      · go_upto_region 11 with (fail)
        go_wp2_with fail
        go_loopg [110] nl (fun kq2 v110 w' => ∃ j : Nat, v110 = .int .i64 (j : Int) ∧ w' = W6 ∧ Aside0 (j + kq2 = nl) ∧ Aside0 (∀ k, k < j → (QT.rd_L5 xs (k : Int)).length = 2))
        case atStart => exact ⟨0, rfl, rfl, ⟨by omega⟩, ⟨fun k hk => by omega⟩⟩
        case round =>
          obtain ⟨j, rfl, hwr, HA2, HP2⟩ := hrel
          subst wr
          rcases Nat.eq_zero_or_pos gk with h0 | h0
          · have hj : ((j : Int) < (nl : Int)) = False := by have := HA2.out; simp; omega
            have hall : ∀ r ∈ xs, r.length = 2 := fun r hr => by
              obtain ⟨k, hk, rfl⟩ := List.mem_iff_getElem.1 hr
              have h := HP2.out k (by have := HA2.out; have := Q0.out; omega)
              unfold QT.rd_L5 at h
              rw [Int.toNat_natCast, List.getD_eq_getElem?_getD, List.getElem?_eq_getElem hk] at h
              exact h
            have Qall := Aside0.mk hall
            clear hall HP2 HA2 h0
            go_wp2
            go_roundg k1
            case rel => exact ⟨1, rfl, rfl, ⟨by have := HA.out; omega⟩, ⟨fun _ => Qall.out, fun h => by omega⟩⟩
            · omega
          · have hj : (j : Int) < (nl : Int) := by have := HA2.out; omega
            have hj2 : j < nl := by omega
            obtain ⟨k2, rfl⟩ : ∃ k2, gk = k2 + 1 := ⟨gk - 1, by omega⟩
            obtain ⟨ad, A5, c5, e, kc, hc5, hC5⟩ := QT.at_L5 (Kd.C_below Q0.out.2.2.2.1 B6.out) (j : Int) (by omega) (by have := Q0.out; omega)
            subst e
            rw [Int.toNat_natCast] at kc
            obtain ⟨m, hm⟩ : ∃ m, m = (QT.rd_L5 xs (j : Int)).length := ⟨_, rfl⟩
            rw [← hm] at kc
            have Qm := Aside0.mk hm
            clear hm hc5 hC5 h0
            by_cases hm2 : m = 2
            · subst hm2
              go_wp2
              go_roundg k2
              case rel =>
                refine ⟨j + 1, rfl, rfl, ⟨by have := HA2.out; omega⟩, ⟨fun k hk => ?_⟩⟩
                by_cases hkj : k = j
                · rw [hkj]; exact Qm.out.symm
                · exact HP2.out k (by omega)
              · omega
            · have hm3 : ((m : Int) != 2) = true := by simp; omega
              have hm4 : ¬ (m : Int) = 2 := by omega
              go_wp2
              go_ret
              exact ⟨rfl, B6.out⟩
      · go_upto_region 11 with (fail)
        go_wp2_with fail
        go_loopg [110] nr (fun kq2 v110 w' => ∃ j : Nat, v110 = .int .i64 (j : Int) ∧ w' = W6 ∧ Aside0 (j + kq2 = nr) ∧ Aside0 (∀ k, k < j → (QT.rd_L5 ys (k : Int)).length = 2))
        case atStart => exact ⟨0, rfl, rfl, ⟨by omega⟩, ⟨fun k hk => by omega⟩⟩
        case round =>
          obtain ⟨j, rfl, hwr, HA2, HP2⟩ := hrel
          subst wr
          rcases Nat.eq_zero_or_pos gk with h0 | h0
          · have hj : ((j : Int) < (nr : Int)) = False := by have := HA2.out; simp; omega
            have hall : ∀ r ∈ ys, r.length = 2 := fun r hr => by
              obtain ⟨k, hk, rfl⟩ := List.mem_iff_getElem.1 hr
              have h := HP2.out k (by have := HA2.out; have := Q0.out; omega)
              unfold QT.rd_L5 at h
              rw [Int.toNat_natCast, List.getD_eq_getElem?_getD, List.getElem?_eq_getElem hk] at h
              exact h
            have Qall := Aside0.mk hall
            clear hall HP2 HA2 h0
            go_wp2
            go_roundg k1
            case rel => exact ⟨2, rfl, rfl, ⟨by have := HA.out; omega⟩, ⟨fun _ => HP.out.1 (by omega), fun _ => Qall.out⟩⟩
            · omega
          · have hj : (j : Int) < (nr : Int) := by have := HA2.out; omega
            have hj2 : j < nr := by omega
            obtain ⟨k2, rfl⟩ : ∃ k2, gk = k2 + 1 := ⟨gk - 1, by omega⟩
            obtain ⟨ad, A5, c5, e, kc, hc5, hC5⟩ := QT.at_L5 (Kd.C_below Q0.out.2.2.2.2.1 B6.out) (j : Int) (by omega) (by have := Q0.out; omega)
            subst e
            rw [Int.toNat_natCast] at kc
            obtain ⟨m, hm⟩ : ∃ m, m = (QT.rd_L5 ys (j : Int)).length := ⟨_, rfl⟩
            rw [← hm] at kc
            have Qm := Aside0.mk hm
            clear hm hc5 hC5 h0
            by_cases hm2 : m = 2
            · subst hm2
              go_wp2
              go_roundg k2
              case rel =>
                refine ⟨j + 1, rfl, rfl, ⟨by have := HA2.out; omega⟩, ⟨fun k hk => ?_⟩⟩
                by_cases hkj : k = j
                · rw [hkj]; exact Qm.out.symm
                · exact HP2.out k (by omega)
              · omega
            · have hm3 : ((m : Int) != 2) = true := by simp; omega
              have hm4 : ¬ (m : Int) = 2 := by omega
              go_wp2
              go_ret
              exact ⟨rfl, B6.out⟩
end Go.Proofs.YtlnbkmkdapeicaaDoor.QR
