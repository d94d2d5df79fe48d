/- (*baseSetBitRunReader).NextRun, backwards, where the run reaches the end of the word; all ways joined. -/
import Derived.Test.YtpjaaonpbohkdaaDoorZA6
import Derived.Laws.IdiomCopy
import Derived.Handy
import Derived.IntWalk
import Derived.Test.YtpjaaonpbohkdaaDoorA1
import Derived.Test.YtpjaaonpbohkdaaDoorZA2
import Derived.Laws.Externs
import Derived.StillTailTactics
namespace Go.Proofs.YtpjaaonpbohkdaaDoor.QR
open Go.RowKit Go.Proofs.YtpjaaonpbohkdaaDoorW.PrintWords Go.Proofs.YtpjaaonpbohkdaaDoorW.PrintLast Go.Proofs.YtpjaaonpbohkdaaDoorW.PrintMore
set_option linter.unusedVariables false
set_option linter.unusedSimpArgs false
set_option maxHeartbeats 16000000 in
set_option maxRecDepth 100000 in
/-- The run reaches the word's end. -/
theorem nr_B3 (g : Nat) (l : List Int) (f L r c : Nat) (w0 w : World) (hS : RS w0 w g l f L r c) (hc : 0 < c) (hB : Below w0.heap.size w0 w) (hh : 0 < hi (bt1 l) (f + r) c) (hC : fcrC (bt1 l) f r c = 0) :
    Calls Tryd.prog 111 #[.pointer (some ⟨g, 0, none⟩)] w fun e w' => e = .returned (.agg #[.int .i64 (nrS (bt1 l) f (r + c) : Nat), .int .i64 (nrN (bt1 l) f (r + c) : Nat)]) ∧ Ran w0 w g l f L (r + c) w' := by
  have mixed : Tryd.prog.follows .mixedOrders = true := by kernel_rfl
  have hlt := hS.lt
  have hrc := hS.rc
  have hc64 := hS.c64
  obtain ⟨W1, hW1⟩ : ∃ W1, W1 = w.alloc (.cells #[.int .i64 0, .int .i64 0] 100) := ⟨_, rfl⟩
  have B1 : Below w.heap.size w W1 := by rw [hW1]; exact below_alloc (Below.refl _ _) _
  have s1 : W1.heap.size = w.heap.size + 1 := by rw [hW1]; simp
  have S1 := hS.below B1
  obtain ⟨Wa, a3, a4, a5, a6, a7, y4, y5, _⟩ := S1.cells
  have r0 : W1.cell? ⟨w.heap.size, 0, none⟩ = some (.int .i64 0) := by rw [hW1]; simp [go_sem]
  have r1 : W1.cell? ⟨w.heap.size, 1, none⟩ = some (.int .i64 0) := by rw [hW1]; simp [go_sem]
  have f0 : W1.frozen? ⟨w.heap.size, 0, none⟩ = false := by rw [hW1]; simp [go_sem]
  have f1 : W1.frozen? ⟨w.heap.size, 1, none⟩ = false := by rw [hW1]; simp [go_sem]
  have hne : w.heap.size ≠ g := by omega
  have hne2 : g ≠ w.heap.size := by omega
  have hcl : (c : Int) ≤ 64 := by omega
  have hcz : ((c : Int) != 0) = true := by simp; omega
  have hcz2 : ((c : Int) == 0) = false := by simp; omega
  have hcz3 : ¬ c = 0 := by omega
  have QB1 := Aside0.mk (hB.trans (B1.mono hB.size))
  have QK1 := Aside0.mk (show KeepBut w W1 g none from ⟨B1.size, fun i hi _ _ => B1.block i hi⟩)
  have QF := Aside0.mk (fcr_is g l f L r c w0 W1 S1 hc QB1.out)
  have Qs1 := Aside0.mk s1
  have Qrc := Aside0.mk hrc
  have QhB := Aside0.mk hB.size
  have Qc0 := Aside0.mk hc
  have Qc6 := Aside0.mk hc64
  have hhi := hi_le (bt1 l) (f + r) c
  obtain ⟨h, hh1⟩ : ∃ h, h = hi (bt1 l) (f + r) c := ⟨_, rfl⟩
  rw [← hh1] at hhi hh
  have hC0 : hi (fun t => !bt1 l t) (f + r) h = 0 := by rw [← hC]; unfold fcrC; rw [← hh1]
  have hP : fcrP (bt1 l) f r c = r + h := by unfold fcrP; rw [← hh1, if_neg (by omega)]
  have hN : fcrN (bt1 l) f r c = h := by unfold fcrN; rw [← hh1, hC]; omega
  rw [hP, hN, hC] at QF
  obtain ⟨P, hPe⟩ : ∃ P, P = r + h := ⟨_, rfl⟩
  rw [← hPe] at QF
  have hn1 : ((h : Int) != 0) = true := by simp; omega
  have hn2 : ((h : Int) == 0) = false := by simp; omega
  have hn3 : ¬ h = 0 := by omega
  have hhl : (h : Int) ≤ 64 := by omega
  have hPl : (P : Int) ≤ 1000000 := by omega
  have hR1 : hi (bt1 l) f (r + c) = r + h := by rw [hi_add, ← hh1, if_pos (by omega)]
  have hR2 : nrS (bt1 l) f (r + c) = hi (fun t => !bt1 l t) f r := by unfold nrS; rw [hR1, hi_add, hC0, if_neg (by omega)]
  obtain ⟨S, hSe⟩ : ∃ S, S = hi (fun t => !bt1 l t) f r := ⟨_, rfl⟩
  have hSr := hi_le (fun t => !bt1 l t) f r
  rw [← hSe] at hR2 hSr
  have QS := Aside0.mk hSe
  have QSr := Aside0.mk hSr
  have QP := Aside0.mk hPe
  have QR := Aside0.mk hR2
  have QRn := Aside0.mk (show nrN (bt1 l) f (r + c) = h + (r - S) from by unfold nrN; rw [hR2, hR1]; omega)
  have hrb : (r : Int) ≤ 1000000 := by omega
  clear hhi hh1 hh hC0 hP hN hPe hR1 hR2 hSe hSr hC
  clear hS hB B1 S1 s1 hrc hlt a4 a7 y4 y5 a3 a6 hc hc64
  go_enter Tryd.func111, Tryd.ntmps111
  go_upto_region 1 with (fail)
  rw [← hW1]
  clear hW1
  go_wp2_with fail
  refine QF.out.mono ?_
  rintro e w2 ⟨rfl, S2, B2, K2⟩
  obtain ⟨Wb, b3, b4, b5, b6, b7, y4, y5, _⟩ := S2.cells
  have e0 := (kb_cell K2 (k := 0) hne (by rw [Qs1.out]; omega)).trans r0
  have e1 := (kb_cell K2 (k := 1) hne (by rw [Qs1.out]; omega)).trans r1
  have e2 := (kb_froz K2 (k := 0) hne (by rw [Qs1.out]; omega)).trans f0
  have e3 := (kb_froz K2 (k := 1) hne (by rw [Qs1.out]; omega)).trans f1
  have hsz : w.heap.size < w2.heap.size := by have := K2.1; rw [Qs1.out] at this; exact this
  have hgl : g < w2.heap.size := S2.lt
  have Q2 := Aside0.mk S2
  have QB2 := Aside0.mk B2
  have QK2 := Aside0.mk (kb_trans QK1.out K2)
  clear B2 K2 r0 r1 f0 f1 a5 QF QK1 QB1
  rw [Nat.add_zero] at b3
  go_upto_region 15 with (fail)
  obtain ⟨W3, hW3⟩ : ∃ W3, W3 = w2.alloc (.cells #[.int .i64 (P : Int), .int .i64 (h : Int)] 100) := ⟨_, rfl⟩
  have B3 : Below w2.heap.size w2 W3 := by rw [hW3]; exact below_alloc (Below.refl _ _) _
  have S3 := S2.below B3
  have QS3 := Aside0.mk S3
  have QB3 := Aside0.mk (QB2.out.trans (B3.mono QB2.out.size))
  have QK3 := Aside0.mk (kb_trans QK2.out ⟨B3.size, fun i hi _ _ => B3.block i hi⟩)
  have x0 := (B3.cell (p := ⟨w.heap.size, 0, none⟩) hsz).trans e0
  have x1 := (B3.cell (p := ⟨w.heap.size, 1, none⟩) hsz).trans e1
  have x2 := (B3.frozen (p := ⟨w.heap.size, 0, none⟩) hsz).trans e2
  have x3 := (B3.frozen (p := ⟨w.heap.size, 1, none⟩) hsz).trans e3
  have hsz3 : w.heap.size < W3.heap.size := Nat.lt_of_lt_of_le hsz B3.size
  have hgl3 : g < W3.heap.size := Nat.lt_of_lt_of_le hgl B3.size
  obtain ⟨⟨p, Wg, hI, _, hp⟩, hbo, hl, _, hrc⟩ := id S3
  obtain ⟨A3, c3, HG3, hg, _⟩ := id hI
  have n3 := cellS132_3 HG3
  have n5 := cellS132_5 HG3
  have n6 := cellS132_6 HG3
  rw [← hW3]
  clear hW3
  clear b3 b4 b5 b6 b7 y4 y5 S2 e0 e1 e2 e3 B3 S3
  by_cases hr0 : r = 0
  · have QA := Aside0.mk (fun w hl k6 => adj_is g P h (by have := QP.out; omega) hPl w hl k6)
    have hSr : S = r := by have := QSr.out; omega
    rw [show P - h = S by have := QP.out; omega] at QA
    have Q0 := Aside0.mk hr0
    have n3' : W3.cell? ⟨g, 3, none⟩ = some (.int .i64 0) := by rw [n3, hr0]; rfl
    have QE := Aside0.mk (show h + (r - S) = h by omega)
    have QE2 := Aside0.mk (show r + 0 = S by omega)
    clear n3 hI hp hbo hl hrc HG3 hSr hr0
    go_wp2_with fail
    refine (QA.out W3 hgl3 n6).mono ?_
    rintro e w9 ⟨rfl, B9⟩
    have h0' := (B9.cell (p := ⟨w.heap.size, 0, none⟩) hsz3).trans x0
    have h1' := (B9.cell (p := ⟨w.heap.size, 1, none⟩) hsz3).trans x1
    have h2' := (B9.frozen (p := ⟨w.heap.size, 0, none⟩) hsz3).trans x2
    have h3' := (B9.frozen (p := ⟨w.heap.size, 1, none⟩) hsz3).trans x3
    have Q9 := Aside0.mk B9
    clear B9 QA x0 x1 x2 x3
    go_wp2
    refine bodyPost_ret (v := .agg #[.int .i64 ((S : Nat) : Int), .int .i64 ((h : Nat))]) (by simp [results, Tryd.results111, go_sem, h0', h1']) rfl ?_
    refine ⟨by rw [QR.out, QRn.out, QE.out], r, 0, ⟨((QS3.out.below Q9.out).far hne2 _).far hne2 _, ?_, ?_⟩, by rw [QR.out]; exact QE2.out⟩
    · exact ((QB3.out.trans (Q9.out.mono QB3.out.size)).setCell QhB.out _).setCell QhB.out _
    · exact kb_new (kb_new (kb_trans QK3.out ⟨Q9.out.size, fun i hi _ _ => Q9.out.block i hi⟩) (Nat.le_refl _)) (Nat.le_refl _)
  · have Qrp := Aside0.mk (show 0 < r by omega)
    by_cases h64 : 64 ≤ r
    · obtain ⟨q0, hq, hq8, hql⟩ := hp (by omega)
      obtain ⟨q, rfl⟩ : ∃ q, q0 = q + 8 := ⟨q0 - 8, by omega⟩
      subst hq
      have hI2 : IsS132 w0 W3 g l ((q : Int) + 8) L ((r - 64 + 64 : Nat) : Int) Wg 0 true FB := by
        have h := hI
        rw [show ((q + 8 : Nat) : Int) = (q : Int) + 8 by omega, show r + 0 = r - 64 + 64 by omega] at h
        exact h
      have hge : decide ((64 : Int) ≤ (r : Int)) = true := decide_eq_true (by omega)
      have HL := Aside0.mk (lf_is g l _ _ _ _ _ q w0 W3 hI2 QB3.out hbo (by omega) hl)
      have Q8 := Aside0.mk (show 8 * q = f + (r - 64) by omega)
      have Qr := Aside0.mk (show r - 64 + 64 = r ∧ r ≤ 1000000 ∧ q + 8 ≤ l.length from ⟨by omega, by omega, hql⟩)
      have Qbo := Aside0.mk hbo
      have Qll := Aside0.mk hl
      clear hI hI2 HG3 hp hbo hl hrc hql hq8 hr0 h64
      go_wp2_with fail
      refine HL.out.mono ?_
      rintro e w4 ⟨rfl, h1, h2, h3⟩
      obtain ⟨A2, c2, HG2, _, _⟩ := id h1
      have m3 := cellS132_3 HG2
      have m4 := cellS132_4 HG2
      have m5 := cellS132_5 HG2
      have m6 := cellS132_6 HG2
      have m7 := cellS132_7 HG2
      have z4 := blk_frozen HG2 4
      have z5 := blk_frozen HG2 5
      have H1 := Aside0.mk h1
      have H2 := Aside0.mk h2
      have H3 := Aside0.mk h3
      clear h1 h2 h3 HG2 HL n3 n5 n6
      obtain ⟨V, hV⟩ : ∃ V, V = top (bt1 l) (8 * q) 64 := ⟨_, rfl⟩
      rw [← hV]
      have QV := Aside0.mk hV
      clear hV
      go_upto_region 22 with (fail)
      obtain ⟨W5, hW5⟩ : ∃ W5, W5 = (w4.setCell ⟨g, 4, none⟩ (.int .u64 ((V : Nat) : Int))).setCell ⟨g, 5, none⟩ (.int .i32 64) := ⟨_, rfl⟩
      have S5 : RS w0 W5 g l f L (r - 64) 64 := by
        rw [hW5]
        refine ⟨⟨(q : Int), (V : Int), ?_, fun _ => by rw [← Q8.out, ← QV.out], fun _ => ⟨q, rfl, Q8.out, by have := Qr.out.2.2; omega⟩⟩, Qbo.out, Qll.out, by omega, by have := Qr.out; omega⟩
        exact (H1.out.set_4 _).set_5 _
      have B5 : Below w0.heap.size w0 W5 := by rw [hW5]; exact (H2.out.setCell hg _).setCell hg _
      have K5 : KeepBut W3 W5 g none := by rw [hW5]; exact kb_g (kb_g H3.out)
      rw [← hW5]
      clear hW5 m3 m4 m5 m6 m7 z4 z5
      have u0 := (kb_cell K5 (k := 0) hne hsz3).trans x0
      have u1 := (kb_cell K5 (k := 1) hne hsz3).trans x1
      have u2 := (kb_froz K5 (k := 0) hne hsz3).trans x2
      have u3 := (kb_froz K5 (k := 1) hne hsz3).trans x3
      obtain ⟨Wz, _, k4, _, k6, k7, _, _, hWz⟩ := S5.cells
      have hcc : 0 < 64 := by omega
      obtain rfl := hWz hcc
      have hfb := top_fb (bt1 l) (f + (r - 64)) 64 hcc (by omega)
      have hbit : f + (r - 64) + 64 - 1 = f + (r - 1) := by have := Qr.out; omega
      rw [hbit] at hfb
      generalize top (bt1 l) (f + (r - 64)) 64 = V5 at k4 hfb hWz
      clear hWz hbit hcc
      unfold FB at hfb k7
      have hsz5 : w.heap.size < W5.heap.size := Nat.lt_of_lt_of_le hsz3 K5.1
      have hgl5 : g < W5.heap.size := Nat.lt_of_lt_of_le hgl3 K5.1
      have QS5 := Aside0.mk S5
      have QB5 := Aside0.mk B5
      have QK5 := Aside0.mk (kb_trans QK3.out K5)
      clear B5 K5 S5
      have hrp := Qrp.out
      by_cases hb : bt1 l (f + (r - 1)) = true
      · rw [if_pos hb] at hfb
        have QC := Aside0.mk (cno_is g l f L (r - 64) 64 w0 W5.drew QS5.out.drew (by omega) QB5.out.drew)
        rw [show (r - 64) + 64 = r by have := Qr.out; omega, ← QS.out] at QC
        obtain ⟨n, hn⟩ : ∃ n, n = r - S := ⟨_, rfl⟩
        rw [← hn] at QC
        have hnl : (n : Int) ≤ 1000000 := by omega
        have hnn : (0 : Int) ≤ (n : Int) := by omega
        have Qn := Aside0.mk hn
        clear hb hn
        go_region
        go_wp2_with fail
        refine QC.out.mono ?_
        rintro e w6 ⟨rfl, n2, c2, ⟨S6, B6, K6⟩, hsum⟩
        obtain ⟨Wc, d3, d4, d5, d6, d7, _, _, _⟩ := S6.cells
        have v0 := (kb_cell K6 (k := 0) hne hsz5).trans u0
        have v1 := (kb_cell K6 (k := 1) hne hsz5).trans u1
        have v2 := (kb_froz K6 (k := 0) hne hsz5).trans u2
        have v3 := (kb_froz K6 (k := 1) hne hsz5).trans u3
        have hsz6 : w.heap.size < w6.heap.size := Nat.lt_of_lt_of_le hsz5 K6.1
        have hgl6 : g < w6.heap.size := Nat.lt_of_lt_of_le hgl5 K6.1
        have QS6 := Aside0.mk S6
        have QB6 := Aside0.mk B6
        have QK6 := Aside0.mk (kb_trans (kb_drew QK5.out) K6)
        have QA := Aside0.mk (fun w hl k6 => adj_is g P (h + n) (by have := QP.out; have := Qn.out; omega) hPl w hl k6)
        rw [show P - (h + n) = S by have := QP.out; have := Qn.out; have := QSr.out; omega, Int.natCast_add] at QA
        have QE := Aside0.mk (show h + (r - S) = h + n by rw [Qn.out])
        have QE2 := Aside0.mk (show n2 + c2 = S by rw [hsum, show (r - 64) + 64 = r by have := Qr.out; omega, ← QS.out])
        clear B6 K6 S6 hsum k4 k6 k7 d3 d4 d5 d7 u0 u1 u2 u3
        go_wp2_with fail
        refine (QA.out w6 hgl6 d6).mono ?_
        rintro e w9 ⟨rfl, B9⟩
        have h0' := (B9.cell (p := ⟨w.heap.size, 0, none⟩) hsz6).trans v0
        have h1' := (B9.cell (p := ⟨w.heap.size, 1, none⟩) hsz6).trans v1
        have h2' := (B9.frozen (p := ⟨w.heap.size, 0, none⟩) hsz6).trans v2
        have h3' := (B9.frozen (p := ⟨w.heap.size, 1, none⟩) hsz6).trans v3
        have Q9 := Aside0.mk B9
        clear B9 QA v0 v1 v2 v3
        go_wp2
        refine bodyPost_ret (v := .agg #[.int .i64 ((S : Nat) : Int), .int .i64 ((h : Int) + (n : Int))]) (by simp [results, Tryd.results111, go_sem, h0', h1']) rfl ?_
        refine ⟨by rw [QR.out, QRn.out, QE.out, Int.natCast_add], n2, c2, ⟨((QS6.out.below Q9.out).far hne2 _).far hne2 _, ?_, ?_⟩, by rw [QR.out]; exact QE2.out⟩
        · exact ((QB6.out.trans (Q9.out.mono QB6.out.size)).setCell QhB.out _).setCell QhB.out _
        · exact kb_new (kb_new (kb_trans QK6.out ⟨Q9.out.size, fun i hi _ _ => Q9.out.block i hi⟩) (Nat.le_refl _)) (Nat.le_refl _)
      · rw [if_neg hb] at hfb
        have hSr : S = r := by
          rw [QS.out]
          have h1 : hi (fun t => !bt1 l t) f (r - 1 + 1) = r - 1 + 1 := by
            show (if (!bt1 l (f + (r - 1))) = true then r - 1 + 1 else _) = _
            rw [if_pos (by simp at hb; simp [hb])]
          rw [show r - 1 + 1 = r by omega] at h1
          exact h1
        have QA := Aside0.mk (fun w hl k6 => adj_is g P h (by have := QP.out; omega) hPl w hl k6)
        rw [show P - h = S by have := QP.out; omega] at QA
        have QE := Aside0.mk (show h + (r - S) = h by omega)
        have QE2 := Aside0.mk (show (r - 64) + 64 = S by have := Qr.out; omega)
        have QS6 := Aside0.mk QS5.out.drew
        have QB6 := Aside0.mk QB5.out.drew
        have QK6 := Aside0.mk (kb_drew QK5.out)
        clear hb hSr
        go_region
        go_wp2_with fail
        refine (QA.out W5.drew hgl5 k6).mono ?_
        rintro e w9 ⟨rfl, B9⟩
        have h0' := (B9.cell (p := ⟨w.heap.size, 0, none⟩) hsz5).trans u0
        have h1' := (B9.cell (p := ⟨w.heap.size, 1, none⟩) hsz5).trans u1
        have h2' := (B9.frozen (p := ⟨w.heap.size, 0, none⟩) hsz5).trans u2
        have h3' := (B9.frozen (p := ⟨w.heap.size, 1, none⟩) hsz5).trans u3
        have Q9 := Aside0.mk B9
        clear B9 QA u0 u1 u2 u3
        go_wp2
        refine bodyPost_ret (v := .agg #[.int .i64 ((S : Nat) : Int), .int .i64 ((h : Nat))]) (by simp [results, Tryd.results111, go_sem, h0', h1']) rfl ?_
        refine ⟨by rw [QR.out, QRn.out, QE.out], ((r - 64)), (64), ⟨((QS6.out.below Q9.out).far hne2 _).far hne2 _, ?_, ?_⟩, by rw [QR.out]; exact QE2.out⟩
        · exact ((QB6.out.trans (Q9.out.mono QB6.out.size)).setCell QhB.out _).setCell QhB.out _
        · exact kb_new (kb_new (kb_trans QK6.out ⟨Q9.out.size, fun i hi _ _ => Q9.out.block i hi⟩) (Nat.le_refl _)) (Nat.le_refl _)
    · obtain ⟨q0, hq, hq8, hql⟩ := hp (by omega)
      obtain ⟨nbs, hnb⟩ : ∃ nbs, nbs = (r + 7) / 8 := ⟨_, rfl⟩
      obtain ⟨q, rfl⟩ : ∃ q, q0 = q + nbs := ⟨q0 - nbs, by omega⟩
      subst hq
      have hI2 : IsS132 w0 W3 g l ((q : Int) + nbs) L ((0 + r : Nat) : Int) Wg 0 true FB := by
        have h := hI
        rw [show ((q + nbs : Nat) : Int) = (q : Int) + nbs by omega, show r + 0 = 0 + r by omega] at h
        exact h
      have hge : decide ((64 : Int) ≤ (r : Int)) = false := decide_eq_false (by omega)
      have hgt : decide ((0 : Int) < (r : Int)) = true := decide_eq_true (by omega)
      have hgt2 : decide (0 < r) = true := decide_eq_true (by omega)
      have hgt3 : 0 < r := by omega
      have HL := lp_is g l _ _ _ _ _ q nbs 0 r w0 W3 hI2 QB3.out hbo hql hl (by omega) (by omega) (by omega) hnb.symm (by omega)
      rw [show 8 * q + (8 * nbs - 0 - r) = f by omega] at HL
      have HL := Aside0.mk HL
      have hrl : (r : Int) ≤ 64 := by omega
      have Qr := Aside0.mk (show 0 + r = r ∧ r < 64 from ⟨by omega, by omega⟩)
      have Qbo := Aside0.mk hbo
      have Qll := Aside0.mk hl
      clear hI hI2 HG3 hp hbo hl hrc hql hq8 hr0 h64 hnb
      go_wp2_with fail
      refine HL.out.mono ?_
      rintro e w4 ⟨rfl, h1, h2, h3⟩
      obtain ⟨A2, c2, HG2, _, _⟩ := id h1
      have m3 := cellS132_3 HG2
      rw [Nat.zero_add] at m3
      have m4 := cellS132_4 HG2
      have m5 := cellS132_5 HG2
      have m6 := cellS132_6 HG2
      have m7 := cellS132_7 HG2
      have z4 := blk_frozen HG2 4
      have z5 := blk_frozen HG2 5
      have H1 := Aside0.mk h1
      have H2 := Aside0.mk h2
      have H3 := Aside0.mk h3
      clear h1 h2 h3 HG2 HL n3 n5 n6
      obtain ⟨V, hV⟩ : ∃ V, V = top (bt1 l) f r := ⟨_, rfl⟩
      rw [← hV]
      have QV := Aside0.mk hV
      clear hV
      go_upto_region 22 with (fail)
      obtain ⟨W5, hW5⟩ : ∃ W5, W5 = (w4.setCell ⟨g, 4, none⟩ (.int .u64 ((V : Nat) : Int))).setCell ⟨g, 5, none⟩ (.int .i32 (r : Int)) := ⟨_, rfl⟩
      have S5 : RS w0 W5 g l f L 0 r := by
        rw [hW5]
        refine ⟨⟨(q : Int), (V : Int), ?_, fun _ => by rw [Nat.add_zero, ← QV.out], fun h => absurd h (Nat.lt_irrefl _)⟩, Qbo.out, Qll.out, by omega, by have := Qr.out; omega⟩
        exact (H1.out.set_4 _).set_5 _
      have B5 : Below w0.heap.size w0 W5 := by rw [hW5]; exact (H2.out.setCell hg _).setCell hg _
      have K5 : KeepBut W3 W5 g none := by rw [hW5]; exact kb_g (kb_g H3.out)
      rw [← hW5]
      clear hW5 m3 m4 m5 m6 m7 z4 z5
      have u0 := (kb_cell K5 (k := 0) hne hsz3).trans x0
      have u1 := (kb_cell K5 (k := 1) hne hsz3).trans x1
      have u2 := (kb_froz K5 (k := 0) hne hsz3).trans x2
      have u3 := (kb_froz K5 (k := 1) hne hsz3).trans x3
      obtain ⟨Wz, _, k4, _, k6, k7, _, _, hWz⟩ := S5.cells
      have hcc : 0 < r := by omega
      obtain rfl := hWz hcc
      have hfb := top_fb (bt1 l) (f + 0) r hcc (by omega)
      have hbit : f + 0 + r - 1 = f + (r - 1) := by have := Qr.out; omega
      rw [hbit] at hfb
      generalize top (bt1 l) (f + 0) r = V5 at k4 hfb hWz
      clear hWz hbit hcc
      unfold FB at hfb k7
      have hsz5 : w.heap.size < W5.heap.size := Nat.lt_of_lt_of_le hsz3 K5.1
      have hgl5 : g < W5.heap.size := Nat.lt_of_lt_of_le hgl3 K5.1
      have QS5 := Aside0.mk S5
      have QB5 := Aside0.mk B5
      have QK5 := Aside0.mk (kb_trans QK3.out K5)
      clear B5 K5 S5
      have hrp := Qrp.out
      by_cases hb : bt1 l (f + (r - 1)) = true
      · rw [if_pos hb] at hfb
        have QC := Aside0.mk (cno_is g l f L 0 r w0 W5.drew QS5.out.drew (by omega) QB5.out.drew)
        rw [show 0 + r = r by have := Qr.out; omega, ← QS.out] at QC
        obtain ⟨n, hn⟩ : ∃ n, n = r - S := ⟨_, rfl⟩
        rw [← hn] at QC
        have hnl : (n : Int) ≤ 1000000 := by omega
        have hnn : (0 : Int) ≤ (n : Int) := by omega
        have Qn := Aside0.mk hn
        clear hb hn
        go_region
        go_wp2_with fail
        refine QC.out.mono ?_
        rintro e w6 ⟨rfl, n2, c2, ⟨S6, B6, K6⟩, hsum⟩
        obtain ⟨Wc, d3, d4, d5, d6, d7, _, _, _⟩ := S6.cells
        have v0 := (kb_cell K6 (k := 0) hne hsz5).trans u0
        have v1 := (kb_cell K6 (k := 1) hne hsz5).trans u1
        have v2 := (kb_froz K6 (k := 0) hne hsz5).trans u2
        have v3 := (kb_froz K6 (k := 1) hne hsz5).trans u3
        have hsz6 : w.heap.size < w6.heap.size := Nat.lt_of_lt_of_le hsz5 K6.1
        have hgl6 : g < w6.heap.size := Nat.lt_of_lt_of_le hgl5 K6.1
        have QS6 := Aside0.mk S6
        have QB6 := Aside0.mk B6
        have QK6 := Aside0.mk (kb_trans (kb_drew QK5.out) K6)
        have QA := Aside0.mk (fun w hl k6 => adj_is g P (h + n) (by have := QP.out; have := Qn.out; omega) hPl w hl k6)
        rw [show P - (h + n) = S by have := QP.out; have := Qn.out; have := QSr.out; omega, Int.natCast_add] at QA
        have QE := Aside0.mk (show h + (r - S) = h + n by rw [Qn.out])
        have QE2 := Aside0.mk (show n2 + c2 = S by rw [hsum, show 0 + r = r by have := Qr.out; omega, ← QS.out])
        clear B6 K6 S6 hsum k4 k6 k7 d3 d4 d5 d7 u0 u1 u2 u3
        go_wp2_with fail
        refine (QA.out w6 hgl6 d6).mono ?_
        rintro e w9 ⟨rfl, B9⟩
        have h0' := (B9.cell (p := ⟨w.heap.size, 0, none⟩) hsz6).trans v0
        have h1' := (B9.cell (p := ⟨w.heap.size, 1, none⟩) hsz6).trans v1
        have h2' := (B9.frozen (p := ⟨w.heap.size, 0, none⟩) hsz6).trans v2
        have h3' := (B9.frozen (p := ⟨w.heap.size, 1, none⟩) hsz6).trans v3
        have Q9 := Aside0.mk B9
        clear B9 QA v0 v1 v2 v3
        go_wp2
        refine bodyPost_ret (v := .agg #[.int .i64 ((S : Nat) : Int), .int .i64 ((h : Int) + (n : Int))]) (by simp [results, Tryd.results111, go_sem, h0', h1']) rfl ?_
        refine ⟨by rw [QR.out, QRn.out, QE.out, Int.natCast_add], n2, c2, ⟨((QS6.out.below Q9.out).far hne2 _).far hne2 _, ?_, ?_⟩, by rw [QR.out]; exact QE2.out⟩
        · exact ((QB6.out.trans (Q9.out.mono QB6.out.size)).setCell QhB.out _).setCell QhB.out _
        · exact kb_new (kb_new (kb_trans QK6.out ⟨Q9.out.size, fun i hi _ _ => Q9.out.block i hi⟩) (Nat.le_refl _)) (Nat.le_refl _)
      · rw [if_neg hb] at hfb
        have hSr : S = r := by
          rw [QS.out]
          have h1 : hi (fun t => !bt1 l t) f (r - 1 + 1) = r - 1 + 1 := by
            show (if (!bt1 l (f + (r - 1))) = true then r - 1 + 1 else _) = _
            rw [if_pos (by simp at hb; simp [hb])]
          rw [show r - 1 + 1 = r by omega] at h1
          exact h1
        have QA := Aside0.mk (fun w hl k6 => adj_is g P h (by have := QP.out; omega) hPl w hl k6)
        rw [show P - h = S by have := QP.out; omega] at QA
        have QE := Aside0.mk (show h + (r - S) = h by omega)
        have QE2 := Aside0.mk (show 0 + r = S by have := Qr.out; omega)
        have QS6 := Aside0.mk QS5.out.drew
        have QB6 := Aside0.mk QB5.out.drew
        have QK6 := Aside0.mk (kb_drew QK5.out)
        clear hb hSr
        go_region
        go_wp2_with fail
        refine (QA.out W5.drew hgl5 k6).mono ?_
        rintro e w9 ⟨rfl, B9⟩
        have h0' := (B9.cell (p := ⟨w.heap.size, 0, none⟩) hsz5).trans u0
        have h1' := (B9.cell (p := ⟨w.heap.size, 1, none⟩) hsz5).trans u1
        have h2' := (B9.frozen (p := ⟨w.heap.size, 0, none⟩) hsz5).trans u2
        have h3' := (B9.frozen (p := ⟨w.heap.size, 1, none⟩) hsz5).trans u3
        have Q9 := Aside0.mk B9
        clear B9 QA u0 u1 u2 u3
        go_wp2
        refine bodyPost_ret (v := .agg #[.int .i64 ((S : Nat) : Int), .int .i64 ((h : Nat))]) (by simp [results, Tryd.results111, go_sem, h0', h1']) rfl ?_
        refine ⟨by rw [QR.out, QRn.out, QE.out], (0), (r), ⟨((QS6.out.below Q9.out).far hne2 _).far hne2 _, ?_, ?_⟩, by rw [QR.out]; exact QE2.out⟩
        · exact ((QB6.out.trans (Q9.out.mono QB6.out.size)).setCell QhB.out _).setCell QhB.out _
        · exact kb_new (kb_new (kb_trans QK6.out ⟨Q9.out.size, fun i hi _ _ => Q9.out.block i hi⟩) (Nat.le_refl _)) (Nat.le_refl _)

/-- NextRun, backwards. -/
theorem nr_is (g : Nat) (l : List Int) (f L r c : Nat) (w0 w : World) (hS : RS w0 w g l f L r c) (hB : Below w0.heap.size w0 w) :
    Calls Tryd.prog 111 #[.pointer (some ⟨g, 0, none⟩)] w fun e w' => e = .returned (.agg #[.int .i64 (nrS (bt1 l) f (r + c) : Nat), .int .i64 (nrN (bt1 l) f (r + c) : Nat)]) ∧ Ran w0 w g l f L (r + c) w' := by
  by_cases hc : c = 0
  · subst hc; exact nr_A g l f L r w0 w hS hB
  · by_cases hh : hi (bt1 l) (f + r) c = 0
    · exact nr_B2 g l f L r c w0 w hS (by omega) hB hh
    · by_cases hC : fcrC (bt1 l) f r c = 0
      · exact nr_B3 g l f L r c w0 w hS (by omega) hB (by omega) hC
      · exact nr_B1 g l f L r c w0 w hS (by omega) hB (by omega)
end Go.Proofs.YtpjaaonpbohkdaaDoor.QR
/- The reader of set bits is made, backwards. -/
namespace Go.Proofs.YtpjaaonpbohkdaaDoor.QR
open Go.RowKit Go.Proofs.YtpjaaonpbohkdaaDoorW.PrintWords Go.Proofs.YtpjaaonpbohkdaaDoorW.PrintLast Go.Proofs.YtpjaaonpbohkdaaDoorW.PrintMore
set_option linter.unusedVariables false
set_option linter.unusedSimpArgs false
set_option maxHeartbeats 8000000 in
set_option maxRecDepth 100000 in
theorem reset_A (g : Nat) (A : Option Addr) (s0 : Value) (l : List Int) (cap f L : Nat) (w0 w : World) (hb : w.heap[g]? = some (.cells #[s0, .int .i64 0, .int .i64 0, .int .i64 0, .int .u64 0, .int .i32 0, .bool true, .int .u64 0] 132 (0, 0))) (hg : w0.heap.size ≤ g) (hC : Kd.C (Kd.int .u8) w0 A l.length l) (hcap : l.length ≤ cap ∧ Nz w0 A) (hbo : bytesOk l = true) (hll : l.length ≤ 1000000) (hfl : f + L ≤ 8 * l.length) (hfl2 : f + L ≤ 1000000) (hB : Below w0.heap.size w0 w) (he : L = 0 ∨ (f + L) % 8 = 0) :
    Calls Tryd.prog 72 #[.pointer (some ⟨g, 0, none⟩), .slice A l.length cap, .int .i64 (f : Int), .int .i64 (L : Int)] w fun e w' => e = .returned (.tuple #[]) ∧ ∃ r c, Left w0 w g l f L r c w' ∧ r + c = L := by
  obtain ⟨W1, hW1⟩ : ∃ W1, W1 = w.setCell ⟨g, 0, none⟩ (.slice A l.length cap) := ⟨_, rfl⟩
  have S1 : IsS132 w0 W1 g l 0 0 0 0 0 true 0 := by rw [hW1]; exact ⟨A, cap, by simpa using blk_set hb 0 _, hg, hC, hcap⟩
  have B1 : Below w0.heap.size w0 W1 := by rw [hW1]; exact hB.setCell hg _
  have K1 : KeepBut w W1 g none := by rw [hW1]; exact kb_g ⟨Nat.le_refl _, fun _ _ _ _ => rfl⟩
  have f0 := blk_frozen hb 0
  obtain ⟨A1, c1, HG, _⟩ := id S1
  have k6 := cellS132_6 HG
  have f1 := blk_frozen HG 1
  have f2 := blk_frozen HG 2
  have f3 := blk_frozen HG 3
  have f4 := blk_frozen HG 4
  have f5 := blk_frozen HG 5
  have f7 := blk_frozen HG 7
  have k1 := cellS132_1 HG
  have k2 := cellS132_2 HG
  have k3 := cellS132_3 HG
  have k4 := cellS132_4 HG
  have k5 := cellS132_5 HG
  have k7 := cellS132_7 HG
  have k0 : w.cell? ⟨g, 0, none⟩ = some s0 := (blk_cell hb 0).trans rfl
  obtain ⟨q, hq⟩ : ∃ q, q = (f + L) / 8 := ⟨_, rfl⟩
  obtain ⟨eb, heb⟩ : ∃ eb, eb = (f + L) % 8 := ⟨_, rfl⟩
  have hfb : (f : Int) ≤ 1000000 := by omega
  have hLb : (L : Int) ≤ 1000000 := by omega
  have QS := Aside0.mk S1
  have QB := Aside0.mk B1
  have QK := Aside0.mk K1
  have Qq := Aside0.mk (show 8 * q + eb = f + L ∧ f + L ≤ 8 * l.length ∧ f + L ≤ 1000000 ∧ eb < 8 from ⟨by omega, hfl, hfl2, by omega⟩)
  have Qe := Aside0.mk (show L = 0 ∨ eb = 0 by omega)
  have Qbo := Aside0.mk hbo
  have Qll := Aside0.mk hll
  have Qg := Aside0.mk hg
  have hqd : (((f + L) / 8 : Nat) : Int) = (q : Int) := by rw [hq]
  have hqm : (((f + L) % 8 : Nat) : Int) = (eb : Int) := by rw [heb]
  have hd : Int.tdiv ((f : Int) + (L : Int)) 8 = (q : Int) := by rw [← hqd]; exact Int.natCast_add f L ▸ rfl
  have hm : Int.tmod ((f : Int) + (L : Int)) 8 = (eb : Int) := by rw [← hqm]; exact Int.natCast_add f L ▸ rfl
  have QD := Aside0.mk hd
  have QM := Aside0.mk hm
  clear hqd hqm hd hm
  clear hq heb hbo hll hfl hfl2 hC hcap S1 B1 K1 HG he hb hg hB
  go_enter Tryd.func72, Tryd.ntmps72
  go_upto_region 1 with (fail)
  rw [← hW1]
  clear hW1
  go_upto_region 12 with (fail)
  have hd := QD.out
  go_upto_region 13 with (fail)
  clear hd
  rw [show wrap64 (q : Int) = (q : Int) by have := Qq.out; unfold wrap64; omega]
  go_upto_region 14 with (fail)
  have hm := QM.out
  go_upto_region 15 with (fail)
  clear hm
  rw [show IntKind.i8.wrap (eb : Int) = (eb : Int) by have := Qq.out; exact IntWalk.i8_in _ (by omega)]
  by_cases h0 : L = 0
  · subst h0
    go_wp2
    go_end0
    refine ⟨rfl, ⟨⟨⟨(q : Int), 0, ?_, fun h => absurd h (Nat.lt_irrefl _), fun h => ⟨q, rfl, ?_, ?_⟩⟩, Qbo.out, Qll.out, by omega, by have := Qq.out; omega⟩, ?_, ?_⟩⟩
    · exact (((((QS.out.set_2 _).set_3 _).set_5 _).set_4 _).set_1 _).set_7 _
    · exact absurd h (Nat.lt_irrefl _)
    · have := Qq.out; omega
    · exact (((((QB.out.setCell Qg.out _).setCell Qg.out _).setCell Qg.out _).setCell Qg.out _).setCell Qg.out _).setCell Qg.out _
    · exact kb_g (kb_g (kb_g (kb_g (kb_g (kb_g QK.out)))))
  · have h1 : decide ((0 : Int) < (L : Int)) = true := decide_eq_true (by omega)
    have h2 : 0 < L := by omega
    have h3 : eb = 0 := by have := Qe.out; omega
    subst h3
    go_wp2
    go_end0
    refine ⟨rfl, L, 0, ⟨⟨⟨(q : Int), 0, ?_, fun h => absurd h (Nat.lt_irrefl _), fun h => ⟨q, rfl, ?_, ?_⟩⟩, Qbo.out, Qll.out, by omega, by have := Qq.out; omega⟩, ?_, ?_⟩, rfl⟩
    · exact (((((QS.out.set_2 _).set_3 _).set_5 _).set_4 _).set_1 _).set_7 _
    · have := Qq.out; have := Qe.out; omega
    · have := Qq.out; omega
    · exact (((((QB.out.setCell Qg.out _).setCell Qg.out _).setCell Qg.out _).setCell Qg.out _).setCell Qg.out _).setCell Qg.out _
    · exact kb_g (kb_g (kb_g (kb_g (kb_g (kb_g QK.out)))))
end Go.Proofs.YtpjaaonpbohkdaaDoor.QR
/- The reader of set bits is made, backwards, where a byte's part is left. -/
namespace Go.Proofs.YtpjaaonpbohkdaaDoor.QR
open Go.RowKit Go.Proofs.YtpjaaonpbohkdaaDoorW.PrintWords Go.Proofs.YtpjaaonpbohkdaaDoorW.PrintLast Go.Proofs.YtpjaaonpbohkdaaDoorW.PrintMore
set_option linter.unusedVariables false
set_option linter.unusedSimpArgs false
set_option maxHeartbeats 8000000 in
set_option maxRecDepth 100000 in
theorem reset_B (g : Nat) (A : Option Addr) (s0 : Value) (l : List Int) (cap f L : Nat) (w0 w : World) (hb : w.heap[g]? = some (.cells #[s0, .int .i64 0, .int .i64 0, .int .i64 0, .int .u64 0, .int .i32 0, .bool true, .int .u64 0] 132 (0, 0))) (hg : w0.heap.size ≤ g) (hC : Kd.C (Kd.int .u8) w0 A l.length l) (hcap : l.length ≤ cap ∧ Nz w0 A) (hbo : bytesOk l = true) (hll : l.length ≤ 1000000) (hfl : f + L ≤ 8 * l.length) (hfl2 : f + L ≤ 1000000) (hB : Below w0.heap.size w0 w) (hL0 : 0 < L) (he : (f + L) % 8 ≠ 0) :
    Calls Tryd.prog 72 #[.pointer (some ⟨g, 0, none⟩), .slice A l.length cap, .int .i64 (f : Int), .int .i64 (L : Int)] w fun e w' => e = .returned (.tuple #[]) ∧ ∃ r c, Left w0 w g l f L r c w' ∧ r + c = L := by
  obtain ⟨W1, hW1⟩ : ∃ W1, W1 = w.setCell ⟨g, 0, none⟩ (.slice A l.length cap) := ⟨_, rfl⟩
  have S1 : IsS132 w0 W1 g l 0 0 0 0 0 true 0 := by rw [hW1]; exact ⟨A, cap, by simpa using blk_set hb 0 _, hg, hC, hcap⟩
  have B1 : Below w0.heap.size w0 W1 := by rw [hW1]; exact hB.setCell hg _
  have K1 : KeepBut w W1 g none := by rw [hW1]; exact kb_g ⟨Nat.le_refl _, fun _ _ _ _ => rfl⟩
  have f0 := blk_frozen hb 0
  obtain ⟨A1, c1, HG, _⟩ := id S1
  have k6 := cellS132_6 HG
  have f1 := blk_frozen HG 1
  have f2 := blk_frozen HG 2
  have f3 := blk_frozen HG 3
  have f4 := blk_frozen HG 4
  have f5 := blk_frozen HG 5
  have f7 := blk_frozen HG 7
  have k1 := cellS132_1 HG
  have k2 := cellS132_2 HG
  have k3 := cellS132_3 HG
  have k4 := cellS132_4 HG
  have k5 := cellS132_5 HG
  have k7 := cellS132_7 HG
  have k0 : w.cell? ⟨g, 0, none⟩ = some s0 := (blk_cell hb 0).trans rfl
  obtain ⟨q, hq⟩ : ∃ q, q = (f + L) / 8 := ⟨_, rfl⟩
  obtain ⟨eb, heb⟩ : ∃ eb, eb = (f + L) % 8 := ⟨_, rfl⟩
  have hfb : (f : Int) ≤ 1000000 := by omega
  have hLb : (L : Int) ≤ 1000000 := by omega
  have QS := Aside0.mk S1
  have QB := Aside0.mk B1
  have QK := Aside0.mk K1
  have Qq := Aside0.mk (show 8 * q + eb = f + L ∧ f + L ≤ 8 * l.length ∧ f + L ≤ 1000000 ∧ eb < 8 from ⟨by omega, hfl, hfl2, by omega⟩)
  have Qe := Aside0.mk (show 0 < L ∧ 0 < eb ∧ eb < 8 by omega)
  obtain ⟨c, hc⟩ : ∃ c, c = min L eb := ⟨_, rfl⟩
  have Qc := Aside0.mk (show (c = L ∧ L ≤ eb) ∨ (c = eb ∧ eb ≤ L) by omega)
  have QM1 := Aside0.mk (fun w => min_is L eb (by omega) (by omega) w)
  rw [← hc] at QM1
  have h1 : decide ((0 : Int) < (L : Int)) = true := decide_eq_true (by omega)
  have h2 : ((eb : Int) != 0) = true := by simp; omega
  have h3 : 0 < L := by omega
  have h4 : ¬ eb = 0 := by omega
  have hc7 : (c : Int) ≤ 7 := by omega
  have he7 : (eb : Int) ≤ 7 := by omega
  have hq7 : (q : Int) ≤ 1000000 := by omega
  have Qbo := Aside0.mk hbo
  have Qll := Aside0.mk hll
  have Qg := Aside0.mk hg
  have hqd : (((f + L) / 8 : Nat) : Int) = (q : Int) := by rw [hq]
  have hqm : (((f + L) % 8 : Nat) : Int) = (eb : Int) := by rw [heb]
  have hd : Int.tdiv ((f : Int) + (L : Int)) 8 = (q : Int) := by rw [← hqd]; exact Int.natCast_add f L ▸ rfl
  have hm : Int.tmod ((f : Int) + (L : Int)) 8 = (eb : Int) := by rw [← hqm]; exact Int.natCast_add f L ▸ rfl
  have QD := Aside0.mk hd
  have QM := Aside0.mk hm
  clear hqd hqm hd hm
  clear hL0 hc hq heb hbo hll hfl hfl2 hC hcap S1 B1 K1 HG he hb hg hB
  go_enter Tryd.func72, Tryd.ntmps72
  go_upto_region 1 with (fail)
  rw [← hW1]
  clear hW1
  go_upto_region 12 with (fail)
  have hd := QD.out
  go_upto_region 13 with (fail)
  clear hd
  try rw [show wrap64 (q : Int) = (q : Int) by have := Qq.out; unfold wrap64; omega]
  go_upto_region 14 with (fail)
  have hm := QM.out
  go_upto_region 15 with (fail)
  clear hm
  try rw [show IntKind.i8.wrap (eb : Int) = (eb : Int) by have := Qq.out; exact IntWalk.i8_in _ (by omega)]
  go_upto_region 16 with (fail)
  go_upto_region 17 with (fail)
  obtain ⟨W2, hW2⟩ : ∃ W2, W2 = ((((((W1.setCell ⟨g, 2, none⟩ (.int .i64 (L : Int))).setCell ⟨g, 3, none⟩ (.int .i64 (L : Int))).setCell ⟨g, 5, none⟩ (.int .i32 0)).setCell ⟨g, 4, none⟩ (.int .u64 0)).setCell ⟨g, 1, none⟩ (.int .i64 (q : Int))).setCell ⟨g, 7, none⟩ (.int .u64 9223372036854775808)).setCell ⟨g, 1, none⟩ (.int .i64 ((q : Int) + 1)) := ⟨_, rfl⟩
  have S2 : IsS132 w0 W2 g l ((q : Int) + 1) L L 0 0 true FB := by rw [hW2]; exact ((((((QS.out.set_2 _).set_3 _).set_5 _).set_4 _).set_1 _).set_7 _).set_1 _
  have B2 : Below w0.heap.size w0 W2 := by rw [hW2]; exact ((((((QB.out.setCell Qg.out _).setCell Qg.out _).setCell Qg.out _).setCell Qg.out _).setCell Qg.out _).setCell Qg.out _).setCell Qg.out _
  have K2 : KeepBut w W2 g none := by rw [hW2]; exact kb_g (kb_g (kb_g (kb_g (kb_g (kb_g (kb_g QK.out))))))
  rw [← hW2]
  clear hW2 f0 f1 f2 f3 f4 f5 f7 k0 k1 k2 k3 k4 k5 k6 k7
  obtain ⟨A2, c2, HG, _⟩ := id S2
  have k5 := cellS132_5 HG
  have f5 := blk_frozen HG 5
  obtain ⟨W3, hW3⟩ : ∃ W3, W3 = W2.setCell ⟨g, 5, none⟩ (.int .i32 (c : Int)) := ⟨_, rfl⟩
  have S3 : IsS132 w0 W3 g l ((q : Int) + 1) L L 0 c true FB := by rw [hW3]; exact S2.set_5 _
  have B3 : Below w0.heap.size w0 W3 := by rw [hW3]; exact B2.setCell Qg.out _
  have K3 : KeepBut w W3 g none := by rw [hW3]; exact kb_g K2
  have QW := Aside0.mk hW3
  clear hW3 HG S2 B2 K2
  obtain ⟨o, ho⟩ : ∃ o, o = 8 - eb := ⟨_, rfl⟩
  have hoi : (8 : Int) - (eb : Int) = (o : Int) := by omega
  have HL := lp_is g l L L 0 c FB q 1 o c w0 W3 S3 B3 Qbo.out (by have := Qq.out; omega) Qll.out (by omega) (by have := Qc.out; omega) (by have := Qc.out; omega) (by have := Qc.out; omega) (by have := Qc.out; omega)
  rw [show 8 * q + (8 * 1 - o - c) = f + (L - c) by have := Qc.out; have := Qq.out; omega] at HL
  have QL := Aside0.mk HL
  have QK3 := Aside0.mk K3
  have QS3 := Aside0.mk S3
  have Qo := Aside0.mk hoi
  clear HL S3 B3 K3 ho hoi
  go_upto_region 18 with (go_at_call 82; refine (QM1.out _).mono ?_; rintro e w' ⟨rfl, rfl⟩)
  rw [← QW.out]
  clear QW k5 f5
  have hoi := Qo.out
  have S3 := QS3.out
  obtain ⟨A3, c3, HG, _⟩ := id S3
  have k5 := cellS132_5 HG
  have k4 := cellS132_4 HG
  have f4 := blk_frozen HG 4
  clear S3 HG
  go_wp2_with fail
  try rw [hoi]
  refine QL.out.mono ?_
  rintro e w4 ⟨rfl, h1, h2, h3⟩
  obtain ⟨A4, c4, HG, _⟩ := id h1
  have m4 := cellS132_4 HG
  have z4 := blk_frozen HG 4
  have H1 := Aside0.mk h1
  have H2 := Aside0.mk h2
  have H3 := Aside0.mk h3
  clear h1 h2 h3 HG QL k4 k5 f4
  obtain ⟨V, hV⟩ : ∃ V, V = top (bt1 l) (f + (L - c)) c := ⟨_, rfl⟩
  rw [← hV]
  have QV := Aside0.mk hV
  clear hV
  go_wp2
  go_end0
  refine ⟨rfl, L - c, c, ⟨⟨⟨(q : Int), (V : Int), ?_, fun _ => by rw [← QV.out], fun h => ⟨q, rfl, ?_, ?_⟩⟩, Qbo.out, Qll.out, by have := Qc.out; omega, by have := Qc.out; omega⟩, ?_, ?_⟩, by have := Qc.out; omega⟩
  · have h := H1.out.set_4 (V : Int)
    rw [show L - c + c = L by have := Qc.out; omega]
    exact h
  · have := Qc.out; have := Qq.out; omega
  · have := Qc.out; have := Qq.out; omega
  · exact H2.out.setCell Qg.out _
  · exact kb_g (kb_trans QK3.out H3.out)
theorem reset_is (g : Nat) (A : Option Addr) (s0 : Value) (l : List Int) (cap f L : Nat) (w0 w : World) (hb : w.heap[g]? = some (.cells #[s0, .int .i64 0, .int .i64 0, .int .i64 0, .int .u64 0, .int .i32 0, .bool true, .int .u64 0] 132 (0, 0))) (hg : w0.heap.size ≤ g) (hC : Kd.C (Kd.int .u8) w0 A l.length l) (hcap : l.length ≤ cap ∧ Nz w0 A) (hbo : bytesOk l = true) (hll : l.length ≤ 1000000) (hfl : f + L ≤ 8 * l.length) (hfl2 : f + L ≤ 1000000) (hB : Below w0.heap.size w0 w) :
    Calls Tryd.prog 72 #[.pointer (some ⟨g, 0, none⟩), .slice A l.length cap, .int .i64 (f : Int), .int .i64 (L : Int)] w fun e w' => e = .returned (.tuple #[]) ∧ ∃ r c, Left w0 w g l f L r c w' ∧ r + c = L := by
  by_cases h : L = 0 ∨ (f + L) % 8 = 0
  · exact reset_A g A s0 l cap f L w0 w hb hg hC hcap hbo hll hfl hfl2 hB h
  · exact reset_B g A s0 l cap f L w0 w hb hg hC hcap hbo hll hfl hfl2 hB (by omega) (by omega)
end Go.Proofs.YtpjaaonpbohkdaaDoor.QR
/- The reader of set bits is made: newBaseSetBitRunReader and NewReverseSetBitRunReader. -/
namespace Go.Proofs.YtpjaaonpbohkdaaDoor.QR
open Go.RowKit Go.Proofs.YtpjaaonpbohkdaaDoorW.PrintWords Go.Proofs.YtpjaaonpbohkdaaDoorW.PrintLast Go.Proofs.YtpjaaonpbohkdaaDoorW.PrintMore
set_option linter.unusedVariables false
set_option linter.unusedSimpArgs false
set_option maxHeartbeats 8000000 in
set_option maxRecDepth 100000 in
theorem nbr_is (A : Option Addr) (l : List Int) (cap f L : Nat) (w : World) (hC : Kd.C (Kd.int .u8) w A l.length l) (hcap : l.length ≤ cap ∧ Nz w A) (hbo : bytesOk l = true) (hll : l.length ≤ 1000000) (hfl : f + L ≤ 8 * l.length) (hfl2 : f + L ≤ 1000000) :
    Calls Tryd.prog 61 #[.slice A l.length cap, .int .i64 (f : Int), .int .i64 (L : Int), .bool true] w fun e w' => ∃ g r c, e = .returned (.pointer (some ⟨g, 0, none⟩)) ∧ RS w w' g l f L r c ∧ r + c = L ∧ Below w.heap.size w w' ∧ w.heap.size ≤ g ∧ g < w'.heap.size := by
  have Q1 := Aside0.mk hC
  have Q2 := Aside0.mk (And.intro hcap (And.intro hbo (And.intro hll (And.intro hfl hfl2))))
  clear hC hcap hbo hll hfl hfl2
  go_enter Tryd.func61, Tryd.ntmps61
  go_wp2_with fail
  have Q2' := Q2.out
  refine (reset_is w.heap.size A (.slice none 0 0) l cap f L w _ (blk_new w _) (Nat.le_refl _) Q1.out Q2'.1 Q2'.2.1 Q2'.2.2.1 Q2'.2.2.2.1 Q2'.2.2.2.2 ((Below.refl w.heap.size w).alloc (Nat.le_refl _) _)).mono ?_
  rintro e w' ⟨rfl, r, c, ⟨h1, h2, h3⟩, h4⟩
  have H1 := Aside0.mk h1
  have H2 := Aside0.mk h2
  have H3 := Aside0.mk h3
  have H4 := Aside0.mk h4
  clear h1 h2 h3 h4 Q2'
  go_wp2
  refine bodyPost_ret (v := .pointer (some ⟨w.heap.size, 0, none⟩)) (by simp [results, Tryd.results61, go_sem]) rfl ?_
  exact ⟨w.heap.size, r, c, rfl, H1.out, H4.out, H2.out, Nat.le_refl _, Nat.lt_of_lt_of_le (blk_lt (blk_new w _)) H3.out.1⟩
set_option maxHeartbeats 8000000 in
set_option maxRecDepth 100000 in
theorem rev_is (A : Option Addr) (l : List Int) (cap f L : Nat) (w : World) (hC : Kd.C (Kd.int .u8) w A l.length l) (hcap : l.length ≤ cap ∧ Nz w A) (hbo : bytesOk l = true) (hll : l.length ≤ 1000000) (hfl : f + L ≤ 8 * l.length) (hfl2 : f + L ≤ 1000000) :
    Calls Tryd.prog 49 #[.slice A l.length cap, .int .i64 (f : Int), .int .i64 (L : Int)] w fun e w' => ∃ g r c, e = .returned (.iface 123 (.pointer (some ⟨g, 0, none⟩))) ∧ RS w w' g l f L r c ∧ r + c = L ∧ Below w.heap.size w w' ∧ w.heap.size ≤ g ∧ g < w'.heap.size := by
  have Q := Aside0.mk (nbr_is A l cap f L w hC hcap hbo hll hfl hfl2)
  clear hC hcap hbo hll hfl hfl2
  go_enter Tryd.func49, Tryd.ntmps49
  go_wp2_with fail
  refine Q.out.mono ?_
  rintro e w' ⟨g, r, c, rfl, h⟩
  have H := Aside0.mk h
  clear h Q
  go_wp2
  go_ret
  exact ⟨g, r, c, rfl, H.out⟩
end Go.Proofs.YtpjaaonpbohkdaaDoor.QR
/- How many bits are set ahead of a place; what spreading a list over the set bits makes of it: plainly. -/
namespace Go.Proofs.YtpjaaonpbohkdaaDoor.QR
set_option linter.unusedVariables false
set_option linter.unusedSimpArgs false
/-- How many of the first i bits are set. -/
def rk (b : Nat → Bool) (f : Nat) : Nat → Nat
  | 0 => 0
  | i + 1 => rk b f i + if b (f + i) then 1 else 0
theorem rk_le (b : Nat → Bool) (f i : Nat) : rk b f i ≤ i := by
  induction i with
  | zero => exact Nat.le_refl _
  | succ i ih => simp only [rk]; split <;> omega
theorem rk_mono (b : Nat → Bool) (f : Nat) : ∀ i j, i ≤ j → rk b f i ≤ rk b f j := by
  intro i j h
  induction j with
  | zero => obtain rfl : i = 0 := by omega
            exact Nat.le_refl _
  | succ j ih =>
    rcases Nat.lt_or_ge j i with h1 | h1
    · obtain rfl : i = j + 1 := by omega
      exact Nat.le_refl _
    · have := ih h1
      simp only [rk]; omega
theorem rk_set (b : Nat → Bool) (f s : Nat) : ∀ n, (∀ t, s ≤ t → t < s + n → b (f + t) = true) → rk b f (s + n) = rk b f s + n
  | 0, _ => rfl
  | n + 1, h => by
    have ih := rk_set b f s n (fun t h1 h2 => h t h1 (by omega))
    rw [show s + (n + 1) = s + n + 1 by omega]
    simp only [rk]
    rw [h (s + n) (by omega) (by omega), ih]
    simp; omega
theorem rk_unset (b : Nat → Bool) (f s : Nat) : ∀ n, (∀ t, s ≤ t → t < s + n → b (f + t) = false) → rk b f (s + n) = rk b f s
  | 0, _ => rfl
  | n + 1, h => by
    have ih := rk_unset b f s n (fun t h1 h2 => h t h1 (by omega))
    rw [show s + (n + 1) = s + n + 1 by omega]
    simp only [rk]
    rw [h (s + n) (by omega) (by omega), ih]
    simp
theorem rk_lt (b : Nat → Bool) (f i : Nat) (h : b (f + i) = true) (n : Nat) (hn : i < n) : rk b f i < rk b f n := by
  have h1 := rk_mono b f (i + 1) n (by omega)
  simp only [rk, h, if_pos] at h1
  omega
/-- Where all bits ahead of a place are set. -/
theorem rk_full (b : Nat → Bool) (f : Nat) : ∀ s, rk b f s = s → ∀ i, i ≤ s → rk b f i = i
  | 0, _, i, hi => by obtain rfl : i = 0 := by omega
                      rfl
  | s + 1, h, i, hi => by
    have h1 := rk_le b f s
    simp only [rk] at h
    have h2 : rk b f s = s := by split at h <;> omega
    rcases Nat.lt_or_ge s i with h3 | h3
    · obtain rfl : i = s + 1 := by omega
      simp only [rk]; exact h
    · exact rk_full b f s h2 i h3
theorem nr_le (b : Nat → Bool) (f R : Nat) : nrS b f R + nrN b f R = hi b f R ∧ hi b f R ≤ R := by
  have h1 := hi_le (fun t => !b t) f (hi b f R)
  have h2 := hi_le b f R
  unfold nrN nrS
  omega
theorem nr_none (b : Nat → Bool) (f R : Nat) (h : nrN b f R = 0) (t : Nat) (ht : t < R) : b (f + t) = false := by
  have h2 := nr_le b f R
  have h0 : hi b f R = 0 := by
    rcases Nat.eq_zero_or_pos (hi b f R) with h0 | h0
    · exact h0
    · have h3 := hi_true b f R h0
      have h4 : 0 < hi (fun t => !b t) f (hi b f R) := by have : nrS b f R = hi (fun t => !b t) f (hi b f R) := rfl; omega
      have h5 := hi_true (fun t => !b t) f (hi b f R) h4
      have h6 : hi (fun t => !b t) f (hi b f R) = hi b f R := by have : nrS b f R = hi (fun t => !b t) f (hi b f R) := rfl; omega
      rw [h6, h3] at h5
      cases h5
  exact hi_false b f R t (by omega) ht
theorem nr_set (b : Nat → Bool) (f R t : Nat) (h1 : nrS b f R ≤ t) (h2 : t < nrS b f R + nrN b f R) : b (f + t) = true := by
  have h := nr_le b f R
  have h3 := hi_false (fun t => !b t) f (hi b f R) t h1 (by omega)
  simpa using h3
theorem nr_unset (b : Nat → Bool) (f R t : Nat) (h1 : nrS b f R + nrN b f R ≤ t) (h2 : t < R) : b (f + t) = false := by
  have h := nr_le b f R
  exact hi_false b f R t (by omega) h2
theorem nr_rk (b : Nat → Bool) (f R : Nat) : rk b f R = rk b f (nrS b f R) + nrN b f R := by
  have h := nr_le b f R
  have h1 := rk_set b f (nrS b f R) (nrN b f R) (fun t ha hb => nr_set b f R t ha hb)
  have h2 := rk_unset b f (nrS b f R + nrN b f R) (R - (nrS b f R + nrN b f R)) (fun t ha hb => nr_unset b f R t ha (by omega))
  rw [show nrS b f R + nrN b f R + (R - (nrS b f R + nrN b f R)) = R by omega] at h2
  omega
section
variable {α : Type}
/-- What was spread: at a set bit stands what stood at its number. -/
def Exp (b : Nat → Bool) (f n : Nat) (vs us : List α) : Prop := us.length = vs.length ∧ ∀ i, i < n → b (f + i) = true → us[i]? = vs[rk b f i]?
def Inv (b : Nat → Bool) (f n R : Nat) (vs us : List α) : Prop := us.length = vs.length ∧ (∀ i, R ≤ i → i < n → b (f + i) = true → us[i]? = vs[rk b f i]?) ∧ ∀ j, j < rk b f R → us[j]? = vs[j]?
theorem inv_start (b : Nat → Bool) (f n : Nat) (vs : List α) : Inv b f n n vs vs := ⟨rfl, fun i h1 h2 _ => absurd h1 (by omega), fun _ _ => rfl⟩
theorem inv_none {b : Nat → Bool} {f n R : Nat} {vs us : List α} (h : Inv b f n R vs us) (h0 : nrN b f R = 0) : Exp b f n vs us := by
  refine ⟨h.1, fun i hi hb => ?_⟩
  rcases Nat.lt_or_ge i R with h1 | h1
  · rw [nr_none b f R h0 i h1] at hb; cases hb
  · exact h.2.1 i h1 hi hb
theorem inv_same {b : Nat → Bool} {f n R : Nat} {vs us : List α} (h : Inv b f n R vs us) (hs : rk b f (nrS b f R) = nrS b f R) : Exp b f n vs us := by
  refine ⟨h.1, fun i hi hb => ?_⟩
  have hr := nr_rk b f R
  rcases Nat.lt_or_ge i R with h1 | h1
  · have h2 : i < nrS b f R + nrN b f R := by
      rcases Nat.lt_or_ge i (nrS b f R + nrN b f R) with h3 | h3
      · exact h3
      · rw [nr_unset b f R i h3 h1] at hb; cases hb
    have h3 : rk b f i = i := by
      rcases Nat.lt_or_ge i (nrS b f R) with h4 | h4
      · exact rk_full b f _ hs i (by omega)
      · have := rk_set b f (nrS b f R) (i - nrS b f R) (fun t ha hb => nr_set b f R t ha (by omega))
        rw [show nrS b f R + (i - nrS b f R) = i by omega] at this
        omega
    rw [h3]
    exact h.2.2 i (by omega)
  · exact h.2.1 i h1 hi hb
theorem inv_step {b : Nat → Bool} {f n R : Nat} {vs us us' : List α} (h : Inv b f n R vs us) (hl : us'.length = us.length)
    (h1 : ∀ k, k < nrN b f R → us'[nrS b f R + k]? = us[rk b f (nrS b f R) + k]?) (h2 : ∀ j, j < rk b f (nrS b f R) → us'[j]? = us[j]?) (h3 : ∀ i, nrS b f R + nrN b f R ≤ i → us'[i]? = us[i]?) : Inv b f n (nrS b f R) vs us' := by
  have hr := nr_rk b f R
  have hle := nr_le b f R
  refine ⟨hl.trans h.1, fun i ha hb hbit => ?_, fun j hj => ?_⟩
  · rcases Nat.lt_or_ge i (nrS b f R + nrN b f R) with h4 | h4
    · have h5 := rk_set b f (nrS b f R) (i - nrS b f R) (fun t hx hy => nr_set b f R t hx (by omega))
      have h6 := h1 (i - nrS b f R) (by omega)
      rw [show nrS b f R + (i - nrS b f R) = i by omega] at h5 h6
      rw [h6, h5]
      exact h.2.2 _ (by omega)
    · rcases Nat.lt_or_ge i R with h5 | h5
      · rw [nr_unset b f R i h4 h5] at hbit; cases hbit
      · rw [h3 i h4]
        exact h.2.1 i h5 hb hbit
  · rw [h2 j hj]
    exact h.2.2 j (by omega)
/-- A stretch that is copied up within a list. -/
def moved (us : List α) (s d n : Nat) : List α := us.take d ++ (us.drop s).take n ++ us.drop (d + n)
theorem moved_len (us : List α) (s d n : Nat) (h1 : s + n ≤ us.length) (h2 : d + n ≤ us.length) : (moved us s d n).length = us.length := by
  simp [moved, List.length_append, List.length_take, List.length_drop]; omega
theorem inv_copy {b : Nat → Bool} {f n R : Nat} {vs us : List α} (h : Inv b f n R vs us) (hR : R ≤ n) (hn : n ≤ us.length) : Inv b f n (nrS b f R) vs (moved us (rk b f (nrS b f R)) (nrS b f R) (nrN b f R)) := by
  have hle := nr_le b f R
  have hrk := rk_le b f (nrS b f R)
  generalize hS : nrS b f R = S at *
  generalize hN : nrN b f R = N at *
  generalize hK : rk b f S = K at *
  have hl1 : (us.take S).length = S := by rw [List.length_take]; omega
  have hl2 : ((us.drop K).take N).length = N := by rw [List.length_take, List.length_drop]; omega
  have := inv_step (us' := moved us K S N) h (moved_len us K S N (by omega) (by omega)) ?_ ?_ ?_
  · rw [hS] at this; exact this
  · intro k hk
    rw [hS, hK]; rw [hN] at hk
    unfold moved
    rw [List.append_assoc, List.getElem?_append_right (by omega), hl1, show S + k - S = k by omega, List.getElem?_append_left (by omega), List.getElem?_take, if_pos hk, List.getElem?_drop]
  · intro j hj
    rw [hS, hK] at hj
    unfold moved
    rw [List.append_assoc, List.getElem?_append_left (by omega), List.getElem?_take, if_pos (by omega)]
  · intro i hi
    rw [hS, hN] at hi
    unfold moved
    rw [List.getElem?_append_right (by rw [List.length_append]; omega), List.length_append, hl1, hl2, List.getElem?_drop]
    congr 1; omega
theorem moved_all {P : α → Prop} {us : List α} (h : ∀ u ∈ us, P u) (s d n : Nat) : ∀ u ∈ moved us s d n, P u := by
  intro u hu
  unfold moved at hu
  rcases List.mem_append.1 hu with hu | hu
  · rcases List.mem_append.1 hu with hu | hu
    · exact h u (List.mem_of_mem_take hu)
    · exact h u (List.mem_of_mem_drop (List.mem_of_mem_take hu))
  · exact h u (List.mem_of_mem_drop hu)
end
end Go.Proofs.YtpjaaonpbohkdaaDoor.QR
/- A row of Int96 that is written to beside the reader of set bits: what stays. -/
namespace Go.Proofs.YtpjaaonpbohkdaaDoor.QR
open Go.RowKit Go.Proofs.YtpjaaonpbohkdaaDoorW.PrintWords Go.Proofs.YtpjaaonpbohkdaaDoorW.PrintLast Go.Proofs.YtpjaaonpbohkdaaDoorW.PrintMore
set_option linter.unusedVariables false
set_option linter.unusedSimpArgs false
/-- A value of one cell that is no byte. -/
def Sl (u : Value) : Prop := u.oneCell' = true ∧ ∀ x, u ≠ .int .u8 x
theorem Sl.one {u : Value} (h : Sl u) : u.oneCell' = true := h.1
/-- The world w' has grown out of w; row bk alone was written to (wv: w with that row as it is now). -/
structure Vw (w wv w' : World) (bk et : Nat) (us : List Value) : Prop where
  size : wv.heap.size = w.heap.size
  blk : wv.heap[bk]? = some (.cells us.toArray et (0, 0))
  far : ∀ k, k ≠ bk → wv.heap[k]? = w.heap[k]?
  os : wv.os = w.os
  tape : wv.tape = w.tape
  output : wv.output = w.output
  bel : Below wv.heap.size wv w'
theorem Vw.start {w : World} {bk et : Nat} {vs : List Value} (h : w.heap[bk]? = some (.cells vs.toArray et (0, 0))) : Vw w w w bk et vs := ⟨rfl, h, fun _ _ => rfl, rfl, rfl, rfl, Below.refl _ _⟩
theorem Vw.step {w wv w' w'' : World} {bk et : Nat} {us : List Value} (h : Vw w wv w' bk et us) (hb : Below wv.heap.size wv w'') : Vw w wv w'' bk et us := ⟨h.size, h.blk, h.far, h.os, h.tape, h.output, hb⟩
theorem Vw.lt {w wv w' : World} {bk et : Nat} {us : List Value} (h : Vw w wv w' bk et us) : bk < wv.heap.size := blk_lt h.blk
theorem Vw.now {w wv w' : World} {bk et : Nat} {us : List Value} (h : Vw w wv w' bk et us) : w'.heap[bk]? = some (.cells us.toArray et (0, 0)) := (h.bel.block bk h.lt).trans h.blk
theorem Vw.cell {w wv w' : World} {bk et : Nat} {us : List Value} (h : Vw w wv w' bk et us) {i : Nat} {u : Value} (hu : us[i]? = some u) : w'.cell? ⟨bk, i, none⟩ = some u := (blk_cell h.now i).trans (by simpa using hu)
theorem Vw.frozen {w wv w' : World} {bk et : Nat} {us : List Value} (h : Vw w wv w' bk et us) (i : Nat) : w'.frozen? ⟨bk, i, none⟩ = false := blk_frozen h.now i
theorem Vw.alloc {w wv w' : World} {bk et : Nat} {us : List Value} (h : Vw w wv w' bk et us) (o : Obj) : Vw w wv (w'.alloc o) bk et us := h.step (h.bel.alloc h.bel.size o)
/-- Against the world ahead of all: nothing but that row, and what is new. -/
theorem Vw.keep {w wv w' : World} {bk et : Nat} {us : List Value} (h : Vw w wv w' bk et us) : KeepBut w w' bk none := by
  refine ⟨by rw [← h.size]; exact h.bel.size, fun i hi hg _ => ?_⟩
  exact (h.bel.block i (by rw [h.size]; exact hi)).trans (h.far i hg)
theorem Vw.below {w wv w' : World} {bk et : Nat} {us : List Value} (h : Vw w wv w' bk et us) {B : Nat} (hB : B ≤ bk) : Below B w w' := by
  refine ⟨h.bel.os.trans h.os, h.bel.tape.trans h.tape, h.bel.output.trans h.output, by rw [← h.size]; exact h.bel.size, fun k hk => ?_⟩
  have := h.lt
  exact (h.bel.block k (by omega)).trans (h.far k (by omega))
theorem sets_size (g o : Nat) (seg : List Value) (w : World) : (w.setCells g o seg).heap.size = w.heap.size := (setCells_same g seg o w).2.2.2
theorem sets_below {w wv w' : World} {bk et : Nat} {us : List Value} (h : Vw w wv w' bk et us) (o : Nat) (seg : List Value) (hl : o + seg.length ≤ us.length) : Vw w (wv.setCells bk o seg) (w'.setCells bk o seg) bk et (us.take o ++ seg ++ us.drop (o + seg.length)) := by
  obtain ⟨c1, h1, h2, h3⟩ := setCells_row seg o wv _ h.blk (by simpa using hl)
  obtain ⟨c2, g1, g2, g3⟩ := setCells_row seg o w' _ h.now (by simpa using hl)
  obtain ⟨s1, s2, s3, s4⟩ := setCells_same bk seg o wv
  obtain ⟨t1, t2, t3, t4⟩ := setCells_same bk seg o w'
  have e1 : c1 = (us.take o ++ seg ++ us.drop (o + seg.length)).toArray := by rw [← Array.toList_inj]; simpa using h3
  have e2 : c2 = (us.take o ++ seg ++ us.drop (o + seg.length)).toArray := by rw [← Array.toList_inj]; simpa using g3
  subst e1; subst e2
  refine ⟨s4.trans h.size, h1, fun k hk => (setCells_far seg o k hk).trans (h.far k hk), s1.trans h.os, s2.trans h.tape, s3.trans h.output, ⟨by rw [t1, s1]; exact h.bel.os, by rw [t2, s2]; exact h.bel.tape, by rw [t3, s3]; exact h.bel.output, by rw [t4, s4]; exact h.bel.size, fun k hk => ?_⟩⟩
  by_cases hkb : k = bk
  · subst hkb; exact g1.trans h1.symm
  · rw [setCells_far seg o k hkb, setCells_far seg o k hkb]
    exact h.bel.block k (by rw [s4] at hk; exact hk)
theorem nz_sets {wv : World} {bk et : Nat} {us : List Value} (hb : wv.heap[bk]? = some (.cells us.toArray et (0, 0))) {A : Option Addr} (h : Nz wv A) (o : Nat) (seg : List Value) (hl : o + seg.length ≤ us.length) : Nz (wv.setCells bk o seg) A := by
  intro ad hA cs fz he
  by_cases hk : ad.block = bk
  · obtain ⟨c1, h1, _, _⟩ := setCells_row seg o wv _ hb (by simpa using hl)
    rw [hk, h1] at he
    have h2 := h ad hA us.toArray (0, 0)
    rw [hk, hb] at h2
    injection he with he
    injection he with _ ht _
    exact h2 (by rw [ht])
  · rw [setCells_far seg o ad.block hk] at he
    exact h ad hA cs fz he
theorem C_far {wv : World} {bk : Nat} {A : Option Addr} {n : Nat} {l : List Int} (h : Kd.C (Kd.int .u8) wv A n l) (hf : ∀ ad, A = some ad → 0 < n → ad.block ≠ bk) (o : Nat) (seg : List Value) : Kd.C (Kd.int .u8) (wv.setCells bk o seg) A n l := by
  refine Kd.C_keep (d := (0 : Int)) (g := bk) h ⟨by rw [sets_size]; exact Nat.le_refl _, fun i _ hi _ => setCells_far seg o i hi⟩ ?_
  intro ad hA hn he
  exact hf ad hA hn he
theorem nz_ne {wv : World} {bk : Nat} {cs : Array Value} {fz : Nat × Nat} (hb : wv.heap[bk]? = some (.cells cs 78 fz)) {A : Option Addr} (h : Nz wv A) : ∀ ad, A = some ad → ad.block ≠ bk := by
  intro ad hA he
  have := h ad hA cs fz
  rw [he] at this
  exact this hb
/-- A row of Int96 is written to. -/
theorem rs_setsN {w wv w' : World} {bk : Nat} {us : List Value} (h : Vw w wv w' bk 78 us) {g : Nat} {l : List Int} {f L r c : Nat} (hR : RS wv w' g l f L r c) (o : Nat) (seg : List Value) (hl : o + seg.length ≤ us.length) : RS (wv.setCells bk o seg) (w'.setCells bk o seg) g l f L r c := by
  obtain ⟨⟨p, W, ⟨A0, c0, h1, h2, h3, h4, h4n⟩, h5, h6⟩, h7, h8, h9, h10⟩ := hR
  have hlt := h.lt
  exact ⟨⟨p, W, ⟨A0, c0, (setCells_far seg o g (by omega)).trans h1, by rw [sets_size]; exact h2, C_far h3 (fun ad hA _ => nz_ne h.blk h4n ad hA) o seg, h4, nz_sets h.blk h4n o seg hl⟩, h5, h6⟩, h7, h8, h9, h10⟩
theorem C_sets {wv : World} {bk et : Nat} {us : List Value} (hb : wv.heap[bk]? = some (.cells us.toArray et (0, 0))) (hs : ∀ u ∈ us, Sl u) {A : Option Addr} {n : Nat} {l : List Int} (h : Kd.C (Kd.int .u8) wv A n l) (o : Nat) (seg : List Value) : Kd.C (Kd.int .u8) (wv.setCells bk o seg) A n l := by
  refine Kd.C_keep (d := (0 : Int)) (g := bk) h ⟨by rw [sets_size]; exact Nat.le_refl _, fun i _ hi _ => setCells_far seg o i hi⟩ ?_
  intro ad hA hn he
  obtain ⟨ad2, h2, h3⟩ := Kd.at_int h 0 (Int.le_refl _) (by omega)
  rw [hA] at h2
  cases h2
  obtain ⟨ab, ao, ap⟩ := ad
  simp only at he
  subst he
  have h4 : (Addr.add ⟨ab, ao, ap⟩ (0 : Int).toNat) = ⟨ab, ao, ap⟩ := by simp [Addr.add]
  rw [h4] at h3
  unfold World.cell? at h3
  simp only [hb] at h3
  split at h3
  · cases h3
  · have h5 : us[ao]? = some (.int .u8 (rd l 0)) := by simpa using h3
    exact (hs _ (List.mem_of_getElem? h5)).2 _ rfl
theorem rs_sets {w wv w' : World} {bk et : Nat} {us : List Value} (h : Vw w wv w' bk et us) (hs : ∀ u ∈ us, Sl u) {g : Nat} {l : List Int} {f L r c : Nat} (hR : RS wv w' g l f L r c) (o : Nat) (seg : List Value) (hl : o + seg.length ≤ us.length) : RS (wv.setCells bk o seg) (w'.setCells bk o seg) g l f L r c := by
  obtain ⟨⟨p, W, ⟨A0, c0, h1, h2, h3, h4, h4n⟩, h5, h6⟩, h7, h8, h9, h10⟩ := hR
  have hlt := h.lt
  exact ⟨⟨p, W, ⟨A0, c0, (setCells_far seg o g (by omega)).trans h1, by rw [sets_size]; exact h2, C_sets h.blk hs h3 o seg, h4, nz_sets h.blk h4n o seg hl⟩, h5, h6⟩, h7, h8, h9, h10⟩
end Go.Proofs.YtpjaaonpbohkdaaDoor.QR
/- Rows of Int96, by cells; the builtin copy of them. -/
namespace Go.Proofs.YtpjaaonpbohkdaaDoor.QR
open Go.RowKit Go.Proofs.YtpjaaonpbohkdaaDoorW.PrintWords Go.Proofs.YtpjaaonpbohkdaaDoorW.PrintLast Go.Proofs.YtpjaaonpbohkdaaDoorW.PrintMore
set_option linter.unusedVariables false
set_option linter.unusedSimpArgs false
/-- The cells of a row of Int96. -/
def flatC (us : List (List Int)) : List Value := us.flatten.map (Value.int .u8)
def all12 (us : List (List Int)) : Prop := ∀ u ∈ us, u.length = 12
theorem all12_take {us : List (List Int)} (h : all12 us) (k : Nat) : all12 (us.take k) := fun u hu => h u (List.mem_of_mem_take hu)
theorem all12_drop {us : List (List Int)} (h : all12 us) (k : Nat) : all12 (us.drop k) := fun u hu => h u (List.mem_of_mem_drop hu)
theorem all12_app {a b : List (List Int)} (h : all12 a) (k : all12 b) : all12 (a ++ b) := fun u hu => (List.mem_append.1 hu).elim (h u) (k u)
theorem flat_len : ∀ us : List (List Int), all12 us → us.flatten.length = 12 * us.length
  | [], _ => rfl
  | u :: r, h => by
    rw [List.flatten_cons, List.length_append, h u (List.mem_cons_self ..), flat_len r (fun x hx => h x (List.mem_cons_of_mem _ hx)), List.length_cons]
    omega
theorem flatC_len {us : List (List Int)} (h : all12 us) : (flatC us).length = 12 * us.length := by unfold flatC; rw [List.length_map, flat_len us h]
theorem flatC_app (a b : List (List Int)) : flatC (a ++ b) = flatC a ++ flatC b := by unfold flatC; rw [List.flatten_append, List.map_append]
theorem flatC_take {us : List (List Int)} (h : all12 us) (k : Nat) (hk : k ≤ us.length) : (flatC us).take (12 * k) = flatC (us.take k) := by
  conv => lhs; rw [← List.take_append_drop k us]
  rw [flatC_app, List.take_append_of_le_length (by rw [flatC_len (all12_take h k), List.length_take]; omega), List.take_of_length_le (by rw [flatC_len (all12_take h k), List.length_take]; omega)]
theorem flatC_drop {us : List (List Int)} (h : all12 us) (k : Nat) (hk : k ≤ us.length) : (flatC us).drop (12 * k) = flatC (us.drop k) := by
  conv => lhs; rw [← List.take_append_drop k us]
  rw [flatC_app, List.drop_append_of_le_length (by rw [flatC_len (all12_take h k), List.length_take]; omega), List.drop_eq_nil_of_le (by rw [flatC_len (all12_take h k), List.length_take]; omega)]
  rfl
theorem flatC_one (u : List Int) : flatC [u] = u.map (Value.int .u8) := by simp [flatC]
/-- The cells of one element. -/
theorem flatC_at {us : List (List Int)} (h : all12 us) {i : Nat} {u : List Int} (hu : us[i]? = some u) {j : Nat} {x : Int} (hx : u[j]? = some x) : (flatC us)[12 * i + j]? = some (.int .u8 x) := by
  have hi : i < us.length := (List.getElem?_eq_some_iff.1 hu).1
  have hul := h u (List.mem_of_getElem? hu)
  have hj : j < 12 := by have := (List.getElem?_eq_some_iff.1 hx).1; omega
  have hs : us = us.take i ++ ([u] ++ us.drop (i + 1)) := by
    have h2 : us.drop i = u :: us.drop (i + 1) := by
      rw [List.drop_eq_getElem_cons hi]
      congr 1
      exact (List.getElem?_eq_some_iff.1 hu).2
    conv => lhs; rw [← List.take_append_drop i us, h2]
    rfl
  rw [hs, flatC_app, flatC_app, List.getElem?_append_right (by rw [flatC_len (all12_take h i), List.length_take]; omega), flatC_len (all12_take h i), List.length_take, show 12 * i + j - 12 * min i us.length = j by omega, List.getElem?_append_left (by rw [flatC_one, List.length_map]; omega), flatC_one, List.getElem?_map, hx]
  rfl
theorem flatC_one' (us : List (List Int)) : ∀ v ∈ flatC us, v.oneCell' = true := by
  intro v hv
  obtain ⟨x, _, rfl⟩ := List.mem_map.1 hv
  rfl
/-- Elements from S on are written over. -/
theorem flatC_put {us seg : List (List Int)} (h : all12 us) (hs : all12 seg) (S : Nat) (hl : S + seg.length ≤ us.length) : (flatC us).take (12 * S) ++ flatC seg ++ (flatC us).drop (12 * S + (flatC seg).length) = flatC (us.take S ++ seg ++ us.drop (S + seg.length)) := by
  rw [flatC_take h S (by omega), flatC_len hs, show 12 * S + 12 * seg.length = 12 * (S + seg.length) by omega, flatC_drop h _ hl, flatC_app, flatC_app]
theorem sets_belowN {w wv w' : World} {bk : Nat} {us : List (List Int)} (h : Vw w wv w' bk 78 (flatC us)) (ha : all12 us) (S : Nat) (seg : List (List Int)) (hs : all12 seg) (hl : S + seg.length ≤ us.length) : Vw w (wv.setCells bk (12 * S) (flatC seg)) (w'.setCells bk (12 * S) (flatC seg)) bk 78 (flatC (us.take S ++ seg ++ us.drop (S + seg.length))) := by
  have := sets_below h (12 * S) (flatC seg) (by rw [flatC_len hs, flatC_len ha]; omega)
  rw [flatC_put ha hs S hl] at this
  exact this
/-- copy of rows of Int96. -/
theorem copyz {P : Program} {W : World} (t t' ty : TypeId) (ht : P.underlying t = some (.slice 78)) (hinfo : (P.info? 78).map (·.size) = some 12) (bk S n1 c1 N c2 : Nat) (A : Addr) (us seg : List (List Int)) (hb : W.heap[bk]? = some (.cells (flatC us).toArray 78 (0, 0))) (ha : all12 us) (hs : all12 seg) (hsrc : ∀ j v, (flatC seg)[j]? = some v → W.cell? (A.add j) = some v)
    (hN : N = seg.length) (hn1 : N ≤ n1) (hl : S + N ≤ us.length) :
    (Builtin.copy_ #[t, t'] ty #[.slice (some ⟨bk, 12 * S, none⟩) n1 c1, .slice (some A) N c2]).run P W = .ok (.int .i64 (N : Int)) (W.setCells bk (12 * S) (flatC seg)) := by
  have hlen : (flatC seg).length = 12 * N := by rw [flatC_len hs, hN]
  have hl1 := run_loadCells_list (P := P) W A (flatC seg) hsrc
  have hst := run_storeCells_cells (P := P) bk (12 * S) (flatC seg) 0 W (fun j hj => by rw [blk_cell hb, List.getElem?_toArray, List.getElem?_eq_getElem (by rw [flatC_len ha]; omega)]; rfl) (fun j _ => blk_frozen hb _) (flatC_one' seg)
  rw [hlen] at hl1
  have hmin : Nat.min N n1 = N := Nat.min_eq_left hn1
  cases hq : P.info? 78 with
  | none => simp [hq] at hinfo
  | some i =>
    have hi : i.size = 12 := by simpa [hq] using hinfo
    simp only [Nat.add_zero] at hst
    simp [Builtin.copy_, run_underlying ht, Builtin.lenOf, Builtin.firstCells, sizeOf, typeInfo, hq, hi, hmin, hl1, hst]
    first | done | (rw [Nat.mul_comm N 12, hl1]; simp [hst]; rfl) | rfl
end Go.Proofs.YtpjaaonpbohkdaaDoor.QR
/- Rows of bytes: numbers written plainly, from the lowest byte on. -/
namespace Go.Proofs.YtpjaaonpbohkdaaDoor.QR
open Go.RowKit Go.Proofs.YtpjaaonpbohkdaaDoorW.PrintWords Go.Proofs.YtpjaaonpbohkdaaDoorW.PrintLast Go.Proofs.YtpjaaonpbohkdaaDoorW.PrintMore
set_option linter.unusedVariables false
set_option linter.unusedSimpArgs false
abbrev Cu (w : World) (A : Option Addr) (l : List Int) : Prop := Kd.C (Kd.int .u8) w A l.length l
/-- Nothing panics. -/
def NoP (Q : Exit → Act → World → Prop) : Exit → Act → World → Prop
  | .panic _, _, _ => False
  | e, a, w => Q e a w
theorem wp_noP {P : Program} {c : Code} {Q : Exit → Act → World → Prop} {a : Act} {w : World} (h : c.wp P (NoP Q) a w) : c.wp P Q a w :=
  wp_mono h (fun e a w h => by
    cases e with
    | panic c => exact absurd h (fun h => h)
    | normal => exact h
    | exit i => exact h
    | goto l => exact h
    | ret => exact h
    | outgrown => exact h)
theorem noP_normal {Q : Exit → Act → World → Prop} {a : Act} {w : World} (h : Q .normal a w) : NoP Q .normal a w := h
/-- Byte j of a number. -/
def byteN (a : Int) (j : Nat) : Int := a / 256 ^ j % 256
/-- A number's lowest W bytes. -/
def leB (W : Nat) (a : Int) : List Int := (List.range W).map (byteN a)
def flatN (W : Nat) : List Int → List Int
  | [] => []
  | a :: r => leB W a ++ flatN W r
theorem leB_len (W : Nat) (a : Int) : (leB W a).length = W := by simp [leB]
theorem flatN_len (W : Nat) : ∀ xs : List Int, (flatN W xs).length = W * xs.length
  | [] => rfl
  | a :: r => by simp only [flatN]; rw [List.length_append, leB_len, flatN_len W r, List.length_cons, Nat.mul_add]; omega
theorem flatN_append (W : Nat) : ∀ a b : List Int, flatN W (a ++ b) = flatN W a ++ flatN W b
  | [], _ => rfl
  | x :: r, b => by rw [List.cons_append]; simp only [flatN]; rw [flatN_append W r b, List.append_assoc]
theorem flatN_get (W : Nat) : ∀ (xs : List Int) (i j : Nat), i < xs.length → j < W → (flatN W xs)[W * i + j]? = some (byteN (xs.getD i 0) j)
  | [], i, j, h, _ => absurd h (by simp)
  | a :: r, 0, j, _, hj => by
    simp only [flatN, Nat.mul_zero, Nat.zero_add]
    rw [List.getElem?_append_left (by rw [leB_len]; exact hj)]
    simp [leB, hj]
  | a :: r, i + 1, j, h, hj => by
    simp only [flatN]
    rw [List.getElem?_append_right (by rw [leB_len, Nat.mul_add]; omega), leB_len, show W * (i + 1) + j - W = W * i + j by rw [Nat.mul_add]; omega, flatN_get W r i j (by simpa using h) hj]
    rfl
theorem flatN_rd {W : Nat} {xs : List Int} {i j : Nat} (hi : i < xs.length) (hj : j < W) : rd (flatN W xs) ((W * i + j : Nat) : Int) = byteN (xs.getD i 0) j := by
  unfold rd
  rw [Int.toNat_natCast, List.getD_eq_getElem?_getD, flatN_get W xs i j hi hj]
  rfl
theorem byteN_ok (a : Int) (j : Nat) : 0 ≤ byteN a j ∧ byteN a j < 256 := by unfold byteN; omega
theorem bytesOk_leB (W : Nat) (a : Int) : bytesOk (leB W a) = true := by
  unfold bytesOk leB
  rw [List.all_eq_true]
  intro x hx
  obtain ⟨j, _, rfl⟩ := List.mem_map.1 hx
  have := byteN_ok a j
  simp only [Bool.and_eq_true, decide_eq_true_eq]
  omega
theorem bytesOk_flatN (W : Nat) : ∀ xs : List Int, bytesOk (flatN W xs) = true
  | [] => rfl
  | a :: r => by
    simp only [flatN]
    have h1 := bytesOk_leB W a
    have h2 := bytesOk_flatN W r
    unfold bytesOk at *
    rw [List.all_append, h1, h2]
    rfl
/-- Four, or eight, bytes at place i. -/
def w4 (l : List Int) (i : Nat) : Int := QE.le4 (rd l ((4 * i : Nat) : Int)) (rd l ((4 * i + 1 : Nat) : Int)) (rd l ((4 * i + 2 : Nat) : Int)) (rd l ((4 * i + 3 : Nat) : Int))
def w8 (l : List Int) (i : Nat) : Int := QE.le8 (rd l ((8 * i : Nat) : Int)) (rd l ((8 * i + 1 : Nat) : Int)) (rd l ((8 * i + 2 : Nat) : Int)) (rd l ((8 * i + 3 : Nat) : Int)) (rd l ((8 * i + 4 : Nat) : Int)) (rd l ((8 * i + 5 : Nat) : Int)) (rd l ((8 * i + 6 : Nat) : Int)) (rd l ((8 * i + 7 : Nat) : Int))
theorem w4_flat {xs : List Int} {i : Nat} (hi : i < xs.length) : w4 (flatN 4 xs) i = xs.getD i 0 % 4294967296 := by
  unfold w4
  have h0 := flatN_rd (W := 4) (j := 0) hi (by omega)
  rw [Nat.add_zero] at h0
  rw [h0, flatN_rd hi (by omega), flatN_rd hi (by omega), flatN_rd hi (by omega)]
  unfold QE.le4 byteN
  generalize xs.getD i 0 = a
  omega
theorem w8_flat {xs : List Int} {i : Nat} (hi : i < xs.length) : w8 (flatN 8 xs) i = xs.getD i 0 % 18446744073709551616 := by
  unfold w8
  have h0 := flatN_rd (W := 8) (j := 0) hi (by omega)
  rw [Nat.add_zero] at h0
  rw [h0, flatN_rd hi (by omega), flatN_rd hi (by omega), flatN_rd hi (by omega), flatN_rd hi (by omega), flatN_rd hi (by omega), flatN_rd hi (by omega), flatN_rd hi (by omega)]
  unfold QE.le8 byteN
  generalize xs.getD i 0 = a
  omega
theorem store_flt (k : FloatKind) (a : Addr) (n : Nat) (w : World) : (store a (.float k n)).run Tryd.prog w = stored Tryd.prog w a (.float k n) .plain := run_store Tryd.prog w a _ _ rfl
theorem f32_of (x : Int) (w : World) : (callFunc 90 #[.int .u32 x]).run Tryd.prog w = .ok (.value (.float .f32 x.toNat)) w := by
  rw [run_callFunc_extern (fn := Tryd.f90) (e := Extern.MathFloatBits.float32frombits) (by kernel_rfl) (by kernel_rfl) (by kernel_rfl) (by kernel_rfl) (by kernel_rfl)]
  rfl
theorem f64_of (x : Int) (w : World) : (callFunc 91 #[.int .u64 x]).run Tryd.prog w = .ok (.value (.float .f64 x.toNat)) w := by
  rw [run_callFunc_extern (fn := Tryd.f91) (e := Extern.MathFloatBits.float64frombits) (by kernel_rfl) (by kernel_rfl) (by kernel_rfl) (by kernel_rfl) (by kernel_rfl)]
  rfl
theorem f32_bits (x : Nat) (w : World) : (callFunc 58 #[.float .f32 x]).run Tryd.prog w = .ok (.value (.int .u32 (x : Int))) w := by
  rw [run_callFunc_extern (fn := Tryd.f58) (e := Extern.MathFloatBits.float32bits) (by kernel_rfl) (by kernel_rfl) (by kernel_rfl) (by kernel_rfl) (by kernel_rfl)]
  rfl
theorem f64_bits (x : Nat) (w : World) : (callFunc 50 #[.float .f64 x]).run Tryd.prog w = .ok (.value (.int .u64 (x : Int))) w := by
  rw [run_callFunc_extern (fn := Tryd.f50) (e := Extern.MathFloatBits.float64bits) (by kernel_rfl) (by kernel_rfl) (by kernel_rfl) (by kernel_rfl) (by kernel_rfl)]
  rfl
end Go.Proofs.YtpjaaonpbohkdaaDoor.QR
/- Rows of bytes; what else stays. -/
namespace Go.Proofs.YtpjaaonpbohkdaaDoor.QR
open Go.RowKit Go.Proofs.YtpjaaonpbohkdaaDoorW.PrintWords Go.Proofs.YtpjaaonpbohkdaaDoorW.PrintLast Go.Proofs.YtpjaaonpbohkdaaDoorW.PrintMore
set_option linter.unusedVariables false
set_option linter.unusedSimpArgs false
theorem Cu.keep {w w' : World} {A : Option Addr} {l : List Int} (h : Cu w A l) (hk : ∀ ad, A = some ad → 0 < l.length → w'.heap[ad.block]? = w.heap[ad.block]?) : Cu w' A l := by
  have hr := Kd.reads_of_C (enc := Value.int .u8) (d := (0 : Int)) (h1 := fun _ => rfl) h
  refine Kd.C_of_reads (d := (0 : Int)) (enc := Value.int .u8) ⟨hr.1, hr.2.1, fun hn => ?_⟩
  obtain ⟨ad, e, hc⟩ := hr.2.2 hn
  refine ⟨ad, e, fun j hj => ?_⟩
  have := hc j hj
  unfold World.cell? at this ⊢
  rw [add_block, hk ad e hn, ← add_block ad j]
  exact this
/-- A block that holds no byte is not the row's. -/
theorem Cu.ne {w : World} {A : Option Addr} {l : List Int} (h : Cu w A l) {g : Nat} {cs : Array Value} {ty : TypeId} {fz : Nat × Nat} (hg : w.heap[g]? = some (.cells cs ty fz)) (hn : ∀ u ∈ cs, ∀ x, u ≠ .int .u8 x) (ad : Addr) (hA : A = some ad) (hl : 0 < l.length) : ad.block ≠ g := by
  intro he
  obtain ⟨ad2, h2, h3⟩ := Kd.at_int h 0 (Int.le_refl _) (by omega)
  rw [hA] at h2
  cases h2
  obtain ⟨ab, ao, ap⟩ := ad
  simp only at he
  subst he
  rw [show (Addr.add ⟨ab, ao, ap⟩ (0 : Int).toNat) = ⟨ab, ao, ap⟩ by simp [Addr.add]] at h3
  unfold World.cell? at h3
  simp only [hg] at h3
  split at h3
  · cases h3
  · exact hn _ (Array.mem_of_getElem? h3) _ rfl
theorem sl_nb {us : List Value} (h : ∀ u ∈ us, Sl u) : ∀ u ∈ us.toArray, ∀ x, u ≠ .int .u8 x := by
  intro u hu x e
  exact (h u (by simpa using hu)).2 x e
/-- Nothing but two blocks, and what is new. -/
structure Fr (w w' : World) (bk gd : Nat) : Prop where
  os : w'.os = w.os
  tape : w'.tape = w.tape
  output : w'.output = w.output
  size : w.heap.size ≤ w'.heap.size
  far : ∀ k, k < w.heap.size → k ≠ bk → k ≠ gd → w'.heap[k]? = w.heap[k]?
theorem Fr.refl (w : World) (bk gd : Nat) : Fr w w bk gd := ⟨rfl, rfl, rfl, Nat.le_refl _, fun _ _ _ _ => rfl⟩
theorem Fr.step {w w' w'' : World} {bk gd : Nat} (h : Fr w w' bk gd) (hb : Below w'.heap.size w' w'') : Fr w w'' bk gd := ⟨hb.os.trans h.os, hb.tape.trans h.tape, hb.output.trans h.output, Nat.le_trans h.size hb.size, fun k h1 h2 h3 => (hb.block k (Nat.lt_of_lt_of_le h1 h.size)).trans (h.far k h1 h2 h3)⟩
theorem Fr.set {w w' : World} {bk gd : Nat} (h : Fr w w' bk gd) (g o : Nat) (v : Value) (hg : g = bk ∨ g = gd) : Fr w (w'.setCell ⟨g, o, none⟩ v) bk gd := by
  refine ⟨h.os, h.tape, h.output, by simpa [World.setCell] using h.size, fun k h1 h2 h3 => ?_⟩
  rw [Below.heap_setCell w' ⟨g, o, none⟩ v k (by rcases hg with rfl | rfl <;> assumption)]
  exact h.far k h1 h2 h3
theorem Fr.trans {w w' w'' : World} {bk gd : Nat} (h : Fr w w' bk gd) (k : Fr w' w'' bk gd) : Fr w w'' bk gd := ⟨k.os.trans h.os, k.tape.trans h.tape, k.output.trans h.output, Nat.le_trans h.size k.size, fun i h1 h2 h3 => (k.far i (Nat.lt_of_lt_of_le h1 h.size) h2 h3).trans (h.far i h1 h2 h3)⟩
theorem Vw.fr {w wv w' : World} {bk et : Nat} {us : List Value} (h : Vw w wv w' bk et us) (gd : Nat) : Fr w w' bk gd :=
  ⟨h.bel.os.trans h.os, h.bel.tape.trans h.tape, h.bel.output.trans h.output, h.keep.1, fun k h1 h2 _ => h.keep.2 k h1 h2 (by simp)⟩
theorem Cu.fr {w w' : World} {bk gd : Nat} (h : Fr w w' bk gd) {A : Option Addr} {l : List Int} (hC : Cu w A l) {cs cs' : Array Value} {ty ty' : TypeId} {fz fz' : Nat × Nat} (h1 : w.heap[bk]? = some (.cells cs ty fz)) (n1 : ∀ u ∈ cs, ∀ x, u ≠ .int .u8 x) (h2 : w.heap[gd]? = some (.cells cs' ty' fz')) (n2 : ∀ u ∈ cs', ∀ x, u ≠ .int .u8 x) : Cu w' A l := by
  refine hC.keep (fun ad hA hl => h.far ad.block ?_ (hC.ne h1 n1 ad hA hl) (hC.ne h2 n2 ad hA hl))
  obtain ⟨ad2, h3, h4⟩ := Kd.at_int hC 0 (Int.le_refl _) (by omega)
  rw [hA] at h3
  cases h3
  unfold World.cell? at h4
  rw [add_block] at h4
  split at h4
  · rename_i e
    exact (Array.getElem?_eq_some_iff.1 e).1
  · cases h4
/-- A text as it is written plainly. -/
def encT (t : List Int) : List Int := [(t.length : Int) % 256, (t.length : Int) / 256 % 256, (t.length : Int) / 65536 % 256, (t.length : Int) / 16777216 % 256] ++ t
def encs : List (List Int) → List Int
  | [] => []
  | t :: r => encT t ++ encs r
theorem encT_len (t : List Int) : (encT t).length = t.length + 4 := by simp [encT]
theorem encs_append : ∀ a b : List (List Int), encs (a ++ b) = encs a ++ encs b
  | [], _ => rfl
  | t :: r, b => by rw [List.cons_append]; simp only [encs]; rw [encs_append r b, List.append_assoc]
theorem encs_split (ts : List (List Int)) (i : Nat) : encs ts = encs (ts.take i) ++ encs (ts.drop i) := by rw [← encs_append, List.take_append_drop]
theorem encs_drop_len (ts : List (List Int)) (i : Nat) : (encs (ts.drop i)).length ≤ (encs ts).length := by
  have := congrArg List.length (encs_split ts i)
  rw [List.length_append] at this
  omega
theorem encT_le (t : List Int) (R : List Int) : rd (encT t ++ R) 0 = (t.length : Int) % 256 ∧ rd (encT t ++ R) 1 = (t.length : Int) / 256 % 256 ∧ rd (encT t ++ R) 2 = (t.length : Int) / 65536 % 256 ∧ rd (encT t ++ R) 3 = (t.length : Int) / 16777216 % 256 := by
  refine ⟨?_, ?_, ?_, ?_⟩ <;> simp [rd, encT]
theorem le4_len (n : Nat) (h : n ≤ 1000000) : QE.le4 ((n : Int) % 256) ((n : Int) / 256 % 256) ((n : Int) / 65536 % 256) ((n : Int) / 16777216 % 256) = (n : Int) := by unfold QE.le4; omega
theorem encT_drop (t R : List Int) : ((encT t ++ R).take (t.length + 4)).drop 4 = t := by
  have h : (encT t ++ R).take (t.length + 4) = encT t := by rw [List.take_append_of_le_length (by rw [encT_len]; omega), List.take_of_length_le (by rw [encT_len]; omega)]
  rw [h]; simp [encT]
theorem encT_rest (t R : List Int) : (encT t ++ R).drop (t.length + 4) = R := by
  rw [List.drop_append_of_le_length (by rw [encT_len]; omega), List.drop_eq_nil_of_le (by rw [encT_len]; omega)]; rfl
theorem set_below {w wv w' : World} {bk et : Nat} {us : List Value} (h : Vw w wv w' bk et us) (o : Nat) (v : Value) (hl : o < us.length) : Vw w (wv.setCell ⟨bk, o, none⟩ v) (w'.setCell ⟨bk, o, none⟩ v) bk et (us.set o v) := by
  have := sets_below h o [v] hl
  rw [show us.take o ++ [v] ++ us.drop (o + [v].length) = us.set o v by rw [List.set_eq_take_append_cons_drop, if_pos hl]; simp] at this
  exact this
theorem rs_set1 {w wv w' : World} {bk et : Nat} {us : List Value} (h : Vw w wv w' bk et us) (hs : ∀ u ∈ us, Sl u) {g : Nat} {l : List Int} {f L r c : Nat} (hR : RS wv w' g l f L r c) (o : Nat) (v : Value) (hl : o < us.length) : RS (wv.setCell ⟨bk, o, none⟩ v) (w'.setCell ⟨bk, o, none⟩ v) g l f L r c := rs_sets h hs hR o [v] (by show o + 1 ≤ us.length; omega)
end Go.Proofs.YtpjaaonpbohkdaaDoor.QR
