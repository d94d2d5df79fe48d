/- (*baseSetBitRunReader).countNextOnes, backwards. -/
import Derived.Test.YtpjaaonpbohkdaaDoorZA5
namespace Go.Proofs.YtpjaaonpbohkdaaDoor.QR
open Go.RowKit Go.Proofs.YtpjaaonpbohkdaaDoorW.PrintWords Go.Proofs.YtpjaaonpbohkdaaDoorW.PrintLast Go.Proofs.YtpjaaonpbohkdaaDoorW.PrintMore
set_option linter.unusedVariables false
set_option linter.unusedSimpArgs false
def Ones (w0 w : World) (g : Nat) (l : List Int) (f L r c : Nat) (w' : World) : Prop := ∃ r1 c1, Left w0 w g l f L r1 c1 w' ∧ r1 + c1 = hi (fun t => !bt1 l t) f (r + c)
set_option maxHeartbeats 8000000 in
set_option maxRecDepth 100000 in
theorem cno_some (g : Nat) (l : List Int) (f L r c : Nat) (w0 w : World) (hS : RS w0 w g l f L r c) (hc0 : 0 < c) (hB : Below w0.heap.size w0 w) (hh : 0 < hi (fun t => !bt1 l t) (f + r) c) :
    Calls Tryd.prog 117 #[.pointer (some ⟨g, 0, none⟩)] w fun e w' => e = .returned (.int .i64 ((r + c - hi (fun t => !bt1 l t) f (r + c) : Nat) : Int)) ∧ Ones w0 w g l f L r c w' := by
  obtain ⟨⟨p, W0, hI, hW, hp⟩, hbo, hl, hc64, hrc⟩ := hS
  obtain rfl := hW hc0
  obtain ⟨A0, c0, HG, hg, hC⟩ := id hI
  have m3 := cellS132_3 HG
  have m4 := cellS132_4 HG
  have m5 := cellS132_5 HG
  have m6 := cellS132_6 HG
  have z3 := blk_frozen HG 3
  have z4 := blk_frozen HG 4
  have z5 := blk_frozen HG 5
  rw [show ((r + c : Nat) : Int) = (r : Int) + c by omega] at m3
  have hlz := lz_not (bt1 l) (f + r) c hc64
  have hWl := top_lt (bt1 l) (f + r) c hc64
  have hhi := hi_le (fun t => !bt1 l t) (f + r) c
  have hadd := hi_add (fun t => !bt1 l t) f r c
  obtain ⟨c2, hc2⟩ : ∃ c2, c2 = hi (fun t => !bt1 l t) (f + r) c := ⟨_, rfl⟩
  rw [← hc2] at hlz hhi hadd
  obtain ⟨z, hz⟩ : ∃ z, z = c - c2 := ⟨_, rfl⟩
  have hsh := shl_top (bt1 l) (f + r) c z hc64 (by omega)
  rw [show c - z = c2 by omega] at hsh
  have hzl : (z : Int) ≤ 64 := by omega
  have hcl : (c : Int) ≤ 64 := by omega
  have hzc : (z : Int) ≤ (c : Int) := by omega
  have hrl : (r : Int) ≤ 1000000 := by omega
  have hr0 : (0 : Int) ≤ (r : Int) := by omega
  have hN0 : c2 ≠ 0 ∨ c < 64 → not64 (top (bt1 l) (f + r) c) ≠ 0 := by
    intro h e
    rw [e] at hlz
    have h64 : QE.lz 0 = 64 := rfl
    omega
  have QF := Aside0.mk (fun W' h => cfz_is g (not64 (top (bt1 l) (f + r) c)) (not64_lt _) W' h)
  rw [hlz, ← hz] at QF
  have QX := Aside0.mk (xor_not (top (bt1 l) (f + r) c) hWl)
  have QC := Aside0.mk (fun W' h => cb_is g (top (bt1 l) (f + r) c) z hzl W' h)
  obtain ⟨V, hV⟩ : ∃ V, V = top (bt1 l) (f + r) c2 := ⟨_, rfl⟩
  rw [hsh, ← hV] at QC
  have QV := Aside0.mk hV
  have Qbo := Aside0.mk hbo
  have Qll := Aside0.mk hl
  have Qrc := Aside0.mk hrc
  have Qp := Aside0.mk hp
  have H1 := Aside0.mk (show IsS132 w0 w g l p L ((r : Int) + c) ((top (bt1 l) (f + r) c : Nat) : Int) c true FB from by rw [show (r : Int) + c = ((r + c : Nat) : Int) by omega]; exact hI)
  have H2 := Aside0.mk hB
  have H3 := Aside0.mk (show KeepBut w w g none from ⟨Nat.le_refl _, fun _ _ _ _ => rfl⟩)
  rw [← hc2] at hh
  rw [if_pos hh] at hadd
  have hne : ((not64 (top (bt1 l) (f + r) c) : Nat) : Int) ≠ 0 := by have := hN0 (.inl (by omega)); omega
  have Qz := Aside0.mk (show z + c2 = c from by omega)
  have Qadd := Aside0.mk hadd
  have hcz2 : ((c : Int) - (z : Int) != 0) = true := by simp; omega
  have hcz3 : ((c : Int) - (z : Int) == 0) = false := by simp; omega
  have QN := Aside0.mk hne
  generalize top (bt1 l) (f + r) c = W at *
  generalize not64 W = NW at *
  clear hlz hWl hhi hadd hc2 hz hsh hN0 hV hI HG hC hp hbo hl hrc hB hc64 hh hne
  have hif : (if IntKind.u64.signed = true then (-1 : Int) else IntKind.u64.max) = IntKind.u64.max := by decide
  have hb1 : (Go.bits .xor .u64 IntKind.u64.max (W : Int) == 0) = false := by rw [QX.out]; simpa using QN.out
  have hb2 : (Go.bits .xor .u64 IntKind.u64.max (W : Int) != 0) = true := by rw [QX.out]; simpa using QN.out
  have hb3 : ¬ Go.bits .xor .u64 IntKind.u64.max (W : Int) = 0 := by rw [QX.out]; exact QN.out
  go_enter Tryd.func117, Tryd.ntmps117
  go_wp2_with (first | (go_at_call 118; rw [QX.out]; refine (QF.out _ (by simp [go_sem, m6])).mono ?_; rintro e w' ⟨rfl, rfl⟩) | (go_at_call 119; refine (QC.out _ (by simp [go_sem, m6])).mono ?_; rintro e w' ⟨rfl, rfl⟩))
  go_ret
  have hR2 : r + c2 = hi (fun t => !bt1 l t) f (r + c) := Qadd.out.symm
  refine ⟨congrArg (fun x => Ending.returned (Value.int .i64 x)) (show (z : Int) = _ by rw [← hR2]; have := Qz.out; omega), r, c2, ⟨⟨⟨p, (V : Int), ?_, fun _ => by rw [← QV.out], Qp.out⟩, Qbo.out, Qll.out, by have := Qz.out; omega, by have := Qrc.out; have := Qz.out; omega⟩, ?_, ?_⟩, hR2⟩
  · rw [show ((r + c2 : Nat) : Int) = (r : Int) + c - (z : Int) by have := Qz.out; omega, show (c2 : Int) = (c : Int) - (z : Int) by have := Qz.out; omega]
    exact ((H1.out.set_3 _).set_4 _).set_5 _
  · exact ((H2.out.setCell hg _).setCell hg _).setCell hg _
  · exact kb_g (kb_g (kb_g H3.out))
set_option maxHeartbeats 8000000 in
set_option maxRecDepth 100000 in
theorem cno_low (g : Nat) (l : List Int) (f L r c : Nat) (w0 w : World) (hS : RS w0 w g l f L r c) (hc0 : 0 < c) (hB : Below w0.heap.size w0 w) (hh : hi (fun t => !bt1 l t) (f + r) c = 0) (hc : c < 64) :
    Calls Tryd.prog 117 #[.pointer (some ⟨g, 0, none⟩)] w fun e w' => e = .returned (.int .i64 ((r + c - hi (fun t => !bt1 l t) f (r + c) : Nat) : Int)) ∧ Ones w0 w g l f L r c w' := by
  obtain ⟨⟨p, W0, hI, hW, hp⟩, hbo, hl, hc64, hrc⟩ := hS
  obtain rfl := hW hc0
  obtain ⟨A0, c0, HG, hg, hC⟩ := id hI
  have m3 := cellS132_3 HG
  have m4 := cellS132_4 HG
  have m5 := cellS132_5 HG
  have m6 := cellS132_6 HG
  have z3 := blk_frozen HG 3
  have z4 := blk_frozen HG 4
  have z5 := blk_frozen HG 5
  rw [show ((r + c : Nat) : Int) = (r : Int) + c by omega] at m3
  have hlz := lz_not (bt1 l) (f + r) c hc64
  have hWl := top_lt (bt1 l) (f + r) c hc64
  have hhi := hi_le (fun t => !bt1 l t) (f + r) c
  have hadd := hi_add (fun t => !bt1 l t) f r c
  obtain ⟨c2, hc2⟩ : ∃ c2, c2 = hi (fun t => !bt1 l t) (f + r) c := ⟨_, rfl⟩
  rw [← hc2] at hlz hhi hadd
  obtain ⟨z, hz⟩ : ∃ z, z = c - c2 := ⟨_, rfl⟩
  have hsh := shl_top (bt1 l) (f + r) c z hc64 (by omega)
  rw [show c - z = c2 by omega] at hsh
  have hzl : (z : Int) ≤ 64 := by omega
  have hcl : (c : Int) ≤ 64 := by omega
  have hzc : (z : Int) ≤ (c : Int) := by omega
  have hrl : (r : Int) ≤ 1000000 := by omega
  have hr0 : (0 : Int) ≤ (r : Int) := by omega
  have hN0 : c2 ≠ 0 ∨ c < 64 → not64 (top (bt1 l) (f + r) c) ≠ 0 := by
    intro h e
    rw [e] at hlz
    have h64 : QE.lz 0 = 64 := rfl
    omega
  have QF := Aside0.mk (fun W' h => cfz_is g (not64 (top (bt1 l) (f + r) c)) (not64_lt _) W' h)
  rw [hlz, ← hz] at QF
  have QX := Aside0.mk (xor_not (top (bt1 l) (f + r) c) hWl)
  have QC := Aside0.mk (fun W' h => cb_is g (top (bt1 l) (f + r) c) z hzl W' h)
  obtain ⟨V, hV⟩ : ∃ V, V = top (bt1 l) (f + r) c2 := ⟨_, rfl⟩
  rw [hsh, ← hV] at QC
  have QV := Aside0.mk hV
  have Qbo := Aside0.mk hbo
  have Qll := Aside0.mk hl
  have Qrc := Aside0.mk hrc
  have Qp := Aside0.mk hp
  have H1 := Aside0.mk (show IsS132 w0 w g l p L ((r : Int) + c) ((top (bt1 l) (f + r) c : Nat) : Int) c true FB from by rw [show (r : Int) + c = ((r + c : Nat) : Int) by omega]; exact hI)
  have H2 := Aside0.mk hB
  have H3 := Aside0.mk (show KeepBut w w g none from ⟨Nat.le_refl _, fun _ _ _ _ => rfl⟩)
  rw [← hc2] at hh
  rw [hh, if_neg (by omega)] at hadd
  have QHI := Aside0.mk hadd.symm
  subst hh
  have hz' : z = c := by omega
  have hne : ((not64 (top (bt1 l) (f + r) c) : Nat) : Int) ≠ 0 := by have := hN0 (.inr hc); omega
  have QN := Aside0.mk hne
  rw [hz'] at QF QC
  have Qc0 := Aside0.mk hc0
  generalize top (bt1 l) (f + r) c = W at *
  generalize not64 W = NW at *
  clear hlz hWl hhi hadd hc2 hz hsh hN0 hV hI HG hC hp hbo hl hrc hB hc64 hne hz' hzl hzc hc hc0
  have hif : (if IntKind.u64.signed = true then (-1 : Int) else IntKind.u64.max) = IntKind.u64.max := by decide
  have hb1 : (Go.bits .xor .u64 IntKind.u64.max (W : Int) == 0) = false := by rw [QX.out]; simpa using QN.out
  have hb2 : (Go.bits .xor .u64 IntKind.u64.max (W : Int) != 0) = true := by rw [QX.out]; simpa using QN.out
  go_enter Tryd.func117, Tryd.ntmps117
  go_wp2_with (first | (go_at_call 118; rw [QX.out]; refine (QF.out _ (by simp [go_sem, m6])).mono ?_; rintro e w' ⟨rfl, rfl⟩) | (go_at_call 119; refine (QC.out _ (by simp [go_sem, m6])).mono ?_; rintro e w' ⟨rfl, rfl⟩))
  clear hb1 hb2 m3 m4 m5 m6 z3 z4 z5 QF QC QX QN
  go_loopg [3] (r / 64) (fun kq v3 w' => ∃ (r1 n1 : Nat), v3 = .int .i64 (n1 : Int) ∧ Aside0 (r1 / 64 = kq ∧ r1 + n1 = r + c ∧ hi (fun t => !bt1 l t) f r1 = hi (fun t => !bt1 l t) f (r + c)) ∧ Aside0 (RS w0 w' g l f L r1 0) ∧ Aside0 (Below w0.heap.size w0 w') ∧ Aside0 (KeepBut w w' g none))
  case atStart => exact ⟨r, c, rfl, ⟨rfl, rfl, QHI.out⟩, ⟨⟨p, _, ((H1.out.set_3 _).set_4 _).set_5 _, fun h => absurd h (Nat.lt_irrefl _), Qp.out⟩, Qbo.out, Qll.out, by omega, by have := Qrc.out; omega⟩, ⟨((H2.out.setCell hg _).setCell hg _).setCell hg _⟩, ⟨kb_g (kb_g (kb_g H3.out))⟩⟩
  case round =>
    obtain ⟨r1, n1, rfl, HA, HS, HB, HK⟩ := hrel
    clear H1 H2 H3
    obtain ⟨⟨p, Wg, hI, _, hp⟩, hbo, hl, _, hrc⟩ := HS.out
    obtain ⟨A0, c0, HG, hg, hC⟩ := id hI
    have hb1 : (r1 : Int) ≤ 1000000 := by omega
    have hn1 : (n1 : Int) ≤ 1000000 := by have := HA.out.2.1; have := Qrc.out; omega
    have hn0 : (0 : Int) ≤ (n1 : Int) := by omega
    by_cases h64 : 64 ≤ r1
    · obtain ⟨q0, hq, hq8, hql⟩ := hp (by omega)
      obtain ⟨q, rfl⟩ : ∃ q, q0 = q + 8 := ⟨q0 - 8, by omega⟩
      subst hq
      obtain ⟨r2, rfl⟩ : ∃ r2, r1 = r2 + 64 := ⟨r1 - 64, by omega⟩
      obtain ⟨k1, rfl⟩ : ∃ k1, gk = k1 + 1 := ⟨gk - 1, by have := HA.out.1; omega⟩
      have hI2 : IsS132 w0 wr g l ((q : Int) + 8) L ((r2 : Int) + 64) Wg 0 true FB := by
        have h := hI
        rw [show ((q + 8 : Nat) : Int) = (q : Int) + 8 by omega, show ((r2 + 64 + 0 : Nat) : Int) = (r2 : Int) + 64 by omega] at h
        exact h
      have k3 : wr.cell? ⟨g, 3, none⟩ = some (.int .i64 ((r2 : Int) + 64)) := by
        obtain ⟨A1, c1, HG1, _⟩ := id hI2
        exact cellS132_3 HG1
      have hge : decide ((64 : Int) ≤ (r2 : Int) + 64) = true := decide_eq_true (by omega)
      have HL := Aside0.mk (lf_is g l _ _ _ _ _ q w0 wr hI2 HB.out hbo (by omega) hl)
      have h8q : 8 * q = f + r2 := by omega
      have Q8 := Aside0.mk h8q
      have Qhi := Aside0.mk (hi_add (fun t => !bt1 l t) f r2 64)
      have Qr := Aside0.mk (show r2 + 64 ≤ 1000000 ∧ q + 8 ≤ l.length from ⟨by omega, hql⟩)
      have Qbo := Aside0.mk hbo
      have Qll := Aside0.mk hl
      have hr2 : (r2 : Int) ≤ 1000000 := by omega
      clear hI hI2 HG hC hp hbo hl hrc hql hq8 h8q h64 HS
      go_wp2_with fail
      refine HL.out.mono ?_
      rintro e w2 ⟨rfl, h1, h2, h3⟩
      obtain ⟨A2, c2, HG2, _, _⟩ := id h1
      have m3 := cellS132_3 HG2
      have m4 := cellS132_4 HG2
      have m5 := cellS132_5 HG2
      have m6 := cellS132_6 HG2
      have z3 := blk_frozen HG2 3
      have z4 := blk_frozen HG2 4
      have z5 := blk_frozen HG2 5
      have H1 := Aside0.mk h1
      have H2 := Aside0.mk h2
      have H3 := Aside0.mk h3
      clear h1 h2 h3 HG2 HL
      have hlz := lz_not (bt1 l) (8 * q) 64 (Nat.le_refl _)
      have hWl := top_lt (bt1 l) (8 * q) 64 (Nat.le_refl _)
      have hhi := hi_le (fun t => !bt1 l t) (8 * q) 64
      have hsh : ∀ z, z ≤ 64 → shl64 (top (bt1 l) (8 * q) 64) z = top (bt1 l) (8 * q) (64 - z) := fun z hz => shl_top _ _ _ _ (Nat.le_refl _) hz
      have QF := Aside0.mk (fun W' h => cfz_is g (not64 (top (bt1 l) (8 * q) 64)) (not64_lt _) W' h)
      have QX := Aside0.mk (xor_not (top (bt1 l) (8 * q) 64) hWl)
      obtain ⟨c1, hc1⟩ : ∃ c1, c1 = hi (fun t => !bt1 l t) (8 * q) 64 := ⟨_, rfl⟩
      rw [← hc1] at hlz hhi
      obtain ⟨z, hz⟩ : ∃ z, z = 64 - c1 := ⟨_, rfl⟩
      rw [hlz, ← hz] at QF
      have hzl2 : (z : Int) ≤ 64 := by omega
      have hsz := hsh z (by omega)
      rw [show 64 - z = c1 by omega] at hsz
      have QC := Aside0.mk (fun W' h => cb_is g (top (bt1 l) (8 * q) 64) z hzl2 W' h)
      rw [hsz] at QC
      have Qz := Aside0.mk (show z + c1 = 64 from by omega)
      have Qc1 := Aside0.mk hc1
      generalize top (bt1 l) (8 * q) 64 = W at *
      obtain ⟨V, hV⟩ : ∃ V, V = top (bt1 l) (8 * q) c1 := ⟨_, rfl⟩
      rw [← hV] at QC
      have QV := Aside0.mk hV
      by_cases h0 : c1 = 0
      · have hz64 : z = 64 := by omega
        rw [hz64] at QF
        have Q0 := Aside0.mk h0
        clear hlz hWl hhi hsh hsz hc1 hV h0 hz hz64 QC hzl2
        go_wp2_with (go_at_call 118; rw [QX.out]; refine (QF.out _ (by simp [go_sem, m6])).mono ?_; rintro e w' ⟨rfl, rfl⟩)
        go_roundg k1
        case measure => omega
        case rel =>
          refine ⟨r2, n1 + 64, by rw [show ((n1 + 64 : Nat) : Int) = (n1 : Int) + 64 by omega], ⟨by have := HA.out.1; omega, by have := HA.out.2.1; omega, ?_⟩, ⟨?_⟩, ⟨?_⟩, ⟨?_⟩⟩
          · have h := Qhi.out
            rw [← Q8.out, ← Qc1.out, Q0.out, if_neg (by omega)] at h
            exact h.symm.trans HA.out.2.2
          · refine ⟨⟨(q : Int), (W : Int), ?_, fun h => absurd h (Nat.lt_irrefl _), fun _ => ⟨q, rfl, Q8.out, by have := Qr.out.2; omega⟩⟩, Qbo.out, Qll.out, by omega, by have := Qr.out.1; omega⟩
            exact (H1.out.set_4 _).set_3 _
          · exact (H2.out.setCell hg _).setCell hg _
          · exact kb_trans HK.out (kb_g (kb_g H3.out))
      · have hzl : (z : Int) < 64 := by omega
        have Q0 := Aside0.mk (show 0 < c1 by omega)
        clear hlz hWl hhi hsh h0 hc1 hz hsz hV
        go_wp2_with (first | (go_at_call 118; rw [QX.out]; refine (QF.out _ (by simp [go_sem, m6])).mono ?_; rintro e w' ⟨rfl, rfl⟩) | (go_at_call 119; refine (QC.out _ (by simp [go_sem, m6])).mono ?_; rintro e w' ⟨rfl, rfl⟩))
        go_ret
        have hR2 : r2 + c1 = hi (fun t => !bt1 l t) f (r + c) := by
          have h := Qhi.out
          rw [← Q8.out, ← Qc1.out, if_pos Q0.out] at h
          exact h.symm.trans HA.out.2.2
        refine ⟨congrArg (fun x => Ending.returned (Value.int .i64 x)) (show (n1 : Int) + (z : Int) = _ by rw [← hR2]; have := HA.out.2.1; have := Qz.out; omega), r2, c1, ⟨⟨⟨(q : Int), (V : Int), ?_, fun _ => by rw [← Q8.out, ← QV.out], fun _ => ⟨q, rfl, Q8.out, by have := Qr.out.2; omega⟩⟩, Qbo.out, Qll.out, by have := Qz.out; omega, by have := Qr.out.1; have := Qz.out; omega⟩, ?_, ?_⟩, hR2⟩
        · rw [show ((r2 + c1 : Nat) : Int) = (r2 : Int) + 64 - (z : Int) by have := Qz.out; omega, show (c1 : Int) = 64 - (z : Int) by have := Qz.out; omega]
          exact (((H1.out.set_4 _).set_3 _).set_4 _).set_5 _
        · exact (((H2.out.setCell hg _).setCell hg _).setCell hg _).setCell hg _
        · exact kb_trans HK.out (kb_g (kb_g (kb_g (kb_g H3.out))))
    · have k3 : wr.cell? ⟨g, 3, none⟩ = some (.int .i64 (r1 : Int)) := cellS132_3 HG
      have hge : decide ((64 : Int) ≤ (r1 : Int)) = false := decide_eq_false (by omega)
      by_cases hr0 : r1 = 0
      · subst hr0
        have HS' := HS
        clear hI HG hC hp hbo hl hrc h64 HS
        go_wp2
        go_ret
        exact ⟨congrArg (fun x => Ending.returned (Value.int .i64 x)) (show (n1 : Int) = _ by rw [← HA.out.2.2]; have := HA.out.2.1; simp only [hi]; omega), 0, 0, ⟨HS'.out, HB.out, HK.out⟩, by rw [← HA.out.2.2]; rfl⟩
      · obtain ⟨q0, hq, hq8, hql⟩ := hp (by omega)
        obtain ⟨nbs, hnb⟩ : ∃ nbs, nbs = (r1 + 7) / 8 := ⟨_, rfl⟩
        obtain ⟨q, rfl⟩ : ∃ q, q0 = q + nbs := ⟨q0 - nbs, by omega⟩
        subst hq
        have hI2 : IsS132 w0 wr g l ((q : Int) + nbs) L (r1 : Int) Wg 0 true FB := by
          have h := hI
          rw [show ((q + nbs : Nat) : Int) = (q : Int) + nbs by omega, show ((r1 + 0 : Nat) : Int) = (r1 : Int) by omega] at h
          exact h
        have HL := lp_is g l _ _ _ _ _ q nbs 0 r1 w0 wr hI2 HB.out hbo hql hl (by omega) (by omega) (by omega) hnb.symm (by omega)
        rw [show 8 * q + (8 * nbs - 0 - r1) = f by omega] at HL
        have HL := Aside0.mk HL
        have Qbo := Aside0.mk hbo
        have Qll := Aside0.mk hl
        have Qr := Aside0.mk (show 0 < r1 ∧ r1 < 64 from ⟨by omega, by omega⟩)
        have hgt : decide ((0 : Int) < (r1 : Int)) = true := decide_eq_true (by omega)
        have hgt2 : decide (0 < r1) = true := decide_eq_true (by omega)
        have hgt3 : 0 < r1 := by omega
        have hlz := lz_not (bt1 l) f r1 (by omega)
        have hWl := top_lt (bt1 l) f r1 (by omega)
        have hhi := hi_le (fun t => !bt1 l t) f r1
        obtain ⟨c1, hc1⟩ : ∃ c1, c1 = hi (fun t => !bt1 l t) f r1 := ⟨_, rfl⟩
        rw [← hc1] at hlz hhi
        obtain ⟨z, hz⟩ : ∃ z, z = r1 - c1 := ⟨_, rfl⟩
        have hsh := shl_top (bt1 l) f r1 z (by omega) (by omega)
        rw [show r1 - z = c1 by omega] at hsh
        have hzl : (z : Int) ≤ 64 := by omega
        have hmr : (z : Int) ≤ (r1 : Int) := by omega
        have hrl : (r1 : Int) ≤ 64 := by omega
        have QF := Aside0.mk (fun W' h => cfz_is g (not64 (top (bt1 l) f r1)) (not64_lt _) W' h)
        rw [hlz, ← hz] at QF
        have QX := Aside0.mk (xor_not (top (bt1 l) f r1) hWl)
        have QC := Aside0.mk (fun W' h => cb_is g (top (bt1 l) f r1) z hzl W' h)
        obtain ⟨V, hV⟩ : ∃ V, V = top (bt1 l) f c1 := ⟨_, rfl⟩
        rw [hsh, ← hV] at QC
        have QV := Aside0.mk hV
        have Qc := Aside0.mk (show c1 = hi (fun t => !bt1 l t) f r1 ∧ z + c1 = r1 from ⟨hc1, by omega⟩)
        generalize top (bt1 l) f r1 = W at *
        have hl0 : 0 ≤ (r1 : Int) := by omega
        clear hlz hWl hhi hsh hc1 hz hV hI hI2 HG hC hp hbo hl hrc hql hq8 hnb h64 HS hr0
        go_wp2_with fail
        refine HL.out.mono ?_
        rintro e w2 ⟨rfl, h1, h2, h3⟩
        obtain ⟨A2, c2, HG2, _, _⟩ := id h1
        have m3 := cellS132_3 HG2
        have m4 := cellS132_4 HG2
        have m5 := cellS132_5 HG2
        have m6 := cellS132_6 HG2
        have z3 := blk_frozen HG2 3
        have z4 := blk_frozen HG2 4
        have z5 := blk_frozen HG2 5
        have H1 := Aside0.mk h1
        have H2 := Aside0.mk h2
        have H3 := Aside0.mk h3
        clear h1 h2 h3 HG2 HL
        go_wp2_with (first | (go_at_call 118; rw [QX.out]; refine (QF.out _ (by simp [go_sem, m6])).mono ?_; rintro e w' ⟨rfl, rfl⟩) | (go_at_call 119; refine (QC.out _ (by simp [go_sem, m6])).mono ?_; rintro e w' ⟨rfl, rfl⟩))
        go_ret
        have hR2 : c1 = hi (fun t => !bt1 l t) f (r + c) := by rw [Qc.out.1]; exact HA.out.2.2
        refine ⟨congrArg (fun x => Ending.returned (Value.int .i64 x)) (show (n1 : Int) + (z : Int) = _ by rw [← hR2]; have := HA.out.2.1; have := Qc.out.2; omega), 0, c1, ⟨⟨⟨(q : Int), (V : Int), ?_, fun _ => by rw [Nat.add_zero, ← QV.out], fun h => absurd h (Nat.lt_irrefl _)⟩, Qbo.out, Qll.out, by have := Qc.out.2; have := Qr.out.2; omega, by have := Qc.out.2; have := Qr.out.2; omega⟩, ?_, ?_⟩, by rw [Nat.zero_add]; exact hR2⟩
        · rw [show ((0 + c1 : Nat) : Int) = (r1 : Int) - (z : Int) by have := Qc.out.2; omega, show (c1 : Int) = (r1 : Int) - (z : Int) by have := Qc.out.2; omega]
          exact ((((H1.out.set_4 _).set_5 _).set_4 _).set_5 _).set_3 _
        · exact ((((H2.out.setCell hg _).setCell hg _).setCell hg _).setCell hg _).setCell hg _
        · exact kb_trans HK.out (kb_g (kb_g (kb_g (kb_g (kb_g H3.out)))))
set_option maxHeartbeats 8000000 in
set_option maxRecDepth 100000 in
theorem cno_64 (g : Nat) (l : List Int) (f L r c : Nat) (w0 w : World) (hS : RS w0 w g l f L r c) (hc0 : 0 < c) (hB : Below w0.heap.size w0 w) (hh : hi (fun t => !bt1 l t) (f + r) c = 0) (hc : c = 64) :
    Calls Tryd.prog 117 #[.pointer (some ⟨g, 0, none⟩)] w fun e w' => e = .returned (.int .i64 ((r + c - hi (fun t => !bt1 l t) f (r + c) : Nat) : Int)) ∧ Ones w0 w g l f L r c w' := by
  obtain ⟨⟨p, W0, hI, hW, hp⟩, hbo, hl, hc64, hrc⟩ := hS
  obtain rfl := hW hc0
  obtain ⟨A0, c0, HG, hg, hC⟩ := id hI
  have m3 := cellS132_3 HG
  have m4 := cellS132_4 HG
  have m5 := cellS132_5 HG
  have m6 := cellS132_6 HG
  have z3 := blk_frozen HG 3
  have z4 := blk_frozen HG 4
  have z5 := blk_frozen HG 5
  rw [show ((r + c : Nat) : Int) = (r : Int) + c by omega] at m3
  have hlz := lz_not (bt1 l) (f + r) c hc64
  have hWl := top_lt (bt1 l) (f + r) c hc64
  have hhi := hi_le (fun t => !bt1 l t) (f + r) c
  have hadd := hi_add (fun t => !bt1 l t) f r c
  obtain ⟨c2, hc2⟩ : ∃ c2, c2 = hi (fun t => !bt1 l t) (f + r) c := ⟨_, rfl⟩
  rw [← hc2] at hlz hhi hadd
  obtain ⟨z, hz⟩ : ∃ z, z = c - c2 := ⟨_, rfl⟩
  have hsh := shl_top (bt1 l) (f + r) c z hc64 (by omega)
  rw [show c - z = c2 by omega] at hsh
  have hzl : (z : Int) ≤ 64 := by omega
  have hcl : (c : Int) ≤ 64 := by omega
  have hzc : (z : Int) ≤ (c : Int) := by omega
  have hrl : (r : Int) ≤ 1000000 := by omega
  have hr0 : (0 : Int) ≤ (r : Int) := by omega
  have hN0 : c2 ≠ 0 ∨ c < 64 → not64 (top (bt1 l) (f + r) c) ≠ 0 := by
    intro h e
    rw [e] at hlz
    have h64 : QE.lz 0 = 64 := rfl
    omega
  have QF := Aside0.mk (fun W' h => cfz_is g (not64 (top (bt1 l) (f + r) c)) (not64_lt _) W' h)
  rw [hlz, ← hz] at QF
  have QX := Aside0.mk (xor_not (top (bt1 l) (f + r) c) hWl)
  have QC := Aside0.mk (fun W' h => cb_is g (top (bt1 l) (f + r) c) z hzl W' h)
  obtain ⟨V, hV⟩ : ∃ V, V = top (bt1 l) (f + r) c2 := ⟨_, rfl⟩
  rw [hsh, ← hV] at QC
  have QV := Aside0.mk hV
  have Qbo := Aside0.mk hbo
  have Qll := Aside0.mk hl
  have Qrc := Aside0.mk hrc
  have Qp := Aside0.mk hp
  have H1 := Aside0.mk (show IsS132 w0 w g l p L ((r : Int) + c) ((top (bt1 l) (f + r) c : Nat) : Int) c true FB from by rw [show (r : Int) + c = ((r + c : Nat) : Int) by omega]; exact hI)
  have H2 := Aside0.mk hB
  have H3 := Aside0.mk (show KeepBut w w g none from ⟨Nat.le_refl _, fun _ _ _ _ => rfl⟩)
  rw [← hc2] at hh
  rw [hh, if_neg (by omega)] at hadd
  have QHI := Aside0.mk hadd.symm
  have hNW : not64 (top (bt1 l) (f + r) c) = 0 := by
    have h : QE.lz (not64 (top (bt1 l) (f + r) c)) = 64 := by rw [hlz]; omega
    by_cases h0 : not64 (top (bt1 l) (f + r) c) = 0
    · exact h0
    · unfold QE.lz QE.len at h
      rw [if_neg h0] at h
      omega
  rw [hNW] at QX
  have Qcc := Aside0.mk hc
  generalize top (bt1 l) (f + r) c = W at *
  clear hlz hWl hhi hadd hc2 hz hsh hN0 hV hI HG hC hp hbo hl hrc hB hc64 hzl hzc hNW hh hc QF QC QV
  have hif : (if IntKind.u64.signed = true then (-1 : Int) else IntKind.u64.max) = IntKind.u64.max := by decide
  have hb1 : (Go.bits .xor .u64 IntKind.u64.max (W : Int) == 0) = true := by rw [QX.out]; rfl
  have hb2 : (Go.bits .xor .u64 IntKind.u64.max (W : Int) != 0) = false := by rw [QX.out]; rfl
  go_enter Tryd.func117, Tryd.ntmps117
  go_wp2_with fail
  clear hb1 hb2 m3 m4 m5 m6 z3 z4 z5 QX
  go_loopg [3] (r / 64) (fun kq v3 w' => ∃ (r1 n1 : Nat), v3 = .int .i64 (n1 : Int) ∧ Aside0 (r1 / 64 = kq ∧ r1 + n1 = r + c ∧ hi (fun t => !bt1 l t) f r1 = hi (fun t => !bt1 l t) f (r + c)) ∧ Aside0 (RS w0 w' g l f L r1 0) ∧ Aside0 (Below w0.heap.size w0 w') ∧ Aside0 (KeepBut w w' g none))
  case atStart => exact ⟨r, c, (by rw [Qcc.out]; rfl), ⟨rfl, rfl, QHI.out⟩, ⟨⟨p, _, (by rw [show ((r + 0 : Nat) : Int) = (r : Int) + c - 64 by have := Qcc.out; omega]; exact (H1.out.set_3 _).set_5 _), fun h => absurd h (Nat.lt_irrefl _), Qp.out⟩, Qbo.out, Qll.out, by omega, by have := Qrc.out; omega⟩, ⟨(H2.out.setCell hg _).setCell hg _⟩, ⟨kb_g (kb_g H3.out)⟩⟩
  case round =>
    obtain ⟨r1, n1, rfl, HA, HS, HB, HK⟩ := hrel
    clear H1 H2 H3
    obtain ⟨⟨p, Wg, hI, _, hp⟩, hbo, hl, _, hrc⟩ := HS.out
    obtain ⟨A0, c0, HG, hg, hC⟩ := id hI
    have hb1 : (r1 : Int) ≤ 1000000 := by omega
    have hn1 : (n1 : Int) ≤ 1000000 := by have := HA.out.2.1; have := Qrc.out; omega
    have hn0 : (0 : Int) ≤ (n1 : Int) := by omega
    by_cases h64 : 64 ≤ r1
    · obtain ⟨q0, hq, hq8, hql⟩ := hp (by omega)
      obtain ⟨q, rfl⟩ : ∃ q, q0 = q + 8 := ⟨q0 - 8, by omega⟩
      subst hq
      obtain ⟨r2, rfl⟩ : ∃ r2, r1 = r2 + 64 := ⟨r1 - 64, by omega⟩
      obtain ⟨k1, rfl⟩ : ∃ k1, gk = k1 + 1 := ⟨gk - 1, by have := HA.out.1; omega⟩
      have hI2 : IsS132 w0 wr g l ((q : Int) + 8) L ((r2 : Int) + 64) Wg 0 true FB := by
        have h := hI
        rw [show ((q + 8 : Nat) : Int) = (q : Int) + 8 by omega, show ((r2 + 64 + 0 : Nat) : Int) = (r2 : Int) + 64 by omega] at h
        exact h
      have k3 : wr.cell? ⟨g, 3, none⟩ = some (.int .i64 ((r2 : Int) + 64)) := by
        obtain ⟨A1, c1, HG1, _⟩ := id hI2
        exact cellS132_3 HG1
      have hge : decide ((64 : Int) ≤ (r2 : Int) + 64) = true := decide_eq_true (by omega)
      have HL := Aside0.mk (lf_is g l _ _ _ _ _ q w0 wr hI2 HB.out hbo (by omega) hl)
      have h8q : 8 * q = f + r2 := by omega
      have Q8 := Aside0.mk h8q
      have Qhi := Aside0.mk (hi_add (fun t => !bt1 l t) f r2 64)
      have Qr := Aside0.mk (show r2 + 64 ≤ 1000000 ∧ q + 8 ≤ l.length from ⟨by omega, hql⟩)
      have Qbo := Aside0.mk hbo
      have Qll := Aside0.mk hl
      have hr2 : (r2 : Int) ≤ 1000000 := by omega
      clear hI hI2 HG hC hp hbo hl hrc hql hq8 h8q h64 HS
      go_wp2_with fail
      refine HL.out.mono ?_
      rintro e w2 ⟨rfl, h1, h2, h3⟩
      obtain ⟨A2, c2, HG2, _, _⟩ := id h1
      have m3 := cellS132_3 HG2
      have m4 := cellS132_4 HG2
      have m5 := cellS132_5 HG2
      have m6 := cellS132_6 HG2
      have z3 := blk_frozen HG2 3
      have z4 := blk_frozen HG2 4
      have z5 := blk_frozen HG2 5
      have H1 := Aside0.mk h1
      have H2 := Aside0.mk h2
      have H3 := Aside0.mk h3
      clear h1 h2 h3 HG2 HL
      have hlz := lz_not (bt1 l) (8 * q) 64 (Nat.le_refl _)
      have hWl := top_lt (bt1 l) (8 * q) 64 (Nat.le_refl _)
      have hhi := hi_le (fun t => !bt1 l t) (8 * q) 64
      have hsh : ∀ z, z ≤ 64 → shl64 (top (bt1 l) (8 * q) 64) z = top (bt1 l) (8 * q) (64 - z) := fun z hz => shl_top _ _ _ _ (Nat.le_refl _) hz
      have QF := Aside0.mk (fun W' h => cfz_is g (not64 (top (bt1 l) (8 * q) 64)) (not64_lt _) W' h)
      have QX := Aside0.mk (xor_not (top (bt1 l) (8 * q) 64) hWl)
      obtain ⟨c1, hc1⟩ : ∃ c1, c1 = hi (fun t => !bt1 l t) (8 * q) 64 := ⟨_, rfl⟩
      rw [← hc1] at hlz hhi
      obtain ⟨z, hz⟩ : ∃ z, z = 64 - c1 := ⟨_, rfl⟩
      rw [hlz, ← hz] at QF
      have hzl2 : (z : Int) ≤ 64 := by omega
      have hsz := hsh z (by omega)
      rw [show 64 - z = c1 by omega] at hsz
      have QC := Aside0.mk (fun W' h => cb_is g (top (bt1 l) (8 * q) 64) z hzl2 W' h)
      rw [hsz] at QC
      have Qz := Aside0.mk (show z + c1 = 64 from by omega)
      have Qc1 := Aside0.mk hc1
      generalize top (bt1 l) (8 * q) 64 = W at *
      obtain ⟨V, hV⟩ : ∃ V, V = top (bt1 l) (8 * q) c1 := ⟨_, rfl⟩
      rw [← hV] at QC
      have QV := Aside0.mk hV
      by_cases h0 : c1 = 0
      · have hz64 : z = 64 := by omega
        rw [hz64] at QF
        have Q0 := Aside0.mk h0
        clear hlz hWl hhi hsh hsz hc1 hV h0 hz hz64 QC hzl2
        go_wp2_with (go_at_call 118; rw [QX.out]; refine (QF.out _ (by simp [go_sem, m6])).mono ?_; rintro e w' ⟨rfl, rfl⟩)
        go_roundg k1
        case measure => omega
        case rel =>
          refine ⟨r2, n1 + 64, by rw [show ((n1 + 64 : Nat) : Int) = (n1 : Int) + 64 by omega], ⟨by have := HA.out.1; omega, by have := HA.out.2.1; omega, ?_⟩, ⟨?_⟩, ⟨?_⟩, ⟨?_⟩⟩
          · have h := Qhi.out
            rw [← Q8.out, ← Qc1.out, Q0.out, if_neg (by omega)] at h
            exact h.symm.trans HA.out.2.2
          · refine ⟨⟨(q : Int), (W : Int), ?_, fun h => absurd h (Nat.lt_irrefl _), fun _ => ⟨q, rfl, Q8.out, by have := Qr.out.2; omega⟩⟩, Qbo.out, Qll.out, by omega, by have := Qr.out.1; omega⟩
            exact (H1.out.set_4 _).set_3 _
          · exact (H2.out.setCell hg _).setCell hg _
          · exact kb_trans HK.out (kb_g (kb_g H3.out))
      · have hzl : (z : Int) < 64 := by omega
        have Q0 := Aside0.mk (show 0 < c1 by omega)
        clear hlz hWl hhi hsh h0 hc1 hz hsz hV
        go_wp2_with (first | (go_at_call 118; rw [QX.out]; refine (QF.out _ (by simp [go_sem, m6])).mono ?_; rintro e w' ⟨rfl, rfl⟩) | (go_at_call 119; refine (QC.out _ (by simp [go_sem, m6])).mono ?_; rintro e w' ⟨rfl, rfl⟩))
        go_ret
        have hR2 : r2 + c1 = hi (fun t => !bt1 l t) f (r + c) := by
          have h := Qhi.out
          rw [← Q8.out, ← Qc1.out, if_pos Q0.out] at h
          exact h.symm.trans HA.out.2.2
        refine ⟨congrArg (fun x => Ending.returned (Value.int .i64 x)) (show (n1 : Int) + (z : Int) = _ by rw [← hR2]; have := HA.out.2.1; have := Qz.out; omega), r2, c1, ⟨⟨⟨(q : Int), (V : Int), ?_, fun _ => by rw [← Q8.out, ← QV.out], fun _ => ⟨q, rfl, Q8.out, by have := Qr.out.2; omega⟩⟩, Qbo.out, Qll.out, by have := Qz.out; omega, by have := Qr.out.1; have := Qz.out; omega⟩, ?_, ?_⟩, hR2⟩
        · rw [show ((r2 + c1 : Nat) : Int) = (r2 : Int) + 64 - (z : Int) by have := Qz.out; omega, show (c1 : Int) = 64 - (z : Int) by have := Qz.out; omega]
          exact (((H1.out.set_4 _).set_3 _).set_4 _).set_5 _
        · exact (((H2.out.setCell hg _).setCell hg _).setCell hg _).setCell hg _
        · exact kb_trans HK.out (kb_g (kb_g (kb_g (kb_g H3.out))))
    · have k3 : wr.cell? ⟨g, 3, none⟩ = some (.int .i64 (r1 : Int)) := cellS132_3 HG
      have hge : decide ((64 : Int) ≤ (r1 : Int)) = false := decide_eq_false (by omega)
      by_cases hr0 : r1 = 0
      · subst hr0
        have HS' := HS
        clear hI HG hC hp hbo hl hrc h64 HS
        go_wp2
        go_ret
        exact ⟨congrArg (fun x => Ending.returned (Value.int .i64 x)) (show (n1 : Int) = _ by rw [← HA.out.2.2]; have := HA.out.2.1; simp only [hi]; omega), 0, 0, ⟨HS'.out, HB.out, HK.out⟩, by rw [← HA.out.2.2]; rfl⟩
      · obtain ⟨q0, hq, hq8, hql⟩ := hp (by omega)
        obtain ⟨nbs, hnb⟩ : ∃ nbs, nbs = (r1 + 7) / 8 := ⟨_, rfl⟩
        obtain ⟨q, rfl⟩ : ∃ q, q0 = q + nbs := ⟨q0 - nbs, by omega⟩
        subst hq
        have hI2 : IsS132 w0 wr g l ((q : Int) + nbs) L (r1 : Int) Wg 0 true FB := by
          have h := hI
          rw [show ((q + nbs : Nat) : Int) = (q : Int) + nbs by omega, show ((r1 + 0 : Nat) : Int) = (r1 : Int) by omega] at h
          exact h
        have HL := lp_is g l _ _ _ _ _ q nbs 0 r1 w0 wr hI2 HB.out hbo hql hl (by omega) (by omega) (by omega) hnb.symm (by omega)
        rw [show 8 * q + (8 * nbs - 0 - r1) = f by omega] at HL
        have HL := Aside0.mk HL
        have Qbo := Aside0.mk hbo
        have Qll := Aside0.mk hl
        have Qr := Aside0.mk (show 0 < r1 ∧ r1 < 64 from ⟨by omega, by omega⟩)
        have hgt : decide ((0 : Int) < (r1 : Int)) = true := decide_eq_true (by omega)
        have hgt2 : decide (0 < r1) = true := decide_eq_true (by omega)
        have hgt3 : 0 < r1 := by omega
        have hlz := lz_not (bt1 l) f r1 (by omega)
        have hWl := top_lt (bt1 l) f r1 (by omega)
        have hhi := hi_le (fun t => !bt1 l t) f r1
        obtain ⟨c1, hc1⟩ : ∃ c1, c1 = hi (fun t => !bt1 l t) f r1 := ⟨_, rfl⟩
        rw [← hc1] at hlz hhi
        obtain ⟨z, hz⟩ : ∃ z, z = r1 - c1 := ⟨_, rfl⟩
        have hsh := shl_top (bt1 l) f r1 z (by omega) (by omega)
        rw [show r1 - z = c1 by omega] at hsh
        have hzl : (z : Int) ≤ 64 := by omega
        have hmr : (z : Int) ≤ (r1 : Int) := by omega
        have hrl : (r1 : Int) ≤ 64 := by omega
        have QF := Aside0.mk (fun W' h => cfz_is g (not64 (top (bt1 l) f r1)) (not64_lt _) W' h)
        rw [hlz, ← hz] at QF
        have QX := Aside0.mk (xor_not (top (bt1 l) f r1) hWl)
        have QC := Aside0.mk (fun W' h => cb_is g (top (bt1 l) f r1) z hzl W' h)
        obtain ⟨V, hV⟩ : ∃ V, V = top (bt1 l) f c1 := ⟨_, rfl⟩
        rw [hsh, ← hV] at QC
        have QV := Aside0.mk hV
        have Qc := Aside0.mk (show c1 = hi (fun t => !bt1 l t) f r1 ∧ z + c1 = r1 from ⟨hc1, by omega⟩)
        generalize top (bt1 l) f r1 = W at *
        have hl0 : 0 ≤ (r1 : Int) := by omega
        clear hlz hWl hhi hsh hc1 hz hV hI hI2 HG hC hp hbo hl hrc hql hq8 hnb h64 HS hr0
        go_wp2_with fail
        refine HL.out.mono ?_
        rintro e w2 ⟨rfl, h1, h2, h3⟩
        obtain ⟨A2, c2, HG2, _, _⟩ := id h1
        have m3 := cellS132_3 HG2
        have m4 := cellS132_4 HG2
        have m5 := cellS132_5 HG2
        have m6 := cellS132_6 HG2
        have z3 := blk_frozen HG2 3
        have z4 := blk_frozen HG2 4
        have z5 := blk_frozen HG2 5
        have H1 := Aside0.mk h1
        have H2 := Aside0.mk h2
        have H3 := Aside0.mk h3
        clear h1 h2 h3 HG2 HL
        go_wp2_with (first | (go_at_call 118; rw [QX.out]; refine (QF.out _ (by simp [go_sem, m6])).mono ?_; rintro e w' ⟨rfl, rfl⟩) | (go_at_call 119; refine (QC.out _ (by simp [go_sem, m6])).mono ?_; rintro e w' ⟨rfl, rfl⟩))
        go_ret
        have hR2 : c1 = hi (fun t => !bt1 l t) f (r + c) := by rw [Qc.out.1]; exact HA.out.2.2
        refine ⟨congrArg (fun x => Ending.returned (Value.int .i64 x)) (show (n1 : Int) + (z : Int) = _ by rw [← hR2]; have := HA.out.2.1; have := Qc.out.2; omega), 0, c1, ⟨⟨⟨(q : Int), (V : Int), ?_, fun _ => by rw [Nat.add_zero, ← QV.out], fun h => absurd h (Nat.lt_irrefl _)⟩, Qbo.out, Qll.out, by have := Qc.out.2; have := Qr.out.2; omega, by have := Qc.out.2; have := Qr.out.2; omega⟩, ?_, ?_⟩, by rw [Nat.zero_add]; exact hR2⟩
        · rw [show ((0 + c1 : Nat) : Int) = (r1 : Int) - (z : Int) by have := Qc.out.2; omega, show (c1 : Int) = (r1 : Int) - (z : Int) by have := Qc.out.2; omega]
          exact ((((H1.out.set_4 _).set_5 _).set_4 _).set_5 _).set_3 _
        · exact ((((H2.out.setCell hg _).setCell hg _).setCell hg _).setCell hg _).setCell hg _
        · exact kb_trans HK.out (kb_g (kb_g (kb_g (kb_g (kb_g H3.out)))))
theorem cno_is (g : Nat) (l : List Int) (f L r c : Nat) (w0 w : World) (hS : RS w0 w g l f L r c) (hc0 : 0 < c) (hB : Below w0.heap.size w0 w) :
    Calls Tryd.prog 117 #[.pointer (some ⟨g, 0, none⟩)] w fun e w' => e = .returned (.int .i64 ((r + c - hi (fun t => !bt1 l t) f (r + c) : Nat) : Int)) ∧ Ones w0 w g l f L r c w' := by
  by_cases hh : 0 < hi (fun t => !bt1 l t) (f + r) c
  · exact cno_some g l f L r c w0 w hS hc0 hB hh
  · have h64 := hS.c64
    by_cases hc : c < 64
    · exact cno_low g l f L r c w0 w hS hc0 hB (by omega) hc
    · exact cno_64 g l f L r c w0 w hS hc0 hB (by omega) (by omega)
end Go.Proofs.YtpjaaonpbohkdaaDoor.QR
/- (*baseSetBitRunReader).NextRun, backwards: the next run of set bits from the end on. -/
namespace Go.Proofs.YtpjaaonpbohkdaaDoor.QR
open Go.RowKit Go.Proofs.YtpjaaonpbohkdaaDoorW.PrintWords Go.Proofs.YtpjaaonpbohkdaaDoorW.PrintLast Go.Proofs.YtpjaaonpbohkdaaDoorW.PrintMore
set_option linter.unusedVariables false
set_option linter.unusedSimpArgs false
theorem kb_cell {w w1 : World} {g b k : Nat} (h : KeepBut w w1 g none) (hb : b ≠ g) (hlt : b < w.heap.size) : w1.cell? ⟨b, k, none⟩ = w.cell? ⟨b, k, none⟩ := by
  simp only [World.cell?, h.2 b hlt hb (by simp)]
theorem kb_froz {w w1 : World} {g b k : Nat} (h : KeepBut w w1 g none) (hb : b ≠ g) (hlt : b < w.heap.size) : w1.frozen? ⟨b, k, none⟩ = w.frozen? ⟨b, k, none⟩ := by
  simp only [World.frozen?, h.2 b hlt hb (by simp)]
set_option maxRecDepth 100000 in
theorem adj_is (g P N : Nat) (hN : (N : Int) ≤ (P : Int)) (hP : (P : Int) ≤ 1000000) (w : World) (hlt : g < w.heap.size) (k6 : w.cell? ⟨g, 6, none⟩ = some (.bool true)) :
    Calls Tryd.prog 114 #[.pointer (some ⟨g, 0, none⟩), .agg #[.int .i64 (P : Int), .int .i64 (N : Int)]] w fun e w' => e = .returned (.agg #[.int .i64 ((P - N : Nat) : Int), .int .i64 (N : Int)]) ∧ Below w.heap.size w w' := by
  have hN0 : (0 : Int) ≤ (N : Int) := by omega
  have hs : IntKind.i64.wrap ((P : Int) - (N : Int)) = (P : Int) - (N : Int) := IntWalk.i64_in _ (by omega)
  have hne : w.heap.size ≠ g := by omega
  have hne2 : ¬ g = w.heap.size := by omega
  have hne3 : ¬ g = w.heap.size + 1 := by omega
  have QE := Aside0.mk (show (P : Int) - (N : Int) = ((P - N : Nat) : Int) by omega)
  go_enter Tryd.func114, Tryd.ntmps114
  go_wp2
  refine bodyPost_ret (v := .agg #[.int .i64 ((P : Int) - (N : Int)), .int .i64 (N : Int)]) (by simp [results, Tryd.results114, go_sem]) rfl ⟨by rw [QE.out], ?_⟩
  exact below_alloc (below_alloc (Below.refl _ _) _) _
def nrS (b : Nat → Bool) (f R : Nat) : Nat := hi (fun t => !b t) f (hi b f R)
def nrN (b : Nat → Bool) (f R : Nat) : Nat := hi b f R - nrS b f R
/-- Behind NextRun: the run's begin is what is left. -/
def Ran (w0 w : World) (g : Nat) (l : List Int) (f L R : Nat) (w' : World) : Prop := ∃ r1 c1, Left w0 w g l f L r1 c1 w' ∧ r1 + c1 = nrS (bt1 l) f R
/-- The reader's cells, as its state tells them. -/
theorem RS.cells {w0 w : World} {g : Nat} {l : List Int} {f L r c : Nat} (h : RS w0 w g l f L r c) : ∃ W : Int, w.cell? ⟨g, 3, none⟩ = some (.int .i64 ((r + c : Nat) : Int)) ∧ w.cell? ⟨g, 4, none⟩ = some (.int .u64 W) ∧ w.cell? ⟨g, 5, none⟩ = some (.int .i32 (c : Int)) ∧ w.cell? ⟨g, 6, none⟩ = some (.bool true) ∧ w.cell? ⟨g, 7, none⟩ = some (.int .u64 FB) ∧ w.frozen? ⟨g, 4, none⟩ = false ∧ w.frozen? ⟨g, 5, none⟩ = false ∧ (0 < c → W = ((top (bt1 l) (f + r) c : Nat) : Int)) := by
  obtain ⟨⟨p, W, hI, hW, _⟩, _⟩ := h
  obtain ⟨A0, c0, HG, _⟩ := hI
  exact ⟨W, cellS132_3 HG, cellS132_4 HG, cellS132_5 HG, cellS132_6 HG, cellS132_7 HG, blk_frozen HG 4, blk_frozen HG 5, hW⟩
theorem RS.lt {w0 w : World} {g : Nat} {l : List Int} {f L r c : Nat} (h : RS w0 w g l f L r c) : g < w.heap.size := by
  obtain ⟨⟨p, W, hI, _⟩, _⟩ := h
  exact hI.lt
theorem RS.far {w0 w : World} {g : Nat} {l : List Int} {f L r c : Nat} (h : RS w0 w g l f L r c) {p : Addr} (hne : g ≠ p.block) (u : Value) : RS w0 (w.setCell p u) g l f L r c := by
  obtain ⟨⟨p1, W, h1, h2⟩, h3, h4, h5, h6⟩ := h
  exact ⟨⟨p1, W, h1.far hne u, h2⟩, h3, h4, h5, h6⟩
set_option maxHeartbeats 8000000 in
set_option maxRecDepth 100000 in
/-- No bits stand in the word. -/
theorem nr_A (g : Nat) (l : List Int) (f L r : Nat) (w0 w : World) (hS : RS w0 w g l f L r 0) (hB : Below w0.heap.size w0 w) :
    Calls Tryd.prog 111 #[.pointer (some ⟨g, 0, none⟩)] w fun e w' => e = .returned (.agg #[.int .i64 (nrS (bt1 l) f r : Nat), .int .i64 (nrN (bt1 l) f r : Nat)]) ∧ Ran w0 w g l f L r w' := by
  have hlt := hS.lt
  have hrc := hS.rc
  obtain ⟨W1, hW1⟩ : ∃ W1, W1 = w.alloc (.cells #[.int .i64 0, .int .i64 0] 100) := ⟨_, rfl⟩
  have B1 : Below w.heap.size w W1 := by rw [hW1]; exact below_alloc (Below.refl _ _) _
  have s1 : W1.heap.size = w.heap.size + 1 := by rw [hW1]; simp
  have S1 := hS.below B1
  obtain ⟨Wa, a3, a4, a5, a6, a7, y4, y5, _⟩ := S1.cells
  have r0 : W1.cell? ⟨w.heap.size, 0, none⟩ = some (.int .i64 0) := by rw [hW1]; simp [go_sem]
  have r1 : W1.cell? ⟨w.heap.size, 1, none⟩ = some (.int .i64 0) := by rw [hW1]; simp [go_sem]
  have f0 : W1.frozen? ⟨w.heap.size, 0, none⟩ = false := by rw [hW1]; simp [go_sem]
  have f1 : W1.frozen? ⟨w.heap.size, 1, none⟩ = false := by rw [hW1]; simp [go_sem]
  have hne : w.heap.size ≠ g := by omega
  have hne2 : g ≠ w.heap.size := by omega
  have QB1 := Aside0.mk (hB.trans (B1.mono hB.size))
  have QK1 := Aside0.mk (show KeepBut w W1 g none from ⟨B1.size, fun i hi _ _ => B1.block i hi⟩)
  have QS := Aside0.mk (snz_is g l f L r w0 W1 S1 QB1.out)
  have Qs := Aside0.mk s1
  have Qrc := Aside0.mk hrc
  have Qlt := Aside0.mk hlt
  have QhB := Aside0.mk hB.size
  clear hS hB B1 S1 s1 hrc hlt a4 a7 y4 y5
  go_enter Tryd.func111, Tryd.ntmps111
  go_upto_region 1 with (fail)
  rw [← hW1]
  clear hW1
  go_wp2_with fail
  refine QS.out.mono ?_
  rintro e w2 ⟨rfl, n1, c1, ⟨S2, B2, K2⟩, hsum, hor⟩
  obtain ⟨Wb, b3, b4, b5, b6, b7, y4, y5, _⟩ := S2.cells
  have e0 := (kb_cell K2 (k := 0) hne (by rw [Qs.out]; omega)).trans r0
  have e1 := (kb_cell K2 (k := 1) hne (by rw [Qs.out]; omega)).trans r1
  have e2 := (kb_froz K2 (k := 0) hne (by rw [Qs.out]; omega)).trans f0
  have e3 := (kb_froz K2 (k := 1) hne (by rw [Qs.out]; omega)).trans f1
  have Q2 := Aside0.mk S2
  have QB2 := Aside0.mk B2
  have QK2 := Aside0.mk K2
  have Qsum := Aside0.mk hsum
  have hR : ((n1 + c1 : Nat) : Int) ≤ 1000000 := by have := S2.rc; omega
  obtain ⟨R1, hR1⟩ : ∃ R1, R1 = n1 + c1 := ⟨_, rfl⟩
  rw [← hR1] at hR b3
  by_cases h0 : R1 = 0
  · have Q0 := Aside0.mk (show n1 + c1 = 0 by omega)
    have b3' : w2.cell? ⟨g, 3, none⟩ = some (.int .i64 0) := by rw [b3, h0]; rfl
    clear b3 hsum hor S2 B2 K2 h0 hR hR1 a3 a5 a6 r0 r1 f0 f1 b4 b5 b6 b7 y4 y5
    go_wp2
    refine bodyPost_ret (v := .agg #[.int .i64 0, .int .i64 0]) (by simp [results, Tryd.results111, go_sem, e0, e1]) rfl ?_
    have hz : hi (bt1 l) f r = 0 := by rw [← Qsum.out, Q0.out]
    refine ⟨by simp [nrS, nrN, hz, hi], n1, c1, ⟨(Q2.out.far hne2 _).far hne2 _, ?_, ?_⟩, by rw [Q0.out]; simp [nrS, hz, hi]⟩
    · exact (QB2.out.setCell QhB.out _).setCell QhB.out _
    · exact kb_new (kb_new (kb_trans QK1.out QK2.out) (Nat.le_refl _)) (Nat.le_refl _)
  · have hc1 : 0 < c1 := by omega
    have hr1b : decide ((R1 : Int) = 0) = false := decide_eq_false (by omega)
    have hr1c : ((R1 : Int) == 0) = false := by simp; omega
    have hr1d : ¬ R1 = 0 := h0
    have QC := Aside0.mk (cno_is g l f L n1 c1 w0 w2 S2 hc1 B2)
    rw [← hR1] at QC
    obtain ⟨R2, hR2⟩ : ∃ R2, R2 = hi (fun t => !bt1 l t) f R1 := ⟨_, rfl⟩
    have hle := hi_le (fun t => !bt1 l t) f R1
    rw [← hR2] at QC hle
    obtain ⟨n, hn⟩ : ∃ n, n = R1 - R2 := ⟨_, rfl⟩
    rw [← hn] at QC
    have hnl : (n : Int) ≤ (R1 : Int) := by omega
    have hn0 : (0 : Int) ≤ (n : Int) := by omega
    have Qn := Aside0.mk (show R1 - n = R2 ∧ n = R1 - R2 from ⟨by omega, hn⟩)
    have QR1 := Aside0.mk (show R1 = hi (bt1 l) f r from by rw [hR1]; exact hsum)
    have QR2 := Aside0.mk hR2
    have QRs := Aside0.mk hR1
    have Qs2 := Aside0.mk (show w.heap.size + 1 ≤ w2.heap.size from by have := K2.1; rw [Qs.out] at this; exact this)
    clear hsum hor S2 B2 K2 h0 hc1 hle hn hR2 hR1 a3 a5 a6 r0 r1 f0 f1 b4 b5 b7 y4 y5
    go_wp2_with (go_at_call 115; refine (pos_is g (R1 : Int) _ b6 b3).mono ?_; rintro e w' ⟨rfl, rfl⟩)
    refine QC.out.mono ?_
    rintro e w3 ⟨rfl, n2, c2, ⟨S3, B3, K3⟩, hsum⟩
    obtain ⟨Wc, d3, d4, d5, d6, d7, y4, y5, _⟩ := S3.cells
    have g0 := (kb_cell K3 (k := 0) hne (by have := Qs2.out; omega)).trans e0
    have g1 := (kb_cell K3 (k := 1) hne (by have := Qs2.out; omega)).trans e1
    have g2 := (kb_froz K3 (k := 0) hne (by have := Qs2.out; omega)).trans e2
    have g3 := (kb_froz K3 (k := 1) hne (by have := Qs2.out; omega)).trans e3
    have Q3 := Aside0.mk S3
    have QB3 := Aside0.mk B3
    have QK3 := Aside0.mk K3
    have Qs3 := Aside0.mk (show w.heap.size < w3.heap.size from by have := K3.1; have := Qs2.out; omega)
    have Qsum3 := Aside0.mk hsum
    have QA := Aside0.mk (adj_is g R1 n hnl hR w3 S3.lt d6)
    rw [Qn.out.1] at QA
    clear S3 B3 K3 hsum d3 d4 d5 d7 y4 y5 b3 b6 e0 e1 e2 e3 hr1b hr1c hr1d
    go_wp2_with fail
    refine QA.out.mono ?_
    rintro e w4 ⟨rfl, B4⟩
    have h0' := (B4.cell (p := ⟨w.heap.size, 0, none⟩) Qs3.out).trans g0
    have h1' := (B4.cell (p := ⟨w.heap.size, 1, none⟩) Qs3.out).trans g1
    have h2' := (B4.frozen (p := ⟨w.heap.size, 0, none⟩) Qs3.out).trans g2
    have h3' := (B4.frozen (p := ⟨w.heap.size, 1, none⟩) Qs3.out).trans g3
    have Q4 := Aside0.mk B4
    clear B4 g0 g1 g2 g3 d6
    go_wp2
    refine bodyPost_ret (v := .agg #[.int .i64 (R2 : Int), .int .i64 (n : Int)]) (by simp [results, Tryd.results111, go_sem, h0', h1']) rfl ?_
    have e1 : R2 = nrS (bt1 l) f r := by unfold nrS; rw [← QR1.out]; exact QR2.out
    refine ⟨by rw [← e1, show nrN (bt1 l) f r = n from by unfold nrN; rw [← e1, ← QR1.out]; exact Qn.out.2.symm], n2, c2, ⟨((Q3.out.below Q4.out).far hne2 _).far hne2 _, ?_, ?_⟩, by rw [Qsum3.out, ← e1, ← QRs.out]; exact QR2.out.symm⟩
    · exact ((QB3.out.trans (Q4.out.mono QB3.out.size)).setCell QhB.out _).setCell QhB.out _
    · exact kb_new (kb_new (kb_trans (kb_trans (kb_trans QK1.out QK2.out) QK3.out) ⟨Q4.out.size, fun i hi _ _ => Q4.out.block i hi⟩) (Nat.le_refl _)) (Nat.le_refl _)
end Go.Proofs.YtpjaaonpbohkdaaDoor.QR
/- (*baseSetBitRunReader).NextRun, backwards, where bits stand in the word. -/
namespace Go.Proofs.YtpjaaonpbohkdaaDoor.QR
open Go.RowKit Go.Proofs.YtpjaaonpbohkdaaDoorW.PrintWords Go.Proofs.YtpjaaonpbohkdaaDoorW.PrintLast Go.Proofs.YtpjaaonpbohkdaaDoorW.PrintMore
set_option linter.unusedVariables false
set_option linter.unusedSimpArgs false
set_option maxHeartbeats 8000000 in
set_option maxRecDepth 100000 in
/-- The run ends in the word. -/
theorem nr_B1 (g : Nat) (l : List Int) (f L r c : Nat) (w0 w : World) (hS : RS w0 w g l f L r c) (hc : 0 < c) (hB : Below w0.heap.size w0 w) (hh : 0 < fcrC (bt1 l) f r c) :
    Calls Tryd.prog 111 #[.pointer (some ⟨g, 0, none⟩)] w fun e w' => e = .returned (.agg #[.int .i64 (nrS (bt1 l) f (r + c) : Nat), .int .i64 (nrN (bt1 l) f (r + c) : Nat)]) ∧ Ran w0 w g l f L (r + c) w' := by
  have hlt := hS.lt
  have hrc := hS.rc
  have hc64 := hS.c64
  obtain ⟨W1, hW1⟩ : ∃ W1, W1 = w.alloc (.cells #[.int .i64 0, .int .i64 0] 100) := ⟨_, rfl⟩
  have B1 : Below w.heap.size w W1 := by rw [hW1]; exact below_alloc (Below.refl _ _) _
  have s1 : W1.heap.size = w.heap.size + 1 := by rw [hW1]; simp
  have S1 := hS.below B1
  obtain ⟨Wa, a3, a4, a5, a6, a7, y4, y5, _⟩ := S1.cells
  have r0 : W1.cell? ⟨w.heap.size, 0, none⟩ = some (.int .i64 0) := by rw [hW1]; simp [go_sem]
  have r1 : W1.cell? ⟨w.heap.size, 1, none⟩ = some (.int .i64 0) := by rw [hW1]; simp [go_sem]
  have f0 : W1.frozen? ⟨w.heap.size, 0, none⟩ = false := by rw [hW1]; simp [go_sem]
  have f1 : W1.frozen? ⟨w.heap.size, 1, none⟩ = false := by rw [hW1]; simp [go_sem]
  have hne : w.heap.size ≠ g := by omega
  have hne2 : g ≠ w.heap.size := by omega
  have hcl : (c : Int) ≤ 64 := by omega
  have hcz : ((c : Int) != 0) = true := by simp; omega
  have hcz2 : ((c : Int) == 0) = false := by simp; omega
  have hcz3 : ¬ c = 0 := by omega
  have QB1 := Aside0.mk (hB.trans (B1.mono hB.size))
  have QK1 := Aside0.mk (show KeepBut w W1 g none from ⟨B1.size, fun i hi _ _ => B1.block i hi⟩)
  have QF := Aside0.mk (fcr_is g l f L r c w0 W1 S1 hc QB1.out)
  have Qs1 := Aside0.mk s1
  have Qrc := Aside0.mk hrc
  have QhB := Aside0.mk hB.size
  have Qc0 := Aside0.mk hc
  have Qc6 := Aside0.mk hc64
  have hhi := hi_le (bt1 l) (f + r) c
  obtain ⟨h, hh1⟩ : ∃ h, h = hi (bt1 l) (f + r) c := ⟨_, rfl⟩
  have hc2 : fcrC (bt1 l) f r c = hi (fun t => !bt1 l t) (f + r) h := by rw [hh1]; rfl
  have hle := hi_le (fun t => !bt1 l t) (f + r) h
  obtain ⟨c2, hc3⟩ : ∃ c2, c2 = fcrC (bt1 l) f r c := ⟨_, rfl⟩
  rw [← hc3] at hh QF hc2
  rw [← hc2] at hle
  rw [← hh1] at hhi
  have hh0 : h ≠ 0 := by omega
  have htop := hi_true (bt1 l) (f + r) c (by omega)
  rw [← hh1] at htop
  have hlt2 : c2 < h := by
    rcases Nat.lt_or_ge c2 h with h4 | h4
    · exact h4
    · exfalso
      have h5 : c2 = h := by omega
      have h6 := hi_true (fun t => !bt1 l t) (f + r) h (by omega)
      rw [← hc2, h5, htop] at h6
      cases h6
  have hP : fcrP (bt1 l) f r c = r + h := by unfold fcrP; rw [← hh1, if_neg hh0]
  have hN : fcrN (bt1 l) f r c = h - c2 := by unfold fcrN; rw [← hh1, ← hc3]
  rw [hP, hN] at QF
  obtain ⟨n, hn⟩ : ∃ n, n = h - c2 := ⟨_, rfl⟩
  obtain ⟨P, hPe⟩ : ∃ P, P = r + h := ⟨_, rfl⟩
  rw [← hn, ← hPe] at QF
  have hn1 : ((n : Int) != 0) = true := by simp; omega
  have hn2 : ((n : Int) == 0) = false := by simp; omega
  have hn3 : ¬ n = 0 := by omega
  have hd1 : ((c2 : Int) != 0) = true := by simp; omega
  have hd2 : ((c2 : Int) == 0) = false := by simp; omega
  have hd3 : ¬ c2 = 0 := by omega
  have hnP : (n : Int) ≤ (P : Int) := by omega
  have hPl : (P : Int) ≤ 1000000 := by omega
  have hc2l : (c2 : Int) ≤ 64 := by omega
  have QA := Aside0.mk (fun w hl k6 => adj_is g P n hnP hPl w hl k6)
  rw [show P - n = r + c2 by omega] at QA
  have hR1 : hi (bt1 l) f (r + c) = r + h := by rw [hi_add, ← hh1, if_pos (by omega)]
  have hR2 : nrS (bt1 l) f (r + c) = r + c2 := by unfold nrS; rw [hR1, hi_add, ← hc2, if_pos (by omega)]
  have QR := Aside0.mk hR2
  have QRn := Aside0.mk (show nrN (bt1 l) f (r + c) = n from by unfold nrN; rw [hR2, hR1]; omega)
  clear hhi hh1 hc2 hle hc3 hh0 htop hlt2 hP hN hn hPe hR1 hR2 hh
  clear hS hB B1 S1 s1 hrc hlt a4 a7 y4 y5 a3 a6 hc hc64
  go_enter Tryd.func111, Tryd.ntmps111
  go_upto_region 1 with (fail)
  rw [← hW1]
  clear hW1
  go_wp2_with fail
  refine QF.out.mono ?_
  rintro e w2 ⟨rfl, S2, B2, K2⟩
  obtain ⟨Wb, b3, b4, b5, b6, b7, y4, y5, _⟩ := S2.cells
  have e0 := (kb_cell K2 (k := 0) hne (by rw [Qs1.out]; omega)).trans r0
  have e1 := (kb_cell K2 (k := 1) hne (by rw [Qs1.out]; omega)).trans r1
  have e2 := (kb_froz K2 (k := 0) hne (by rw [Qs1.out]; omega)).trans f0
  have e3 := (kb_froz K2 (k := 1) hne (by rw [Qs1.out]; omega)).trans f1
  have hsz : w.heap.size < w2.heap.size := by have := K2.1; rw [Qs1.out] at this; exact this
  have hgl : g < w2.heap.size := S2.lt
  have Q2 := Aside0.mk S2
  have QB2 := Aside0.mk B2
  have QK2 := Aside0.mk (kb_trans QK1.out K2)
  clear B2 K2 r0 r1 f0 f1 a5 QF QK1 QB1
  go_wp2_with fail
  clear S2
  have B3 : Below w2.heap.size w2 (w2.alloc (.cells #[.int .i64 (P : Int), .int .i64 (n : Int)] 100)) := below_alloc (Below.refl _ _) _
  have g6 := (B3.cell (p := ⟨g, 6, none⟩) hgl).trans b6
  refine (QA.out _ (Nat.lt_of_lt_of_le hgl B3.size) g6).mono ?_
  rintro e w4 ⟨rfl, B4⟩
  have B34 := B3.trans (B4.mono B3.size)
  have h0' := (B34.cell (p := ⟨w.heap.size, 0, none⟩) hsz).trans e0
  have h1' := (B34.cell (p := ⟨w.heap.size, 1, none⟩) hsz).trans e1
  have h2' := (B34.frozen (p := ⟨w.heap.size, 0, none⟩) hsz).trans e2
  have h3' := (B34.frozen (p := ⟨w.heap.size, 1, none⟩) hsz).trans e3
  have Q4 := Aside0.mk B34
  clear B34 B3 B4 g6 e0 e1 e2 e3 b4 b5 b6 b7 y4 y5 b3
  go_wp2
  refine bodyPost_ret (v := .agg #[.int .i64 ((r + c2 : Nat) : Int), .int .i64 (n : Int)]) (by simp [results, Tryd.results111, go_sem, h0', h1']) rfl ?_
  refine ⟨by rw [QR.out, QRn.out], r, c2, ⟨((Q2.out.below Q4.out).far hne2 _).far hne2 _, ?_, ?_⟩, QR.out.symm⟩
  · exact ((QB2.out.trans (Q4.out.mono QB2.out.size)).setCell QhB.out _).setCell QhB.out _
  · exact kb_new (kb_new (kb_trans QK2.out ⟨Q4.out.size, fun i hi _ _ => Q4.out.block i hi⟩) (Nat.le_refl _)) (Nat.le_refl _)
set_option maxHeartbeats 8000000 in
set_option maxRecDepth 100000 in
/-- No set bit is left in the word. -/
theorem nr_B2 (g : Nat) (l : List Int) (f L r c : Nat) (w0 w : World) (hS : RS w0 w g l f L r c) (hc : 0 < c) (hB : Below w0.heap.size w0 w) (hh : hi (bt1 l) (f + r) c = 0) :
    Calls Tryd.prog 111 #[.pointer (some ⟨g, 0, none⟩)] w fun e w' => e = .returned (.agg #[.int .i64 (nrS (bt1 l) f (r + c) : Nat), .int .i64 (nrN (bt1 l) f (r + c) : Nat)]) ∧ Ran w0 w g l f L (r + c) w' := by
  have hR0 : hi (bt1 l) f (r + c) = hi (bt1 l) f r := by rw [hi_add, hh, if_neg (by omega)]
  have hR1 : nrS (bt1 l) f (r + c) = nrS (bt1 l) f r := by unfold nrS; rw [hR0]
  have hR2 : nrN (bt1 l) f (r + c) = nrN (bt1 l) f r := by unfold nrN; rw [hR1, hR0]
  have hR3 : Ran w0 w g l f L (r + c) = Ran w0 w g l f L r := by unfold Ran; rw [hR1]
  rw [hR1, hR2, hR3]
  clear hR0 hR1 hR2 hR3
  have hlt := hS.lt
  have hrc := hS.rc
  have hc64 := hS.c64
  obtain ⟨V1, hV1⟩ : ∃ V1, V1 = w.alloc (.cells #[.int .i64 0, .int .i64 0] 100) := ⟨_, rfl⟩
  have BV : Below w.heap.size w V1 := by rw [hV1]; exact below_alloc (Below.refl _ _) _
  have sV : V1.heap.size = w.heap.size + 1 := by rw [hV1]; simp
  have SV := hS.below BV
  obtain ⟨Wa, a3, a4, a5, a6, a7, y4, y5, _⟩ := SV.cells
  have v0 : V1.cell? ⟨w.heap.size, 0, none⟩ = some (.int .i64 0) := by rw [hV1]; simp [go_sem]
  have v1 : V1.cell? ⟨w.heap.size, 1, none⟩ = some (.int .i64 0) := by rw [hV1]; simp [go_sem]
  have v2 : V1.frozen? ⟨w.heap.size, 0, none⟩ = false := by rw [hV1]; simp [go_sem]
  have v3 : V1.frozen? ⟨w.heap.size, 1, none⟩ = false := by rw [hV1]; simp [go_sem]
  have hne : w.heap.size ≠ g := by omega
  have hne2 : g ≠ w.heap.size := by omega
  have hcl : (c : Int) ≤ 64 := by omega
  have hcz : ((c : Int) != 0) = true := by simp; omega
  have hcz2 : ((c : Int) == 0) = false := by simp; omega
  have hcz3 : ¬ c = 0 := by omega
  have QBV := Aside0.mk (hB.trans (BV.mono hB.size))
  have QKV := Aside0.mk (show KeepBut w V1 g none from ⟨BV.size, fun i hi _ _ => BV.block i hi⟩)
  have QF := Aside0.mk (fcr_is g l f L r c w0 V1 SV hc QBV.out)
  have QsV := Aside0.mk sV
  have Qrc := Aside0.mk hrc
  have QhB := Aside0.mk hB.size
  have Qc0 := Aside0.mk hc
  have Qc6 := Aside0.mk hc64
  have hC : fcrC (bt1 l) f r c = 0 := by unfold fcrC; rw [hh]; rfl
  have hP : fcrP (bt1 l) f r c = 0 := by unfold fcrP; rw [if_pos hh]
  have hN : fcrN (bt1 l) f r c = 0 := by unfold fcrN; rw [hh, hC]
  rw [hP, hN, hC, show ((0 : Nat) : Int) = 0 from rfl] at QF
  clear hC hP hN hh
  clear hS hB BV SV sV hrc hlt a4 a7 y4 y5 a3 a6 hc hc64
  go_enter Tryd.func111, Tryd.ntmps111
  go_upto_region 1 with (fail)
  rw [← hV1]
  clear hV1
  go_wp2_with fail
  refine QF.out.mono ?_
  rintro e wx ⟨rfl, SX, BX, KX⟩
  obtain ⟨Wx, b3, b4, b5, b6, b7, y4, y5, _⟩ := SX.cells
  have x0 := (kb_cell KX (k := 0) hne (by rw [QsV.out]; omega)).trans v0
  have x1 := (kb_cell KX (k := 1) hne (by rw [QsV.out]; omega)).trans v1
  have x2 := (kb_froz KX (k := 0) hne (by rw [QsV.out]; omega)).trans v2
  have x3 := (kb_froz KX (k := 1) hne (by rw [QsV.out]; omega)).trans v3
  have hsz : w.heap.size < wx.heap.size := by have := KX.1; rw [QsV.out] at this; exact this
  have hgl : g < wx.heap.size := SX.lt
  have QS1 := Aside0.mk SX
  have QBX := Aside0.mk BX
  have QKX := Aside0.mk (kb_trans QKV.out KX)
  clear BX KX v0 v1 v2 v3 a5 QF QKV QBV
  obtain ⟨W1, hW1⟩ : ∃ W1, W1 = wx.alloc (.cells #[.int .i64 0, .int .i64 0] 100) := ⟨_, rfl⟩
  have BB : Below wx.heap.size wx W1 := by rw [hW1]; exact below_alloc (Below.refl _ _) _
  have r0 := (BB.cell (p := ⟨w.heap.size, 0, none⟩) hsz).trans x0
  have r1 := (BB.cell (p := ⟨w.heap.size, 1, none⟩) hsz).trans x1
  have f0 := (BB.frozen (p := ⟨w.heap.size, 0, none⟩) hsz).trans x2
  have f1 := (BB.frozen (p := ⟨w.heap.size, 1, none⟩) hsz).trans x3
  have S1 := SX.below BB
  have QB1 := Aside0.mk (QBX.out.trans (BB.mono QBX.out.size))
  have QK1 := Aside0.mk (kb_trans QKX.out ⟨BB.size, fun i hi _ _ => BB.block i hi⟩)
  have QS := Aside0.mk (snz_is g l f L r w0 W1 S1 QB1.out)
  have Qs := Aside0.mk (show w.heap.size + 1 ≤ W1.heap.size from Nat.le_trans hsz BB.size)
  clear SX S1 BB x0 x1 x2 x3 b3 b4 b5 b6 b7 y4 y5 hsz hgl hcl hcz3 hcz hcz2
  go_wp2_with fail
  rw [← hW1]
  clear hW1
  refine QS.out.mono ?_
  rintro e w2 ⟨rfl, n1, c1, ⟨S2, B2, K2⟩, hsum, hor⟩
  obtain ⟨Wb, b3, b4, b5, b6, b7, y4, y5, _⟩ := S2.cells
  have e0 := (kb_cell K2 (k := 0) hne (by have := Qs.out; omega)).trans r0
  have e1 := (kb_cell K2 (k := 1) hne (by have := Qs.out; omega)).trans r1
  have e2 := (kb_froz K2 (k := 0) hne (by have := Qs.out; omega)).trans f0
  have e3 := (kb_froz K2 (k := 1) hne (by have := Qs.out; omega)).trans f1
  have Q2 := Aside0.mk S2
  have QB2 := Aside0.mk B2
  have QK2 := Aside0.mk K2
  have Qsum := Aside0.mk hsum
  have hR : ((n1 + c1 : Nat) : Int) ≤ 1000000 := by have := S2.rc; omega
  obtain ⟨R1, hR1⟩ : ∃ R1, R1 = n1 + c1 := ⟨_, rfl⟩
  rw [← hR1] at hR b3
  by_cases h0 : R1 = 0
  · have Q0 := Aside0.mk (show n1 + c1 = 0 by omega)
    have b3' : w2.cell? ⟨g, 3, none⟩ = some (.int .i64 0) := by rw [b3, h0]; rfl
    clear b3 hsum hor S2 B2 K2 h0 hR hR1 r0 r1 f0 f1 b4 b5 b6 b7 y4 y5
    go_wp2
    refine bodyPost_ret (v := .agg #[.int .i64 0, .int .i64 0]) (by simp [results, Tryd.results111, go_sem, e0, e1]) rfl ?_
    have hz : hi (bt1 l) f r = 0 := by rw [← Qsum.out, Q0.out]
    refine ⟨by simp [nrS, nrN, hz, hi], n1, c1, ⟨(Q2.out.far hne2 _).far hne2 _, ?_, ?_⟩, by rw [Q0.out]; simp [nrS, hz, hi]⟩
    · exact (QB2.out.setCell QhB.out _).setCell QhB.out _
    · exact kb_new (kb_new (kb_trans QK1.out QK2.out) (Nat.le_refl _)) (Nat.le_refl _)
  · have hc1 : 0 < c1 := by omega
    have hr1b : decide ((R1 : Int) = 0) = false := decide_eq_false (by omega)
    have hr1c : ((R1 : Int) == 0) = false := by simp; omega
    have hr1d : ¬ R1 = 0 := h0
    have QC := Aside0.mk (cno_is g l f L n1 c1 w0 w2 S2 hc1 B2)
    rw [← hR1] at QC
    obtain ⟨R2, hR2⟩ : ∃ R2, R2 = hi (fun t => !bt1 l t) f R1 := ⟨_, rfl⟩
    have hle := hi_le (fun t => !bt1 l t) f R1
    rw [← hR2] at QC hle
    obtain ⟨n, hn⟩ : ∃ n, n = R1 - R2 := ⟨_, rfl⟩
    rw [← hn] at QC
    have hnl : (n : Int) ≤ (R1 : Int) := by omega
    have hn0 : (0 : Int) ≤ (n : Int) := by omega
    have Qn := Aside0.mk (show R1 - n = R2 ∧ n = R1 - R2 from ⟨by omega, hn⟩)
    have QR1 := Aside0.mk (show R1 = hi (bt1 l) f r from by rw [hR1]; exact hsum)
    have QR2 := Aside0.mk hR2
    have QRs := Aside0.mk hR1
    have Qs2 := Aside0.mk (show w.heap.size + 1 ≤ w2.heap.size from by have := K2.1; have := Qs.out; omega)
    clear hsum hor S2 B2 K2 h0 hc1 hle hn hR2 hR1 r0 r1 f0 f1 b4 b5 b7 y4 y5
    go_wp2_with (go_at_call 115; refine (pos_is g (R1 : Int) _ b6 b3).mono ?_; rintro e w' ⟨rfl, rfl⟩)
    refine QC.out.mono ?_
    rintro e w3 ⟨rfl, n2, c2, ⟨S3, B3, K3⟩, hsum⟩
    obtain ⟨Wc, d3, d4, d5, d6, d7, y4, y5, _⟩ := S3.cells
    have g0 := (kb_cell K3 (k := 0) hne (by have := Qs2.out; omega)).trans e0
    have g1 := (kb_cell K3 (k := 1) hne (by have := Qs2.out; omega)).trans e1
    have g2 := (kb_froz K3 (k := 0) hne (by have := Qs2.out; omega)).trans e2
    have g3 := (kb_froz K3 (k := 1) hne (by have := Qs2.out; omega)).trans e3
    have Q3 := Aside0.mk S3
    have QB3 := Aside0.mk B3
    have QK3 := Aside0.mk K3
    have Qs3 := Aside0.mk (show w.heap.size < w3.heap.size from by have := K3.1; have := Qs2.out; omega)
    have Qsum3 := Aside0.mk hsum
    have QA := Aside0.mk (adj_is g R1 n hnl hR w3 S3.lt d6)
    rw [Qn.out.1] at QA
    clear S3 B3 K3 hsum d3 d4 d5 d7 y4 y5 b3 b6 e0 e1 e2 e3 hr1b hr1c hr1d
    go_wp2_with fail
    refine QA.out.mono ?_
    rintro e w4 ⟨rfl, B4⟩
    have h0' := (B4.cell (p := ⟨w.heap.size, 0, none⟩) Qs3.out).trans g0
    have h1' := (B4.cell (p := ⟨w.heap.size, 1, none⟩) Qs3.out).trans g1
    have h2' := (B4.frozen (p := ⟨w.heap.size, 0, none⟩) Qs3.out).trans g2
    have h3' := (B4.frozen (p := ⟨w.heap.size, 1, none⟩) Qs3.out).trans g3
    have Q4 := Aside0.mk B4
    clear B4 g0 g1 g2 g3 d6
    go_wp2
    refine bodyPost_ret (v := .agg #[.int .i64 (R2 : Int), .int .i64 (n : Int)]) (by simp [results, Tryd.results111, go_sem, h0', h1']) rfl ?_
    have e1 : R2 = nrS (bt1 l) f r := by unfold nrS; rw [← QR1.out]; exact QR2.out
    refine ⟨by rw [← e1, show nrN (bt1 l) f r = n from by unfold nrN; rw [← e1, ← QR1.out]; exact Qn.out.2.symm], n2, c2, ⟨((Q3.out.below Q4.out).far hne2 _).far hne2 _, ?_, ?_⟩, by rw [Qsum3.out, ← e1, ← QRs.out]; exact QR2.out.symm⟩
    · exact ((QB3.out.trans (Q4.out.mono QB3.out.size)).setCell QhB.out _).setCell QhB.out _
    · exact kb_new (kb_new (kb_trans (kb_trans (kb_trans QK1.out QK2.out) QK3.out) ⟨Q4.out.size, fun i hi _ _ => Q4.out.block i hi⟩) (Nat.le_refl _)) (Nat.le_refl _)
end Go.Proofs.YtpjaaonpbohkdaaDoor.QR
/- The highest bit of a word, plainly. -/
namespace Go.Proofs.YtpjaaonpbohkdaaDoor.QR
open Go.RowKit Go.Proofs.YtpjaaonpbohkdaaDoorW.PrintWords
theorem and_fb (x : Nat) (hx : x < 18446744073709551616) : Go.bits .and .u64 (x : Int) FB = if x < 9223372036854775808 then 0 else FB := by
  unfold FB Go.bits
  show IntKind.u64.wrap (((BitVec.ofInt 64 (x : Int)) &&& (BitVec.ofInt 64 9223372036854775808)).toNat : Int) = _
  have e1 : BitVec.ofInt 64 (x : Int) = BitVec.ofNat 64 x := BitVec.ofInt_natCast ..
  have e2 : BitVec.ofInt 64 9223372036854775808 = BitVec.ofNat 64 (2 ^ 63) := by decide
  rw [e1, e2, BitVec.toNat_and, BitVec.toNat_ofNat, BitVec.toNat_ofNat, Nat.mod_eq_of_lt (by simpa using hx), Nat.mod_eq_of_lt (show 2 ^ 63 < 2 ^ 64 by omega)]
  have e3 : x.testBit 63 = decide (x / 2 ^ 63 % 2 = 1) := Nat.testBit_eq_decide_div_mod_eq
  have e4 : x &&& 2 ^ 63 = if x.testBit 63 then 2 ^ 63 else 0 := by
    apply Nat.eq_of_testBit_eq
    intro i
    rw [Nat.testBit_and, Nat.testBit_two_pow]
    by_cases hi : 63 = i
    · subst hi
      by_cases h : x.testBit 63 = true
      · rw [if_pos h, Nat.testBit_two_pow]; simp [h]
      · rw [if_neg h]; simp at h; simp [h]
    · by_cases h : x.testBit 63 = true
      · rw [if_pos h, Nat.testBit_two_pow]; simp [hi]
      · rw [if_neg h]; simp [hi]
  rw [e4, e3]
  by_cases h : x < 9223372036854775808
  · rw [if_pos h, Nat.div_eq_of_lt (by simpa using h)]; decide
  · rw [if_neg h, show x / 2 ^ 63 = 1 by omega]; decide
theorem top_fb (b : Nat → Bool) (s c : Nat) (h0 : 0 < c) (hc : c ≤ 64) : Go.bits .and .u64 ((top b s c : Nat) : Int) FB = if b (s + c - 1) then FB else 0 := by
  rw [and_fb _ (top_lt b s c hc)]
  obtain ⟨m, rfl⟩ : ∃ m, c = m + 1 := ⟨c - 1, by omega⟩
  have hl := nb_lt b s m
  have h1 : nb b s m * 2 ^ (63 - m) < 2 ^ m * 2 ^ (63 - m) := Nat.mul_lt_mul_of_pos_right hl (Nat.pow_pos (by decide))
  have h2 : 2 ^ m * 2 ^ (63 - m) = 9223372036854775808 := by rw [← Nat.pow_add, show m + (63 - m) = 63 by omega]
  have h3 : top b s (m + 1) = nb b s m * 2 ^ (63 - m) + (if b (s + m) then 2 ^ m else 0) * 2 ^ (63 - m) := by
    show (nb b s m + (if b (s + m) then 2 ^ m else 0)) * 2 ^ (64 - (m + 1)) = _
    rw [show 64 - (m + 1) = 63 - m by omega, Nat.add_mul]
  rw [show s + (m + 1) - 1 = s + m by omega, h3]
  generalize nb b s m * 2 ^ (63 - m) = X at *
  by_cases hb : b (s + m) = true
  · rw [if_pos hb, if_pos hb, h2, if_neg (by omega)]
  · rw [if_neg hb, if_neg hb, Nat.zero_mul, if_pos (by omega)]
end Go.Proofs.YtpjaaonpbohkdaaDoor.QR
