/- The kernel's call, of a quotient that is no whole number. -/
import Derived.Test.YtmiafomaglijgaaL22
namespace Go.Proofs.Ytmiafomaglijgaa.QR
open Ieee Go.Proofs.Ytmiafomaglijgaa.Fl Go.RowKit Go.Proofs.YtmiafomaglijgaaW.PrintWords Go.Proofs.YtmiafomaglijgaaW.PrintLast Go.Proofs.YtmiafomaglijgaaW.PrintMore
set_option linter.unusedVariables false
set_option linter.unusedSimpArgs false
theorem cell_err {w w1 : World} {e N : Nat} {v : Value} (h : w.heap[e]? = some (.cells #[v] 37 (0, 0))) (hb : Below w.heap.size w w1) (hN : N ≤ e) (u : Value) : Below N w (w1.setCell ⟨e, 0, none⟩ u) ∧ (w1.setCell ⟨e, 0, none⟩ u).cell? ⟨e, 0, none⟩ = some u := by
  have h1 := (hb.block e (blk_lt h)).trans h
  refine ⟨(hb.mono (by have := blk_lt h; omega)).setCell hN _, ?_⟩
  have := blk_set h1 0 u
  have h2 : (w1.setCell ⟨e, 0, none⟩ u).heap[e]? = some (.cells #[u] 37 (0, 0)) := by simpa using this
  exact (blk_cell h2 0).trans rfl
set_option maxHeartbeats 8000000 in
set_option maxRecDepth 100000 in
theorem call_part (mode : Nat) (hm : mode < 10) {v m q pr xp : Nat} {sv s : Bool} {Mv M X : Nat} (hv : Units (F32.read v) sv Mv) (hgv : Good Mv) (hq : Units (F32.read q) s M) (hg : Good M) (hdiv : floatBits .quo .f32 v m = some q) (h : M % U1 ≠ 0)
    (hX : Units (F32.read (W F32 false (Df s M))) false X) (hX0 : X ≠ 0) {K : Nat} (hK : K = if 4 ≤ mode ∧ X ≠ H1 then Kr M else Kf mode s M)
    (hpr : floatBits .mul .f32 (W F32 s (K * U1)) m = some pr) (hxp : floatToFloatBits .f32 pr .f64 = some xp) (hlt : xp < 18446744073709551616) (hnp : (F64.read xp).isNaN = false)
    (g ge N : Nat) (hN : N ≤ ge) (w : World) (hs : w.heap[g]? = some (.cells #[.float .f32 m, .int .i8 (mode : Int), .func (.func (fno mode)) #[] #[]] 48 (0, 0))) (he : w.heap[ge]? = some (.cells #[.nilIface] 37 (0, 0))) :
    Calls Try.prog 17 #[.pointer (some ⟨g, 0, none⟩), .float .f32 v, .pointer (some ⟨ge, 0, none⟩)] w fun e w' => Below N w w' ∧ (((F64.read xp).isInfinity = false ∧ e = .returned (.float .f32 pr) ∧ w'.cell? ⟨ge, 0, none⟩ = some .nilIface) ∨ ((F64.read xp).isInfinity = true ∧ e = .returned (.float .f32 v) ∧ ∃ t x, w'.cell? ⟨ge, 0, none⟩ = some (.iface t x))) := by
  have hxv := k64 sv hgv
  have cv := up_run (widen_is hv hgv)
  have QI := Aside0.mk (fun w => isinf_is (W F64 sv Mv) (W64_lt _ _) (units_fin hxv).2 w)
  rw [(units_fin hxv).1] at QI
  have QN := Aside0.mk (fun w => isnan_is (W F64 sv Mv) false (nan_no (units_fin hxv).2) w)
  have cq := fun w => run_float_arith (P := Try.prog) (w := w) .quo 26 .f32 _ _ _ hdiv
  have hx := k64 s hg
  have hl := k64 s (R_good .down s hg)
  have c1 := up_run (widen_is hq hg)
  have QF := Aside0.mk (fun w => flr_is (W F64 s M) (units_fin hx).2 w)
  rw [whl_is .down hx] at QF
  have c2 := down_run (narrow_is hl (R_good .down s hg))
  have c3 := fun w => run_float_arith (P := Try.prog) (w := w) .sub 26 .f32 _ _ _ (sub_any F32 hq (k32 s (R_good .down s hg)))
  have hD : Dz s M = Df s M := if_neg h
  rw [hD] at c3
  have c4 : (FloatKind.f32.format.order (W F32 false (Df s M)) 0 == some Ordering.eq) = false := by
    rw [order_eq32 hX read32_0]
    exact decide_eq_false (by unfold sg; simp; exact hX0)
  have c5 : (FloatKind.f32.format.order (W F32 false (Df s M)) 1056964608 != some Ordering.eq) = decide (X ≠ H1) := by
    have := order_eq32 hX read32_half
    rw [bne, this, ← decide_not]
    have e : (¬ sg false X = sg false H1) ↔ X ≠ H1 := by
      unfold sg; simp only [Bool.false_eq_true, if_false]; omega
    rw [Bool.eq_iff_iff]; simp only [decide_eq_true_iff]; exact e
  have QR' := Aside0.mk (fun w => Rnd_is (s := s) hg h w)
  have c6 := down_run (narrow_is (IW_units s (Kr_lt hg h)) (good_int (Kr_lt hg h)))
  have eI : ∀ n, W F64 s (n * U1) = IW s n := fun _ => rfl
  rw [eI] at QR'
  have Qfn := Aside0.mk (fun w => fn_is mode hm hq hg h w)
  have cf := fun args w => cf_fno mode hm args w
  have cp := fun w => run_float_arith (P := Try.prog) (w := w) .mul 26 .f32 _ _ _ hpr
  have cx := up_run hxp
  have QJ := Aside0.mk (fun w => isinf_is xp hlt hnp w)
  have QK := Aside0.mk (fun w => isnan_is xp false (nan_no hnp) w)
  have d0 := blk_cell hs 0
  have d1 := blk_cell hs 1
  have d2 := blk_cell hs 2
  rw [hK] at cp
  have QE := Aside0.mk (And.intro he hN)
  clear hv hgv hq hg hdiv hxv hx hl hD hX hX0 eI hpr hxp hlt hnp hK he hN
  generalize W F64 sv Mv = xv at cv QI QN
  generalize W F64 s M = x at c1 QF QR'
  generalize W F64 s (R .down s M * U1) = l64 at QF c2
  generalize W F32 s (R .down s M * U1) = l32 at c2 c3
  generalize W F32 false (Df s M) = d32 at c3 c4 c5
  generalize IW s (Kr M) = y64 at QR' c6
  generalize (F64.read xp).isInfinity = b at QJ ⊢
  have QS := Aside0.mk hs
  clear hs
  by_cases h4 : 4 ≤ mode
  · have hge : (4 : Int) ≤ (mode : Int) := by omega
    by_cases ht : X = H1
    · rw [if_neg (fun hh => hh.2 ht)] at cp
      rw [decide_eq_false (fun hh => hh ht)] at c5
      clear QR' c6 h ht hm h4
      generalize W F32 s (Kf mode s M * U1) = r32 at Qfn cp
      generalize fno mode = fq at Qfn cf d2 QS ⊢
      cases b
      all_goals
        go_enter Try.func17, Try.ntmps17
        go_wp2_with (first | (go_at_call 7; first | (with_reducible refine Calls.mono (QI.out _) ?_; rintro e w1 ⟨rfl, hb⟩; have k0 := cell_keep d0 hb; have k1 := cell_keep d1 hb; have k2 := cell_keep d2 hb; have Q1 := Aside0.mk hb; clear hb) | (with_reducible refine Calls.mono (QJ.out _) ?_; rintro e w5 ⟨rfl, hb⟩; have Q5 := Aside0.mk (Q4.out.trans (hb.mono Q4.out.size)); clear hb)) | (go_at_call 38; first | (with_reducible refine Calls.mono (QN.out _) ?_; rintro e w2 ⟨rfl, hb⟩; have l0 := cell_keep k0 hb; have l1 := cell_keep k1 hb; have l2 := cell_keep k2 hb; have Q2 := Aside0.mk (Q1.out.trans (hb.mono Q1.out.size)); clear hb) | (with_reducible refine Calls.mono (QK.out _) ?_; rintro e w6 ⟨rfl, hb⟩; have Q6 := Aside0.mk (Q5.out.trans (hb.mono Q5.out.size)); clear hb)) | (go_at_call 13; with_reducible refine Calls.mono (QF.out _) ?_; rintro e w3 ⟨rfl, hb⟩; have n0 := cell_keep l0 hb; have n1 := cell_keep l1 hb; have n2 := cell_keep l2 hb; have Q3 := Aside0.mk (Q2.out.trans (hb.mono Q2.out.size)); clear hb) | (go_at_call 39; with_reducible refine Calls.mono (QR'.out _) ?_; rintro e w4 ⟨rfl, hb⟩; have o0 := cell_keep n0 hb; have Q4 := Aside0.mk (Q3.out.trans (hb.mono Q3.out.size)); clear hb) | (go_at_call 40; with_reducible refine Calls.mono (new_is _ _) ?_; rintro e w7 ⟨z, rfl, hb⟩; have Q7 := Aside0.mk (Q5.out.trans (hb.mono Q5.out.size)); have ke := blk_cell ((Q7.out.block ge (blk_lt QE.out.1)).trans QE.out.1) 0; have kz := blk_frozen ((Q7.out.block ge (blk_lt QE.out.1)).trans QE.out.1) 0; clear hb))
        with_reducible refine Calls.mono (Qfn.out _) ?_
        rintro e w4 ⟨rfl, hb⟩
        have o0 := cell_keep n0 hb
        have Q4 := Aside0.mk (Q3.out.trans (hb.mono Q3.out.size))
        clear hb
        go_wp2_with (first | (go_at_call 7; first | (with_reducible refine Calls.mono (QI.out _) ?_; rintro e w1 ⟨rfl, hb⟩; have k0 := cell_keep d0 hb; have k1 := cell_keep d1 hb; have k2 := cell_keep d2 hb; have Q1 := Aside0.mk hb; clear hb) | (with_reducible refine Calls.mono (QJ.out _) ?_; rintro e w5 ⟨rfl, hb⟩; have Q5 := Aside0.mk (Q4.out.trans (hb.mono Q4.out.size)); clear hb)) | (go_at_call 38; first | (with_reducible refine Calls.mono (QN.out _) ?_; rintro e w2 ⟨rfl, hb⟩; have l0 := cell_keep k0 hb; have l1 := cell_keep k1 hb; have l2 := cell_keep k2 hb; have Q2 := Aside0.mk (Q1.out.trans (hb.mono Q1.out.size)); clear hb) | (with_reducible refine Calls.mono (QK.out _) ?_; rintro e w6 ⟨rfl, hb⟩; have Q6 := Aside0.mk (Q5.out.trans (hb.mono Q5.out.size)); clear hb)) | (go_at_call 13; with_reducible refine Calls.mono (QF.out _) ?_; rintro e w3 ⟨rfl, hb⟩; have n0 := cell_keep l0 hb; have n1 := cell_keep l1 hb; have n2 := cell_keep l2 hb; have Q3 := Aside0.mk (Q2.out.trans (hb.mono Q2.out.size)); clear hb) | (go_at_call 39; with_reducible refine Calls.mono (QR'.out _) ?_; rintro e w4 ⟨rfl, hb⟩; have o0 := cell_keep n0 hb; have Q4 := Aside0.mk (Q3.out.trans (hb.mono Q3.out.size)); clear hb) | (go_at_call 40; with_reducible refine Calls.mono (new_is _ _) ?_; rintro e w7 ⟨z, rfl, hb⟩; have Q7 := Aside0.mk (Q5.out.trans (hb.mono Q5.out.size)); have ke := blk_cell ((Q7.out.block ge (blk_lt QE.out.1)).trans QE.out.1) 0; have kz := blk_frozen ((Q7.out.block ge (blk_lt QE.out.1)).trans QE.out.1) 0; clear hb))
        go_ret
        first
          | exact ⟨(Q6.out.mono (by have := blk_lt QE.out.1; have := QE.out.2; omega)), .inl ⟨trivial, rfl, cell_keep (blk_cell QE.out.1 0) Q6.out⟩⟩
          | exact ⟨(cell_err QE.out.1 Q7.out QE.out.2 _).1, .inr ⟨trivial, rfl, 63, z, (cell_err QE.out.1 Q7.out QE.out.2 _).2⟩⟩
    · rw [if_pos ⟨h4, ht⟩] at cp
      rw [decide_eq_true ht] at c5
      clear Qfn cf h ht hm h4
      generalize W F32 s (Kr M * U1) = r32 at c6 cp
      generalize fno mode = fq at d2 QS ⊢
      cases b
      all_goals
        go_enter Try.func17, Try.ntmps17
        go_wp2_with (first | (go_at_call 7; first | (with_reducible refine Calls.mono (QI.out _) ?_; rintro e w1 ⟨rfl, hb⟩; have k0 := cell_keep d0 hb; have k1 := cell_keep d1 hb; have k2 := cell_keep d2 hb; have Q1 := Aside0.mk hb; clear hb) | (with_reducible refine Calls.mono (QJ.out _) ?_; rintro e w5 ⟨rfl, hb⟩; have Q5 := Aside0.mk (Q4.out.trans (hb.mono Q4.out.size)); clear hb)) | (go_at_call 38; first | (with_reducible refine Calls.mono (QN.out _) ?_; rintro e w2 ⟨rfl, hb⟩; have l0 := cell_keep k0 hb; have l1 := cell_keep k1 hb; have l2 := cell_keep k2 hb; have Q2 := Aside0.mk (Q1.out.trans (hb.mono Q1.out.size)); clear hb) | (with_reducible refine Calls.mono (QK.out _) ?_; rintro e w6 ⟨rfl, hb⟩; have Q6 := Aside0.mk (Q5.out.trans (hb.mono Q5.out.size)); clear hb)) | (go_at_call 13; with_reducible refine Calls.mono (QF.out _) ?_; rintro e w3 ⟨rfl, hb⟩; have n0 := cell_keep l0 hb; have n1 := cell_keep l1 hb; have n2 := cell_keep l2 hb; have Q3 := Aside0.mk (Q2.out.trans (hb.mono Q2.out.size)); clear hb) | (go_at_call 39; with_reducible refine Calls.mono (QR'.out _) ?_; rintro e w4 ⟨rfl, hb⟩; have o0 := cell_keep n0 hb; have Q4 := Aside0.mk (Q3.out.trans (hb.mono Q3.out.size)); clear hb) | (go_at_call 40; with_reducible refine Calls.mono (new_is _ _) ?_; rintro e w7 ⟨z, rfl, hb⟩; have Q7 := Aside0.mk (Q5.out.trans (hb.mono Q5.out.size)); have ke := blk_cell ((Q7.out.block ge (blk_lt QE.out.1)).trans QE.out.1) 0; have kz := blk_frozen ((Q7.out.block ge (blk_lt QE.out.1)).trans QE.out.1) 0; clear hb))
        go_ret
        first
          | exact ⟨(Q6.out.mono (by have := blk_lt QE.out.1; have := QE.out.2; omega)), .inl ⟨trivial, rfl, cell_keep (blk_cell QE.out.1 0) Q6.out⟩⟩
          | exact ⟨(cell_err QE.out.1 Q7.out QE.out.2 _).1, .inr ⟨trivial, rfl, 63, z, (cell_err QE.out.1 Q7.out QE.out.2 _).2⟩⟩
  · rw [if_neg (fun hh => h4 hh.1)] at cp
    have hge : ¬ (4 : Int) ≤ (mode : Int) := by omega
    clear QR' c6 h hm h4 c5
    generalize W F32 s (Kf mode s M * U1) = r32 at Qfn cp
    generalize fno mode = fq at Qfn cf d2 QS ⊢
    cases b
    all_goals
      go_enter Try.func17, Try.ntmps17
      go_wp2_with (first | (go_at_call 7; first | (with_reducible refine Calls.mono (QI.out _) ?_; rintro e w1 ⟨rfl, hb⟩; have k0 := cell_keep d0 hb; have k1 := cell_keep d1 hb; have k2 := cell_keep d2 hb; have Q1 := Aside0.mk hb; clear hb) | (with_reducible refine Calls.mono (QJ.out _) ?_; rintro e w5 ⟨rfl, hb⟩; have Q5 := Aside0.mk (Q4.out.trans (hb.mono Q4.out.size)); clear hb)) | (go_at_call 38; first | (with_reducible refine Calls.mono (QN.out _) ?_; rintro e w2 ⟨rfl, hb⟩; have l0 := cell_keep k0 hb; have l1 := cell_keep k1 hb; have l2 := cell_keep k2 hb; have Q2 := Aside0.mk (Q1.out.trans (hb.mono Q1.out.size)); clear hb) | (with_reducible refine Calls.mono (QK.out _) ?_; rintro e w6 ⟨rfl, hb⟩; have Q6 := Aside0.mk (Q5.out.trans (hb.mono Q5.out.size)); clear hb)) | (go_at_call 13; with_reducible refine Calls.mono (QF.out _) ?_; rintro e w3 ⟨rfl, hb⟩; have n0 := cell_keep l0 hb; have n1 := cell_keep l1 hb; have n2 := cell_keep l2 hb; have Q3 := Aside0.mk (Q2.out.trans (hb.mono Q2.out.size)); clear hb) | (go_at_call 39; with_reducible refine Calls.mono (QR'.out _) ?_; rintro e w4 ⟨rfl, hb⟩; have o0 := cell_keep n0 hb; have Q4 := Aside0.mk (Q3.out.trans (hb.mono Q3.out.size)); clear hb) | (go_at_call 40; with_reducible refine Calls.mono (new_is _ _) ?_; rintro e w7 ⟨z, rfl, hb⟩; have Q7 := Aside0.mk (Q5.out.trans (hb.mono Q5.out.size)); have ke := blk_cell ((Q7.out.block ge (blk_lt QE.out.1)).trans QE.out.1) 0; have kz := blk_frozen ((Q7.out.block ge (blk_lt QE.out.1)).trans QE.out.1) 0; clear hb))
      with_reducible refine Calls.mono (Qfn.out _) ?_
      rintro e w4 ⟨rfl, hb⟩
      have o0 := cell_keep n0 hb
      have Q4 := Aside0.mk (Q3.out.trans (hb.mono Q3.out.size))
      clear hb
      go_wp2_with (first | (go_at_call 7; first | (with_reducible refine Calls.mono (QI.out _) ?_; rintro e w1 ⟨rfl, hb⟩; have k0 := cell_keep d0 hb; have k1 := cell_keep d1 hb; have k2 := cell_keep d2 hb; have Q1 := Aside0.mk hb; clear hb) | (with_reducible refine Calls.mono (QJ.out _) ?_; rintro e w5 ⟨rfl, hb⟩; have Q5 := Aside0.mk (Q4.out.trans (hb.mono Q4.out.size)); clear hb)) | (go_at_call 38; first | (with_reducible refine Calls.mono (QN.out _) ?_; rintro e w2 ⟨rfl, hb⟩; have l0 := cell_keep k0 hb; have l1 := cell_keep k1 hb; have l2 := cell_keep k2 hb; have Q2 := Aside0.mk (Q1.out.trans (hb.mono Q1.out.size)); clear hb) | (with_reducible refine Calls.mono (QK.out _) ?_; rintro e w6 ⟨rfl, hb⟩; have Q6 := Aside0.mk (Q5.out.trans (hb.mono Q5.out.size)); clear hb)) | (go_at_call 13; with_reducible refine Calls.mono (QF.out _) ?_; rintro e w3 ⟨rfl, hb⟩; have n0 := cell_keep l0 hb; have n1 := cell_keep l1 hb; have n2 := cell_keep l2 hb; have Q3 := Aside0.mk (Q2.out.trans (hb.mono Q2.out.size)); clear hb) | (go_at_call 39; with_reducible refine Calls.mono (QR'.out _) ?_; rintro e w4 ⟨rfl, hb⟩; have o0 := cell_keep n0 hb; have Q4 := Aside0.mk (Q3.out.trans (hb.mono Q3.out.size)); clear hb) | (go_at_call 40; with_reducible refine Calls.mono (new_is _ _) ?_; rintro e w7 ⟨z, rfl, hb⟩; have Q7 := Aside0.mk (Q5.out.trans (hb.mono Q5.out.size)); have ke := blk_cell ((Q7.out.block ge (blk_lt QE.out.1)).trans QE.out.1) 0; have kz := blk_frozen ((Q7.out.block ge (blk_lt QE.out.1)).trans QE.out.1) 0; clear hb))
      go_ret
      first
        | exact ⟨(Q6.out.mono (by have := blk_lt QE.out.1; have := QE.out.2; omega)), .inl ⟨trivial, rfl, cell_keep (blk_cell QE.out.1 0) Q6.out⟩⟩
        | exact ⟨(cell_err QE.out.1 Q7.out QE.out.2 _).1, .inr ⟨trivial, rfl, 63, z, (cell_err QE.out.1 Q7.out QE.out.2 _).2⟩⟩
end Go.Proofs.Ytmiafomaglijgaa.QR
