/- The loops that compare decimals one by one. -/
import Derived.Test.YtlnbkmkdapeicaaDoorF8a
namespace Go.Proofs.YtlnbkmkdapeicaaDoor.QR
open Go.RowKit Go.Proofs.YtlnbkmkdapeicaaDoorW.PrintWords Go.Proofs.YtlnbkmkdapeicaaDoorW.PrintLast Go.Proofs.YtlnbkmkdapeicaaDoorW.PrintMore
set_option linter.unusedVariables false
set_option linter.unusedSimpArgs false
set_option maxHeartbeats 8000000 in
set_option maxRecDepth 100000 in
theorem aa0_is (gl oA nA cA : Nat) (xs : List Dc) (gr oB nB cB : Nat) (ys : List Dc) (gT cT n gm : Nat) (ts : List Value) (w : World) (hl : w.heap[gl]? = some (.cells (cI xs).toArray 50 (0, 0))) (hnl : gl ≠ gT) (hA : oA + n ≤ xs.length) (hnA : n = nA) (hr : w.heap[gr]? = some (.cells (cI ys).toArray 50 (0, 0))) (hnr : gr ≠ gT) (hB : oB + n ≤ ys.length) (hnB : n = nB) (hm : w.heap[gm]? = some (.cells #[.func (.func 58) #[] #[], .func (.func 60) #[] #[]] 74 (0, 0))) (hnm : gm ≠ gT) (ht : w.heap[gT]? = some (.cells ts.toArray 158 (0, 0))) (hT : n ≤ ts.length) (hn : n ≤ 1000000) :
    Calls Tryd.prog 45 #[.slice (some ⟨gl, oA * 2, none⟩) nA cA, .slice (some ⟨gr, oB * 2, none⟩) nB cB, .slice (some ⟨gT, 0, none⟩) n cT] w fun e w' => e = .returned (.tuple #[]) ∧ w'.heap[gT]? = some (.cells (cU (fun i => cmpB 0 (rdD xs (oA + i)) (rdD ys (oB + i))) n ++ ts.drop n).toArray 158 (0, 0)) ∧ Fr w w' gT gT := by
  subst hnA
  subst hnB
  obtain ⟨bf, hbf⟩ : ∃ bf : Nat → Bool, bf = fun i => cmpB 0 (rdD xs (oA + i)) (rdD ys (oB + i)) := ⟨_, rfl⟩
  rw [← hbf]
  have Qb := Aside0.mk hbf
  have QL := Aside0.mk (And.intro hl (And.intro hnl hA))
  have QR := Aside0.mk (And.intro hr (And.intro hnr hB))
  have QT := Aside0.mk (And.intro ht hT)
  have QM := Aside0.mk (And.intro hm hnm)
  have hni : (n : Int) ≤ 1000000 := by omega
  clear ht hT hbf hn hm hnm hl hnl hA hr hnr hB
  go_enter Tryd.func45, Tryd.ntmps45
  go_upto_region 1 with (fail)
  go_loopg [9] n (fun kq v9 w' => ∃ i : Nat, v9 = .int .i64 (i : Int) ∧ Aside0 (i + kq = n) ∧ Aside0 (w'.heap[gT]? = some (.cells (cU bf i ++ ts.drop i).toArray 158 (0, 0))) ∧ Aside0 (Fr w w' gT gT))
  case atStart => exact ⟨0, rfl, ⟨by omega⟩, ⟨QT.out.1⟩, ⟨Fr.refl _ _ _⟩⟩
  case round =>
    obtain ⟨i, rfl, HA, HG, HF⟩ := hrel
    rcases Nat.eq_zero_or_pos gk with h0 | h0
    · have hi : ((i : Int) < (n : Int)) = False := by have := HA.out; simp; omega
      go_wp2
      go_end0
      obtain rfl : i = n := by have := HA.out; omega
      exact ⟨rfl, HG.out, HF.out⟩
    · have hi : (i : Int) < (n : Int) := by have := HA.out; omega
      have hi2 : i < n := by omega
      have QI := Aside0.mk hi2
      obtain ⟨k1, rfl⟩ : ∃ k1, gk = k1 + 1 := ⟨gk - 1, by omega⟩
      have hlen : i < (cU bf i ++ ts.drop i).length := by rw [List.length_append, cU_len, List.length_drop]; have := QT.out; omega
      obtain ⟨u0, k0⟩ : ∃ u, wr.cell? ⟨gT, i, none⟩ = some u := ⟨(cU bf i ++ ts.drop i)[i], (blk_cell HG.out _).trans (by rw [List.getElem?_toArray, List.getElem?_eq_getElem hlen])⟩
      have z0 := blk_frozen HG.out i
      obtain ⟨kl, kl'⟩ := cI_cells (o := oA) (i := i) ((HF.out.far gl (blk_lt QL.out.1) QL.out.2.1 QL.out.2.1).trans QL.out.1) (by have := QL.out; omega)
      obtain ⟨a, ha⟩ : ∃ a, a = rdD xs (oA + i) := ⟨_, rfl⟩
      rw [← ha] at kl kl'
      obtain ⟨kr, kr'⟩ := cI_cells (o := oB) (i := i) ((HF.out.far gr (blk_lt QR.out.1) QR.out.2.1 QR.out.2.1).trans QR.out.1) (by have := QR.out; omega)
      obtain ⟨b, hb⟩ : ∃ b, b = rdD ys (oB + i) := ⟨_, rfl⟩
      rw [← hb] at kr kr'
      obtain ⟨t, ht⟩ : ∃ t, t = cmpB 0 a b := ⟨_, rfl⟩
      have Qt := Aside0.mk (show bf i = t by rw [Qb.out, ht, ha, hb])
      unfold cmpB at ht
      clear h0 hlen ha hb
      have heq := fun w => eq_is 9998 w a.1 b.1 a.2 b.2
      have heg := eqg_is
      have he1 : ((a.1 == b.1 && a.2 == b.2)) = t := ht.symm
      clear ht
      cases t
      · go_upto_region 3 with (fail)
        go_quiet ((fail))
        go_wp2
        go_roundg k1
        case rel =>
          refine ⟨i + 1, rfl, ⟨by have := HA.out; omega⟩, ⟨?_⟩, ⟨?_⟩⟩
          · have h := blk_set HG.out i (.int .u32 (b2i (bf i)))
            rw [Qt.out, show b2i false = 0 from rfl] at h
            rw [← tmpAt_set bf ts n i (by have := QT.out; have := QI.out; omega), Qt.out, show b2i false = 0 from rfl]
            first | (simpa using h) | (show (wr.setCell _ _).heap[gT]? = _; simpa using h)
          · first | exact HF.out.set gT i _ (.inl rfl) | exact (HF.out.step (pw_below_drewN (Below.refl _ _) _)).set gT i _ (.inl rfl)
        · omega
      · go_upto_region 3 with (fail)
        go_quiet ((fail))
        go_wp2
        go_roundg k1
        case rel =>
          refine ⟨i + 1, rfl, ⟨by have := HA.out; omega⟩, ⟨?_⟩, ⟨?_⟩⟩
          · have h := blk_set HG.out i (.int .u32 (b2i (bf i)))
            rw [Qt.out, show b2i true = 1 from rfl] at h
            rw [← tmpAt_set bf ts n i (by have := QT.out; have := QI.out; omega), Qt.out, show b2i true = 1 from rfl]
            first | (simpa using h) | (show (wr.setCell _ _).heap[gT]? = _; simpa using h)
          · first | exact HF.out.set gT i _ (.inl rfl) | exact (HF.out.step (pw_below_drewN (Below.refl _ _) _)).set gT i _ (.inl rfl)
        · omega
set_option maxHeartbeats 8000000 in
set_option maxRecDepth 100000 in
theorem as0_is (gl oA nA cA : Nat) (xs : List Dc) (y : Dc) (gT cT n gm : Nat) (ts : List Value) (w : World) (hl : w.heap[gl]? = some (.cells (cI xs).toArray 50 (0, 0))) (hnl : gl ≠ gT) (hA : oA + n ≤ xs.length) (hnA : n = nA) (hm : w.heap[gm]? = some (.cells #[.func (.func 58) #[] #[], .func (.func 60) #[] #[]] 74 (0, 0))) (hnm : gm ≠ gT) (ht : w.heap[gT]? = some (.cells ts.toArray 158 (0, 0))) (hT : n ≤ ts.length) (hn : n ≤ 1000000) :
    Calls Tryd.prog 46 #[.slice (some ⟨gl, oA * 2, none⟩) nA cA, .agg #[.int .u64 y.1, .int .i64 y.2], .slice (some ⟨gT, 0, none⟩) n cT] w fun e w' => e = .returned (.tuple #[]) ∧ w'.heap[gT]? = some (.cells (cU (fun i => cmpB 0 (rdD xs (oA + i)) (y)) n ++ ts.drop n).toArray 158 (0, 0)) ∧ Fr w w' gT gT := by
  subst hnA
  obtain ⟨bf, hbf⟩ : ∃ bf : Nat → Bool, bf = fun i => cmpB 0 (rdD xs (oA + i)) (y) := ⟨_, rfl⟩
  rw [← hbf]
  have Qb := Aside0.mk hbf
  have QL := Aside0.mk (And.intro hl (And.intro hnl hA))
  have QT := Aside0.mk (And.intro ht hT)
  have QM := Aside0.mk (And.intro hm hnm)
  have hni : (n : Int) ≤ 1000000 := by omega
  clear ht hT hbf hn hm hnm hl hnl hA
  go_enter Tryd.func46, Tryd.ntmps46
  go_upto_region 1 with (fail)
  obtain ⟨W1, hW1⟩ : ∃ W1, W1 = w.alloc (.cells #[.int .u64 y.1, .int .i64 y.2] 50) := ⟨_, rfl⟩
  obtain ⟨gy, hgy⟩ : ∃ gy, gy = w.heap.size := ⟨_, rfl⟩
  have QY := Aside0.mk (show W1.heap[gy]? = some (.cells #[.int .u64 y.1, .int .i64 y.2] 50 (0, 0)) ∧ gy ≠ gT by rw [hW1, hgy]; exact ⟨blk_new w _, by have := blk_lt QT.out.1; omega⟩)
  have Q0 := Aside0.mk (show Below w.heap.size w W1 by rw [hW1]; exact b2 w _)
  rw [← hW1, ← hgy]
  replace QT := Aside0.mk (And.intro ((Q0.out.block gT (blk_lt QT.out.1)).trans QT.out.1) QT.out.2)
  replace QM := Aside0.mk (And.intro ((Q0.out.block gm (blk_lt QM.out.1)).trans QM.out.1) QM.out.2)
  replace QL := Aside0.mk (And.intro ((Q0.out.block gl (blk_lt QL.out.1)).trans QL.out.1) QL.out.2)
  clear hW1 hgy
  go_upto_region 2 with (fail)
  go_loopg [9] n (fun kq v9 w' => ∃ i : Nat, v9 = .int .i64 (i : Int) ∧ Aside0 (i + kq = n) ∧ Aside0 (w'.heap[gT]? = some (.cells (cU bf i ++ ts.drop i).toArray 158 (0, 0))) ∧ Aside0 (Fr W1 w' gT gT))
  case atStart => exact ⟨0, rfl, ⟨by omega⟩, ⟨QT.out.1⟩, ⟨Fr.refl _ _ _⟩⟩
  case round =>
    obtain ⟨i, rfl, HA, HG, HF⟩ := hrel
    rcases Nat.eq_zero_or_pos gk with h0 | h0
    · have hi : ((i : Int) < (n : Int)) = False := by have := HA.out; simp; omega
      go_wp2
      go_end0
      obtain rfl : i = n := by have := HA.out; omega
      exact ⟨rfl, HG.out, (Fr.of_below Q0.out).trans HF.out⟩
    · have hi : (i : Int) < (n : Int) := by have := HA.out; omega
      have hi2 : i < n := by omega
      have QI := Aside0.mk hi2
      obtain ⟨k1, rfl⟩ : ∃ k1, gk = k1 + 1 := ⟨gk - 1, by omega⟩
      have hlen : i < (cU bf i ++ ts.drop i).length := by rw [List.length_append, cU_len, List.length_drop]; have := QT.out; omega
      obtain ⟨u0, k0⟩ : ∃ u, wr.cell? ⟨gT, i, none⟩ = some u := ⟨(cU bf i ++ ts.drop i)[i], (blk_cell HG.out _).trans (by rw [List.getElem?_toArray, List.getElem?_eq_getElem hlen])⟩
      have z0 := blk_frozen HG.out i
      obtain ⟨kl, kl'⟩ := cI_cells (o := oA) (i := i) ((HF.out.far gl (blk_lt QL.out.1) QL.out.2.1 QL.out.2.1).trans QL.out.1) (by have := QL.out; omega)
      obtain ⟨a, ha⟩ : ∃ a, a = rdD xs (oA + i) := ⟨_, rfl⟩
      rw [← ha] at kl kl'
      have ky := blk_cell ((HF.out.far gy (blk_lt QY.out.1) QY.out.2 QY.out.2).trans QY.out.1) 0
      have ky' := blk_cell ((HF.out.far gy (blk_lt QY.out.1) QY.out.2 QY.out.2).trans QY.out.1) 1
      simp only [List.getElem?_toArray, List.getElem?_cons_succ, List.getElem?_cons_zero] at ky ky'
      obtain ⟨t, ht⟩ : ∃ t, t = cmpB 0 a y := ⟨_, rfl⟩
      have Qt := Aside0.mk (show bf i = t by rw [Qb.out, ht, ha])
      unfold cmpB at ht
      clear h0 hlen ha 
      have heq := fun w => eq_is 9998 w a.1 y.1 a.2 y.2
      have heg := eqg_is
      have he1 : ((a.1 == y.1 && a.2 == y.2)) = t := ht.symm
      clear ht
      cases t
      · go_upto_region 4 with (fail)
        go_quiet ((fail))
        go_wp2
        go_roundg k1
        case rel =>
          refine ⟨i + 1, rfl, ⟨by have := HA.out; omega⟩, ⟨?_⟩, ⟨?_⟩⟩
          · have h := blk_set HG.out i (.int .u32 (b2i (bf i)))
            rw [Qt.out, show b2i false = 0 from rfl] at h
            rw [← tmpAt_set bf ts n i (by have := QT.out; have := QI.out; omega), Qt.out, show b2i false = 0 from rfl]
            first | (simpa using h) | (show (wr.setCell _ _).heap[gT]? = _; simpa using h)
          · first | exact HF.out.set gT i _ (.inl rfl) | exact (HF.out.step (pw_below_drewN (Below.refl _ _) _)).set gT i _ (.inl rfl)
        · omega
      · go_upto_region 4 with (fail)
        go_quiet ((fail))
        go_wp2
        go_roundg k1
        case rel =>
          refine ⟨i + 1, rfl, ⟨by have := HA.out; omega⟩, ⟨?_⟩, ⟨?_⟩⟩
          · have h := blk_set HG.out i (.int .u32 (b2i (bf i)))
            rw [Qt.out, show b2i true = 1 from rfl] at h
            rw [← tmpAt_set bf ts n i (by have := QT.out; have := QI.out; omega), Qt.out, show b2i true = 1 from rfl]
            first | (simpa using h) | (show (wr.setCell _ _).heap[gT]? = _; simpa using h)
          · first | exact HF.out.set gT i _ (.inl rfl) | exact (HF.out.step (pw_below_drewN (Below.refl _ _) _)).set gT i _ (.inl rfl)
        · omega
set_option maxHeartbeats 8000000 in
set_option maxRecDepth 100000 in
theorem sa0_is (x : Dc) (gr oB nB cB : Nat) (ys : List Dc) (gT cT n gm : Nat) (ts : List Value) (w : World) (hr : w.heap[gr]? = some (.cells (cI ys).toArray 50 (0, 0))) (hnr : gr ≠ gT) (hB : oB + n ≤ ys.length) (hnB : n = nB) (hm : w.heap[gm]? = some (.cells #[.func (.func 58) #[] #[], .func (.func 60) #[] #[]] 74 (0, 0))) (hnm : gm ≠ gT) (ht : w.heap[gT]? = some (.cells ts.toArray 158 (0, 0))) (hT : n ≤ ts.length) (hn : n ≤ 1000000) :
    Calls Tryd.prog 47 #[.agg #[.int .u64 x.1, .int .i64 x.2], .slice (some ⟨gr, oB * 2, none⟩) nB cB, .slice (some ⟨gT, 0, none⟩) n cT] w fun e w' => e = .returned (.tuple #[]) ∧ w'.heap[gT]? = some (.cells (cU (fun i => cmpB 0 (x) (rdD ys (oB + i))) n ++ ts.drop n).toArray 158 (0, 0)) ∧ Fr w w' gT gT := by
  subst hnB
  obtain ⟨bf, hbf⟩ : ∃ bf : Nat → Bool, bf = fun i => cmpB 0 (x) (rdD ys (oB + i)) := ⟨_, rfl⟩
  rw [← hbf]
  have Qb := Aside0.mk hbf
  have QR := Aside0.mk (And.intro hr (And.intro hnr hB))
  have QT := Aside0.mk (And.intro ht hT)
  have QM := Aside0.mk (And.intro hm hnm)
  have hni : (n : Int) ≤ 1000000 := by omega
  clear ht hT hbf hn hm hnm hr hnr hB
  go_enter Tryd.func47, Tryd.ntmps47
  go_upto_region 1 with (fail)
  obtain ⟨W1, hW1⟩ : ∃ W1, W1 = w.alloc (.cells #[.int .u64 x.1, .int .i64 x.2] 50) := ⟨_, rfl⟩
  obtain ⟨gy, hgy⟩ : ∃ gy, gy = w.heap.size := ⟨_, rfl⟩
  have QY := Aside0.mk (show W1.heap[gy]? = some (.cells #[.int .u64 x.1, .int .i64 x.2] 50 (0, 0)) ∧ gy ≠ gT by rw [hW1, hgy]; exact ⟨blk_new w _, by have := blk_lt QT.out.1; omega⟩)
  have Q0 := Aside0.mk (show Below w.heap.size w W1 by rw [hW1]; exact b2 w _)
  rw [← hW1, ← hgy]
  replace QT := Aside0.mk (And.intro ((Q0.out.block gT (blk_lt QT.out.1)).trans QT.out.1) QT.out.2)
  replace QM := Aside0.mk (And.intro ((Q0.out.block gm (blk_lt QM.out.1)).trans QM.out.1) QM.out.2)
  replace QR := Aside0.mk (And.intro ((Q0.out.block gr (blk_lt QR.out.1)).trans QR.out.1) QR.out.2)
  clear hW1 hgy
  go_upto_region 2 with (fail)
  go_loopg [9] n (fun kq v9 w' => ∃ i : Nat, v9 = .int .i64 (i : Int) ∧ Aside0 (i + kq = n) ∧ Aside0 (w'.heap[gT]? = some (.cells (cU bf i ++ ts.drop i).toArray 158 (0, 0))) ∧ Aside0 (Fr W1 w' gT gT))
  case atStart => exact ⟨0, rfl, ⟨by omega⟩, ⟨QT.out.1⟩, ⟨Fr.refl _ _ _⟩⟩
  case round =>
    obtain ⟨i, rfl, HA, HG, HF⟩ := hrel
    rcases Nat.eq_zero_or_pos gk with h0 | h0
    · have hi : ((i : Int) < (n : Int)) = False := by have := HA.out; simp; omega
      go_wp2
      go_end0
      obtain rfl : i = n := by have := HA.out; omega
      exact ⟨rfl, HG.out, (Fr.of_below Q0.out).trans HF.out⟩
    · have hi : (i : Int) < (n : Int) := by have := HA.out; omega
      have hi2 : i < n := by omega
      have QI := Aside0.mk hi2
      obtain ⟨k1, rfl⟩ : ∃ k1, gk = k1 + 1 := ⟨gk - 1, by omega⟩
      have hlen : i < (cU bf i ++ ts.drop i).length := by rw [List.length_append, cU_len, List.length_drop]; have := QT.out; omega
      obtain ⟨u0, k0⟩ : ∃ u, wr.cell? ⟨gT, i, none⟩ = some u := ⟨(cU bf i ++ ts.drop i)[i], (blk_cell HG.out _).trans (by rw [List.getElem?_toArray, List.getElem?_eq_getElem hlen])⟩
      have z0 := blk_frozen HG.out i
      obtain ⟨kr, kr'⟩ := cI_cells (o := oB) (i := i) ((HF.out.far gr (blk_lt QR.out.1) QR.out.2.1 QR.out.2.1).trans QR.out.1) (by have := QR.out; omega)
      obtain ⟨b, hb⟩ : ∃ b, b = rdD ys (oB + i) := ⟨_, rfl⟩
      rw [← hb] at kr kr'
      have ky := blk_cell ((HF.out.far gy (blk_lt QY.out.1) QY.out.2 QY.out.2).trans QY.out.1) 0
      have ky' := blk_cell ((HF.out.far gy (blk_lt QY.out.1) QY.out.2 QY.out.2).trans QY.out.1) 1
      simp only [List.getElem?_toArray, List.getElem?_cons_succ, List.getElem?_cons_zero] at ky ky'
      obtain ⟨t, ht⟩ : ∃ t, t = cmpB 0 x b := ⟨_, rfl⟩
      have Qt := Aside0.mk (show bf i = t by rw [Qb.out, ht, hb])
      unfold cmpB at ht
      clear h0 hlen hb
      have heq := fun w => eq_is 9998 w x.1 b.1 x.2 b.2
      have heg := eqg_is
      have he1 : ((x.1 == b.1 && x.2 == b.2)) = t := ht.symm
      clear ht
      cases t
      · go_upto_region 4 with (fail)
        go_quiet ((fail))
        go_wp2
        go_roundg k1
        case rel =>
          refine ⟨i + 1, rfl, ⟨by have := HA.out; omega⟩, ⟨?_⟩, ⟨?_⟩⟩
          · have h := blk_set HG.out i (.int .u32 (b2i (bf i)))
            rw [Qt.out, show b2i false = 0 from rfl] at h
            rw [← tmpAt_set bf ts n i (by have := QT.out; have := QI.out; omega), Qt.out, show b2i false = 0 from rfl]
            first | (simpa using h) | (show (wr.setCell _ _).heap[gT]? = _; simpa using h)
          · first | exact HF.out.set gT i _ (.inl rfl) | exact (HF.out.step (pw_below_drewN (Below.refl _ _) _)).set gT i _ (.inl rfl)
        · omega
      · go_upto_region 4 with (fail)
        go_quiet ((fail))
        go_wp2
        go_roundg k1
        case rel =>
          refine ⟨i + 1, rfl, ⟨by have := HA.out; omega⟩, ⟨?_⟩, ⟨?_⟩⟩
          · have h := blk_set HG.out i (.int .u32 (b2i (bf i)))
            rw [Qt.out, show b2i true = 1 from rfl] at h
            rw [← tmpAt_set bf ts n i (by have := QT.out; have := QI.out; omega), Qt.out, show b2i true = 1 from rfl]
            first | (simpa using h) | (show (wr.setCell _ _).heap[gT]? = _; simpa using h)
          · first | exact HF.out.set gT i _ (.inl rfl) | exact (HF.out.step (pw_below_drewN (Below.refl _ _) _)).set gT i _ (.inl rfl)
        · omega
set_option maxHeartbeats 8000000 in
set_option maxRecDepth 100000 in
theorem aa1_is (gl oA nA cA : Nat) (xs : List Dc) (gr oB nB cB : Nat) (ys : List Dc) (gT cT n gm : Nat) (ts : List Value) (w : World) (hl : w.heap[gl]? = some (.cells (cI xs).toArray 50 (0, 0))) (hnl : gl ≠ gT) (hA : oA + n ≤ xs.length) (hnA : n = nA) (hr : w.heap[gr]? = some (.cells (cI ys).toArray 50 (0, 0))) (hnr : gr ≠ gT) (hB : oB + n ≤ ys.length) (hnB : n = nB) (hm : w.heap[gm]? = some (.cells #[.func (.func 58) #[] #[], .func (.func 60) #[] #[]] 74 (0, 0))) (hnm : gm ≠ gT) (ht : w.heap[gT]? = some (.cells ts.toArray 158 (0, 0))) (hT : n ≤ ts.length) (hn : n ≤ 1000000) :
    Calls Tryd.prog 48 #[.slice (some ⟨gl, oA * 2, none⟩) nA cA, .slice (some ⟨gr, oB * 2, none⟩) nB cB, .slice (some ⟨gT, 0, none⟩) n cT] w fun e w' => e = .returned (.tuple #[]) ∧ w'.heap[gT]? = some (.cells (cU (fun i => cmpB 1 (rdD xs (oA + i)) (rdD ys (oB + i))) n ++ ts.drop n).toArray 158 (0, 0)) ∧ Fr w w' gT gT := by
  subst hnA
  subst hnB
  obtain ⟨bf, hbf⟩ : ∃ bf : Nat → Bool, bf = fun i => cmpB 1 (rdD xs (oA + i)) (rdD ys (oB + i)) := ⟨_, rfl⟩
  rw [← hbf]
  have Qb := Aside0.mk hbf
  have QL := Aside0.mk (And.intro hl (And.intro hnl hA))
  have QR := Aside0.mk (And.intro hr (And.intro hnr hB))
  have QT := Aside0.mk (And.intro ht hT)
  have QM := Aside0.mk (And.intro hm hnm)
  have hni : (n : Int) ≤ 1000000 := by omega
  clear ht hT hbf hn hm hnm hl hnl hA hr hnr hB
  go_enter Tryd.func48, Tryd.ntmps48
  go_upto_region 1 with (fail)
  go_loopg [9] n (fun kq v9 w' => ∃ i : Nat, v9 = .int .i64 (i : Int) ∧ Aside0 (i + kq = n) ∧ Aside0 (w'.heap[gT]? = some (.cells (cU bf i ++ ts.drop i).toArray 158 (0, 0))) ∧ Aside0 (Fr w w' gT gT))
  case atStart => exact ⟨0, rfl, ⟨by omega⟩, ⟨QT.out.1⟩, ⟨Fr.refl _ _ _⟩⟩
  case round =>
    obtain ⟨i, rfl, HA, HG, HF⟩ := hrel
    rcases Nat.eq_zero_or_pos gk with h0 | h0
    · have hi : ((i : Int) < (n : Int)) = False := by have := HA.out; simp; omega
      go_wp2
      go_end0
      obtain rfl : i = n := by have := HA.out; omega
      exact ⟨rfl, HG.out, HF.out⟩
    · have hi : (i : Int) < (n : Int) := by have := HA.out; omega
      have hi2 : i < n := by omega
      have QI := Aside0.mk hi2
      obtain ⟨k1, rfl⟩ : ∃ k1, gk = k1 + 1 := ⟨gk - 1, by omega⟩
      have hlen : i < (cU bf i ++ ts.drop i).length := by rw [List.length_append, cU_len, List.length_drop]; have := QT.out; omega
      obtain ⟨u0, k0⟩ : ∃ u, wr.cell? ⟨gT, i, none⟩ = some u := ⟨(cU bf i ++ ts.drop i)[i], (blk_cell HG.out _).trans (by rw [List.getElem?_toArray, List.getElem?_eq_getElem hlen])⟩
      have z0 := blk_frozen HG.out i
      obtain ⟨kl, kl'⟩ := cI_cells (o := oA) (i := i) ((HF.out.far gl (blk_lt QL.out.1) QL.out.2.1 QL.out.2.1).trans QL.out.1) (by have := QL.out; omega)
      obtain ⟨a, ha⟩ : ∃ a, a = rdD xs (oA + i) := ⟨_, rfl⟩
      rw [← ha] at kl kl'
      obtain ⟨kr, kr'⟩ := cI_cells (o := oB) (i := i) ((HF.out.far gr (blk_lt QR.out.1) QR.out.2.1 QR.out.2.1).trans QR.out.1) (by have := QR.out; omega)
      obtain ⟨b, hb⟩ : ∃ b, b = rdD ys (oB + i) := ⟨_, rfl⟩
      rw [← hb] at kr kr'
      obtain ⟨t, ht⟩ : ∃ t, t = cmpB 1 a b := ⟨_, rfl⟩
      have Qt := Aside0.mk (show bf i = t by rw [Qb.out, ht, ha, hb])
      unfold cmpB at ht
      clear h0 hlen ha hb
      have heq := fun w => eq_is 9998 w a.1 b.1 a.2 b.2
      have heg := eqg_is
      have he1 : (!(a.1 == b.1 && a.2 == b.2)) = t := ht.symm
      have he2 : (!(a.1 == b.1) || !(a.2 == b.2)) = t := by rw [← he1, Bool.not_and]
      have he3 : (a.1 != b.1 || a.2 != b.2) = t := he2
      clear ht
      cases t
      · go_upto_region 3 with (fail)
        go_quiet ((fail))
        go_wp2
        go_roundg k1
        case rel =>
          refine ⟨i + 1, rfl, ⟨by have := HA.out; omega⟩, ⟨?_⟩, ⟨?_⟩⟩
          · have h := blk_set HG.out i (.int .u32 (b2i (bf i)))
            rw [Qt.out, show b2i false = 0 from rfl] at h
            rw [← tmpAt_set bf ts n i (by have := QT.out; have := QI.out; omega), Qt.out, show b2i false = 0 from rfl]
            first | (simpa using h) | (show (wr.setCell _ _).heap[gT]? = _; simpa using h)
          · first | exact HF.out.set gT i _ (.inl rfl) | exact (HF.out.step (pw_below_drewN (Below.refl _ _) _)).set gT i _ (.inl rfl)
        · omega
      · go_upto_region 3 with (fail)
        go_quiet ((fail))
        go_wp2
        go_roundg k1
        case rel =>
          refine ⟨i + 1, rfl, ⟨by have := HA.out; omega⟩, ⟨?_⟩, ⟨?_⟩⟩
          · have h := blk_set HG.out i (.int .u32 (b2i (bf i)))
            rw [Qt.out, show b2i true = 1 from rfl] at h
            rw [← tmpAt_set bf ts n i (by have := QT.out; have := QI.out; omega), Qt.out, show b2i true = 1 from rfl]
            first | (simpa using h) | (show (wr.setCell _ _).heap[gT]? = _; simpa using h)
          · first | exact HF.out.set gT i _ (.inl rfl) | exact (HF.out.step (pw_below_drewN (Below.refl _ _) _)).set gT i _ (.inl rfl)
        · omega
set_option maxHeartbeats 8000000 in
set_option maxRecDepth 100000 in
theorem as1_is (gl oA nA cA : Nat) (xs : List Dc) (y : Dc) (gT cT n gm : Nat) (ts : List Value) (w : World) (hl : w.heap[gl]? = some (.cells (cI xs).toArray 50 (0, 0))) (hnl : gl ≠ gT) (hA : oA + n ≤ xs.length) (hnA : n = nA) (hm : w.heap[gm]? = some (.cells #[.func (.func 58) #[] #[], .func (.func 60) #[] #[]] 74 (0, 0))) (hnm : gm ≠ gT) (ht : w.heap[gT]? = some (.cells ts.toArray 158 (0, 0))) (hT : n ≤ ts.length) (hn : n ≤ 1000000) :
    Calls Tryd.prog 49 #[.slice (some ⟨gl, oA * 2, none⟩) nA cA, .agg #[.int .u64 y.1, .int .i64 y.2], .slice (some ⟨gT, 0, none⟩) n cT] w fun e w' => e = .returned (.tuple #[]) ∧ w'.heap[gT]? = some (.cells (cU (fun i => cmpB 1 (rdD xs (oA + i)) (y)) n ++ ts.drop n).toArray 158 (0, 0)) ∧ Fr w w' gT gT := by
  subst hnA
  obtain ⟨bf, hbf⟩ : ∃ bf : Nat → Bool, bf = fun i => cmpB 1 (rdD xs (oA + i)) (y) := ⟨_, rfl⟩
  rw [← hbf]
  have Qb := Aside0.mk hbf
  have QL := Aside0.mk (And.intro hl (And.intro hnl hA))
  have QT := Aside0.mk (And.intro ht hT)
  have QM := Aside0.mk (And.intro hm hnm)
  have hni : (n : Int) ≤ 1000000 := by omega
  clear ht hT hbf hn hm hnm hl hnl hA
  go_enter Tryd.func49, Tryd.ntmps49
  go_upto_region 1 with (fail)
  obtain ⟨W1, hW1⟩ : ∃ W1, W1 = w.alloc (.cells #[.int .u64 y.1, .int .i64 y.2] 50) := ⟨_, rfl⟩
  obtain ⟨gy, hgy⟩ : ∃ gy, gy = w.heap.size := ⟨_, rfl⟩
  have QY := Aside0.mk (show W1.heap[gy]? = some (.cells #[.int .u64 y.1, .int .i64 y.2] 50 (0, 0)) ∧ gy ≠ gT by rw [hW1, hgy]; exact ⟨blk_new w _, by have := blk_lt QT.out.1; omega⟩)
  have Q0 := Aside0.mk (show Below w.heap.size w W1 by rw [hW1]; exact b2 w _)
  rw [← hW1, ← hgy]
  replace QT := Aside0.mk (And.intro ((Q0.out.block gT (blk_lt QT.out.1)).trans QT.out.1) QT.out.2)
  replace QM := Aside0.mk (And.intro ((Q0.out.block gm (blk_lt QM.out.1)).trans QM.out.1) QM.out.2)
  replace QL := Aside0.mk (And.intro ((Q0.out.block gl (blk_lt QL.out.1)).trans QL.out.1) QL.out.2)
  clear hW1 hgy
  go_upto_region 2 with (fail)
  go_loopg [9] n (fun kq v9 w' => ∃ i : Nat, v9 = .int .i64 (i : Int) ∧ Aside0 (i + kq = n) ∧ Aside0 (w'.heap[gT]? = some (.cells (cU bf i ++ ts.drop i).toArray 158 (0, 0))) ∧ Aside0 (Fr W1 w' gT gT))
  case atStart => exact ⟨0, rfl, ⟨by omega⟩, ⟨QT.out.1⟩, ⟨Fr.refl _ _ _⟩⟩
  case round =>
    obtain ⟨i, rfl, HA, HG, HF⟩ := hrel
    rcases Nat.eq_zero_or_pos gk with h0 | h0
    · have hi : ((i : Int) < (n : Int)) = False := by have := HA.out; simp; omega
      go_wp2
      go_end0
      obtain rfl : i = n := by have := HA.out; omega
      exact ⟨rfl, HG.out, (Fr.of_below Q0.out).trans HF.out⟩
    · have hi : (i : Int) < (n : Int) := by have := HA.out; omega
      have hi2 : i < n := by omega
      have QI := Aside0.mk hi2
      obtain ⟨k1, rfl⟩ : ∃ k1, gk = k1 + 1 := ⟨gk - 1, by omega⟩
      have hlen : i < (cU bf i ++ ts.drop i).length := by rw [List.length_append, cU_len, List.length_drop]; have := QT.out; omega
      obtain ⟨u0, k0⟩ : ∃ u, wr.cell? ⟨gT, i, none⟩ = some u := ⟨(cU bf i ++ ts.drop i)[i], (blk_cell HG.out _).trans (by rw [List.getElem?_toArray, List.getElem?_eq_getElem hlen])⟩
      have z0 := blk_frozen HG.out i
      obtain ⟨kl, kl'⟩ := cI_cells (o := oA) (i := i) ((HF.out.far gl (blk_lt QL.out.1) QL.out.2.1 QL.out.2.1).trans QL.out.1) (by have := QL.out; omega)
      obtain ⟨a, ha⟩ : ∃ a, a = rdD xs (oA + i) := ⟨_, rfl⟩
      rw [← ha] at kl kl'
      have ky := blk_cell ((HF.out.far gy (blk_lt QY.out.1) QY.out.2 QY.out.2).trans QY.out.1) 0
      have ky' := blk_cell ((HF.out.far gy (blk_lt QY.out.1) QY.out.2 QY.out.2).trans QY.out.1) 1
      simp only [List.getElem?_toArray, List.getElem?_cons_succ, List.getElem?_cons_zero] at ky ky'
      obtain ⟨t, ht⟩ : ∃ t, t = cmpB 1 a y := ⟨_, rfl⟩
      have Qt := Aside0.mk (show bf i = t by rw [Qb.out, ht, ha])
      unfold cmpB at ht
      clear h0 hlen ha 
      have heq := fun w => eq_is 9998 w a.1 y.1 a.2 y.2
      have heg := eqg_is
      have he1 : (!(a.1 == y.1 && a.2 == y.2)) = t := ht.symm
      have he2 : (!(a.1 == y.1) || !(a.2 == y.2)) = t := by rw [← he1, Bool.not_and]
      have he3 : (a.1 != y.1 || a.2 != y.2) = t := he2
      clear ht
      cases t
      · go_upto_region 4 with (fail)
        go_quiet ((fail))
        go_wp2
        go_roundg k1
        case rel =>
          refine ⟨i + 1, rfl, ⟨by have := HA.out; omega⟩, ⟨?_⟩, ⟨?_⟩⟩
          · have h := blk_set HG.out i (.int .u32 (b2i (bf i)))
            rw [Qt.out, show b2i false = 0 from rfl] at h
            rw [← tmpAt_set bf ts n i (by have := QT.out; have := QI.out; omega), Qt.out, show b2i false = 0 from rfl]
            first | (simpa using h) | (show (wr.setCell _ _).heap[gT]? = _; simpa using h)
          · first | exact HF.out.set gT i _ (.inl rfl) | exact (HF.out.step (pw_below_drewN (Below.refl _ _) _)).set gT i _ (.inl rfl)
        · omega
      · go_upto_region 4 with (fail)
        go_quiet ((fail))
        go_wp2
        go_roundg k1
        case rel =>
          refine ⟨i + 1, rfl, ⟨by have := HA.out; omega⟩, ⟨?_⟩, ⟨?_⟩⟩
          · have h := blk_set HG.out i (.int .u32 (b2i (bf i)))
            rw [Qt.out, show b2i true = 1 from rfl] at h
            rw [← tmpAt_set bf ts n i (by have := QT.out; have := QI.out; omega), Qt.out, show b2i true = 1 from rfl]
            first | (simpa using h) | (show (wr.setCell _ _).heap[gT]? = _; simpa using h)
          · first | exact HF.out.set gT i _ (.inl rfl) | exact (HF.out.step (pw_below_drewN (Below.refl _ _) _)).set gT i _ (.inl rfl)
        · omega
set_option maxHeartbeats 8000000 in
set_option maxRecDepth 100000 in
theorem sa1_is (x : Dc) (gr oB nB cB : Nat) (ys : List Dc) (gT cT n gm : Nat) (ts : List Value) (w : World) (hr : w.heap[gr]? = some (.cells (cI ys).toArray 50 (0, 0))) (hnr : gr ≠ gT) (hB : oB + n ≤ ys.length) (hnB : n = nB) (hm : w.heap[gm]? = some (.cells #[.func (.func 58) #[] #[], .func (.func 60) #[] #[]] 74 (0, 0))) (hnm : gm ≠ gT) (ht : w.heap[gT]? = some (.cells ts.toArray 158 (0, 0))) (hT : n ≤ ts.length) (hn : n ≤ 1000000) :
    Calls Tryd.prog 50 #[.agg #[.int .u64 x.1, .int .i64 x.2], .slice (some ⟨gr, oB * 2, none⟩) nB cB, .slice (some ⟨gT, 0, none⟩) n cT] w fun e w' => e = .returned (.tuple #[]) ∧ w'.heap[gT]? = some (.cells (cU (fun i => cmpB 1 (x) (rdD ys (oB + i))) n ++ ts.drop n).toArray 158 (0, 0)) ∧ Fr w w' gT gT := by
  subst hnB
  obtain ⟨bf, hbf⟩ : ∃ bf : Nat → Bool, bf = fun i => cmpB 1 (x) (rdD ys (oB + i)) := ⟨_, rfl⟩
  rw [← hbf]
  have Qb := Aside0.mk hbf
  have QR := Aside0.mk (And.intro hr (And.intro hnr hB))
  have QT := Aside0.mk (And.intro ht hT)
  have QM := Aside0.mk (And.intro hm hnm)
  have hni : (n : Int) ≤ 1000000 := by omega
  clear ht hT hbf hn hm hnm hr hnr hB
  go_enter Tryd.func50, Tryd.ntmps50
  go_upto_region 1 with (fail)
  obtain ⟨W1, hW1⟩ : ∃ W1, W1 = w.alloc (.cells #[.int .u64 x.1, .int .i64 x.2] 50) := ⟨_, rfl⟩
  obtain ⟨gy, hgy⟩ : ∃ gy, gy = w.heap.size := ⟨_, rfl⟩
  have QY := Aside0.mk (show W1.heap[gy]? = some (.cells #[.int .u64 x.1, .int .i64 x.2] 50 (0, 0)) ∧ gy ≠ gT by rw [hW1, hgy]; exact ⟨blk_new w _, by have := blk_lt QT.out.1; omega⟩)
  have Q0 := Aside0.mk (show Below w.heap.size w W1 by rw [hW1]; exact b2 w _)
  rw [← hW1, ← hgy]
  replace QT := Aside0.mk (And.intro ((Q0.out.block gT (blk_lt QT.out.1)).trans QT.out.1) QT.out.2)
  replace QM := Aside0.mk (And.intro ((Q0.out.block gm (blk_lt QM.out.1)).trans QM.out.1) QM.out.2)
  replace QR := Aside0.mk (And.intro ((Q0.out.block gr (blk_lt QR.out.1)).trans QR.out.1) QR.out.2)
  clear hW1 hgy
  go_upto_region 2 with (fail)
  go_loopg [9] n (fun kq v9 w' => ∃ i : Nat, v9 = .int .i64 (i : Int) ∧ Aside0 (i + kq = n) ∧ Aside0 (w'.heap[gT]? = some (.cells (cU bf i ++ ts.drop i).toArray 158 (0, 0))) ∧ Aside0 (Fr W1 w' gT gT))
  case atStart => exact ⟨0, rfl, ⟨by omega⟩, ⟨QT.out.1⟩, ⟨Fr.refl _ _ _⟩⟩
  case round =>
    obtain ⟨i, rfl, HA, HG, HF⟩ := hrel
    rcases Nat.eq_zero_or_pos gk with h0 | h0
    · have hi : ((i : Int) < (n : Int)) = False := by have := HA.out; simp; omega
      go_wp2
      go_end0
      obtain rfl : i = n := by have := HA.out; omega
      exact ⟨rfl, HG.out, (Fr.of_below Q0.out).trans HF.out⟩
    · have hi : (i : Int) < (n : Int) := by have := HA.out; omega
      have hi2 : i < n := by omega
      have QI := Aside0.mk hi2
      obtain ⟨k1, rfl⟩ : ∃ k1, gk = k1 + 1 := ⟨gk - 1, by omega⟩
      have hlen : i < (cU bf i ++ ts.drop i).length := by rw [List.length_append, cU_len, List.length_drop]; have := QT.out; omega
      obtain ⟨u0, k0⟩ : ∃ u, wr.cell? ⟨gT, i, none⟩ = some u := ⟨(cU bf i ++ ts.drop i)[i], (blk_cell HG.out _).trans (by rw [List.getElem?_toArray, List.getElem?_eq_getElem hlen])⟩
      have z0 := blk_frozen HG.out i
      obtain ⟨kr, kr'⟩ := cI_cells (o := oB) (i := i) ((HF.out.far gr (blk_lt QR.out.1) QR.out.2.1 QR.out.2.1).trans QR.out.1) (by have := QR.out; omega)
      obtain ⟨b, hb⟩ : ∃ b, b = rdD ys (oB + i) := ⟨_, rfl⟩
      rw [← hb] at kr kr'
      have ky := blk_cell ((HF.out.far gy (blk_lt QY.out.1) QY.out.2 QY.out.2).trans QY.out.1) 0
      have ky' := blk_cell ((HF.out.far gy (blk_lt QY.out.1) QY.out.2 QY.out.2).trans QY.out.1) 1
      simp only [List.getElem?_toArray, List.getElem?_cons_succ, List.getElem?_cons_zero] at ky ky'
      obtain ⟨t, ht⟩ : ∃ t, t = cmpB 1 x b := ⟨_, rfl⟩
      have Qt := Aside0.mk (show bf i = t by rw [Qb.out, ht, hb])
      unfold cmpB at ht
      clear h0 hlen hb
      have heq := fun w => eq_is 9998 w x.1 b.1 x.2 b.2
      have heg := eqg_is
      have he1 : (!(x.1 == b.1 && x.2 == b.2)) = t := ht.symm
      have he2 : (!(x.1 == b.1) || !(x.2 == b.2)) = t := by rw [← he1, Bool.not_and]
      have he3 : (x.1 != b.1 || x.2 != b.2) = t := he2
      clear ht
      cases t
      · go_upto_region 4 with (fail)
        go_quiet ((fail))
        go_wp2
        go_roundg k1
        case rel =>
          refine ⟨i + 1, rfl, ⟨by have := HA.out; omega⟩, ⟨?_⟩, ⟨?_⟩⟩
          · have h := blk_set HG.out i (.int .u32 (b2i (bf i)))
            rw [Qt.out, show b2i false = 0 from rfl] at h
            rw [← tmpAt_set bf ts n i (by have := QT.out; have := QI.out; omega), Qt.out, show b2i false = 0 from rfl]
            first | (simpa using h) | (show (wr.setCell _ _).heap[gT]? = _; simpa using h)
          · first | exact HF.out.set gT i _ (.inl rfl) | exact (HF.out.step (pw_below_drewN (Below.refl _ _) _)).set gT i _ (.inl rfl)
        · omega
      · go_upto_region 4 with (fail)
        go_quiet ((fail))
        go_wp2
        go_roundg k1
        case rel =>
          refine ⟨i + 1, rfl, ⟨by have := HA.out; omega⟩, ⟨?_⟩, ⟨?_⟩⟩
          · have h := blk_set HG.out i (.int .u32 (b2i (bf i)))
            rw [Qt.out, show b2i true = 1 from rfl] at h
            rw [← tmpAt_set bf ts n i (by have := QT.out; have := QI.out; omega), Qt.out, show b2i true = 1 from rfl]
            first | (simpa using h) | (show (wr.setCell _ _).heap[gT]? = _; simpa using h)
          · first | exact HF.out.set gT i _ (.inl rfl) | exact (HF.out.step (pw_below_drewN (Below.refl _ _) _)).set gT i _ (.inl rfl)
        · omega
set_option maxHeartbeats 8000000 in
set_option maxRecDepth 100000 in
theorem aa2_is (gl oA nA cA : Nat) (xs : List Dc) (gr oB nB cB : Nat) (ys : List Dc) (gT cT n gm : Nat) (ts : List Value) (w : World) (hl : w.heap[gl]? = some (.cells (cI xs).toArray 50 (0, 0))) (hnl : gl ≠ gT) (hA : oA + n ≤ xs.length) (hnA : n = nA) (hr : w.heap[gr]? = some (.cells (cI ys).toArray 50 (0, 0))) (hnr : gr ≠ gT) (hB : oB + n ≤ ys.length) (hnB : n = nB) (hm : w.heap[gm]? = some (.cells #[.func (.func 58) #[] #[], .func (.func 60) #[] #[]] 74 (0, 0))) (hnm : gm ≠ gT) (ht : w.heap[gT]? = some (.cells ts.toArray 158 (0, 0))) (hT : n ≤ ts.length) (hn : n ≤ 1000000) :
    Calls Tryd.prog 51 #[.slice (some ⟨gl, oA * 2, none⟩) nA cA, .slice (some ⟨gr, oB * 2, none⟩) nB cB, .slice (some ⟨gT, 0, none⟩) n cT, .pointer (some ⟨gm, 0, none⟩)] w fun e w' => e = .returned (.tuple #[]) ∧ w'.heap[gT]? = some (.cells (cU (fun i => cmpB 2 (rdD xs (oA + i)) (rdD ys (oB + i))) n ++ ts.drop n).toArray 158 (0, 0)) ∧ Fr w w' gT gT := by
  subst hnA
  subst hnB
  obtain ⟨bf, hbf⟩ : ∃ bf : Nat → Bool, bf = fun i => cmpB 2 (rdD xs (oA + i)) (rdD ys (oB + i)) := ⟨_, rfl⟩
  rw [← hbf]
  have Qb := Aside0.mk hbf
  have QL := Aside0.mk (And.intro hl (And.intro hnl hA))
  have QR := Aside0.mk (And.intro hr (And.intro hnr hB))
  have QT := Aside0.mk (And.intro ht hT)
  have QM := Aside0.mk (And.intro hm hnm)
  have hni : (n : Int) ≤ 1000000 := by omega
  clear ht hT hbf hn hm hnm hl hnl hA hr hnr hB
  go_enter Tryd.func51, Tryd.ntmps51
  go_upto_region 1 with (fail)
  go_loopg [10] n (fun kq v9 w' => ∃ i : Nat, v9 = .int .i64 (i : Int) ∧ Aside0 (i + kq = n) ∧ Aside0 (w'.heap[gT]? = some (.cells (cU bf i ++ ts.drop i).toArray 158 (0, 0))) ∧ Aside0 (Fr w w' gT gT))
  case atStart => exact ⟨0, rfl, ⟨by omega⟩, ⟨QT.out.1⟩, ⟨Fr.refl _ _ _⟩⟩
  case round =>
    obtain ⟨i, rfl, HA, HG, HF⟩ := hrel
    rcases Nat.eq_zero_or_pos gk with h0 | h0
    · have hi : ((i : Int) < (n : Int)) = False := by have := HA.out; simp; omega
      go_wp2
      go_end0
      obtain rfl : i = n := by have := HA.out; omega
      exact ⟨rfl, HG.out, HF.out⟩
    · have hi : (i : Int) < (n : Int) := by have := HA.out; omega
      have hi2 : i < n := by omega
      have QI := Aside0.mk hi2
      obtain ⟨k1, rfl⟩ : ∃ k1, gk = k1 + 1 := ⟨gk - 1, by omega⟩
      have hlen : i < (cU bf i ++ ts.drop i).length := by rw [List.length_append, cU_len, List.length_drop]; have := QT.out; omega
      obtain ⟨kl, kl'⟩ := cI_cells (o := oA) (i := i) ((HF.out.far gl (blk_lt QL.out.1) QL.out.2.1 QL.out.2.1).trans QL.out.1) (by have := QL.out; omega)
      obtain ⟨a, ha⟩ : ∃ a, a = rdD xs (oA + i) := ⟨_, rfl⟩
      rw [← ha] at kl kl'
      obtain ⟨kr, kr'⟩ := cI_cells (o := oB) (i := i) ((HF.out.far gr (blk_lt QR.out.1) QR.out.2.1 QR.out.2.1).trans QR.out.1) (by have := QR.out; omega)
      obtain ⟨b, hb⟩ : ∃ b, b = rdD ys (oB + i) := ⟨_, rfl⟩
      rw [← hb] at kr kr'
      have km := blk_cell ((HF.out.far gm (blk_lt QM.out.1) QM.out.2 QM.out.2).trans QM.out.1) 0
      simp only [List.getElem?_toArray, List.getElem?_cons_succ, List.getElem?_cons_zero] at km
      obtain ⟨t, ht⟩ : ∃ t, t = cmpB 2 a b := ⟨_, rfl⟩
      have Qt := Aside0.mk (show bf i = t by rw [Qb.out, ht, ha, hb])
      have QC := Aside0.mk (fun w => cgt_is a b w)
      rw [show (ltD b a) = t from ht.symm] at QC
      clear ht h0 ha hb
      go_upto_region 3 with (fail)
      change Code.wp _ _ _ _ wr
      have km' : wr.drew.cell? ⟨gm, 0, none⟩ = _ := km
      refine wp_region_still_tail 10 (by kernel_rfl) (by kernel_rfl) ?_
      simp only [List.take_succ_cons, List.take_zero, List.drop_succ_cons, List.drop_zero]
      change wpStill _ _ (World.drew wr) _ _ _
      repeat still_step
      refine wpStill_nil ?_
      change wpList _ _ _ _ _ (World.drew wr)
      go_wp2_with (go_at_call 58; refine (QC.out _).mono ?_; rintro e w2 ⟨rfl, hb⟩; have G2 := Aside0.mk ((hb.block gT (blk_lt HG.out)).trans HG.out); have F2 := Aside0.mk (HF.out.step (show Below wr.heap.size wr w2 from ⟨hb.os, hb.tape, hb.output, hb.size, hb.block⟩)); clear hb; obtain ⟨u0, k0⟩ : ∃ u, w2.cell? ⟨gT, i, none⟩ = some u := ⟨(cU bf i ++ ts.drop i)[i], (blk_cell G2.out _).trans (by rw [List.getElem?_toArray, List.getElem?_eq_getElem hlen])⟩; have z0 := blk_frozen G2.out i; cases t)
      · go_roundg k1
        case rel =>
          refine ⟨i + 1, rfl, ⟨by have := HA.out; omega⟩, ⟨?_⟩, ⟨?_⟩⟩
          · have h := blk_set G2.out i (.int .u32 (b2i (bf i)))
            rw [Qt.out, show b2i false = 0 from rfl] at h
            rw [← tmpAt_set bf ts n i (by have := QT.out; have := QI.out; omega), Qt.out, show b2i false = 0 from rfl]
            first | (simpa using h) | (show (w2.setCell _ _).heap[gT]? = _; simpa using h)
          · first | exact F2.out.set gT i _ (.inl rfl) | exact (F2.out.step (pw_below_drewN (Below.refl _ _) _)).set gT i _ (.inl rfl)
        · omega
      · go_roundg k1
        case rel =>
          refine ⟨i + 1, rfl, ⟨by have := HA.out; omega⟩, ⟨?_⟩, ⟨?_⟩⟩
          · have h := blk_set G2.out i (.int .u32 (b2i (bf i)))
            rw [Qt.out, show b2i true = 1 from rfl] at h
            rw [← tmpAt_set bf ts n i (by have := QT.out; have := QI.out; omega), Qt.out, show b2i true = 1 from rfl]
            first | (simpa using h) | (show (w2.setCell _ _).heap[gT]? = _; simpa using h)
          · first | exact F2.out.set gT i _ (.inl rfl) | exact (F2.out.step (pw_below_drewN (Below.refl _ _) _)).set gT i _ (.inl rfl)
        · omega
set_option maxHeartbeats 8000000 in
set_option maxRecDepth 100000 in
theorem as2_is (gl oA nA cA : Nat) (xs : List Dc) (y : Dc) (gT cT n gm : Nat) (ts : List Value) (w : World) (hl : w.heap[gl]? = some (.cells (cI xs).toArray 50 (0, 0))) (hnl : gl ≠ gT) (hA : oA + n ≤ xs.length) (hnA : n = nA) (hm : w.heap[gm]? = some (.cells #[.func (.func 58) #[] #[], .func (.func 60) #[] #[]] 74 (0, 0))) (hnm : gm ≠ gT) (ht : w.heap[gT]? = some (.cells ts.toArray 158 (0, 0))) (hT : n ≤ ts.length) (hn : n ≤ 1000000) :
    Calls Tryd.prog 52 #[.slice (some ⟨gl, oA * 2, none⟩) nA cA, .agg #[.int .u64 y.1, .int .i64 y.2], .slice (some ⟨gT, 0, none⟩) n cT, .pointer (some ⟨gm, 0, none⟩)] w fun e w' => e = .returned (.tuple #[]) ∧ w'.heap[gT]? = some (.cells (cU (fun i => cmpB 2 (rdD xs (oA + i)) (y)) n ++ ts.drop n).toArray 158 (0, 0)) ∧ Fr w w' gT gT := by
  subst hnA
  obtain ⟨bf, hbf⟩ : ∃ bf : Nat → Bool, bf = fun i => cmpB 2 (rdD xs (oA + i)) (y) := ⟨_, rfl⟩
  rw [← hbf]
  have Qb := Aside0.mk hbf
  have QL := Aside0.mk (And.intro hl (And.intro hnl hA))
  have QT := Aside0.mk (And.intro ht hT)
  have QM := Aside0.mk (And.intro hm hnm)
  have hni : (n : Int) ≤ 1000000 := by omega
  clear ht hT hbf hn hm hnm hl hnl hA
  go_enter Tryd.func52, Tryd.ntmps52
  go_upto_region 1 with (fail)
  obtain ⟨W1, hW1⟩ : ∃ W1, W1 = w.alloc (.cells #[.int .u64 y.1, .int .i64 y.2] 50) := ⟨_, rfl⟩
  obtain ⟨gy, hgy⟩ : ∃ gy, gy = w.heap.size := ⟨_, rfl⟩
  have QY := Aside0.mk (show W1.heap[gy]? = some (.cells #[.int .u64 y.1, .int .i64 y.2] 50 (0, 0)) ∧ gy ≠ gT by rw [hW1, hgy]; exact ⟨blk_new w _, by have := blk_lt QT.out.1; omega⟩)
  have Q0 := Aside0.mk (show Below w.heap.size w W1 by rw [hW1]; exact b2 w _)
  rw [← hW1, ← hgy]
  replace QT := Aside0.mk (And.intro ((Q0.out.block gT (blk_lt QT.out.1)).trans QT.out.1) QT.out.2)
  replace QM := Aside0.mk (And.intro ((Q0.out.block gm (blk_lt QM.out.1)).trans QM.out.1) QM.out.2)
  replace QL := Aside0.mk (And.intro ((Q0.out.block gl (blk_lt QL.out.1)).trans QL.out.1) QL.out.2)
  clear hW1 hgy
  go_upto_region 2 with (fail)
  go_loopg [10] n (fun kq v9 w' => ∃ i : Nat, v9 = .int .i64 (i : Int) ∧ Aside0 (i + kq = n) ∧ Aside0 (w'.heap[gT]? = some (.cells (cU bf i ++ ts.drop i).toArray 158 (0, 0))) ∧ Aside0 (Fr W1 w' gT gT))
  case atStart => exact ⟨0, rfl, ⟨by omega⟩, ⟨QT.out.1⟩, ⟨Fr.refl _ _ _⟩⟩
  case round =>
    obtain ⟨i, rfl, HA, HG, HF⟩ := hrel
    rcases Nat.eq_zero_or_pos gk with h0 | h0
    · have hi : ((i : Int) < (n : Int)) = False := by have := HA.out; simp; omega
      go_wp2
      go_end0
      obtain rfl : i = n := by have := HA.out; omega
      exact ⟨rfl, HG.out, (Fr.of_below Q0.out).trans HF.out⟩
    · have hi : (i : Int) < (n : Int) := by have := HA.out; omega
      have hi2 : i < n := by omega
      have QI := Aside0.mk hi2
      obtain ⟨k1, rfl⟩ : ∃ k1, gk = k1 + 1 := ⟨gk - 1, by omega⟩
      have hlen : i < (cU bf i ++ ts.drop i).length := by rw [List.length_append, cU_len, List.length_drop]; have := QT.out; omega
      obtain ⟨kl, kl'⟩ := cI_cells (o := oA) (i := i) ((HF.out.far gl (blk_lt QL.out.1) QL.out.2.1 QL.out.2.1).trans QL.out.1) (by have := QL.out; omega)
      obtain ⟨a, ha⟩ : ∃ a, a = rdD xs (oA + i) := ⟨_, rfl⟩
      rw [← ha] at kl kl'
      have ky := blk_cell ((HF.out.far gy (blk_lt QY.out.1) QY.out.2 QY.out.2).trans QY.out.1) 0
      have ky' := blk_cell ((HF.out.far gy (blk_lt QY.out.1) QY.out.2 QY.out.2).trans QY.out.1) 1
      simp only [List.getElem?_toArray, List.getElem?_cons_succ, List.getElem?_cons_zero] at ky ky'
      have km := blk_cell ((HF.out.far gm (blk_lt QM.out.1) QM.out.2 QM.out.2).trans QM.out.1) 0
      simp only [List.getElem?_toArray, List.getElem?_cons_succ, List.getElem?_cons_zero] at km
      obtain ⟨t, ht⟩ : ∃ t, t = cmpB 2 a y := ⟨_, rfl⟩
      have Qt := Aside0.mk (show bf i = t by rw [Qb.out, ht, ha])
      have QC := Aside0.mk (fun w => cgt_is a y w)
      rw [show (ltD y a) = t from ht.symm] at QC
      clear ht h0 ha 
      go_upto_region 4 with (fail)
      change Code.wp _ _ _ _ wr
      have km' : wr.drew.cell? ⟨gm, 0, none⟩ = _ := km
      refine wp_region_still_tail 7 (by kernel_rfl) (by kernel_rfl) ?_
      simp only [List.take_succ_cons, List.take_zero, List.drop_succ_cons, List.drop_zero]
      change wpStill _ _ (World.drew wr) _ _ _
      repeat still_step
      refine wpStill_nil ?_
      change wpList _ _ _ _ _ (World.drew wr)
      go_wp2_with (go_at_call 58; refine (QC.out _).mono ?_; rintro e w2 ⟨rfl, hb⟩; have G2 := Aside0.mk ((hb.block gT (blk_lt HG.out)).trans HG.out); have F2 := Aside0.mk (HF.out.step (show Below wr.heap.size wr w2 from ⟨hb.os, hb.tape, hb.output, hb.size, hb.block⟩)); clear hb; obtain ⟨u0, k0⟩ : ∃ u, w2.cell? ⟨gT, i, none⟩ = some u := ⟨(cU bf i ++ ts.drop i)[i], (blk_cell G2.out _).trans (by rw [List.getElem?_toArray, List.getElem?_eq_getElem hlen])⟩; have z0 := blk_frozen G2.out i; cases t)
      · go_roundg k1
        case rel =>
          refine ⟨i + 1, rfl, ⟨by have := HA.out; omega⟩, ⟨?_⟩, ⟨?_⟩⟩
          · have h := blk_set G2.out i (.int .u32 (b2i (bf i)))
            rw [Qt.out, show b2i false = 0 from rfl] at h
            rw [← tmpAt_set bf ts n i (by have := QT.out; have := QI.out; omega), Qt.out, show b2i false = 0 from rfl]
            first | (simpa using h) | (show (w2.setCell _ _).heap[gT]? = _; simpa using h)
          · first | exact F2.out.set gT i _ (.inl rfl) | exact (F2.out.step (pw_below_drewN (Below.refl _ _) _)).set gT i _ (.inl rfl)
        · omega
      · go_roundg k1
        case rel =>
          refine ⟨i + 1, rfl, ⟨by have := HA.out; omega⟩, ⟨?_⟩, ⟨?_⟩⟩
          · have h := blk_set G2.out i (.int .u32 (b2i (bf i)))
            rw [Qt.out, show b2i true = 1 from rfl] at h
            rw [← tmpAt_set bf ts n i (by have := QT.out; have := QI.out; omega), Qt.out, show b2i true = 1 from rfl]
            first | (simpa using h) | (show (w2.setCell _ _).heap[gT]? = _; simpa using h)
          · first | exact F2.out.set gT i _ (.inl rfl) | exact (F2.out.step (pw_below_drewN (Below.refl _ _) _)).set gT i _ (.inl rfl)
        · omega
set_option maxHeartbeats 8000000 in
set_option maxRecDepth 100000 in
theorem sa2_is (x : Dc) (gr oB nB cB : Nat) (ys : List Dc) (gT cT n gm : Nat) (ts : List Value) (w : World) (hr : w.heap[gr]? = some (.cells (cI ys).toArray 50 (0, 0))) (hnr : gr ≠ gT) (hB : oB + n ≤ ys.length) (hnB : n = nB) (hm : w.heap[gm]? = some (.cells #[.func (.func 58) #[] #[], .func (.func 60) #[] #[]] 74 (0, 0))) (hnm : gm ≠ gT) (ht : w.heap[gT]? = some (.cells ts.toArray 158 (0, 0))) (hT : n ≤ ts.length) (hn : n ≤ 1000000) :
    Calls Tryd.prog 53 #[.agg #[.int .u64 x.1, .int .i64 x.2], .slice (some ⟨gr, oB * 2, none⟩) nB cB, .slice (some ⟨gT, 0, none⟩) n cT, .pointer (some ⟨gm, 0, none⟩)] w fun e w' => e = .returned (.tuple #[]) ∧ w'.heap[gT]? = some (.cells (cU (fun i => cmpB 2 (x) (rdD ys (oB + i))) n ++ ts.drop n).toArray 158 (0, 0)) ∧ Fr w w' gT gT := by
  subst hnB
  obtain ⟨bf, hbf⟩ : ∃ bf : Nat → Bool, bf = fun i => cmpB 2 (x) (rdD ys (oB + i)) := ⟨_, rfl⟩
  rw [← hbf]
  have Qb := Aside0.mk hbf
  have QR := Aside0.mk (And.intro hr (And.intro hnr hB))
  have QT := Aside0.mk (And.intro ht hT)
  have QM := Aside0.mk (And.intro hm hnm)
  have hni : (n : Int) ≤ 1000000 := by omega
  clear ht hT hbf hn hm hnm hr hnr hB
  go_enter Tryd.func53, Tryd.ntmps53
  go_upto_region 1 with (fail)
  obtain ⟨W1, hW1⟩ : ∃ W1, W1 = w.alloc (.cells #[.int .u64 x.1, .int .i64 x.2] 50) := ⟨_, rfl⟩
  obtain ⟨gy, hgy⟩ : ∃ gy, gy = w.heap.size := ⟨_, rfl⟩
  have QY := Aside0.mk (show W1.heap[gy]? = some (.cells #[.int .u64 x.1, .int .i64 x.2] 50 (0, 0)) ∧ gy ≠ gT by rw [hW1, hgy]; exact ⟨blk_new w _, by have := blk_lt QT.out.1; omega⟩)
  have Q0 := Aside0.mk (show Below w.heap.size w W1 by rw [hW1]; exact b2 w _)
  rw [← hW1, ← hgy]
  replace QT := Aside0.mk (And.intro ((Q0.out.block gT (blk_lt QT.out.1)).trans QT.out.1) QT.out.2)
  replace QM := Aside0.mk (And.intro ((Q0.out.block gm (blk_lt QM.out.1)).trans QM.out.1) QM.out.2)
  replace QR := Aside0.mk (And.intro ((Q0.out.block gr (blk_lt QR.out.1)).trans QR.out.1) QR.out.2)
  clear hW1 hgy
  go_upto_region 2 with (fail)
  go_loopg [10] n (fun kq v9 w' => ∃ i : Nat, v9 = .int .i64 (i : Int) ∧ Aside0 (i + kq = n) ∧ Aside0 (w'.heap[gT]? = some (.cells (cU bf i ++ ts.drop i).toArray 158 (0, 0))) ∧ Aside0 (Fr W1 w' gT gT))
  case atStart => exact ⟨0, rfl, ⟨by omega⟩, ⟨QT.out.1⟩, ⟨Fr.refl _ _ _⟩⟩
  case round =>
    obtain ⟨i, rfl, HA, HG, HF⟩ := hrel
    rcases Nat.eq_zero_or_pos gk with h0 | h0
    · have hi : ((i : Int) < (n : Int)) = False := by have := HA.out; simp; omega
      go_wp2
      go_end0
      obtain rfl : i = n := by have := HA.out; omega
      exact ⟨rfl, HG.out, (Fr.of_below Q0.out).trans HF.out⟩
    · have hi : (i : Int) < (n : Int) := by have := HA.out; omega
      have hi2 : i < n := by omega
      have QI := Aside0.mk hi2
      obtain ⟨k1, rfl⟩ : ∃ k1, gk = k1 + 1 := ⟨gk - 1, by omega⟩
      have hlen : i < (cU bf i ++ ts.drop i).length := by rw [List.length_append, cU_len, List.length_drop]; have := QT.out; omega
      obtain ⟨kr, kr'⟩ := cI_cells (o := oB) (i := i) ((HF.out.far gr (blk_lt QR.out.1) QR.out.2.1 QR.out.2.1).trans QR.out.1) (by have := QR.out; omega)
      obtain ⟨b, hb⟩ : ∃ b, b = rdD ys (oB + i) := ⟨_, rfl⟩
      rw [← hb] at kr kr'
      have ky := blk_cell ((HF.out.far gy (blk_lt QY.out.1) QY.out.2 QY.out.2).trans QY.out.1) 0
      have ky' := blk_cell ((HF.out.far gy (blk_lt QY.out.1) QY.out.2 QY.out.2).trans QY.out.1) 1
      simp only [List.getElem?_toArray, List.getElem?_cons_succ, List.getElem?_cons_zero] at ky ky'
      have km := blk_cell ((HF.out.far gm (blk_lt QM.out.1) QM.out.2 QM.out.2).trans QM.out.1) 0
      simp only [List.getElem?_toArray, List.getElem?_cons_succ, List.getElem?_cons_zero] at km
      obtain ⟨t, ht⟩ : ∃ t, t = cmpB 2 x b := ⟨_, rfl⟩
      have Qt := Aside0.mk (show bf i = t by rw [Qb.out, ht, hb])
      have QC := Aside0.mk (fun w => cgt_is x b w)
      rw [show (ltD b x) = t from ht.symm] at QC
      clear ht h0 hb
      go_upto_region 4 with (fail)
      change Code.wp _ _ _ _ wr
      have km' : wr.drew.cell? ⟨gm, 0, none⟩ = _ := km
      refine wp_region_still_tail 7 (by kernel_rfl) (by kernel_rfl) ?_
      simp only [List.take_succ_cons, List.take_zero, List.drop_succ_cons, List.drop_zero]
      change wpStill _ _ (World.drew wr) _ _ _
      repeat still_step
      refine wpStill_nil ?_
      change wpList _ _ _ _ _ (World.drew wr)
      go_wp2_with (go_at_call 58; refine (QC.out _).mono ?_; rintro e w2 ⟨rfl, hb⟩; have G2 := Aside0.mk ((hb.block gT (blk_lt HG.out)).trans HG.out); have F2 := Aside0.mk (HF.out.step (show Below wr.heap.size wr w2 from ⟨hb.os, hb.tape, hb.output, hb.size, hb.block⟩)); clear hb; obtain ⟨u0, k0⟩ : ∃ u, w2.cell? ⟨gT, i, none⟩ = some u := ⟨(cU bf i ++ ts.drop i)[i], (blk_cell G2.out _).trans (by rw [List.getElem?_toArray, List.getElem?_eq_getElem hlen])⟩; have z0 := blk_frozen G2.out i; cases t)
      · go_roundg k1
        case rel =>
          refine ⟨i + 1, rfl, ⟨by have := HA.out; omega⟩, ⟨?_⟩, ⟨?_⟩⟩
          · have h := blk_set G2.out i (.int .u32 (b2i (bf i)))
            rw [Qt.out, show b2i false = 0 from rfl] at h
            rw [← tmpAt_set bf ts n i (by have := QT.out; have := QI.out; omega), Qt.out, show b2i false = 0 from rfl]
            first | (simpa using h) | (show (w2.setCell _ _).heap[gT]? = _; simpa using h)
          · first | exact F2.out.set gT i _ (.inl rfl) | exact (F2.out.step (pw_below_drewN (Below.refl _ _) _)).set gT i _ (.inl rfl)
        · omega
      · go_roundg k1
        case rel =>
          refine ⟨i + 1, rfl, ⟨by have := HA.out; omega⟩, ⟨?_⟩, ⟨?_⟩⟩
          · have h := blk_set G2.out i (.int .u32 (b2i (bf i)))
            rw [Qt.out, show b2i true = 1 from rfl] at h
            rw [← tmpAt_set bf ts n i (by have := QT.out; have := QI.out; omega), Qt.out, show b2i true = 1 from rfl]
            first | (simpa using h) | (show (w2.setCell _ _).heap[gT]? = _; simpa using h)
          · first | exact F2.out.set gT i _ (.inl rfl) | exact (F2.out.step (pw_below_drewN (Below.refl _ _) _)).set gT i _ (.inl rfl)
        · omega
set_option maxHeartbeats 8000000 in
set_option maxRecDepth 100000 in
theorem aa3_is (gl oA nA cA : Nat) (xs : List Dc) (gr oB nB cB : Nat) (ys : List Dc) (gT cT n gm : Nat) (ts : List Value) (w : World) (hl : w.heap[gl]? = some (.cells (cI xs).toArray 50 (0, 0))) (hnl : gl ≠ gT) (hA : oA + n ≤ xs.length) (hnA : n = nA) (hr : w.heap[gr]? = some (.cells (cI ys).toArray 50 (0, 0))) (hnr : gr ≠ gT) (hB : oB + n ≤ ys.length) (hnB : n = nB) (hm : w.heap[gm]? = some (.cells #[.func (.func 58) #[] #[], .func (.func 60) #[] #[]] 74 (0, 0))) (hnm : gm ≠ gT) (ht : w.heap[gT]? = some (.cells ts.toArray 158 (0, 0))) (hT : n ≤ ts.length) (hn : n ≤ 1000000) :
    Calls Tryd.prog 54 #[.slice (some ⟨gl, oA * 2, none⟩) nA cA, .slice (some ⟨gr, oB * 2, none⟩) nB cB, .slice (some ⟨gT, 0, none⟩) n cT, .pointer (some ⟨gm, 0, none⟩)] w fun e w' => e = .returned (.tuple #[]) ∧ w'.heap[gT]? = some (.cells (cU (fun i => cmpB 3 (rdD xs (oA + i)) (rdD ys (oB + i))) n ++ ts.drop n).toArray 158 (0, 0)) ∧ Fr w w' gT gT := by
  subst hnA
  subst hnB
  obtain ⟨bf, hbf⟩ : ∃ bf : Nat → Bool, bf = fun i => cmpB 3 (rdD xs (oA + i)) (rdD ys (oB + i)) := ⟨_, rfl⟩
  rw [← hbf]
  have Qb := Aside0.mk hbf
  have QL := Aside0.mk (And.intro hl (And.intro hnl hA))
  have QR := Aside0.mk (And.intro hr (And.intro hnr hB))
  have QT := Aside0.mk (And.intro ht hT)
  have QM := Aside0.mk (And.intro hm hnm)
  have hni : (n : Int) ≤ 1000000 := by omega
  clear ht hT hbf hn hm hnm hl hnl hA hr hnr hB
  go_enter Tryd.func54, Tryd.ntmps54
  go_upto_region 1 with (fail)
  go_loopg [10] n (fun kq v9 w' => ∃ i : Nat, v9 = .int .i64 (i : Int) ∧ Aside0 (i + kq = n) ∧ Aside0 (w'.heap[gT]? = some (.cells (cU bf i ++ ts.drop i).toArray 158 (0, 0))) ∧ Aside0 (Fr w w' gT gT))
  case atStart => exact ⟨0, rfl, ⟨by omega⟩, ⟨QT.out.1⟩, ⟨Fr.refl _ _ _⟩⟩
  case round =>
    obtain ⟨i, rfl, HA, HG, HF⟩ := hrel
    rcases Nat.eq_zero_or_pos gk with h0 | h0
    · have hi : ((i : Int) < (n : Int)) = False := by have := HA.out; simp; omega
      go_wp2
      go_end0
      obtain rfl : i = n := by have := HA.out; omega
      exact ⟨rfl, HG.out, HF.out⟩
    · have hi : (i : Int) < (n : Int) := by have := HA.out; omega
      have hi2 : i < n := by omega
      have QI := Aside0.mk hi2
      obtain ⟨k1, rfl⟩ : ∃ k1, gk = k1 + 1 := ⟨gk - 1, by omega⟩
      have hlen : i < (cU bf i ++ ts.drop i).length := by rw [List.length_append, cU_len, List.length_drop]; have := QT.out; omega
      obtain ⟨kl, kl'⟩ := cI_cells (o := oA) (i := i) ((HF.out.far gl (blk_lt QL.out.1) QL.out.2.1 QL.out.2.1).trans QL.out.1) (by have := QL.out; omega)
      obtain ⟨a, ha⟩ : ∃ a, a = rdD xs (oA + i) := ⟨_, rfl⟩
      rw [← ha] at kl kl'
      obtain ⟨kr, kr'⟩ := cI_cells (o := oB) (i := i) ((HF.out.far gr (blk_lt QR.out.1) QR.out.2.1 QR.out.2.1).trans QR.out.1) (by have := QR.out; omega)
      obtain ⟨b, hb⟩ : ∃ b, b = rdD ys (oB + i) := ⟨_, rfl⟩
      rw [← hb] at kr kr'
      have km := blk_cell ((HF.out.far gm (blk_lt QM.out.1) QM.out.2 QM.out.2).trans QM.out.1) 1
      simp only [List.getElem?_toArray, List.getElem?_cons_succ, List.getElem?_cons_zero] at km
      obtain ⟨t, ht⟩ : ∃ t, t = cmpB 3 a b := ⟨_, rfl⟩
      have Qt := Aside0.mk (show bf i = t by rw [Qb.out, ht, ha, hb])
      have QC := Aside0.mk (fun w => cge_is a b w)
      rw [show (!ltD a b) = t from ht.symm] at QC
      clear ht h0 ha hb
      go_upto_region 3 with (fail)
      change Code.wp _ _ _ _ wr
      have km' : wr.drew.cell? ⟨gm, 1, none⟩ = _ := km
      refine wp_region_still_tail 10 (by kernel_rfl) (by kernel_rfl) ?_
      simp only [List.take_succ_cons, List.take_zero, List.drop_succ_cons, List.drop_zero]
      change wpStill _ _ (World.drew wr) _ _ _
      repeat still_step
      refine wpStill_nil ?_
      change wpList _ _ _ _ _ (World.drew wr)
      go_wp2_with (go_at_call 60; refine (QC.out _).mono ?_; rintro e w2 ⟨rfl, hb⟩; have G2 := Aside0.mk ((hb.block gT (blk_lt HG.out)).trans HG.out); have F2 := Aside0.mk (HF.out.step (show Below wr.heap.size wr w2 from ⟨hb.os, hb.tape, hb.output, hb.size, hb.block⟩)); clear hb; obtain ⟨u0, k0⟩ : ∃ u, w2.cell? ⟨gT, i, none⟩ = some u := ⟨(cU bf i ++ ts.drop i)[i], (blk_cell G2.out _).trans (by rw [List.getElem?_toArray, List.getElem?_eq_getElem hlen])⟩; have z0 := blk_frozen G2.out i; cases t)
      · go_roundg k1
        case rel =>
          refine ⟨i + 1, rfl, ⟨by have := HA.out; omega⟩, ⟨?_⟩, ⟨?_⟩⟩
          · have h := blk_set G2.out i (.int .u32 (b2i (bf i)))
            rw [Qt.out, show b2i false = 0 from rfl] at h
            rw [← tmpAt_set bf ts n i (by have := QT.out; have := QI.out; omega), Qt.out, show b2i false = 0 from rfl]
            first | (simpa using h) | (show (w2.setCell _ _).heap[gT]? = _; simpa using h)
          · first | exact F2.out.set gT i _ (.inl rfl) | exact (F2.out.step (pw_below_drewN (Below.refl _ _) _)).set gT i _ (.inl rfl)
        · omega
      · go_roundg k1
        case rel =>
          refine ⟨i + 1, rfl, ⟨by have := HA.out; omega⟩, ⟨?_⟩, ⟨?_⟩⟩
          · have h := blk_set G2.out i (.int .u32 (b2i (bf i)))
            rw [Qt.out, show b2i true = 1 from rfl] at h
            rw [← tmpAt_set bf ts n i (by have := QT.out; have := QI.out; omega), Qt.out, show b2i true = 1 from rfl]
            first | (simpa using h) | (show (w2.setCell _ _).heap[gT]? = _; simpa using h)
          · first | exact F2.out.set gT i _ (.inl rfl) | exact (F2.out.step (pw_below_drewN (Below.refl _ _) _)).set gT i _ (.inl rfl)
        · omega
set_option maxHeartbeats 8000000 in
set_option maxRecDepth 100000 in
theorem as3_is (gl oA nA cA : Nat) (xs : List Dc) (y : Dc) (gT cT n gm : Nat) (ts : List Value) (w : World) (hl : w.heap[gl]? = some (.cells (cI xs).toArray 50 (0, 0))) (hnl : gl ≠ gT) (hA : oA + n ≤ xs.length) (hnA : n = nA) (hm : w.heap[gm]? = some (.cells #[.func (.func 58) #[] #[], .func (.func 60) #[] #[]] 74 (0, 0))) (hnm : gm ≠ gT) (ht : w.heap[gT]? = some (.cells ts.toArray 158 (0, 0))) (hT : n ≤ ts.length) (hn : n ≤ 1000000) :
    Calls Tryd.prog 55 #[.slice (some ⟨gl, oA * 2, none⟩) nA cA, .agg #[.int .u64 y.1, .int .i64 y.2], .slice (some ⟨gT, 0, none⟩) n cT, .pointer (some ⟨gm, 0, none⟩)] w fun e w' => e = .returned (.tuple #[]) ∧ w'.heap[gT]? = some (.cells (cU (fun i => cmpB 3 (rdD xs (oA + i)) (y)) n ++ ts.drop n).toArray 158 (0, 0)) ∧ Fr w w' gT gT := by
  subst hnA
  obtain ⟨bf, hbf⟩ : ∃ bf : Nat → Bool, bf = fun i => cmpB 3 (rdD xs (oA + i)) (y) := ⟨_, rfl⟩
  rw [← hbf]
  have Qb := Aside0.mk hbf
  have QL := Aside0.mk (And.intro hl (And.intro hnl hA))
  have QT := Aside0.mk (And.intro ht hT)
  have QM := Aside0.mk (And.intro hm hnm)
  have hni : (n : Int) ≤ 1000000 := by omega
  clear ht hT hbf hn hm hnm hl hnl hA
  go_enter Tryd.func55, Tryd.ntmps55
  go_upto_region 1 with (fail)
  obtain ⟨W1, hW1⟩ : ∃ W1, W1 = w.alloc (.cells #[.int .u64 y.1, .int .i64 y.2] 50) := ⟨_, rfl⟩
  obtain ⟨gy, hgy⟩ : ∃ gy, gy = w.heap.size := ⟨_, rfl⟩
  have QY := Aside0.mk (show W1.heap[gy]? = some (.cells #[.int .u64 y.1, .int .i64 y.2] 50 (0, 0)) ∧ gy ≠ gT by rw [hW1, hgy]; exact ⟨blk_new w _, by have := blk_lt QT.out.1; omega⟩)
  have Q0 := Aside0.mk (show Below w.heap.size w W1 by rw [hW1]; exact b2 w _)
  rw [← hW1, ← hgy]
  replace QT := Aside0.mk (And.intro ((Q0.out.block gT (blk_lt QT.out.1)).trans QT.out.1) QT.out.2)
  replace QM := Aside0.mk (And.intro ((Q0.out.block gm (blk_lt QM.out.1)).trans QM.out.1) QM.out.2)
  replace QL := Aside0.mk (And.intro ((Q0.out.block gl (blk_lt QL.out.1)).trans QL.out.1) QL.out.2)
  clear hW1 hgy
  go_upto_region 2 with (fail)
  go_loopg [10] n (fun kq v9 w' => ∃ i : Nat, v9 = .int .i64 (i : Int) ∧ Aside0 (i + kq = n) ∧ Aside0 (w'.heap[gT]? = some (.cells (cU bf i ++ ts.drop i).toArray 158 (0, 0))) ∧ Aside0 (Fr W1 w' gT gT))
  case atStart => exact ⟨0, rfl, ⟨by omega⟩, ⟨QT.out.1⟩, ⟨Fr.refl _ _ _⟩⟩
  case round =>
    obtain ⟨i, rfl, HA, HG, HF⟩ := hrel
    rcases Nat.eq_zero_or_pos gk with h0 | h0
    · have hi : ((i : Int) < (n : Int)) = False := by have := HA.out; simp; omega
      go_wp2
      go_end0
      obtain rfl : i = n := by have := HA.out; omega
      exact ⟨rfl, HG.out, (Fr.of_below Q0.out).trans HF.out⟩
    · have hi : (i : Int) < (n : Int) := by have := HA.out; omega
      have hi2 : i < n := by omega
      have QI := Aside0.mk hi2
      obtain ⟨k1, rfl⟩ : ∃ k1, gk = k1 + 1 := ⟨gk - 1, by omega⟩
      have hlen : i < (cU bf i ++ ts.drop i).length := by rw [List.length_append, cU_len, List.length_drop]; have := QT.out; omega
      obtain ⟨kl, kl'⟩ := cI_cells (o := oA) (i := i) ((HF.out.far gl (blk_lt QL.out.1) QL.out.2.1 QL.out.2.1).trans QL.out.1) (by have := QL.out; omega)
      obtain ⟨a, ha⟩ : ∃ a, a = rdD xs (oA + i) := ⟨_, rfl⟩
      rw [← ha] at kl kl'
      have ky := blk_cell ((HF.out.far gy (blk_lt QY.out.1) QY.out.2 QY.out.2).trans QY.out.1) 0
      have ky' := blk_cell ((HF.out.far gy (blk_lt QY.out.1) QY.out.2 QY.out.2).trans QY.out.1) 1
      simp only [List.getElem?_toArray, List.getElem?_cons_succ, List.getElem?_cons_zero] at ky ky'
      have km := blk_cell ((HF.out.far gm (blk_lt QM.out.1) QM.out.2 QM.out.2).trans QM.out.1) 1
      simp only [List.getElem?_toArray, List.getElem?_cons_succ, List.getElem?_cons_zero] at km
      obtain ⟨t, ht⟩ : ∃ t, t = cmpB 3 a y := ⟨_, rfl⟩
      have Qt := Aside0.mk (show bf i = t by rw [Qb.out, ht, ha])
      have QC := Aside0.mk (fun w => cge_is a y w)
      rw [show (!ltD a y) = t from ht.symm] at QC
      clear ht h0 ha 
      go_upto_region 4 with (fail)
      change Code.wp _ _ _ _ wr
      have km' : wr.drew.cell? ⟨gm, 1, none⟩ = _ := km
      refine wp_region_still_tail 7 (by kernel_rfl) (by kernel_rfl) ?_
      simp only [List.take_succ_cons, List.take_zero, List.drop_succ_cons, List.drop_zero]
      change wpStill _ _ (World.drew wr) _ _ _
      repeat still_step
      refine wpStill_nil ?_
      change wpList _ _ _ _ _ (World.drew wr)
      go_wp2_with (go_at_call 60; refine (QC.out _).mono ?_; rintro e w2 ⟨rfl, hb⟩; have G2 := Aside0.mk ((hb.block gT (blk_lt HG.out)).trans HG.out); have F2 := Aside0.mk (HF.out.step (show Below wr.heap.size wr w2 from ⟨hb.os, hb.tape, hb.output, hb.size, hb.block⟩)); clear hb; obtain ⟨u0, k0⟩ : ∃ u, w2.cell? ⟨gT, i, none⟩ = some u := ⟨(cU bf i ++ ts.drop i)[i], (blk_cell G2.out _).trans (by rw [List.getElem?_toArray, List.getElem?_eq_getElem hlen])⟩; have z0 := blk_frozen G2.out i; cases t)
      · go_roundg k1
        case rel =>
          refine ⟨i + 1, rfl, ⟨by have := HA.out; omega⟩, ⟨?_⟩, ⟨?_⟩⟩
          · have h := blk_set G2.out i (.int .u32 (b2i (bf i)))
            rw [Qt.out, show b2i false = 0 from rfl] at h
            rw [← tmpAt_set bf ts n i (by have := QT.out; have := QI.out; omega), Qt.out, show b2i false = 0 from rfl]
            first | (simpa using h) | (show (w2.setCell _ _).heap[gT]? = _; simpa using h)
          · first | exact F2.out.set gT i _ (.inl rfl) | exact (F2.out.step (pw_below_drewN (Below.refl _ _) _)).set gT i _ (.inl rfl)
        · omega
      · go_roundg k1
        case rel =>
          refine ⟨i + 1, rfl, ⟨by have := HA.out; omega⟩, ⟨?_⟩, ⟨?_⟩⟩
          · have h := blk_set G2.out i (.int .u32 (b2i (bf i)))
            rw [Qt.out, show b2i true = 1 from rfl] at h
            rw [← tmpAt_set bf ts n i (by have := QT.out; have := QI.out; omega), Qt.out, show b2i true = 1 from rfl]
            first | (simpa using h) | (show (w2.setCell _ _).heap[gT]? = _; simpa using h)
          · first | exact F2.out.set gT i _ (.inl rfl) | exact (F2.out.step (pw_below_drewN (Below.refl _ _) _)).set gT i _ (.inl rfl)
        · omega
set_option maxHeartbeats 8000000 in
set_option maxRecDepth 100000 in
theorem sa3_is (x : Dc) (gr oB nB cB : Nat) (ys : List Dc) (gT cT n gm : Nat) (ts : List Value) (w : World) (hr : w.heap[gr]? = some (.cells (cI ys).toArray 50 (0, 0))) (hnr : gr ≠ gT) (hB : oB + n ≤ ys.length) (hnB : n = nB) (hm : w.heap[gm]? = some (.cells #[.func (.func 58) #[] #[], .func (.func 60) #[] #[]] 74 (0, 0))) (hnm : gm ≠ gT) (ht : w.heap[gT]? = some (.cells ts.toArray 158 (0, 0))) (hT : n ≤ ts.length) (hn : n ≤ 1000000) :
    Calls Tryd.prog 56 #[.agg #[.int .u64 x.1, .int .i64 x.2], .slice (some ⟨gr, oB * 2, none⟩) nB cB, .slice (some ⟨gT, 0, none⟩) n cT, .pointer (some ⟨gm, 0, none⟩)] w fun e w' => e = .returned (.tuple #[]) ∧ w'.heap[gT]? = some (.cells (cU (fun i => cmpB 3 (x) (rdD ys (oB + i))) n ++ ts.drop n).toArray 158 (0, 0)) ∧ Fr w w' gT gT := by
  subst hnB
  obtain ⟨bf, hbf⟩ : ∃ bf : Nat → Bool, bf = fun i => cmpB 3 (x) (rdD ys (oB + i)) := ⟨_, rfl⟩
  rw [← hbf]
  have Qb := Aside0.mk hbf
  have QR := Aside0.mk (And.intro hr (And.intro hnr hB))
  have QT := Aside0.mk (And.intro ht hT)
  have QM := Aside0.mk (And.intro hm hnm)
  have hni : (n : Int) ≤ 1000000 := by omega
  clear ht hT hbf hn hm hnm hr hnr hB
  go_enter Tryd.func56, Tryd.ntmps56
  go_upto_region 1 with (fail)
  obtain ⟨W1, hW1⟩ : ∃ W1, W1 = w.alloc (.cells #[.int .u64 x.1, .int .i64 x.2] 50) := ⟨_, rfl⟩
  obtain ⟨gy, hgy⟩ : ∃ gy, gy = w.heap.size := ⟨_, rfl⟩
  have QY := Aside0.mk (show W1.heap[gy]? = some (.cells #[.int .u64 x.1, .int .i64 x.2] 50 (0, 0)) ∧ gy ≠ gT by rw [hW1, hgy]; exact ⟨blk_new w _, by have := blk_lt QT.out.1; omega⟩)
  have Q0 := Aside0.mk (show Below w.heap.size w W1 by rw [hW1]; exact b2 w _)
  rw [← hW1, ← hgy]
  replace QT := Aside0.mk (And.intro ((Q0.out.block gT (blk_lt QT.out.1)).trans QT.out.1) QT.out.2)
  replace QM := Aside0.mk (And.intro ((Q0.out.block gm (blk_lt QM.out.1)).trans QM.out.1) QM.out.2)
  replace QR := Aside0.mk (And.intro ((Q0.out.block gr (blk_lt QR.out.1)).trans QR.out.1) QR.out.2)
  clear hW1 hgy
  go_upto_region 2 with (fail)
  go_loopg [10] n (fun kq v9 w' => ∃ i : Nat, v9 = .int .i64 (i : Int) ∧ Aside0 (i + kq = n) ∧ Aside0 (w'.heap[gT]? = some (.cells (cU bf i ++ ts.drop i).toArray 158 (0, 0))) ∧ Aside0 (Fr W1 w' gT gT))
  case atStart => exact ⟨0, rfl, ⟨by omega⟩, ⟨QT.out.1⟩, ⟨Fr.refl _ _ _⟩⟩
  case round =>
    obtain ⟨i, rfl, HA, HG, HF⟩ := hrel
    rcases Nat.eq_zero_or_pos gk with h0 | h0
    · have hi : ((i : Int) < (n : Int)) = False := by have := HA.out; simp; omega
      go_wp2
      go_end0
      obtain rfl : i = n := by have := HA.out; omega
      exact ⟨rfl, HG.out, (Fr.of_below Q0.out).trans HF.out⟩
    · have hi : (i : Int) < (n : Int) := by have := HA.out; omega
      have hi2 : i < n := by omega
      have QI := Aside0.mk hi2
      obtain ⟨k1, rfl⟩ : ∃ k1, gk = k1 + 1 := ⟨gk - 1, by omega⟩
      have hlen : i < (cU bf i ++ ts.drop i).length := by rw [List.length_append, cU_len, List.length_drop]; have := QT.out; omega
      obtain ⟨kr, kr'⟩ := cI_cells (o := oB) (i := i) ((HF.out.far gr (blk_lt QR.out.1) QR.out.2.1 QR.out.2.1).trans QR.out.1) (by have := QR.out; omega)
      obtain ⟨b, hb⟩ : ∃ b, b = rdD ys (oB + i) := ⟨_, rfl⟩
      rw [← hb] at kr kr'
      have ky := blk_cell ((HF.out.far gy (blk_lt QY.out.1) QY.out.2 QY.out.2).trans QY.out.1) 0
      have ky' := blk_cell ((HF.out.far gy (blk_lt QY.out.1) QY.out.2 QY.out.2).trans QY.out.1) 1
      simp only [List.getElem?_toArray, List.getElem?_cons_succ, List.getElem?_cons_zero] at ky ky'
      have km := blk_cell ((HF.out.far gm (blk_lt QM.out.1) QM.out.2 QM.out.2).trans QM.out.1) 1
      simp only [List.getElem?_toArray, List.getElem?_cons_succ, List.getElem?_cons_zero] at km
      obtain ⟨t, ht⟩ : ∃ t, t = cmpB 3 x b := ⟨_, rfl⟩
      have Qt := Aside0.mk (show bf i = t by rw [Qb.out, ht, hb])
      have QC := Aside0.mk (fun w => cge_is x b w)
      rw [show (!ltD x b) = t from ht.symm] at QC
      clear ht h0 hb
      go_upto_region 4 with (fail)
      change Code.wp _ _ _ _ wr
      have km' : wr.drew.cell? ⟨gm, 1, none⟩ = _ := km
      refine wp_region_still_tail 7 (by kernel_rfl) (by kernel_rfl) ?_
      simp only [List.take_succ_cons, List.take_zero, List.drop_succ_cons, List.drop_zero]
      change wpStill _ _ (World.drew wr) _ _ _
      repeat still_step
      refine wpStill_nil ?_
      change wpList _ _ _ _ _ (World.drew wr)
      go_wp2_with (go_at_call 60; refine (QC.out _).mono ?_; rintro e w2 ⟨rfl, hb⟩; have G2 := Aside0.mk ((hb.block gT (blk_lt HG.out)).trans HG.out); have F2 := Aside0.mk (HF.out.step (show Below wr.heap.size wr w2 from ⟨hb.os, hb.tape, hb.output, hb.size, hb.block⟩)); clear hb; obtain ⟨u0, k0⟩ : ∃ u, w2.cell? ⟨gT, i, none⟩ = some u := ⟨(cU bf i ++ ts.drop i)[i], (blk_cell G2.out _).trans (by rw [List.getElem?_toArray, List.getElem?_eq_getElem hlen])⟩; have z0 := blk_frozen G2.out i; cases t)
      · go_roundg k1
        case rel =>
          refine ⟨i + 1, rfl, ⟨by have := HA.out; omega⟩, ⟨?_⟩, ⟨?_⟩⟩
          · have h := blk_set G2.out i (.int .u32 (b2i (bf i)))
            rw [Qt.out, show b2i false = 0 from rfl] at h
            rw [← tmpAt_set bf ts n i (by have := QT.out; have := QI.out; omega), Qt.out, show b2i false = 0 from rfl]
            first | (simpa using h) | (show (w2.setCell _ _).heap[gT]? = _; simpa using h)
          · first | exact F2.out.set gT i _ (.inl rfl) | exact (F2.out.step (pw_below_drewN (Below.refl _ _) _)).set gT i _ (.inl rfl)
        · omega
      · go_roundg k1
        case rel =>
          refine ⟨i + 1, rfl, ⟨by have := HA.out; omega⟩, ⟨?_⟩, ⟨?_⟩⟩
          · have h := blk_set G2.out i (.int .u32 (b2i (bf i)))
            rw [Qt.out, show b2i true = 1 from rfl] at h
            rw [← tmpAt_set bf ts n i (by have := QT.out; have := QI.out; omega), Qt.out, show b2i true = 1 from rfl]
            first | (simpa using h) | (show (w2.setCell _ _).heap[gT]? = _; simpa using h)
          · first | exact F2.out.set gT i _ (.inl rfl) | exact (F2.out.step (pw_below_drewN (Below.refl _ _) _)).set gT i _ (.inl rfl)
        · omega
end Go.Proofs.YtlnbkmkdapeicaaDoor.QR
