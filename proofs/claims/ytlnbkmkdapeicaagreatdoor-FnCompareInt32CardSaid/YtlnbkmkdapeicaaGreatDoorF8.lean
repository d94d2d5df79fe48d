/- The loops that compare numbers one by one. -/
import Derived.Test.YtlnbkmkdapeicaaGreatDoorF7
namespace Go.Proofs.YtlnbkmkdapeicaaGreatDoor.QR
open Go.RowKit Go.Proofs.YtlnbkmkdapeicaaGreatDoorW.PrintWords Go.Proofs.YtlnbkmkdapeicaaGreatDoorW.PrintLast Go.Proofs.YtlnbkmkdapeicaaGreatDoorW.PrintMore
set_option linter.unusedVariables false
set_option linter.unusedSimpArgs false
/-- What a comparison says: 0 equal, 1 not equal, 2 greater, 3 greater or equal. -/
def cmpB (op : Nat) (a b : Int) : Bool := match op with
  | 0 => a == b
  | 1 => a != b
  | 2 => decide (b < a)
  | _ => decide (b ≤ a)
def tmpAt (bf : Nat → Bool) (ts : List Value) (n i : Nat) : List Value := cU bf i ++ ts.drop i
theorem tmpAt_set (bf : Nat → Bool) (ts : List Value) (n i : Nat) (h : i < ts.length) : (cU bf i ++ ts.drop i).set i (.int .u32 (b2i (bf i))) = cU bf (i + 1) ++ ts.drop (i + 1) := by
  rw [List.set_append_right _ _ (by rw [cU_len]; exact Nat.le_refl _), cU_len, Nat.sub_self, List.drop_eq_getElem_cons h, List.set_cons_zero]
  simp [cU, List.range_succ]
theorem cI_get {xs : List Int} {i : Nat} (h : i < xs.length) : (cI xs)[i]? = some (.int .i32 (rd xs (i : Int))) := by
  unfold cI rd
  rw [List.getElem?_map, List.getElem?_eq_getElem h, Int.toNat_natCast, List.getD_eq_getElem?_getD, List.getElem?_eq_getElem h]
  rfl
set_option maxHeartbeats 8000000 in
set_option maxRecDepth 100000 in
theorem aa0_is (gl oA nA cA : Nat) (xs : List Int) (gr oB nB cB : Nat) (ys : List Int) (gT cT n : Nat) (ts : List Value) (w : World) (hl : w.heap[gl]? = some (.cells (cI xs).toArray 21 (0, 0))) (hnl : gl ≠ gT) (hA : oA + n ≤ xs.length) (hnA : n ≤ nA) (hr : w.heap[gr]? = some (.cells (cI ys).toArray 21 (0, 0))) (hnr : gr ≠ gT) (hB : oB + n ≤ ys.length) (hnB : n ≤ nB) (ht : w.heap[gT]? = some (.cells ts.toArray 164 (0, 0))) (hT : n ≤ ts.length) (hn : n ≤ 1000000) :
    Calls Tryz.prog 45 #[.slice (some ⟨gl, oA, none⟩) nA cA, .slice (some ⟨gr, oB, none⟩) nB cB, .slice (some ⟨gT, 0, none⟩) n cT] w fun e w' => e = .returned (.tuple #[]) ∧ w'.heap[gT]? = some (.cells (cU (fun i => cmpB 0 (rd xs ((oA + i : Nat) : Int)) (rd ys ((oB + i : Nat) : Int))) n ++ ts.drop n).toArray 164 (0, 0)) ∧ Fr w w' gT gT := by
  obtain ⟨bf, hbf⟩ : ∃ bf : Nat → Bool, bf = fun i => cmpB 0 (rd xs ((oA + i : Nat) : Int)) (rd ys ((oB + i : Nat) : Int)) := ⟨_, rfl⟩
  rw [← hbf]
  have Qb := Aside0.mk hbf
  have QL := Aside0.mk (And.intro hl (And.intro hnl hA))
  have QR := Aside0.mk (And.intro hr (And.intro hnr hB))
  have QT := Aside0.mk (And.intro ht hT)
  have hnAi : (n : Int) ≤ (nA : Int) := by omega
  have hnBi : (n : Int) ≤ (nB : Int) := by omega
  have hni : (n : Int) ≤ 1000000 := by omega
  clear ht hT hbf hn hl hnl hA hr hnr hB
  go_enter Tryz.func45, Tryz.ntmps45
  go_upto_region 1 with (fail)
  go_loopg [9] n (fun kq v9 w' => ∃ i : Nat, v9 = .int .i64 (i : Int) ∧ Aside0 (i + kq = n) ∧ Aside0 (w'.heap[gT]? = some (.cells (cU bf i ++ ts.drop i).toArray 164 (0, 0))) ∧ Aside0 (Fr w w' gT gT))
  case atStart => exact ⟨0, rfl, ⟨by omega⟩, ⟨QT.out.1⟩, ⟨Fr.refl _ _ _⟩⟩
  case round =>
    obtain ⟨i, rfl, HA, HG, HF⟩ := hrel
    rcases Nat.eq_zero_or_pos gk with h0 | h0
    · have hi : ((i : Int) < (n : Int)) = False := by have := HA.out; simp; omega
      go_wp2
      go_end0
      obtain rfl : i = n := by have := HA.out; omega
      exact ⟨rfl, HG.out, HF.out⟩
    · have hi : (i : Int) < (n : Int) := by have := HA.out; omega
      have hi2 : i < n := by omega
      have QI := Aside0.mk hi2
      obtain ⟨k1, rfl⟩ : ∃ k1, gk = k1 + 1 := ⟨gk - 1, by omega⟩
      have hlen : i < (cU bf i ++ ts.drop i).length := by rw [List.length_append, cU_len, List.length_drop]; have := QT.out; omega
      obtain ⟨u0, k0⟩ : ∃ u, wr.cell? ⟨gT, i, none⟩ = some u := ⟨(cU bf i ++ ts.drop i)[i], (blk_cell HG.out _).trans (by rw [List.getElem?_toArray, List.getElem?_eq_getElem hlen])⟩
      have z0 := blk_frozen HG.out i
      have kl := (blk_cell ((HF.out.far gl (blk_lt QL.out.1) QL.out.2.1 QL.out.2.1).trans QL.out.1) (oA + i)).trans (show (cI xs).toArray[oA + i]? = some (.int .i32 (rd xs ((oA + i : Nat) : Int))) by rw [List.getElem?_toArray]; exact cI_get (by have := QL.out; omega))
      have hiA : (i : Int) < (nA : Int) := by omega
      have hiA2 : i < nA := by omega
      obtain ⟨a, ha⟩ : ∃ a, a = rd xs ((oA + i : Nat) : Int) := ⟨_, rfl⟩
      rw [← ha] at kl
      have kr := (blk_cell ((HF.out.far gr (blk_lt QR.out.1) QR.out.2.1 QR.out.2.1).trans QR.out.1) (oB + i)).trans (show (cI ys).toArray[oB + i]? = some (.int .i32 (rd ys ((oB + i : Nat) : Int))) by rw [List.getElem?_toArray]; exact cI_get (by have := QR.out; omega))
      have hiB : (i : Int) < (nB : Int) := by omega
      have hiB2 : i < nB := by omega
      obtain ⟨b, hb⟩ : ∃ b, b = rd ys ((oB + i : Nat) : Int) := ⟨_, rfl⟩
      rw [← hb] at kr
      obtain ⟨t, ht⟩ : ∃ t, t = cmpB 0 a b := ⟨_, rfl⟩
      have Qt := Aside0.mk (show bf i = t by rw [Qb.out, ht, ha, hb])
      unfold cmpB at ht
      clear h0 hlen ha hb
      have he1 : (a == b) = t := ht.symm
      have he2 : decide (a = b) = t := by rw [ht]; rfl
      clear ht
      cases t
      · go_upto_region 3 with (fail)
        go_quiet ((fail))
        go_wp2
        go_roundg k1
        case rel =>
          refine ⟨i + 1, rfl, ⟨by have := HA.out; omega⟩, ⟨?_⟩, ⟨?_⟩⟩
          · have h := blk_set HG.out i (.int .u32 (b2i (bf i)))
            rw [Qt.out, show b2i false = 0 from rfl] at h
            rw [← tmpAt_set bf ts n i (by have := QT.out; have := QI.out; omega), Qt.out, show b2i false = 0 from rfl]
            first | (simpa using h) | (show (wr.setCell _ _).heap[gT]? = _; simpa using h)
          · first | exact HF.out.set gT i _ (.inl rfl) | exact (HF.out.step (pw_below_drewN (Below.refl _ _) _)).set gT i _ (.inl rfl)
        · omega
      · go_upto_region 3 with (fail)
        go_quiet ((fail))
        go_wp2
        go_roundg k1
        case rel =>
          refine ⟨i + 1, rfl, ⟨by have := HA.out; omega⟩, ⟨?_⟩, ⟨?_⟩⟩
          · have h := blk_set HG.out i (.int .u32 (b2i (bf i)))
            rw [Qt.out, show b2i true = 1 from rfl] at h
            rw [← tmpAt_set bf ts n i (by have := QT.out; have := QI.out; omega), Qt.out, show b2i true = 1 from rfl]
            first | (simpa using h) | (show (wr.setCell _ _).heap[gT]? = _; simpa using h)
          · first | exact HF.out.set gT i _ (.inl rfl) | exact (HF.out.step (pw_below_drewN (Below.refl _ _) _)).set gT i _ (.inl rfl)
        · omega
set_option maxHeartbeats 8000000 in
set_option maxRecDepth 100000 in
theorem as0_is (gl oA nA cA : Nat) (xs : List Int) (y : Int) (gT cT n : Nat) (ts : List Value) (w : World) (hl : w.heap[gl]? = some (.cells (cI xs).toArray 21 (0, 0))) (hnl : gl ≠ gT) (hA : oA + n ≤ xs.length) (hnA : n ≤ nA) (ht : w.heap[gT]? = some (.cells ts.toArray 164 (0, 0))) (hT : n ≤ ts.length) (hn : n ≤ 1000000) :
    Calls Tryz.prog 46 #[.slice (some ⟨gl, oA, none⟩) nA cA, .int .i32 y, .slice (some ⟨gT, 0, none⟩) n cT] w fun e w' => e = .returned (.tuple #[]) ∧ w'.heap[gT]? = some (.cells (cU (fun i => cmpB 0 (rd xs ((oA + i : Nat) : Int)) (y)) n ++ ts.drop n).toArray 164 (0, 0)) ∧ Fr w w' gT gT := by
  obtain ⟨bf, hbf⟩ : ∃ bf : Nat → Bool, bf = fun i => cmpB 0 (rd xs ((oA + i : Nat) : Int)) (y) := ⟨_, rfl⟩
  rw [← hbf]
  have Qb := Aside0.mk hbf
  have QL := Aside0.mk (And.intro hl (And.intro hnl hA))
  have QT := Aside0.mk (And.intro ht hT)
  have hnAi : (n : Int) ≤ (nA : Int) := by omega
  have hni : (n : Int) ≤ 1000000 := by omega
  clear ht hT hbf hn hl hnl hA
  go_enter Tryz.func46, Tryz.ntmps46
  go_upto_region 1 with (fail)
  go_loopg [9] n (fun kq v9 w' => ∃ i : Nat, v9 = .int .i64 (i : Int) ∧ Aside0 (i + kq = n) ∧ Aside0 (w'.heap[gT]? = some (.cells (cU bf i ++ ts.drop i).toArray 164 (0, 0))) ∧ Aside0 (Fr w w' gT gT))
  case atStart => exact ⟨0, rfl, ⟨by omega⟩, ⟨QT.out.1⟩, ⟨Fr.refl _ _ _⟩⟩
  case round =>
    obtain ⟨i, rfl, HA, HG, HF⟩ := hrel
    rcases Nat.eq_zero_or_pos gk with h0 | h0
    · have hi : ((i : Int) < (n : Int)) = False := by have := HA.out; simp; omega
      go_wp2
      go_end0
      obtain rfl : i = n := by have := HA.out; omega
      exact ⟨rfl, HG.out, HF.out⟩
    · have hi : (i : Int) < (n : Int) := by have := HA.out; omega
      have hi2 : i < n := by omega
      have QI := Aside0.mk hi2
      obtain ⟨k1, rfl⟩ : ∃ k1, gk = k1 + 1 := ⟨gk - 1, by omega⟩
      have hlen : i < (cU bf i ++ ts.drop i).length := by rw [List.length_append, cU_len, List.length_drop]; have := QT.out; omega
      obtain ⟨u0, k0⟩ : ∃ u, wr.cell? ⟨gT, i, none⟩ = some u := ⟨(cU bf i ++ ts.drop i)[i], (blk_cell HG.out _).trans (by rw [List.getElem?_toArray, List.getElem?_eq_getElem hlen])⟩
      have z0 := blk_frozen HG.out i
      have kl := (blk_cell ((HF.out.far gl (blk_lt QL.out.1) QL.out.2.1 QL.out.2.1).trans QL.out.1) (oA + i)).trans (show (cI xs).toArray[oA + i]? = some (.int .i32 (rd xs ((oA + i : Nat) : Int))) by rw [List.getElem?_toArray]; exact cI_get (by have := QL.out; omega))
      have hiA : (i : Int) < (nA : Int) := by omega
      have hiA2 : i < nA := by omega
      obtain ⟨a, ha⟩ : ∃ a, a = rd xs ((oA + i : Nat) : Int) := ⟨_, rfl⟩
      rw [← ha] at kl
      obtain ⟨t, ht⟩ : ∃ t, t = cmpB 0 a y := ⟨_, rfl⟩
      have Qt := Aside0.mk (show bf i = t by rw [Qb.out, ht, ha])
      unfold cmpB at ht
      clear h0 hlen ha 
      have he1 : (a == y) = t := ht.symm
      have he2 : decide (a = y) = t := by rw [ht]; rfl
      clear ht
      cases t
      · go_upto_region 3 with (fail)
        skip
        go_wp2
        go_roundg k1
        case rel =>
          refine ⟨i + 1, rfl, ⟨by have := HA.out; omega⟩, ⟨?_⟩, ⟨?_⟩⟩
          · have h := blk_set HG.out i (.int .u32 (b2i (bf i)))
            rw [Qt.out, show b2i false = 0 from rfl] at h
            rw [← tmpAt_set bf ts n i (by have := QT.out; have := QI.out; omega), Qt.out, show b2i false = 0 from rfl]
            first | (simpa using h) | (show (wr.setCell _ _).heap[gT]? = _; simpa using h)
          · first | exact HF.out.set gT i _ (.inl rfl) | exact (HF.out.step (pw_below_drewN (Below.refl _ _) _)).set gT i _ (.inl rfl)
        · omega
      · go_upto_region 3 with (fail)
        skip
        go_wp2
        go_roundg k1
        case rel =>
          refine ⟨i + 1, rfl, ⟨by have := HA.out; omega⟩, ⟨?_⟩, ⟨?_⟩⟩
          · have h := blk_set HG.out i (.int .u32 (b2i (bf i)))
            rw [Qt.out, show b2i true = 1 from rfl] at h
            rw [← tmpAt_set bf ts n i (by have := QT.out; have := QI.out; omega), Qt.out, show b2i true = 1 from rfl]
            first | (simpa using h) | (show (wr.setCell _ _).heap[gT]? = _; simpa using h)
          · first | exact HF.out.set gT i _ (.inl rfl) | exact (HF.out.step (pw_below_drewN (Below.refl _ _) _)).set gT i _ (.inl rfl)
        · omega
set_option maxHeartbeats 8000000 in
set_option maxRecDepth 100000 in
theorem sa0_is (x : Int) (gr oB nB cB : Nat) (ys : List Int) (gT cT n : Nat) (ts : List Value) (w : World) (hr : w.heap[gr]? = some (.cells (cI ys).toArray 21 (0, 0))) (hnr : gr ≠ gT) (hB : oB + n ≤ ys.length) (hnB : n ≤ nB) (ht : w.heap[gT]? = some (.cells ts.toArray 164 (0, 0))) (hT : n ≤ ts.length) (hn : n ≤ 1000000) :
    Calls Tryz.prog 47 #[.int .i32 x, .slice (some ⟨gr, oB, none⟩) nB cB, .slice (some ⟨gT, 0, none⟩) n cT] w fun e w' => e = .returned (.tuple #[]) ∧ w'.heap[gT]? = some (.cells (cU (fun i => cmpB 0 (x) (rd ys ((oB + i : Nat) : Int))) n ++ ts.drop n).toArray 164 (0, 0)) ∧ Fr w w' gT gT := by
  obtain ⟨bf, hbf⟩ : ∃ bf : Nat → Bool, bf = fun i => cmpB 0 (x) (rd ys ((oB + i : Nat) : Int)) := ⟨_, rfl⟩
  rw [← hbf]
  have Qb := Aside0.mk hbf
  have QR := Aside0.mk (And.intro hr (And.intro hnr hB))
  have QT := Aside0.mk (And.intro ht hT)
  have hnBi : (n : Int) ≤ (nB : Int) := by omega
  have hni : (n : Int) ≤ 1000000 := by omega
  clear ht hT hbf hn hr hnr hB
  go_enter Tryz.func47, Tryz.ntmps47
  go_upto_region 1 with (fail)
  go_loopg [9] n (fun kq v9 w' => ∃ i : Nat, v9 = .int .i64 (i : Int) ∧ Aside0 (i + kq = n) ∧ Aside0 (w'.heap[gT]? = some (.cells (cU bf i ++ ts.drop i).toArray 164 (0, 0))) ∧ Aside0 (Fr w w' gT gT))
  case atStart => exact ⟨0, rfl, ⟨by omega⟩, ⟨QT.out.1⟩, ⟨Fr.refl _ _ _⟩⟩
  case round =>
    obtain ⟨i, rfl, HA, HG, HF⟩ := hrel
    rcases Nat.eq_zero_or_pos gk with h0 | h0
    · have hi : ((i : Int) < (n : Int)) = False := by have := HA.out; simp; omega
      go_wp2
      go_end0
      obtain rfl : i = n := by have := HA.out; omega
      exact ⟨rfl, HG.out, HF.out⟩
    · have hi : (i : Int) < (n : Int) := by have := HA.out; omega
      have hi2 : i < n := by omega
      have QI := Aside0.mk hi2
      obtain ⟨k1, rfl⟩ : ∃ k1, gk = k1 + 1 := ⟨gk - 1, by omega⟩
      have hlen : i < (cU bf i ++ ts.drop i).length := by rw [List.length_append, cU_len, List.length_drop]; have := QT.out; omega
      obtain ⟨u0, k0⟩ : ∃ u, wr.cell? ⟨gT, i, none⟩ = some u := ⟨(cU bf i ++ ts.drop i)[i], (blk_cell HG.out _).trans (by rw [List.getElem?_toArray, List.getElem?_eq_getElem hlen])⟩
      have z0 := blk_frozen HG.out i
      have kr := (blk_cell ((HF.out.far gr (blk_lt QR.out.1) QR.out.2.1 QR.out.2.1).trans QR.out.1) (oB + i)).trans (show (cI ys).toArray[oB + i]? = some (.int .i32 (rd ys ((oB + i : Nat) : Int))) by rw [List.getElem?_toArray]; exact cI_get (by have := QR.out; omega))
      have hiB : (i : Int) < (nB : Int) := by omega
      have hiB2 : i < nB := by omega
      obtain ⟨b, hb⟩ : ∃ b, b = rd ys ((oB + i : Nat) : Int) := ⟨_, rfl⟩
      rw [← hb] at kr
      obtain ⟨t, ht⟩ : ∃ t, t = cmpB 0 x b := ⟨_, rfl⟩
      have Qt := Aside0.mk (show bf i = t by rw [Qb.out, ht, hb])
      unfold cmpB at ht
      clear h0 hlen  hb
      have he1 : (x == b) = t := ht.symm
      have he2 : decide (x = b) = t := by rw [ht]; rfl
      clear ht
      cases t
      · go_upto_region 3 with (fail)
        skip
        go_wp2
        go_roundg k1
        case rel =>
          refine ⟨i + 1, rfl, ⟨by have := HA.out; omega⟩, ⟨?_⟩, ⟨?_⟩⟩
          · have h := blk_set HG.out i (.int .u32 (b2i (bf i)))
            rw [Qt.out, show b2i false = 0 from rfl] at h
            rw [← tmpAt_set bf ts n i (by have := QT.out; have := QI.out; omega), Qt.out, show b2i false = 0 from rfl]
            first | (simpa using h) | (show (wr.setCell _ _).heap[gT]? = _; simpa using h)
          · first | exact HF.out.set gT i _ (.inl rfl) | exact (HF.out.step (pw_below_drewN (Below.refl _ _) _)).set gT i _ (.inl rfl)
        · omega
      · go_upto_region 3 with (fail)
        skip
        go_wp2
        go_roundg k1
        case rel =>
          refine ⟨i + 1, rfl, ⟨by have := HA.out; omega⟩, ⟨?_⟩, ⟨?_⟩⟩
          · have h := blk_set HG.out i (.int .u32 (b2i (bf i)))
            rw [Qt.out, show b2i true = 1 from rfl] at h
            rw [← tmpAt_set bf ts n i (by have := QT.out; have := QI.out; omega), Qt.out, show b2i true = 1 from rfl]
            first | (simpa using h) | (show (wr.setCell _ _).heap[gT]? = _; simpa using h)
          · first | exact HF.out.set gT i _ (.inl rfl) | exact (HF.out.step (pw_below_drewN (Below.refl _ _) _)).set gT i _ (.inl rfl)
        · omega
set_option maxHeartbeats 8000000 in
set_option maxRecDepth 100000 in
theorem aa1_is (gl oA nA cA : Nat) (xs : List Int) (gr oB nB cB : Nat) (ys : List Int) (gT cT n : Nat) (ts : List Value) (w : World) (hl : w.heap[gl]? = some (.cells (cI xs).toArray 21 (0, 0))) (hnl : gl ≠ gT) (hA : oA + n ≤ xs.length) (hnA : n ≤ nA) (hr : w.heap[gr]? = some (.cells (cI ys).toArray 21 (0, 0))) (hnr : gr ≠ gT) (hB : oB + n ≤ ys.length) (hnB : n ≤ nB) (ht : w.heap[gT]? = some (.cells ts.toArray 164 (0, 0))) (hT : n ≤ ts.length) (hn : n ≤ 1000000) :
    Calls Tryz.prog 48 #[.slice (some ⟨gl, oA, none⟩) nA cA, .slice (some ⟨gr, oB, none⟩) nB cB, .slice (some ⟨gT, 0, none⟩) n cT] w fun e w' => e = .returned (.tuple #[]) ∧ w'.heap[gT]? = some (.cells (cU (fun i => cmpB 1 (rd xs ((oA + i : Nat) : Int)) (rd ys ((oB + i : Nat) : Int))) n ++ ts.drop n).toArray 164 (0, 0)) ∧ Fr w w' gT gT := by
  obtain ⟨bf, hbf⟩ : ∃ bf : Nat → Bool, bf = fun i => cmpB 1 (rd xs ((oA + i : Nat) : Int)) (rd ys ((oB + i : Nat) : Int)) := ⟨_, rfl⟩
  rw [← hbf]
  have Qb := Aside0.mk hbf
  have QL := Aside0.mk (And.intro hl (And.intro hnl hA))
  have QR := Aside0.mk (And.intro hr (And.intro hnr hB))
  have QT := Aside0.mk (And.intro ht hT)
  have hnAi : (n : Int) ≤ (nA : Int) := by omega
  have hnBi : (n : Int) ≤ (nB : Int) := by omega
  have hni : (n : Int) ≤ 1000000 := by omega
  clear ht hT hbf hn hl hnl hA hr hnr hB
  go_enter Tryz.func48, Tryz.ntmps48
  go_upto_region 1 with (fail)
  go_loopg [9] n (fun kq v9 w' => ∃ i : Nat, v9 = .int .i64 (i : Int) ∧ Aside0 (i + kq = n) ∧ Aside0 (w'.heap[gT]? = some (.cells (cU bf i ++ ts.drop i).toArray 164 (0, 0))) ∧ Aside0 (Fr w w' gT gT))
  case atStart => exact ⟨0, rfl, ⟨by omega⟩, ⟨QT.out.1⟩, ⟨Fr.refl _ _ _⟩⟩
  case round =>
    obtain ⟨i, rfl, HA, HG, HF⟩ := hrel
    rcases Nat.eq_zero_or_pos gk with h0 | h0
    · have hi : ((i : Int) < (n : Int)) = False := by have := HA.out; simp; omega
      go_wp2
      go_end0
      obtain rfl : i = n := by have := HA.out; omega
      exact ⟨rfl, HG.out, HF.out⟩
    · have hi : (i : Int) < (n : Int) := by have := HA.out; omega
      have hi2 : i < n := by omega
      have QI := Aside0.mk hi2
      obtain ⟨k1, rfl⟩ : ∃ k1, gk = k1 + 1 := ⟨gk - 1, by omega⟩
      have hlen : i < (cU bf i ++ ts.drop i).length := by rw [List.length_append, cU_len, List.length_drop]; have := QT.out; omega
      obtain ⟨u0, k0⟩ : ∃ u, wr.cell? ⟨gT, i, none⟩ = some u := ⟨(cU bf i ++ ts.drop i)[i], (blk_cell HG.out _).trans (by rw [List.getElem?_toArray, List.getElem?_eq_getElem hlen])⟩
      have z0 := blk_frozen HG.out i
      have kl := (blk_cell ((HF.out.far gl (blk_lt QL.out.1) QL.out.2.1 QL.out.2.1).trans QL.out.1) (oA + i)).trans (show (cI xs).toArray[oA + i]? = some (.int .i32 (rd xs ((oA + i : Nat) : Int))) by rw [List.getElem?_toArray]; exact cI_get (by have := QL.out; omega))
      have hiA : (i : Int) < (nA : Int) := by omega
      have hiA2 : i < nA := by omega
      obtain ⟨a, ha⟩ : ∃ a, a = rd xs ((oA + i : Nat) : Int) := ⟨_, rfl⟩
      rw [← ha] at kl
      have kr := (blk_cell ((HF.out.far gr (blk_lt QR.out.1) QR.out.2.1 QR.out.2.1).trans QR.out.1) (oB + i)).trans (show (cI ys).toArray[oB + i]? = some (.int .i32 (rd ys ((oB + i : Nat) : Int))) by rw [List.getElem?_toArray]; exact cI_get (by have := QR.out; omega))
      have hiB : (i : Int) < (nB : Int) := by omega
      have hiB2 : i < nB := by omega
      obtain ⟨b, hb⟩ : ∃ b, b = rd ys ((oB + i : Nat) : Int) := ⟨_, rfl⟩
      rw [← hb] at kr
      obtain ⟨t, ht⟩ : ∃ t, t = cmpB 1 a b := ⟨_, rfl⟩
      have Qt := Aside0.mk (show bf i = t by rw [Qb.out, ht, ha, hb])
      unfold cmpB at ht
      clear h0 hlen ha hb
      have he1 : (a != b) = t := ht.symm
      have he2 : (!(a == b)) = t := by rw [ht]; rfl
      have he3 : (!decide (a = b)) = t := by rw [ht]; rfl
      clear ht
      cases t
      · go_upto_region 3 with (fail)
        go_quiet ((fail))
        go_wp2
        go_roundg k1
        case rel =>
          refine ⟨i + 1, rfl, ⟨by have := HA.out; omega⟩, ⟨?_⟩, ⟨?_⟩⟩
          · have h := blk_set HG.out i (.int .u32 (b2i (bf i)))
            rw [Qt.out, show b2i false = 0 from rfl] at h
            rw [← tmpAt_set bf ts n i (by have := QT.out; have := QI.out; omega), Qt.out, show b2i false = 0 from rfl]
            first | (simpa using h) | (show (wr.setCell _ _).heap[gT]? = _; simpa using h)
          · first | exact HF.out.set gT i _ (.inl rfl) | exact (HF.out.step (pw_below_drewN (Below.refl _ _) _)).set gT i _ (.inl rfl)
        · omega
      · go_upto_region 3 with (fail)
        go_quiet ((fail))
        go_wp2
        go_roundg k1
        case rel =>
          refine ⟨i + 1, rfl, ⟨by have := HA.out; omega⟩, ⟨?_⟩, ⟨?_⟩⟩
          · have h := blk_set HG.out i (.int .u32 (b2i (bf i)))
            rw [Qt.out, show b2i true = 1 from rfl] at h
            rw [← tmpAt_set bf ts n i (by have := QT.out; have := QI.out; omega), Qt.out, show b2i true = 1 from rfl]
            first | (simpa using h) | (show (wr.setCell _ _).heap[gT]? = _; simpa using h)
          · first | exact HF.out.set gT i _ (.inl rfl) | exact (HF.out.step (pw_below_drewN (Below.refl _ _) _)).set gT i _ (.inl rfl)
        · omega
set_option maxHeartbeats 8000000 in
set_option maxRecDepth 100000 in
theorem as1_is (gl oA nA cA : Nat) (xs : List Int) (y : Int) (gT cT n : Nat) (ts : List Value) (w : World) (hl : w.heap[gl]? = some (.cells (cI xs).toArray 21 (0, 0))) (hnl : gl ≠ gT) (hA : oA + n ≤ xs.length) (hnA : n ≤ nA) (ht : w.heap[gT]? = some (.cells ts.toArray 164 (0, 0))) (hT : n ≤ ts.length) (hn : n ≤ 1000000) :
    Calls Tryz.prog 49 #[.slice (some ⟨gl, oA, none⟩) nA cA, .int .i32 y, .slice (some ⟨gT, 0, none⟩) n cT] w fun e w' => e = .returned (.tuple #[]) ∧ w'.heap[gT]? = some (.cells (cU (fun i => cmpB 1 (rd xs ((oA + i : Nat) : Int)) (y)) n ++ ts.drop n).toArray 164 (0, 0)) ∧ Fr w w' gT gT := by
  obtain ⟨bf, hbf⟩ : ∃ bf : Nat → Bool, bf = fun i => cmpB 1 (rd xs ((oA + i : Nat) : Int)) (y) := ⟨_, rfl⟩
  rw [← hbf]
  have Qb := Aside0.mk hbf
  have QL := Aside0.mk (And.intro hl (And.intro hnl hA))
  have QT := Aside0.mk (And.intro ht hT)
  have hnAi : (n : Int) ≤ (nA : Int) := by omega
  have hni : (n : Int) ≤ 1000000 := by omega
  clear ht hT hbf hn hl hnl hA
  go_enter Tryz.func49, Tryz.ntmps49
  go_upto_region 1 with (fail)
  go_loopg [9] n (fun kq v9 w' => ∃ i : Nat, v9 = .int .i64 (i : Int) ∧ Aside0 (i + kq = n) ∧ Aside0 (w'.heap[gT]? = some (.cells (cU bf i ++ ts.drop i).toArray 164 (0, 0))) ∧ Aside0 (Fr w w' gT gT))
  case atStart => exact ⟨0, rfl, ⟨by omega⟩, ⟨QT.out.1⟩, ⟨Fr.refl _ _ _⟩⟩
  case round =>
    obtain ⟨i, rfl, HA, HG, HF⟩ := hrel
    rcases Nat.eq_zero_or_pos gk with h0 | h0
    · have hi : ((i : Int) < (n : Int)) = False := by have := HA.out; simp; omega
      go_wp2
      go_end0
      obtain rfl : i = n := by have := HA.out; omega
      exact ⟨rfl, HG.out, HF.out⟩
    · have hi : (i : Int) < (n : Int) := by have := HA.out; omega
      have hi2 : i < n := by omega
      have QI := Aside0.mk hi2
      obtain ⟨k1, rfl⟩ : ∃ k1, gk = k1 + 1 := ⟨gk - 1, by omega⟩
      have hlen : i < (cU bf i ++ ts.drop i).length := by rw [List.length_append, cU_len, List.length_drop]; have := QT.out; omega
      obtain ⟨u0, k0⟩ : ∃ u, wr.cell? ⟨gT, i, none⟩ = some u := ⟨(cU bf i ++ ts.drop i)[i], (blk_cell HG.out _).trans (by rw [List.getElem?_toArray, List.getElem?_eq_getElem hlen])⟩
      have z0 := blk_frozen HG.out i
      have kl := (blk_cell ((HF.out.far gl (blk_lt QL.out.1) QL.out.2.1 QL.out.2.1).trans QL.out.1) (oA + i)).trans (show (cI xs).toArray[oA + i]? = some (.int .i32 (rd xs ((oA + i : Nat) : Int))) by rw [List.getElem?_toArray]; exact cI_get (by have := QL.out; omega))
      have hiA : (i : Int) < (nA : Int) := by omega
      have hiA2 : i < nA := by omega
      obtain ⟨a, ha⟩ : ∃ a, a = rd xs ((oA + i : Nat) : Int) := ⟨_, rfl⟩
      rw [← ha] at kl
      obtain ⟨t, ht⟩ : ∃ t, t = cmpB 1 a y := ⟨_, rfl⟩
      have Qt := Aside0.mk (show bf i = t by rw [Qb.out, ht, ha])
      unfold cmpB at ht
      clear h0 hlen ha 
      have he1 : (a != y) = t := ht.symm
      have he2 : (!(a == y)) = t := by rw [ht]; rfl
      have he3 : (!decide (a = y)) = t := by rw [ht]; rfl
      clear ht
      cases t
      · go_upto_region 3 with (fail)
        skip
        go_wp2
        go_roundg k1
        case rel =>
          refine ⟨i + 1, rfl, ⟨by have := HA.out; omega⟩, ⟨?_⟩, ⟨?_⟩⟩
          · have h := blk_set HG.out i (.int .u32 (b2i (bf i)))
            rw [Qt.out, show b2i false = 0 from rfl] at h
            rw [← tmpAt_set bf ts n i (by have := QT.out; have := QI.out; omega), Qt.out, show b2i false = 0 from rfl]
            first | (simpa using h) | (show (wr.setCell _ _).heap[gT]? = _; simpa using h)
          · first | exact HF.out.set gT i _ (.inl rfl) | exact (HF.out.step (pw_below_drewN (Below.refl _ _) _)).set gT i _ (.inl rfl)
        · omega
      · go_upto_region 3 with (fail)
        skip
        go_wp2
        go_roundg k1
        case rel =>
          refine ⟨i + 1, rfl, ⟨by have := HA.out; omega⟩, ⟨?_⟩, ⟨?_⟩⟩
          · have h := blk_set HG.out i (.int .u32 (b2i (bf i)))
            rw [Qt.out, show b2i true = 1 from rfl] at h
            rw [← tmpAt_set bf ts n i (by have := QT.out; have := QI.out; omega), Qt.out, show b2i true = 1 from rfl]
            first | (simpa using h) | (show (wr.setCell _ _).heap[gT]? = _; simpa using h)
          · first | exact HF.out.set gT i _ (.inl rfl) | exact (HF.out.step (pw_below_drewN (Below.refl _ _) _)).set gT i _ (.inl rfl)
        · omega
set_option maxHeartbeats 8000000 in
set_option maxRecDepth 100000 in
theorem sa1_is (x : Int) (gr oB nB cB : Nat) (ys : List Int) (gT cT n : Nat) (ts : List Value) (w : World) (hr : w.heap[gr]? = some (.cells (cI ys).toArray 21 (0, 0))) (hnr : gr ≠ gT) (hB : oB + n ≤ ys.length) (hnB : n ≤ nB) (ht : w.heap[gT]? = some (.cells ts.toArray 164 (0, 0))) (hT : n ≤ ts.length) (hn : n ≤ 1000000) :
    Calls Tryz.prog 50 #[.int .i32 x, .slice (some ⟨gr, oB, none⟩) nB cB, .slice (some ⟨gT, 0, none⟩) n cT] w fun e w' => e = .returned (.tuple #[]) ∧ w'.heap[gT]? = some (.cells (cU (fun i => cmpB 1 (x) (rd ys ((oB + i : Nat) : Int))) n ++ ts.drop n).toArray 164 (0, 0)) ∧ Fr w w' gT gT := by
  obtain ⟨bf, hbf⟩ : ∃ bf : Nat → Bool, bf = fun i => cmpB 1 (x) (rd ys ((oB + i : Nat) : Int)) := ⟨_, rfl⟩
  rw [← hbf]
  have Qb := Aside0.mk hbf
  have QR := Aside0.mk (And.intro hr (And.intro hnr hB))
  have QT := Aside0.mk (And.intro ht hT)
  have hnBi : (n : Int) ≤ (nB : Int) := by omega
  have hni : (n : Int) ≤ 1000000 := by omega
  clear ht hT hbf hn hr hnr hB
  go_enter Tryz.func50, Tryz.ntmps50
  go_upto_region 1 with (fail)
  go_loopg [9] n (fun kq v9 w' => ∃ i : Nat, v9 = .int .i64 (i : Int) ∧ Aside0 (i + kq = n) ∧ Aside0 (w'.heap[gT]? = some (.cells (cU bf i ++ ts.drop i).toArray 164 (0, 0))) ∧ Aside0 (Fr w w' gT gT))
  case atStart => exact ⟨0, rfl, ⟨by omega⟩, ⟨QT.out.1⟩, ⟨Fr.refl _ _ _⟩⟩
  case round =>
    obtain ⟨i, rfl, HA, HG, HF⟩ := hrel
    rcases Nat.eq_zero_or_pos gk with h0 | h0
    · have hi : ((i : Int) < (n : Int)) = False := by have := HA.out; simp; omega
      go_wp2
      go_end0
      obtain rfl : i = n := by have := HA.out; omega
      exact ⟨rfl, HG.out, HF.out⟩
    · have hi : (i : Int) < (n : Int) := by have := HA.out; omega
      have hi2 : i < n := by omega
      have QI := Aside0.mk hi2
      obtain ⟨k1, rfl⟩ : ∃ k1, gk = k1 + 1 := ⟨gk - 1, by omega⟩
      have hlen : i < (cU bf i ++ ts.drop i).length := by rw [List.length_append, cU_len, List.length_drop]; have := QT.out; omega
      obtain ⟨u0, k0⟩ : ∃ u, wr.cell? ⟨gT, i, none⟩ = some u := ⟨(cU bf i ++ ts.drop i)[i], (blk_cell HG.out _).trans (by rw [List.getElem?_toArray, List.getElem?_eq_getElem hlen])⟩
      have z0 := blk_frozen HG.out i
      have kr := (blk_cell ((HF.out.far gr (blk_lt QR.out.1) QR.out.2.1 QR.out.2.1).trans QR.out.1) (oB + i)).trans (show (cI ys).toArray[oB + i]? = some (.int .i32 (rd ys ((oB + i : Nat) : Int))) by rw [List.getElem?_toArray]; exact cI_get (by have := QR.out; omega))
      have hiB : (i : Int) < (nB : Int) := by omega
      have hiB2 : i < nB := by omega
      obtain ⟨b, hb⟩ : ∃ b, b = rd ys ((oB + i : Nat) : Int) := ⟨_, rfl⟩
      rw [← hb] at kr
      obtain ⟨t, ht⟩ : ∃ t, t = cmpB 1 x b := ⟨_, rfl⟩
      have Qt := Aside0.mk (show bf i = t by rw [Qb.out, ht, hb])
      unfold cmpB at ht
      clear h0 hlen  hb
      have he1 : (x != b) = t := ht.symm
      have he2 : (!(x == b)) = t := by rw [ht]; rfl
      have he3 : (!decide (x = b)) = t := by rw [ht]; rfl
      clear ht
      cases t
      · go_upto_region 3 with (fail)
        skip
        go_wp2
        go_roundg k1
        case rel =>
          refine ⟨i + 1, rfl, ⟨by have := HA.out; omega⟩, ⟨?_⟩, ⟨?_⟩⟩
          · have h := blk_set HG.out i (.int .u32 (b2i (bf i)))
            rw [Qt.out, show b2i false = 0 from rfl] at h
            rw [← tmpAt_set bf ts n i (by have := QT.out; have := QI.out; omega), Qt.out, show b2i false = 0 from rfl]
            first | (simpa using h) | (show (wr.setCell _ _).heap[gT]? = _; simpa using h)
          · first | exact HF.out.set gT i _ (.inl rfl) | exact (HF.out.step (pw_below_drewN (Below.refl _ _) _)).set gT i _ (.inl rfl)
        · omega
      · go_upto_region 3 with (fail)
        skip
        go_wp2
        go_roundg k1
        case rel =>
          refine ⟨i + 1, rfl, ⟨by have := HA.out; omega⟩, ⟨?_⟩, ⟨?_⟩⟩
          · have h := blk_set HG.out i (.int .u32 (b2i (bf i)))
            rw [Qt.out, show b2i true = 1 from rfl] at h
            rw [← tmpAt_set bf ts n i (by have := QT.out; have := QI.out; omega), Qt.out, show b2i true = 1 from rfl]
            first | (simpa using h) | (show (wr.setCell _ _).heap[gT]? = _; simpa using h)
          · first | exact HF.out.set gT i _ (.inl rfl) | exact (HF.out.step (pw_below_drewN (Below.refl _ _) _)).set gT i _ (.inl rfl)
        · omega
set_option maxHeartbeats 8000000 in
set_option maxRecDepth 100000 in
theorem aa2_is (gl oA nA cA : Nat) (xs : List Int) (gr oB nB cB : Nat) (ys : List Int) (gT cT n : Nat) (ts : List Value) (w : World) (hl : w.heap[gl]? = some (.cells (cI xs).toArray 21 (0, 0))) (hnl : gl ≠ gT) (hA : oA + n ≤ xs.length) (hnA : n ≤ nA) (hr : w.heap[gr]? = some (.cells (cI ys).toArray 21 (0, 0))) (hnr : gr ≠ gT) (hB : oB + n ≤ ys.length) (hnB : n ≤ nB) (ht : w.heap[gT]? = some (.cells ts.toArray 164 (0, 0))) (hT : n ≤ ts.length) (hn : n ≤ 1000000) :
    Calls Tryz.prog 51 #[.slice (some ⟨gl, oA, none⟩) nA cA, .slice (some ⟨gr, oB, none⟩) nB cB, .slice (some ⟨gT, 0, none⟩) n cT] w fun e w' => e = .returned (.tuple #[]) ∧ w'.heap[gT]? = some (.cells (cU (fun i => cmpB 2 (rd xs ((oA + i : Nat) : Int)) (rd ys ((oB + i : Nat) : Int))) n ++ ts.drop n).toArray 164 (0, 0)) ∧ Fr w w' gT gT := by
  obtain ⟨bf, hbf⟩ : ∃ bf : Nat → Bool, bf = fun i => cmpB 2 (rd xs ((oA + i : Nat) : Int)) (rd ys ((oB + i : Nat) : Int)) := ⟨_, rfl⟩
  rw [← hbf]
  have Qb := Aside0.mk hbf
  have QL := Aside0.mk (And.intro hl (And.intro hnl hA))
  have QR := Aside0.mk (And.intro hr (And.intro hnr hB))
  have QT := Aside0.mk (And.intro ht hT)
  have hnAi : (n : Int) ≤ (nA : Int) := by omega
  have hnBi : (n : Int) ≤ (nB : Int) := by omega
  have hni : (n : Int) ≤ 1000000 := by omega
  clear ht hT hbf hn hl hnl hA hr hnr hB
  go_enter Tryz.func51, Tryz.ntmps51
  go_upto_region 1 with (fail)
  go_loopg [9] n (fun kq v9 w' => ∃ i : Nat, v9 = .int .i64 (i : Int) ∧ Aside0 (i + kq = n) ∧ Aside0 (w'.heap[gT]? = some (.cells (cU bf i ++ ts.drop i).toArray 164 (0, 0))) ∧ Aside0 (Fr w w' gT gT))
  case atStart => exact ⟨0, rfl, ⟨by omega⟩, ⟨QT.out.1⟩, ⟨Fr.refl _ _ _⟩⟩
  case round =>
    obtain ⟨i, rfl, HA, HG, HF⟩ := hrel
    rcases Nat.eq_zero_or_pos gk with h0 | h0
    · have hi : ((i : Int) < (n : Int)) = False := by have := HA.out; simp; omega
      go_wp2
      go_end0
      obtain rfl : i = n := by have := HA.out; omega
      exact ⟨rfl, HG.out, HF.out⟩
    · have hi : (i : Int) < (n : Int) := by have := HA.out; omega
      have hi2 : i < n := by omega
      have QI := Aside0.mk hi2
      obtain ⟨k1, rfl⟩ : ∃ k1, gk = k1 + 1 := ⟨gk - 1, by omega⟩
      have hlen : i < (cU bf i ++ ts.drop i).length := by rw [List.length_append, cU_len, List.length_drop]; have := QT.out; omega
      obtain ⟨u0, k0⟩ : ∃ u, wr.cell? ⟨gT, i, none⟩ = some u := ⟨(cU bf i ++ ts.drop i)[i], (blk_cell HG.out _).trans (by rw [List.getElem?_toArray, List.getElem?_eq_getElem hlen])⟩
      have z0 := blk_frozen HG.out i
      have kl := (blk_cell ((HF.out.far gl (blk_lt QL.out.1) QL.out.2.1 QL.out.2.1).trans QL.out.1) (oA + i)).trans (show (cI xs).toArray[oA + i]? = some (.int .i32 (rd xs ((oA + i : Nat) : Int))) by rw [List.getElem?_toArray]; exact cI_get (by have := QL.out; omega))
      have hiA : (i : Int) < (nA : Int) := by omega
      have hiA2 : i < nA := by omega
      obtain ⟨a, ha⟩ : ∃ a, a = rd xs ((oA + i : Nat) : Int) := ⟨_, rfl⟩
      rw [← ha] at kl
      have kr := (blk_cell ((HF.out.far gr (blk_lt QR.out.1) QR.out.2.1 QR.out.2.1).trans QR.out.1) (oB + i)).trans (show (cI ys).toArray[oB + i]? = some (.int .i32 (rd ys ((oB + i : Nat) : Int))) by rw [List.getElem?_toArray]; exact cI_get (by have := QR.out; omega))
      have hiB : (i : Int) < (nB : Int) := by omega
      have hiB2 : i < nB := by omega
      obtain ⟨b, hb⟩ : ∃ b, b = rd ys ((oB + i : Nat) : Int) := ⟨_, rfl⟩
      rw [← hb] at kr
      obtain ⟨t, ht⟩ : ∃ t, t = cmpB 2 a b := ⟨_, rfl⟩
      have Qt := Aside0.mk (show bf i = t by rw [Qb.out, ht, ha, hb])
      unfold cmpB at ht
      clear h0 hlen ha hb
      have he1 : decide (b < a) = t := ht.symm
      clear ht
      cases t
      · go_upto_region 3 with (fail)
        go_quiet ((fail))
        go_wp2
        go_roundg k1
        case rel =>
          refine ⟨i + 1, rfl, ⟨by have := HA.out; omega⟩, ⟨?_⟩, ⟨?_⟩⟩
          · have h := blk_set HG.out i (.int .u32 (b2i (bf i)))
            rw [Qt.out, show b2i false = 0 from rfl] at h
            rw [← tmpAt_set bf ts n i (by have := QT.out; have := QI.out; omega), Qt.out, show b2i false = 0 from rfl]
            first | (simpa using h) | (show (wr.setCell _ _).heap[gT]? = _; simpa using h)
          · first | exact HF.out.set gT i _ (.inl rfl) | exact (HF.out.step (pw_below_drewN (Below.refl _ _) _)).set gT i _ (.inl rfl)
        · omega
      · go_upto_region 3 with (fail)
        go_quiet ((fail))
        go_wp2
        go_roundg k1
        case rel =>
          refine ⟨i + 1, rfl, ⟨by have := HA.out; omega⟩, ⟨?_⟩, ⟨?_⟩⟩
          · have h := blk_set HG.out i (.int .u32 (b2i (bf i)))
            rw [Qt.out, show b2i true = 1 from rfl] at h
            rw [← tmpAt_set bf ts n i (by have := QT.out; have := QI.out; omega), Qt.out, show b2i true = 1 from rfl]
            first | (simpa using h) | (show (wr.setCell _ _).heap[gT]? = _; simpa using h)
          · first | exact HF.out.set gT i _ (.inl rfl) | exact (HF.out.step (pw_below_drewN (Below.refl _ _) _)).set gT i _ (.inl rfl)
        · omega
set_option maxHeartbeats 8000000 in
set_option maxRecDepth 100000 in
theorem as2_is (gl oA nA cA : Nat) (xs : List Int) (y : Int) (gT cT n : Nat) (ts : List Value) (w : World) (hl : w.heap[gl]? = some (.cells (cI xs).toArray 21 (0, 0))) (hnl : gl ≠ gT) (hA : oA + n ≤ xs.length) (hnA : n ≤ nA) (ht : w.heap[gT]? = some (.cells ts.toArray 164 (0, 0))) (hT : n ≤ ts.length) (hn : n ≤ 1000000) :
    Calls Tryz.prog 52 #[.slice (some ⟨gl, oA, none⟩) nA cA, .int .i32 y, .slice (some ⟨gT, 0, none⟩) n cT] w fun e w' => e = .returned (.tuple #[]) ∧ w'.heap[gT]? = some (.cells (cU (fun i => cmpB 2 (rd xs ((oA + i : Nat) : Int)) (y)) n ++ ts.drop n).toArray 164 (0, 0)) ∧ Fr w w' gT gT := by
  obtain ⟨bf, hbf⟩ : ∃ bf : Nat → Bool, bf = fun i => cmpB 2 (rd xs ((oA + i : Nat) : Int)) (y) := ⟨_, rfl⟩
  rw [← hbf]
  have Qb := Aside0.mk hbf
  have QL := Aside0.mk (And.intro hl (And.intro hnl hA))
  have QT := Aside0.mk (And.intro ht hT)
  have hnAi : (n : Int) ≤ (nA : Int) := by omega
  have hni : (n : Int) ≤ 1000000 := by omega
  clear ht hT hbf hn hl hnl hA
  go_enter Tryz.func52, Tryz.ntmps52
  go_upto_region 1 with (fail)
  go_loopg [9] n (fun kq v9 w' => ∃ i : Nat, v9 = .int .i64 (i : Int) ∧ Aside0 (i + kq = n) ∧ Aside0 (w'.heap[gT]? = some (.cells (cU bf i ++ ts.drop i).toArray 164 (0, 0))) ∧ Aside0 (Fr w w' gT gT))
  case atStart => exact ⟨0, rfl, ⟨by omega⟩, ⟨QT.out.1⟩, ⟨Fr.refl _ _ _⟩⟩
  case round =>
    obtain ⟨i, rfl, HA, HG, HF⟩ := hrel
    rcases Nat.eq_zero_or_pos gk with h0 | h0
    · have hi : ((i : Int) < (n : Int)) = False := by have := HA.out; simp; omega
      go_wp2
      go_end0
      obtain rfl : i = n := by have := HA.out; omega
      exact ⟨rfl, HG.out, HF.out⟩
    · have hi : (i : Int) < (n : Int) := by have := HA.out; omega
      have hi2 : i < n := by omega
      have QI := Aside0.mk hi2
      obtain ⟨k1, rfl⟩ : ∃ k1, gk = k1 + 1 := ⟨gk - 1, by omega⟩
      have hlen : i < (cU bf i ++ ts.drop i).length := by rw [List.length_append, cU_len, List.length_drop]; have := QT.out; omega
      obtain ⟨u0, k0⟩ : ∃ u, wr.cell? ⟨gT, i, none⟩ = some u := ⟨(cU bf i ++ ts.drop i)[i], (blk_cell HG.out _).trans (by rw [List.getElem?_toArray, List.getElem?_eq_getElem hlen])⟩
      have z0 := blk_frozen HG.out i
      have kl := (blk_cell ((HF.out.far gl (blk_lt QL.out.1) QL.out.2.1 QL.out.2.1).trans QL.out.1) (oA + i)).trans (show (cI xs).toArray[oA + i]? = some (.int .i32 (rd xs ((oA + i : Nat) : Int))) by rw [List.getElem?_toArray]; exact cI_get (by have := QL.out; omega))
      have hiA : (i : Int) < (nA : Int) := by omega
      have hiA2 : i < nA := by omega
      obtain ⟨a, ha⟩ : ∃ a, a = rd xs ((oA + i : Nat) : Int) := ⟨_, rfl⟩
      rw [← ha] at kl
      obtain ⟨t, ht⟩ : ∃ t, t = cmpB 2 a y := ⟨_, rfl⟩
      have Qt := Aside0.mk (show bf i = t by rw [Qb.out, ht, ha])
      unfold cmpB at ht
      clear h0 hlen ha 
      have he1 : decide (y < a) = t := ht.symm
      clear ht
      cases t
      · go_upto_region 3 with (fail)
        skip
        go_wp2
        go_roundg k1
        case rel =>
          refine ⟨i + 1, rfl, ⟨by have := HA.out; omega⟩, ⟨?_⟩, ⟨?_⟩⟩
          · have h := blk_set HG.out i (.int .u32 (b2i (bf i)))
            rw [Qt.out, show b2i false = 0 from rfl] at h
            rw [← tmpAt_set bf ts n i (by have := QT.out; have := QI.out; omega), Qt.out, show b2i false = 0 from rfl]
            first | (simpa using h) | (show (wr.setCell _ _).heap[gT]? = _; simpa using h)
          · first | exact HF.out.set gT i _ (.inl rfl) | exact (HF.out.step (pw_below_drewN (Below.refl _ _) _)).set gT i _ (.inl rfl)
        · omega
      · go_upto_region 3 with (fail)
        skip
        go_wp2
        go_roundg k1
        case rel =>
          refine ⟨i + 1, rfl, ⟨by have := HA.out; omega⟩, ⟨?_⟩, ⟨?_⟩⟩
          · have h := blk_set HG.out i (.int .u32 (b2i (bf i)))
            rw [Qt.out, show b2i true = 1 from rfl] at h
            rw [← tmpAt_set bf ts n i (by have := QT.out; have := QI.out; omega), Qt.out, show b2i true = 1 from rfl]
            first | (simpa using h) | (show (wr.setCell _ _).heap[gT]? = _; simpa using h)
          · first | exact HF.out.set gT i _ (.inl rfl) | exact (HF.out.step (pw_below_drewN (Below.refl _ _) _)).set gT i _ (.inl rfl)
        · omega
set_option maxHeartbeats 8000000 in
set_option maxRecDepth 100000 in
theorem sa2_is (x : Int) (gr oB nB cB : Nat) (ys : List Int) (gT cT n : Nat) (ts : List Value) (w : World) (hr : w.heap[gr]? = some (.cells (cI ys).toArray 21 (0, 0))) (hnr : gr ≠ gT) (hB : oB + n ≤ ys.length) (hnB : n ≤ nB) (ht : w.heap[gT]? = some (.cells ts.toArray 164 (0, 0))) (hT : n ≤ ts.length) (hn : n ≤ 1000000) :
    Calls Tryz.prog 53 #[.int .i32 x, .slice (some ⟨gr, oB, none⟩) nB cB, .slice (some ⟨gT, 0, none⟩) n cT] w fun e w' => e = .returned (.tuple #[]) ∧ w'.heap[gT]? = some (.cells (cU (fun i => cmpB 2 (x) (rd ys ((oB + i : Nat) : Int))) n ++ ts.drop n).toArray 164 (0, 0)) ∧ Fr w w' gT gT := by
  obtain ⟨bf, hbf⟩ : ∃ bf : Nat → Bool, bf = fun i => cmpB 2 (x) (rd ys ((oB + i : Nat) : Int)) := ⟨_, rfl⟩
  rw [← hbf]
  have Qb := Aside0.mk hbf
  have QR := Aside0.mk (And.intro hr (And.intro hnr hB))
  have QT := Aside0.mk (And.intro ht hT)
  have hnBi : (n : Int) ≤ (nB : Int) := by omega
  have hni : (n : Int) ≤ 1000000 := by omega
  clear ht hT hbf hn hr hnr hB
  go_enter Tryz.func53, Tryz.ntmps53
  go_upto_region 1 with (fail)
  go_loopg [9] n (fun kq v9 w' => ∃ i : Nat, v9 = .int .i64 (i : Int) ∧ Aside0 (i + kq = n) ∧ Aside0 (w'.heap[gT]? = some (.cells (cU bf i ++ ts.drop i).toArray 164 (0, 0))) ∧ Aside0 (Fr w w' gT gT))
  case atStart => exact ⟨0, rfl, ⟨by omega⟩, ⟨QT.out.1⟩, ⟨Fr.refl _ _ _⟩⟩
  case round =>
    obtain ⟨i, rfl, HA, HG, HF⟩ := hrel
    rcases Nat.eq_zero_or_pos gk with h0 | h0
    · have hi : ((i : Int) < (n : Int)) = False := by have := HA.out; simp; omega
      go_wp2
      go_end0
      obtain rfl : i = n := by have := HA.out; omega
      exact ⟨rfl, HG.out, HF.out⟩
    · have hi : (i : Int) < (n : Int) := by have := HA.out; omega
      have hi2 : i < n := by omega
      have QI := Aside0.mk hi2
      obtain ⟨k1, rfl⟩ : ∃ k1, gk = k1 + 1 := ⟨gk - 1, by omega⟩
      have hlen : i < (cU bf i ++ ts.drop i).length := by rw [List.length_append, cU_len, List.length_drop]; have := QT.out; omega
      obtain ⟨u0, k0⟩ : ∃ u, wr.cell? ⟨gT, i, none⟩ = some u := ⟨(cU bf i ++ ts.drop i)[i], (blk_cell HG.out _).trans (by rw [List.getElem?_toArray, List.getElem?_eq_getElem hlen])⟩
      have z0 := blk_frozen HG.out i
      have kr := (blk_cell ((HF.out.far gr (blk_lt QR.out.1) QR.out.2.1 QR.out.2.1).trans QR.out.1) (oB + i)).trans (show (cI ys).toArray[oB + i]? = some (.int .i32 (rd ys ((oB + i : Nat) : Int))) by rw [List.getElem?_toArray]; exact cI_get (by have := QR.out; omega))
      have hiB : (i : Int) < (nB : Int) := by omega
      have hiB2 : i < nB := by omega
      obtain ⟨b, hb⟩ : ∃ b, b = rd ys ((oB + i : Nat) : Int) := ⟨_, rfl⟩
      rw [← hb] at kr
      obtain ⟨t, ht⟩ : ∃ t, t = cmpB 2 x b := ⟨_, rfl⟩
      have Qt := Aside0.mk (show bf i = t by rw [Qb.out, ht, hb])
      unfold cmpB at ht
      clear h0 hlen  hb
      have he1 : decide (b < x) = t := ht.symm
      clear ht
      cases t
      · go_upto_region 3 with (fail)
        skip
        go_wp2
        go_roundg k1
        case rel =>
          refine ⟨i + 1, rfl, ⟨by have := HA.out; omega⟩, ⟨?_⟩, ⟨?_⟩⟩
          · have h := blk_set HG.out i (.int .u32 (b2i (bf i)))
            rw [Qt.out, show b2i false = 0 from rfl] at h
            rw [← tmpAt_set bf ts n i (by have := QT.out; have := QI.out; omega), Qt.out, show b2i false = 0 from rfl]
            first | (simpa using h) | (show (wr.setCell _ _).heap[gT]? = _; simpa using h)
          · first | exact HF.out.set gT i _ (.inl rfl) | exact (HF.out.step (pw_below_drewN (Below.refl _ _) _)).set gT i _ (.inl rfl)
        · omega
      · go_upto_region 3 with (fail)
        skip
        go_wp2
        go_roundg k1
        case rel =>
          refine ⟨i + 1, rfl, ⟨by have := HA.out; omega⟩, ⟨?_⟩, ⟨?_⟩⟩
          · have h := blk_set HG.out i (.int .u32 (b2i (bf i)))
            rw [Qt.out, show b2i true = 1 from rfl] at h
            rw [← tmpAt_set bf ts n i (by have := QT.out; have := QI.out; omega), Qt.out, show b2i true = 1 from rfl]
            first | (simpa using h) | (show (wr.setCell _ _).heap[gT]? = _; simpa using h)
          · first | exact HF.out.set gT i _ (.inl rfl) | exact (HF.out.step (pw_below_drewN (Below.refl _ _) _)).set gT i _ (.inl rfl)
        · omega
set_option maxHeartbeats 8000000 in
set_option maxRecDepth 100000 in
theorem aa3_is (gl oA nA cA : Nat) (xs : List Int) (gr oB nB cB : Nat) (ys : List Int) (gT cT n : Nat) (ts : List Value) (w : World) (hl : w.heap[gl]? = some (.cells (cI xs).toArray 21 (0, 0))) (hnl : gl ≠ gT) (hA : oA + n ≤ xs.length) (hnA : n ≤ nA) (hr : w.heap[gr]? = some (.cells (cI ys).toArray 21 (0, 0))) (hnr : gr ≠ gT) (hB : oB + n ≤ ys.length) (hnB : n ≤ nB) (ht : w.heap[gT]? = some (.cells ts.toArray 164 (0, 0))) (hT : n ≤ ts.length) (hn : n ≤ 1000000) :
    Calls Tryz.prog 54 #[.slice (some ⟨gl, oA, none⟩) nA cA, .slice (some ⟨gr, oB, none⟩) nB cB, .slice (some ⟨gT, 0, none⟩) n cT] w fun e w' => e = .returned (.tuple #[]) ∧ w'.heap[gT]? = some (.cells (cU (fun i => cmpB 3 (rd xs ((oA + i : Nat) : Int)) (rd ys ((oB + i : Nat) : Int))) n ++ ts.drop n).toArray 164 (0, 0)) ∧ Fr w w' gT gT := by
  obtain ⟨bf, hbf⟩ : ∃ bf : Nat → Bool, bf = fun i => cmpB 3 (rd xs ((oA + i : Nat) : Int)) (rd ys ((oB + i : Nat) : Int)) := ⟨_, rfl⟩
  rw [← hbf]
  have Qb := Aside0.mk hbf
  have QL := Aside0.mk (And.intro hl (And.intro hnl hA))
  have QR := Aside0.mk (And.intro hr (And.intro hnr hB))
  have QT := Aside0.mk (And.intro ht hT)
  have hnAi : (n : Int) ≤ (nA : Int) := by omega
  have hnBi : (n : Int) ≤ (nB : Int) := by omega
  have hni : (n : Int) ≤ 1000000 := by omega
  clear ht hT hbf hn hl hnl hA hr hnr hB
  go_enter Tryz.func54, Tryz.ntmps54
  go_upto_region 1 with (fail)
  go_loopg [9] n (fun kq v9 w' => ∃ i : Nat, v9 = .int .i64 (i : Int) ∧ Aside0 (i + kq = n) ∧ Aside0 (w'.heap[gT]? = some (.cells (cU bf i ++ ts.drop i).toArray 164 (0, 0))) ∧ Aside0 (Fr w w' gT gT))
  case atStart => exact ⟨0, rfl, ⟨by omega⟩, ⟨QT.out.1⟩, ⟨Fr.refl _ _ _⟩⟩
  case round =>
    obtain ⟨i, rfl, HA, HG, HF⟩ := hrel
    rcases Nat.eq_zero_or_pos gk with h0 | h0
    · have hi : ((i : Int) < (n : Int)) = False := by have := HA.out; simp; omega
      go_wp2
      go_end0
      obtain rfl : i = n := by have := HA.out; omega
      exact ⟨rfl, HG.out, HF.out⟩
    · have hi : (i : Int) < (n : Int) := by have := HA.out; omega
      have hi2 : i < n := by omega
      have QI := Aside0.mk hi2
      obtain ⟨k1, rfl⟩ : ∃ k1, gk = k1 + 1 := ⟨gk - 1, by omega⟩
      have hlen : i < (cU bf i ++ ts.drop i).length := by rw [List.length_append, cU_len, List.length_drop]; have := QT.out; omega
      obtain ⟨u0, k0⟩ : ∃ u, wr.cell? ⟨gT, i, none⟩ = some u := ⟨(cU bf i ++ ts.drop i)[i], (blk_cell HG.out _).trans (by rw [List.getElem?_toArray, List.getElem?_eq_getElem hlen])⟩
      have z0 := blk_frozen HG.out i
      have kl := (blk_cell ((HF.out.far gl (blk_lt QL.out.1) QL.out.2.1 QL.out.2.1).trans QL.out.1) (oA + i)).trans (show (cI xs).toArray[oA + i]? = some (.int .i32 (rd xs ((oA + i : Nat) : Int))) by rw [List.getElem?_toArray]; exact cI_get (by have := QL.out; omega))
      have hiA : (i : Int) < (nA : Int) := by omega
      have hiA2 : i < nA := by omega
      obtain ⟨a, ha⟩ : ∃ a, a = rd xs ((oA + i : Nat) : Int) := ⟨_, rfl⟩
      rw [← ha] at kl
      have kr := (blk_cell ((HF.out.far gr (blk_lt QR.out.1) QR.out.2.1 QR.out.2.1).trans QR.out.1) (oB + i)).trans (show (cI ys).toArray[oB + i]? = some (.int .i32 (rd ys ((oB + i : Nat) : Int))) by rw [List.getElem?_toArray]; exact cI_get (by have := QR.out; omega))
      have hiB : (i : Int) < (nB : Int) := by omega
      have hiB2 : i < nB := by omega
      obtain ⟨b, hb⟩ : ∃ b, b = rd ys ((oB + i : Nat) : Int) := ⟨_, rfl⟩
      rw [← hb] at kr
      obtain ⟨t, ht⟩ : ∃ t, t = cmpB 3 a b := ⟨_, rfl⟩
      have Qt := Aside0.mk (show bf i = t by rw [Qb.out, ht, ha, hb])
      unfold cmpB at ht
      clear h0 hlen ha hb
      have he1 : decide (b ≤ a) = t := ht.symm
      clear ht
      cases t
      · go_upto_region 3 with (fail)
        go_quiet ((fail))
        go_wp2
        go_roundg k1
        case rel =>
          refine ⟨i + 1, rfl, ⟨by have := HA.out; omega⟩, ⟨?_⟩, ⟨?_⟩⟩
          · have h := blk_set HG.out i (.int .u32 (b2i (bf i)))
            rw [Qt.out, show b2i false = 0 from rfl] at h
            rw [← tmpAt_set bf ts n i (by have := QT.out; have := QI.out; omega), Qt.out, show b2i false = 0 from rfl]
            first | (simpa using h) | (show (wr.setCell _ _).heap[gT]? = _; simpa using h)
          · first | exact HF.out.set gT i _ (.inl rfl) | exact (HF.out.step (pw_below_drewN (Below.refl _ _) _)).set gT i _ (.inl rfl)
        · omega
      · go_upto_region 3 with (fail)
        go_quiet ((fail))
        go_wp2
        go_roundg k1
        case rel =>
          refine ⟨i + 1, rfl, ⟨by have := HA.out; omega⟩, ⟨?_⟩, ⟨?_⟩⟩
          · have h := blk_set HG.out i (.int .u32 (b2i (bf i)))
            rw [Qt.out, show b2i true = 1 from rfl] at h
            rw [← tmpAt_set bf ts n i (by have := QT.out; have := QI.out; omega), Qt.out, show b2i true = 1 from rfl]
            first | (simpa using h) | (show (wr.setCell _ _).heap[gT]? = _; simpa using h)
          · first | exact HF.out.set gT i _ (.inl rfl) | exact (HF.out.step (pw_below_drewN (Below.refl _ _) _)).set gT i _ (.inl rfl)
        · omega
set_option maxHeartbeats 8000000 in
set_option maxRecDepth 100000 in
theorem as3_is (gl oA nA cA : Nat) (xs : List Int) (y : Int) (gT cT n : Nat) (ts : List Value) (w : World) (hl : w.heap[gl]? = some (.cells (cI xs).toArray 21 (0, 0))) (hnl : gl ≠ gT) (hA : oA + n ≤ xs.length) (hnA : n ≤ nA) (ht : w.heap[gT]? = some (.cells ts.toArray 164 (0, 0))) (hT : n ≤ ts.length) (hn : n ≤ 1000000) :
    Calls Tryz.prog 55 #[.slice (some ⟨gl, oA, none⟩) nA cA, .int .i32 y, .slice (some ⟨gT, 0, none⟩) n cT] w fun e w' => e = .returned (.tuple #[]) ∧ w'.heap[gT]? = some (.cells (cU (fun i => cmpB 3 (rd xs ((oA + i : Nat) : Int)) (y)) n ++ ts.drop n).toArray 164 (0, 0)) ∧ Fr w w' gT gT := by
  obtain ⟨bf, hbf⟩ : ∃ bf : Nat → Bool, bf = fun i => cmpB 3 (rd xs ((oA + i : Nat) : Int)) (y) := ⟨_, rfl⟩
  rw [← hbf]
  have Qb := Aside0.mk hbf
  have QL := Aside0.mk (And.intro hl (And.intro hnl hA))
  have QT := Aside0.mk (And.intro ht hT)
  have hnAi : (n : Int) ≤ (nA : Int) := by omega
  have hni : (n : Int) ≤ 1000000 := by omega
  clear ht hT hbf hn hl hnl hA
  go_enter Tryz.func55, Tryz.ntmps55
  go_upto_region 1 with (fail)
  go_loopg [9] n (fun kq v9 w' => ∃ i : Nat, v9 = .int .i64 (i : Int) ∧ Aside0 (i + kq = n) ∧ Aside0 (w'.heap[gT]? = some (.cells (cU bf i ++ ts.drop i).toArray 164 (0, 0))) ∧ Aside0 (Fr w w' gT gT))
  case atStart => exact ⟨0, rfl, ⟨by omega⟩, ⟨QT.out.1⟩, ⟨Fr.refl _ _ _⟩⟩
  case round =>
    obtain ⟨i, rfl, HA, HG, HF⟩ := hrel
    rcases Nat.eq_zero_or_pos gk with h0 | h0
    · have hi : ((i : Int) < (n : Int)) = False := by have := HA.out; simp; omega
      go_wp2
      go_end0
      obtain rfl : i = n := by have := HA.out; omega
      exact ⟨rfl, HG.out, HF.out⟩
    · have hi : (i : Int) < (n : Int) := by have := HA.out; omega
      have hi2 : i < n := by omega
      have QI := Aside0.mk hi2
      obtain ⟨k1, rfl⟩ : ∃ k1, gk = k1 + 1 := ⟨gk - 1, by omega⟩
      have hlen : i < (cU bf i ++ ts.drop i).length := by rw [List.length_append, cU_len, List.length_drop]; have := QT.out; omega
      obtain ⟨u0, k0⟩ : ∃ u, wr.cell? ⟨gT, i, none⟩ = some u := ⟨(cU bf i ++ ts.drop i)[i], (blk_cell HG.out _).trans (by rw [List.getElem?_toArray, List.getElem?_eq_getElem hlen])⟩
      have z0 := blk_frozen HG.out i
      have kl := (blk_cell ((HF.out.far gl (blk_lt QL.out.1) QL.out.2.1 QL.out.2.1).trans QL.out.1) (oA + i)).trans (show (cI xs).toArray[oA + i]? = some (.int .i32 (rd xs ((oA + i : Nat) : Int))) by rw [List.getElem?_toArray]; exact cI_get (by have := QL.out; omega))
      have hiA : (i : Int) < (nA : Int) := by omega
      have hiA2 : i < nA := by omega
      obtain ⟨a, ha⟩ : ∃ a, a = rd xs ((oA + i : Nat) : Int) := ⟨_, rfl⟩
      rw [← ha] at kl
      obtain ⟨t, ht⟩ : ∃ t, t = cmpB 3 a y := ⟨_, rfl⟩
      have Qt := Aside0.mk (show bf i = t by rw [Qb.out, ht, ha])
      unfold cmpB at ht
      clear h0 hlen ha 
      have he1 : decide (y ≤ a) = t := ht.symm
      clear ht
      cases t
      · go_upto_region 3 with (fail)
        skip
        go_wp2
        go_roundg k1
        case rel =>
          refine ⟨i + 1, rfl, ⟨by have := HA.out; omega⟩, ⟨?_⟩, ⟨?_⟩⟩
          · have h := blk_set HG.out i (.int .u32 (b2i (bf i)))
            rw [Qt.out, show b2i false = 0 from rfl] at h
            rw [← tmpAt_set bf ts n i (by have := QT.out; have := QI.out; omega), Qt.out, show b2i false = 0 from rfl]
            first | (simpa using h) | (show (wr.setCell _ _).heap[gT]? = _; simpa using h)
          · first | exact HF.out.set gT i _ (.inl rfl) | exact (HF.out.step (pw_below_drewN (Below.refl _ _) _)).set gT i _ (.inl rfl)
        · omega
      · go_upto_region 3 with (fail)
        skip
        go_wp2
        go_roundg k1
        case rel =>
          refine ⟨i + 1, rfl, ⟨by have := HA.out; omega⟩, ⟨?_⟩, ⟨?_⟩⟩
          · have h := blk_set HG.out i (.int .u32 (b2i (bf i)))
            rw [Qt.out, show b2i true = 1 from rfl] at h
            rw [← tmpAt_set bf ts n i (by have := QT.out; have := QI.out; omega), Qt.out, show b2i true = 1 from rfl]
            first | (simpa using h) | (show (wr.setCell _ _).heap[gT]? = _; simpa using h)
          · first | exact HF.out.set gT i _ (.inl rfl) | exact (HF.out.step (pw_below_drewN (Below.refl _ _) _)).set gT i _ (.inl rfl)
        · omega
set_option maxHeartbeats 8000000 in
set_option maxRecDepth 100000 in
theorem sa3_is (x : Int) (gr oB nB cB : Nat) (ys : List Int) (gT cT n : Nat) (ts : List Value) (w : World) (hr : w.heap[gr]? = some (.cells (cI ys).toArray 21 (0, 0))) (hnr : gr ≠ gT) (hB : oB + n ≤ ys.length) (hnB : n ≤ nB) (ht : w.heap[gT]? = some (.cells ts.toArray 164 (0, 0))) (hT : n ≤ ts.length) (hn : n ≤ 1000000) :
    Calls Tryz.prog 56 #[.int .i32 x, .slice (some ⟨gr, oB, none⟩) nB cB, .slice (some ⟨gT, 0, none⟩) n cT] w fun e w' => e = .returned (.tuple #[]) ∧ w'.heap[gT]? = some (.cells (cU (fun i => cmpB 3 (x) (rd ys ((oB + i : Nat) : Int))) n ++ ts.drop n).toArray 164 (0, 0)) ∧ Fr w w' gT gT := by
  obtain ⟨bf, hbf⟩ : ∃ bf : Nat → Bool, bf = fun i => cmpB 3 (x) (rd ys ((oB + i : Nat) : Int)) := ⟨_, rfl⟩
  rw [← hbf]
  have Qb := Aside0.mk hbf
  have QR := Aside0.mk (And.intro hr (And.intro hnr hB))
  have QT := Aside0.mk (And.intro ht hT)
  have hnBi : (n : Int) ≤ (nB : Int) := by omega
  have hni : (n : Int) ≤ 1000000 := by omega
  clear ht hT hbf hn hr hnr hB
  go_enter Tryz.func56, Tryz.ntmps56
  go_upto_region 1 with (fail)
  go_loopg [9] n (fun kq v9 w' => ∃ i : Nat, v9 = .int .i64 (i : Int) ∧ Aside0 (i + kq = n) ∧ Aside0 (w'.heap[gT]? = some (.cells (cU bf i ++ ts.drop i).toArray 164 (0, 0))) ∧ Aside0 (Fr w w' gT gT))
  case atStart => exact ⟨0, rfl, ⟨by omega⟩, ⟨QT.out.1⟩, ⟨Fr.refl _ _ _⟩⟩
  case round =>
    obtain ⟨i, rfl, HA, HG, HF⟩ := hrel
    rcases Nat.eq_zero_or_pos gk with h0 | h0
    · have hi : ((i : Int) < (n : Int)) = False := by have := HA.out; simp; omega
      go_wp2
      go_end0
      obtain rfl : i = n := by have := HA.out; omega
      exact ⟨rfl, HG.out, HF.out⟩
    · have hi : (i : Int) < (n : Int) := by have := HA.out; omega
      have hi2 : i < n := by omega
      have QI := Aside0.mk hi2
      obtain ⟨k1, rfl⟩ : ∃ k1, gk = k1 + 1 := ⟨gk - 1, by omega⟩
      have hlen : i < (cU bf i ++ ts.drop i).length := by rw [List.length_append, cU_len, List.length_drop]; have := QT.out; omega
      obtain ⟨u0, k0⟩ : ∃ u, wr.cell? ⟨gT, i, none⟩ = some u := ⟨(cU bf i ++ ts.drop i)[i], (blk_cell HG.out _).trans (by rw [List.getElem?_toArray, List.getElem?_eq_getElem hlen])⟩
      have z0 := blk_frozen HG.out i
      have kr := (blk_cell ((HF.out.far gr (blk_lt QR.out.1) QR.out.2.1 QR.out.2.1).trans QR.out.1) (oB + i)).trans (show (cI ys).toArray[oB + i]? = some (.int .i32 (rd ys ((oB + i : Nat) : Int))) by rw [List.getElem?_toArray]; exact cI_get (by have := QR.out; omega))
      have hiB : (i : Int) < (nB : Int) := by omega
      have hiB2 : i < nB := by omega
      obtain ⟨b, hb⟩ : ∃ b, b = rd ys ((oB + i : Nat) : Int) := ⟨_, rfl⟩
      rw [← hb] at kr
      obtain ⟨t, ht⟩ : ∃ t, t = cmpB 3 x b := ⟨_, rfl⟩
      have Qt := Aside0.mk (show bf i = t by rw [Qb.out, ht, hb])
      unfold cmpB at ht
      clear h0 hlen  hb
      have he1 : decide (b ≤ x) = t := ht.symm
      clear ht
      cases t
      · go_upto_region 3 with (fail)
        skip
        go_wp2
        go_roundg k1
        case rel =>
          refine ⟨i + 1, rfl, ⟨by have := HA.out; omega⟩, ⟨?_⟩, ⟨?_⟩⟩
          · have h := blk_set HG.out i (.int .u32 (b2i (bf i)))
            rw [Qt.out, show b2i false = 0 from rfl] at h
            rw [← tmpAt_set bf ts n i (by have := QT.out; have := QI.out; omega), Qt.out, show b2i false = 0 from rfl]
            first | (simpa using h) | (show (wr.setCell _ _).heap[gT]? = _; simpa using h)
          · first | exact HF.out.set gT i _ (.inl rfl) | exact (HF.out.step (pw_below_drewN (Below.refl _ _) _)).set gT i _ (.inl rfl)
        · omega
      · go_upto_region 3 with (fail)
        skip
        go_wp2
        go_roundg k1
        case rel =>
          refine ⟨i + 1, rfl, ⟨by have := HA.out; omega⟩, ⟨?_⟩, ⟨?_⟩⟩
          · have h := blk_set HG.out i (.int .u32 (b2i (bf i)))
            rw [Qt.out, show b2i true = 1 from rfl] at h
            rw [← tmpAt_set bf ts n i (by have := QT.out; have := QI.out; omega), Qt.out, show b2i true = 1 from rfl]
            first | (simpa using h) | (show (wr.setCell _ _).heap[gT]? = _; simpa using h)
          · first | exact HF.out.set gT i _ (.inl rfl) | exact (HF.out.step (pw_below_drewN (Below.refl _ _) _)).set gT i _ (.inl rfl)
        · omega
end Go.Proofs.YtlnbkmkdapeicaaGreatDoor.QR
