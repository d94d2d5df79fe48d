/- Numbers as values: asValues. -/
import Derived.Test.YtlnbkmkdapeicaaGreatDoorF18
namespace Go.Proofs.YtlnbkmkdapeicaaGreatDoor.QR
open Go.RowKit Go.Proofs.YtlnbkmkdapeicaaGreatDoorW.PrintWords Go.Proofs.YtlnbkmkdapeicaaGreatDoorW.PrintLast Go.Proofs.YtlnbkmkdapeicaaGreatDoorW.PrintMore
set_option linter.unusedVariables false
set_option linter.unusedSimpArgs false
def okA (xs : List Int) : Bool := xs.all (fitsA 32 true) && decide (xs.length ≤ 300)
theorem fitsN_eq (a : Int) : fitsN 32 true 0 a ⟨#[]⟩ = fitsA 32 true a := by unfold fitsN; simp
set_option maxHeartbeats 8000000 in
set_option maxRecDepth 100000 in
theorem asv_is (A : Option Addr) (xs : List Int) (c : Nat) (w : World) (hC : Kd.C (Kd.int .u64) w A xs.length xs) (hu : u64s xs) (hlen : xs.length ≤ 2147483647) : Calls Tryz.prog 6 #[TyI, .slice A xs.length c] w fun e w' => ∃ v, e = .returned (.tuple #[v, .bool (okA xs)]) ∧ (okA xs = true → ∃ A' c', v = .slice A' xs.length c' ∧ xs.length ≤ c' ∧ Kd.C kV w' A' xs.length (xs.map tv)) ∧ Below w.heap.size w w' := by
  have hT : TyI = .agg (TyM 2 32 true) := rfl
  rw [hT]
  clear hT
  have QC := Aside0.mk (And.intro hC hu)
  obtain ⟨n, hn⟩ : ∃ n, n = xs.length := ⟨_, rfl⟩
  obtain ⟨ok, hok⟩ : ∃ ok, ok = okA xs := ⟨_, rfl⟩
  rw [← hn, ← hok]
  have Qn := Aside0.mk (And.intro hn hok)
  rw [← hn] at hlen
  clear hC hu hn hok
  go_enter Tryz.func6, Tryz.ntmps6
  go_upto_region 1 with (fail)
  obtain ⟨W, hW⟩ : ∃ W, W = w.alloc (.cells (TyM 2 32 true) 35) := ⟨_, rfl⟩
  obtain ⟨h0, hh0⟩ : ∃ h0, h0 = w.heap.size := ⟨_, rfl⟩
  have g1 : W.heap[h0]? = some (.cells (TyM 2 32 true) 35 (0, 0)) := by rw [hW, hh0]; exact blk_new w _
  have hb0 : Below w.heap.size w W := by rw [hW]; exact b2 w _
  rw [← hW, ← hh0]
  have Q0 := Aside0.mk (And.intro g1 hb0)
  clear hW hh0 g1 hb0
  go_wp2_with fail
  go_loopg [6, 12] n (fun kq v6 v12 w' => ∃ i : Nat, v12 = .int .i64 (i : Int) ∧ Aside0 (i + kq = n ∧ ∀ x ∈ xs.take i, fitsA 32 true x = true) ∧ Aside0 (Kd.R kV 52 w' W.heap.size (fun _ => True) v6 ((xs.take i).map tv)) ∧ Aside0 (Below W.heap.size W w'))
  case atStart => exact ⟨0, rfl, ⟨by omega, by intro x hx; simp at hx⟩, ⟨Kd.R_nil _ _ _ _ _⟩, ⟨Below.refl _ _⟩⟩
  case round =>
    obtain ⟨i, rfl, HA, HR, HB⟩ := hrel
    obtain ⟨A6, c6, rfl⟩ := Kd.R_slice HR.out
    have hin : i ≤ n := by have := HA.out.1; omega
    have htl : ((xs.take i).map tv).length = i := by rw [List.length_map, List.length_take, ← Qn.out.1]; omega
    have QRl := Aside0.mk htl
    clear htl
    rcases Nat.eq_zero_or_pos gk with hk0 | hk0
    · rw [QRl.out]
      have hin2 : n = i := by have := HA.out.1; omega
      subst hin2
      have hi : ((n : Int) < (n : Int)) = False := by simp
      have hall : xs.all (fitsA 32 true) = true := by
        rw [List.all_eq_true]
        intro x hx
        exact HA.out.2 x (by rw [List.take_of_length_le (by rw [← Qn.out.1]; exact Nat.le_refl _)]; exact hx)
      have hle : ok = decide ((n : Int) ≤ 300) := by
        rw [Qn.out.2]
        unfold okA
        rw [hall, Bool.true_and, ← Qn.out.1]
        congr 1
        apply propext
        constructor <;> intro h <;> omega
      have Qok := Aside0.mk hle
      clear hall hle
      go_wp2
      go_ret2
      have hr := HR.out
      rw [List.take_of_length_le (by rw [← Qn.out.1]; exact Nat.le_refl _)] at hr
      obtain ⟨A9, c9, e9, l9, r9⟩ := Kd.R_reads hr
      rw [List.length_map, ← Qn.out.1] at e9 l9 r9
      rw [← Qok.out]
      have he := e9
      exact ⟨_, rfl, fun _ => ⟨A9, c9, he, l9, r9⟩, Q0.out.2.trans (HB.out.mono Q0.out.2.size)⟩
    · obtain ⟨zi, hzi⟩ : ∃ zi, zi = (xs.take i).map tv := ⟨_, rfl⟩
      rw [← hzi] at HR QRl ⊢
      have Qz := Aside0.mk hzi
      clear hzi
      have hi : (i : Int) < (n : Int) := by have := HA.out.1; omega
      have hi2 : i < n := by have := HA.out.1; omega
      have QI := Aside0.mk hi2
      obtain ⟨k1, rfl⟩ : ∃ k1, gk = k1 + 1 := ⟨gk - 1, by omega⟩
      obtain ⟨ad, e, c1⟩ := Kd.at_int (Kd.C_below QC.out.1 (Q0.out.2.trans (HB.out.mono Q0.out.2.size))) (i : Int) (by omega) (by rw [← Qn.out.1]; exact hi)
      subst e
      rw [Int.toNat_natCast] at c1
      obtain ⟨x, hx⟩ : ∃ x, x = rd xs (i : Int) := ⟨_, rfl⟩
      rw [← hx] at c1
      have hxi : xs[i]? = some x := by
        rw [hx]
        unfold rd
        rw [Int.toNat_natCast, List.getD_eq_getElem?_getD, List.getElem?_eq_getElem (by rw [← Qn.out.1]; exact hi2)]
        rfl
      have hxr := QC.out.2 x (List.mem_of_getElem? hxi)
      have hts : xs.take (i + 1) = xs.take i ++ [x] := by rw [List.take_add_one, hxi]; rfl
      have Qx := Aside0.mk (And.intro hxi (And.intro hxr hts))
      obtain ⟨t, ht⟩ : ∃ t, t = fitsA 32 true x := ⟨_, rfl⟩
      have QF := Aside0.mk (fun w1 => show Calls Tryz.prog 16 #[.agg (TyM 2 32 true), .agg #[.bool false, .int .u64 x, .string ⟨#[]⟩, .slice none 0 0]] w1 fun e w' => e = .returned (.bool t) ∧ Below w1.heap.size w1 w' from by
        have h := ofn_is x Qx.out.2.1 ⟨#[]⟩ none 0 0 w1
        rw [fitsN_eq, ← ht] at h
        exact h)
      have Qt := Aside0.mk ht
      have h0W : h0 < W.heap.size := blk_lt Q0.out.1
      have g1 := (HB.out.block h0 h0W).trans Q0.out.1
      obtain ⟨t0, t1, t2, t3, t4, t5, t6, t7, t8, t9⟩ := TyM_cells (w := wr.alloc (.cells #[.bool false, .int .u64 x, .string ⟨#[]⟩, .slice none 0 0] 52)) (blk_alloc g1 _)
      obtain ⟨v0, v1, v2, v3⟩ := VC_cells (blk_new wr (.cells #[.bool false, .int .u64 x, .string ⟨#[]⟩, .slice none 0 0] 52))
      clear hx hxi hxr hts ht g1 hk0 hin
      cases t
      · go_wp2_with (go_at_call 16; go_must (refine (QF.out _).mono ?_; rintro e w2 ⟨rfl, hb⟩; have Q2 := Aside0.mk ((HB.out.alloc HB.out.size _).trans (hb.mono (HB.out.alloc HB.out.size _).size)); clear hb))
        go_ret2
        have hf : ok = false := by
          rw [Qn.out.2]
          unfold okA
          have : xs.all (fitsA 32 true) = false := by
            rw [List.all_eq_false]
            exact ⟨x, List.mem_of_getElem? Qx.out.1, by rw [← Qt.out]; decide⟩
          rw [this]
          rfl
        rw [hf]
        exact ⟨_, rfl, fun h => (by cases h), Q0.out.2.trans (Q2.out.mono Q0.out.2.size)⟩
      · go_wp2_with (first | (go_at_call 16; go_must (refine (QF.out _).mono ?_; rintro e w2 ⟨rfl, hb⟩; have e2 := (hb.block wr.heap.size (by rw [World.size_alloc]; omega)).trans (blk_new wr (.cells #[.bool false, .int .u64 x, .string ⟨#[]⟩, .slice none 0 0] 52)); have Q2 := Aside0.mk ((HB.out.alloc HB.out.size (.cells #[.bool false, .int .u64 x, .string ⟨#[]⟩, .slice none 0 0] 52)).trans (hb.mono (HB.out.alloc HB.out.size _).size)); have R2 := Aside0.mk (Kd.R_below HR.out ((b2 wr (.cells #[.bool false, .int .u64 x, .string ⟨#[]⟩, .slice none 0 0] 52)).trans (hb.mono (b2 wr _).size))); obtain ⟨y0, y1, y2, y3⟩ := VC_cells e2; clear hb e2 t0 t1 t2 t3 t4 t5 t6 t7 t8 t9 v0 v1 v2 v3)) | ((with_reducible refine gate_builtin (b := .append) (xs := #[.tmp 22, .tmp 24]) rfl ?_); at_builtin; go_must (refine Kd.R_append kV (w0 := W) W.heap.size rfl (.tmp 22) (.tmp 24) 29 52 (.agg #[.bool false, .int .u64 0, .string ⟨#[]⟩, .slice none 0 0]) 56 rfl Tryz.underlying29 infoV rfl (by decide) (by omega) _ zi (tv x) [.bool false, .int .u64 x, .string ⟨#[]⟩, .slice none 0 0] (fun _ => True) (fun _ => False) rfl rfl (kV_mkM _ _ _ (tv x) none 0) (fun _ h => h.elim) (fun _ _ => trivial) R2.out Q2.out Q2.out.size (by rw [QRl.out]; have := QI.out; omega) ?_; intro v9 w9 hr9 hb9 _ _; have QR9 := Aside0.mk hr9; have QB9 := Aside0.mk hb9; clear hr9 hb9)))
        go_roundg k1
        case rel =>
          refine ⟨i + 1, rfl, ⟨by have := HA.out.1; omega, ?_⟩, ⟨?_⟩, QB9⟩
          · intro y hy
            rw [Qx.out.2.2] at hy
            rcases List.mem_append.1 hy with h | h
            · exact HA.out.2 y h
            · rw [List.mem_singleton.1 h]; exact Qt.out.symm
          · rw [Qx.out.2.2, List.map_append, ← Qz.out]
            exact QR9.out
        · omega
end Go.Proofs.YtlnbkmkdapeicaaGreatDoor.QR
