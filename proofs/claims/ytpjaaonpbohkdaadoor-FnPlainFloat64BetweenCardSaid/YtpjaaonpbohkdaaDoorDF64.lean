/- Which values are of the type of numbers: OneFits. -/
import Derived.Test.YtpjaaonpbohkdaaDoorA8
import Derived.Test.YtpjaaonpbohkdaaDoorA7
namespace Go.Proofs.YtpjaaonpbohkdaaDoor.QR
open Go.RowKit Go.Proofs.YtpjaaonpbohkdaaDoorW.PrintWords Go.Proofs.YtpjaaonpbohkdaaDoorW.PrintLast Go.Proofs.YtpjaaonpbohkdaaDoorW.PrintMore
set_option linter.unusedVariables false
set_option linter.unusedSimpArgs false
namespace F64
set_option maxHeartbeats 8000000 in
set_option maxRecDepth 100000 in
theorem ofn_is (a : Int) (ha : 0 ≤ a ∧ a < 18446744073709551616) (s : ByteArray) (A : Option Addr) (m c : Nat) (w : World) : Calls Tryd.prog 28 #[TyN 3 64 false, .agg #[.bool false, .int .u64 a, .string s, .slice A m c]] w fun e w' => e = .returned (.bool (fitsN 64 false m a s)) ∧ Below w.heap.size w w' := by
  have QO := Aside0.mk (fun w => obn_is 3 64 false (.inr ⟨rfl, rfl⟩) w)
  obtain ⟨fr, hfr⟩ : ∃ fr, fr = fitsN 64 false m a s := ⟨_, rfl⟩
  rw [← hfr]
  have Qf := Aside0.mk (And.intro hfr ha)
  have hT : TyN 3 64 false = .agg (TyM 3 64 false) := rfl
  rw [hT] at QO ⊢
  clear hfr hT
  by_cases hm : m = 0
  · subst hm
    go_enter Tryd.func28, Tryd.ntmps28
    go_upto_region 5 with (fail)
    obtain ⟨W, hW⟩ : ∃ W, W = (w.alloc (.cells (TyM 3 64 false) 30)).alloc (.cells #[.bool false, .int .u64 a, .string s, .slice A 0 c] 33) := ⟨_, rfl⟩
    have g1 : W.heap[w.heap.size]? = some (.cells (TyM 3 64 false) 30 (0, 0)) := by rw [hW]; exact blk_alloc (blk_new w _) _
    have g2 : W.heap[w.heap.size + 1]? = some (.cells #[.bool false, .int .u64 a, .string s, .slice A 0 c] 33 (0, 0)) := by rw [hW]; have := blk_new (w.alloc (.cells (TyM 3 64 false) 30)) (.cells #[.bool false, .int .u64 a, .string s, .slice A 0 c] 33); rw [World.size_alloc] at this; exact this
    have QB0 := Aside0.mk (show Below w.heap.size w W by rw [hW]; exact b3 w _ _)
    rw [← hW]
    clear hW
    obtain ⟨t0, t1, t2, t3, t4, t5, t6, t7, t8, t9⟩ := TyM_cells g1
    have G1 := Aside0.mk g1
    have G2 := Aside0.mk g2
    clear g1 g2
    go_upto_region 9 with (go_at_call 51; refine (QO.out _).mono ?_; rintro e w1 ⟨rfl, hb⟩; have QB1 := Aside0.mk hb; clear hb)
    have g2 := (QB1.out.block _ (blk_lt G2.out)).trans G2.out
    clear t0 t1 t2 t3 t4 t5 t6 t7 t8 t9
    obtain ⟨v0, v1, v2, v3⟩ := VC_cells g2
    clear g2
    have QB := Aside0.mk (QB0.out.trans (QB1.out.mono QB0.out.size))
    clear QB0 QB1 G1 G2 QO
    by_cases hs : s = ⟨#[]⟩
    · subst hs
      go_upto_region 13 with (fail)
      go_quiet ((fail))
      go_wp2
      go_ret
      refine ⟨congrArg (fun b => Ending.returned (.bool b)) ?_, pw_below_drewN QB.out _⟩
      rw [Qf.out.1]
      have ha := Qf.out.2
      have hz : fitsN 64 false 0 a ⟨#[]⟩ = fitsA 64 false a := by unfold fitsN; simp
      rw [hz]
      first | rfl | simp [fitsA]
    · have hs2 := empty_is s hs
      go_wp2
      go_ret
      exact ⟨congrArg (fun b => Ending.returned (.bool b)) (by rw [Qf.out.1]; simp [fitsN, hs]), QB.out⟩
  · go_enter Tryd.func28, Tryd.ntmps28
    have hm1 : (0 : Int) < (m : Int) := by omega
    have hm2 : 0 < m := by omega
    go_wp2
    go_ret
    exact ⟨congrArg (fun b => Ending.returned (.bool b)) (by rw [Qf.out.1]; simp [fitsN, hm]), b3 w _ _⟩
end F64
end Go.Proofs.YtpjaaonpbohkdaaDoor.QR
/- Whether all values are of the type of numbers: PlainAll. -/
namespace Go.Proofs.YtpjaaonpbohkdaaDoor.QR
open Go.RowKit Go.Proofs.YtpjaaonpbohkdaaDoorW.PrintWords Go.Proofs.YtpjaaonpbohkdaaDoorW.PrintLast Go.Proofs.YtpjaaonpbohkdaaDoorW.PrintMore
set_option linter.unusedVariables false
set_option linter.unusedSimpArgs false
namespace F64
set_option maxHeartbeats 8000000 in
set_option maxRecDepth 100000 in
theorem pal_is (A : Option Addr) (c : Nat) (xs : List QT.S33) (w : World) (hC : Kd.C QT.k33 w A xs.length xs) (h64 : n64 xs) : Calls Tryd.prog 12 #[TyN 3 64 false, .slice A xs.length c] w fun e w' => e = .returned (.bool (allN 64 false xs)) ∧ Below w.heap.size w w' := by
  have QO := Aside0.mk (fun a ha s A m c w => ofn_is a ha s A m c w)
  have hT : TyN 3 64 false = .agg (TyM 3 64 false) := rfl
  rw [hT] at QO ⊢
  have QC := Aside0.mk hC
  obtain ⟨n, hn⟩ : ∃ n, n = xs.length := ⟨_, rfl⟩
  rw [← hn]
  have hn63 : n ≤ 9223372036854775807 := by have := hC.2.1; omega
  have hni : (n : Int) ≤ 9223372036854775807 := by omega
  have Qn := Aside0.mk hn
  have Q64 := Aside0.mk h64
  clear hC hn hT h64
  go_enter Tryd.func12, Tryd.ntmps12
  go_upto_region 1 with (fail)
  obtain ⟨W, hW⟩ : ∃ W, W = w.alloc (.cells (TyM 3 64 false) 30) := ⟨_, rfl⟩
  have g1 : W.heap[w.heap.size]? = some (.cells (TyM 3 64 false) 30 (0, 0)) := by rw [hW]; exact blk_new w _
  have hb1 : Below w.heap.size w W := by rw [hW]; exact b2 w _
  rw [← hW]
  clear hW
  have G1 := Aside0.mk g1
  have B1 := Aside0.mk hb1
  have hsz : w.heap.size < W.heap.size := blk_lt g1
  have Qsz := Aside0.mk hsz
  clear g1 hb1 hsz
  go_wp2_with fail
  go_loopg [9] n (fun kq v9 w' => ∃ i : Nat, v9 = .int .i64 (i : Int) ∧ Aside0 (i + kq = n ∧ (xs.take i).all (goodN 64 false) = true) ∧ Aside0 (Below W.heap.size W w'))
  case atStart => exact ⟨0, rfl, ⟨by omega, rfl⟩, ⟨Below.refl _ _⟩⟩
  case round =>
    obtain ⟨i, rfl, HA, HB⟩ := hrel
    have hB := B1.out.trans (HB.out.mono B1.out.size)
    rcases Nat.eq_zero_or_pos gk with h0 | h0
    · have hi : ((i : Int) < (n : Int)) = False := by have := HA.out; simp; omega
      have hq : allN 64 false xs = decide (n ≤ 500) := by
        unfold allN
        have := HA.out.2
        rw [List.take_of_length_le (by rw [← Qn.out]; have := HA.out.1; omega)] at this
        rw [this, Qn.out]
        simp
      have hq2 : decide ((n : Int) ≤ 500) = decide (n ≤ 500) := by
        congr 1
        apply propext
        constructor <;> intro h <;> omega
      have Qq := Aside0.mk hq
      have QB := Aside0.mk hB
      clear hq hB
      go_wp2
      go_ret
      exact ⟨by rw [Qq.out]; first | rfl | (simp [hq2]), QB.out⟩
    · have hi : (i : Int) < (n : Int) := by have := HA.out; omega
      have hi2 : i < n := by omega
      have QI := Aside0.mk hi2
      have hii : ((i : Int)).toNat = i := Int.toNat_natCast i
      obtain ⟨ad, A3, c3, e1, p0, p1, p2, p3, _, _⟩ := QT.at_T33 (Kd.C_below QC.out hB) (i : Int) (by omega) (by rw [← Qn.out]; exact hi)
      subst e1
      rw [hii] at p0 p1 p2 p3
      have hrd : QT.rd_T33 xs (i : Int) = xs.getD i QT.z33 := by unfold QT.rd_T33; rw [hii]
      rw [hrd] at p0 p1 p2 p3
      obtain ⟨x, hx⟩ : ∃ x, x = xs.getD i QT.z33 := ⟨_, rfl⟩
      rw [← hx] at p0 p1 p2 p3
      have Qx := Aside0.mk hx
      have hx64 := n64_at Q64.out i
      rw [← hx] at hx64
      obtain ⟨y0, y1, y2, y3⟩ := x
      simp only at p0 p1 p2 p3 hx64
      obtain ⟨m, hm⟩ : ∃ m, m = y3.length := ⟨_, rfl⟩
      rw [← hm] at p3
      have Qm := Aside0.mk hm
      obtain ⟨k1, rfl⟩ : ∃ k1, gk = k1 + 1 := ⟨gk - 1, by omega⟩
      clear h0 hrd hx hm hii
      have QB := Aside0.mk hB
      clear hB
      cases y0
      · have g1 := (HB.out.block _ Qsz.out).trans G1.out
        obtain ⟨t0, t1, t2, t3, t4, t5, t6, t7, t8, t9⟩ := TyM_cells g1
        clear g1
        have hlt : w.heap.size < wr.heap.size := Nat.lt_of_lt_of_le Qsz.out HB.out.size
        have hne : ¬ w.heap.size = wr.heap.size := by omega
        obtain ⟨b, hb⟩ : ∃ b, b = fitsN 64 false m y1 y2 := ⟨_, rfl⟩
        have QF := Aside0.mk (fun w => QO.out y1 hx64 y2 A3 m c3 w)
        rw [← hb] at QF
        have Qg := Aside0.mk (show goodN 64 false (xs.getD i QT.z33) = b by rw [← Qx.out]; unfold goodN; simp only; rw [← Qm.out, hb]; rfl)
        clear hb
        cases b
        · go_wp2_with (go_at_call 28; refine (QF.out _).mono ?_; rintro e w2 ⟨rfl, hb⟩; have QB2 := Aside0.mk hb; clear hb)
          go_ret
          have hno : allN 64 false xs = false := by
            unfold allN
            rw [all_no (goodN 64 false) xs QT.z33 i (by rw [← Qn.out]; exact QI.out) Qg.out]
            rfl
          exact ⟨by rw [hno]; rfl, (QB.out.alloc QB.out.size _).trans (QB2.out.mono (QB.out.alloc QB.out.size _).size)⟩
        · go_wp2_with (go_at_call 28; refine (QF.out _).mono ?_; rintro e w2 ⟨rfl, hb⟩; have QB2 := Aside0.mk hb; clear hb)
          go_roundg k1
          case rel =>
            refine ⟨i + 1, rfl, ⟨by have := HA.out; omega, all_step (goodN 64 false) xs QT.z33 i (by rw [← Qn.out]; exact QI.out) HA.out.2 Qg.out⟩, ⟨(HB.out.alloc HB.out.size _).trans (QB2.out.mono (HB.out.alloc HB.out.size _).size)⟩⟩
          · omega
      · go_wp2
        go_ret
        have hno : allN 64 false xs = false := by
          unfold allN
          rw [all_no (goodN 64 false) xs QT.z33 i (by rw [← Qn.out]; exact QI.out) (by rw [← Qx.out]; rfl)]
          rfl
        exact ⟨by rw [hno]; rfl, QB.out.alloc QB.out.size _⟩
end F64
end Go.Proofs.YtpjaaonpbohkdaaDoor.QR
/- One number as it is written plainly: PlainBytes. -/
namespace Go.Proofs.YtpjaaonpbohkdaaDoor.QR
open Go.RowKit Go.Proofs.YtpjaaonpbohkdaaDoorW.PrintWords Go.Proofs.YtpjaaonpbohkdaaDoorW.PrintLast Go.Proofs.YtpjaaonpbohkdaaDoorW.PrintMore
set_option linter.unusedVariables false
set_option linter.unusedSimpArgs false
namespace F64
set_option maxHeartbeats 8000000 in
set_option maxRecDepth 100000 in
theorem pby_is (a : Int) (ha : 0 ≤ a ∧ a < 18446744073709551616) (s : ByteArray) (A : Option Addr) (c : Nat) (w : World) : Calls Tryd.prog 26 #[TyN 3 64 false, .agg #[.bool false, .int .u64 a, .string s, .slice A 0 c]] w fun e w' => ∃ A' c', e = .returned (.slice A' 8 c') ∧ 8 ≤ c' ∧ Cu w' A' (leB 8 a) ∧ Below w.heap.size w w' := by
  have QO := Aside0.mk (fun w => obn_is 3 64 false (.inr ⟨rfl, rfl⟩) w)
  have hT : TyN 3 64 false = .agg (TyM 3 64 false) := rfl
  rw [hT] at QO ⊢
  have Qa := Aside0.mk ha
  clear hT
  go_enter Tryd.func26, Tryd.ntmps26
  go_upto_region 1 with (fail)
  obtain ⟨W, hW⟩ : ∃ W, W = (w.alloc (.cells (TyM 3 64 false) 30)).alloc (.cells #[.bool false, .int .u64 a, .string s, .slice A 0 c] 33) := ⟨_, rfl⟩
  have g1 : W.heap[w.heap.size]? = some (.cells (TyM 3 64 false) 30 (0, 0)) := by rw [hW]; exact blk_alloc (blk_new w _) _
  have g2 : W.heap[w.heap.size + 1]? = some (.cells #[.bool false, .int .u64 a, .string s, .slice A 0 c] 33 (0, 0)) := by rw [hW]; have := blk_new (w.alloc (.cells (TyM 3 64 false) 30)) (.cells #[.bool false, .int .u64 a, .string s, .slice A 0 c] 33); rw [World.size_alloc] at this; exact this
  have QB0 := Aside0.mk (show Below w.heap.size w W by rw [hW]; exact b3 w _ _)
  rw [← hW]
  clear hW
  obtain ⟨t0, t1, t2, t3, t4, t5, t6, t7, t8, t9⟩ := TyM_cells g1
  have G2 := Aside0.mk g2
  clear g1 g2
  go_upto_region 3 with (go_at_call 51; refine (QO.out _).mono ?_; rintro e w1 ⟨rfl, hb⟩; have QB1 := Aside0.mk hb; clear hb)
  have G3 := Aside0.mk ((QB1.out.block _ (blk_lt G2.out)).trans G2.out)
  have QB := Aside0.mk (QB0.out.trans (QB1.out.mono QB0.out.size))
  clear t0 t1 t2 t3 t4 t5 t6 t7 t8 t9 QB0 QB1 G2 QO
  go_wp2_with fail
  go_loopg [7, 8] 8 (fun kq v7 v8 w' => ∃ j : Nat, v8 = .int .i64 (j : Int) ∧ Aside0 (j + kq = 8) ∧ Aside0 (Kd.R (Kd.int .u8) 5 w' w1.heap.size (fun _ => True) v7 (leB j a)) ∧ Aside0 (Below w1.heap.size w1 w'))
  case atStart => exact ⟨0, rfl, ⟨by omega⟩, ⟨Kd.R_nil _ _ _ _ _⟩, ⟨Below.refl _ _⟩⟩
  case round =>
    obtain ⟨j, rfl, HA, HR, HB⟩ := hrel
    rcases Nat.eq_zero_or_pos gk with h0 | h0
    · obtain rfl : j = 8 := by have := HA.out; omega
      go_wp2
      go_ret
      obtain ⟨A9, c9, e9, l9, r9⟩ := Kd.R_reads HR.out
      rw [leB_len] at e9 l9
      exact ⟨A9, c9, by rw [← e9]; rfl, l9, r9, QB.out.trans (HB.out.mono QB.out.size)⟩
    · have hj : j < 8 := by have := HA.out; omega
      have hji : (j : Int) < 8 := by omega
      obtain ⟨k1, rfl⟩ : ∃ k1, gk = k1 + 1 := ⟨gk - 1, by omega⟩
      have g2 := (HB.out.block _ (blk_lt G3.out)).trans G3.out
      obtain ⟨v0, v1, v2, v3⟩ := VC_cells g2
      obtain ⟨A5, c5, rfl⟩ := Kd.R_slice HR.out
      clear h0 g2
      go_upto_region 7 with (fail)
      have hlen : (leB j a).length = j := leB_len j a
      have hb2 : a / 2 ^ (8 * j) % 256 = byteN a j := by unfold byteN; rw [Int.pow_mul]; rfl
      have hlj : leB (j + 1) a = leB j a ++ [byteN a j] := by unfold leB; rw [List.range_succ, List.map_append]; rfl
      have Qj := Aside0.mk (And.intro hlen (And.intro hb2 hlj))
      clear hlen hb2 hlj
      go_wp2_with ((with_reducible refine gate_builtin (b := .append) (xs := #[.tmp 23, .tmp 30]) rfl ?_); at_builtin; refine Kd.R_append (Kd.int .u8) (w0 := w1) w1.heap.size rfl (.tmp 23) (.tmp 30) 23 5 (.int .u8 0) 1 rfl Tryd.underlying23 QT.info5 rfl (by decide) (by omega) _ (leB j a) (a / 2 ^ (8 * j) % 256) [.int .u8 (a / 2 ^ (8 * j) % 256)] (fun _ => True) (fun _ => False) rfl rfl rfl (fun _ h => h.elim) (fun _ _ => trivial) HR.out HB.out HB.out.size (by rw [Qj.out.1]; omega) ?_; intro v9 w9 hr9 hb9 _ _; have QR9 := Aside0.mk hr9; have QB9 := Aside0.mk hb9; clear hr9 hb9)
      go_roundg k1
      case rel =>
        refine ⟨j + 1, rfl, ⟨by have := HA.out; omega⟩, ⟨?_⟩, QB9⟩
        rw [Qj.out.2.2, ← Qj.out.2.1]
        exact QR9.out
      · omega
end F64
end Go.Proofs.YtpjaaonpbohkdaaDoor.QR
/- Numbers as they are written plainly, one behind the other: Plainly. -/
namespace Go.Proofs.YtpjaaonpbohkdaaDoor.QR
open Go.RowKit Go.Proofs.YtpjaaonpbohkdaaDoorW.PrintWords Go.Proofs.YtpjaaonpbohkdaaDoorW.PrintLast Go.Proofs.YtpjaaonpbohkdaaDoorW.PrintMore
set_option linter.unusedVariables false
set_option linter.unusedSimpArgs false
namespace F64
def plN (xs : List TV) : List Int := flatN 8 (xs.map fun x => x.2.1)
theorem plN_len (xs : List TV) : (plN xs).length = 8 * xs.length := by unfold plN; rw [flatN_len, List.length_map]
theorem plN_take (xs : List TV) (i : Nat) (hi : i < xs.length) : plN (xs.take (i + 1)) = plN (xs.take i) ++ leB 8 (xs.getD i zV).2.1 := by
  unfold plN
  rw [List.take_succ_eq_append_getElem hi, List.map_append, flatN_append, List.getD_eq_getElem?_getD, List.getElem?_eq_getElem hi]
  simp [flatN]
set_option maxHeartbeats 8000000 in
set_option maxRecDepth 100000 in
theorem ply_is (A : Option Addr) (c : Nat) (xs : List TV) (w : World) (hC : Kd.C kV w A xs.length xs) (hn : ∀ x ∈ xs, x.1 = false) (h64 : ∀ x ∈ xs, 0 ≤ x.2.1 ∧ x.2.1 < 18446744073709551616) (hx : xs.length ≤ 1000) : Calls Tryd.prog 9 #[TyN 3 64 false, .slice A xs.length c] w fun e w' => ∃ A' c', e = .returned (.slice A' (plN xs).length c') ∧ (plN xs).length ≤ c' ∧ Cu w' A' (plN xs) ∧ Below w.heap.size w w' := by
  have QP := Aside0.mk (fun a ha s A c w => pby_is a ha s A c w)
  have hT : TyN 3 64 false = .agg (TyM 3 64 false) := rfl
  rw [hT] at QP ⊢
  have QC := Aside0.mk hC
  obtain ⟨n, hnn⟩ : ∃ n, n = xs.length := ⟨_, rfl⟩
  rw [← hnn]
  have hni : (n : Int) ≤ 1000 := by omega
  have Qn := Aside0.mk hnn
  have Qx := Aside0.mk hn
  have Ql := Aside0.mk (And.intro h64 hx)
  clear hC hn hT hnn h64 hx
  go_enter Tryd.func9, Tryd.ntmps9
  go_upto_region 1 with (fail)
  obtain ⟨W, hW⟩ : ∃ W, W = w.alloc (.cells (TyM 3 64 false) 30) := ⟨_, rfl⟩
  have g1 : W.heap[w.heap.size]? = some (.cells (TyM 3 64 false) 30 (0, 0)) := by rw [hW]; exact blk_new w _
  have hb1 : Below w.heap.size w W := by rw [hW]; exact b2 w _
  rw [← hW]
  clear hW
  have G1 := Aside0.mk g1
  have B1 := Aside0.mk hb1
  have hsz : w.heap.size < W.heap.size := blk_lt g1
  have Qsz := Aside0.mk hsz
  clear g1 hb1 hsz
  go_wp2_with fail
  go_loopg [5, 10] n (fun kq v5 v10 w' => ∃ i : Nat, v10 = .int .i64 (i : Int) ∧ Aside0 (i + kq = n) ∧ Aside0 (Kd.R (Kd.int .u8) 5 w' W.heap.size (fun _ => True) v5 (plN (xs.take i))) ∧ Aside0 (Below W.heap.size W w'))
  case atStart => exact ⟨0, rfl, ⟨by omega⟩, ⟨Kd.R_nil _ _ _ _ _⟩, ⟨Below.refl _ _⟩⟩
  case round =>
    obtain ⟨i, rfl, HA, HR, HB⟩ := hrel
    have hB := B1.out.trans (HB.out.mono B1.out.size)
    rcases Nat.eq_zero_or_pos gk with h0 | h0
    · have hi : ((i : Int) < (n : Int)) = False := by have := HA.out; simp; omega
      have QB := Aside0.mk hB
      clear hB
      go_wp2
      go_ret
      have hr := HR.out
      rw [List.take_of_length_le (by rw [← Qn.out]; have := HA.out; omega)] at hr
      obtain ⟨A9, c9, e9, l9, r9⟩ := Kd.R_reads hr
      exact ⟨A9, c9, by rw [← e9]; rfl, l9, r9, QB.out⟩
    · have hi : (i : Int) < (n : Int) := by have := HA.out; omega
      have hi2 : i < n := by omega
      have QI := Aside0.mk hi2
      obtain ⟨ad, A3, c3, e1, p0, p1, p2, p3⟩ := kV_at (Kd.C_below QC.out hB) i (by rw [← Qn.out]; exact hi2)
      subst e1
      have hx0 : (xs.getD i zV).1 = false := by
        rw [List.getD_eq_getElem?_getD, List.getElem?_eq_getElem (by rw [← Qn.out]; exact hi2)]
        exact Qx.out _ (List.getElem_mem _)
      rw [hx0] at p0
      obtain ⟨y1, hy1⟩ : ∃ y, y = (xs.getD i zV).2.1 := ⟨_, rfl⟩
      obtain ⟨y2, hy2⟩ : ∃ y, y = (xs.getD i zV).2.2 := ⟨_, rfl⟩
      rw [← hy1] at p1
      rw [← hy2] at p2
      have h64 : 0 ≤ y1 ∧ y1 < 18446744073709551616 := by
        rw [hy1, List.getD_eq_getElem?_getD, List.getElem?_eq_getElem (by rw [← Qn.out]; exact hi2)]
        exact Ql.out.1 _ (List.getElem_mem _)
      have hstep := plN_take xs i (by rw [← Qn.out]; exact hi2)
      rw [← hy1] at hstep
      have hlen : (plN (xs.take i)).length ≤ 8000 := by
        rw [plN_len, List.length_take]
        have h1 : 8 * min i xs.length ≤ 8 * 1000 := Nat.mul_le_mul_left _ (by have := Ql.out.2; omega)
        omega
      have QF := Aside0.mk (fun w => QP.out y1 h64 y2 A3 c3 w)
      have Qst := Aside0.mk (And.intro hstep hlen)
      have g1 := (HB.out.block _ Qsz.out).trans G1.out
      obtain ⟨t0, t1, t2, t3, t4, t5, t6, t7, t8, t9⟩ := TyM_cells g1
      have hlt : w.heap.size < wr.heap.size := Nat.lt_of_lt_of_le Qsz.out HB.out.size
      have hne : ¬ w.heap.size = wr.heap.size := by omega
      obtain ⟨k1, rfl⟩ : ∃ k1, gk = k1 + 1 := ⟨gk - 1, by omega⟩
      have QB := Aside0.mk hB
      clear h0 hx0 hy1 hy2 hstep hlen h64 hB g1
      obtain ⟨A5, c5, rfl⟩ := Kd.R_slice HR.out
      go_wp2_with (first | (go_at_call 26; refine (QF.out _).mono ?_; rintro e w2 ⟨A2, c2, rfl, hc2, hC2, hb⟩; have QB2 := Aside0.mk (HB.out.alloc HB.out.size _ |>.trans (hb.mono (HB.out.alloc HB.out.size _).size)); have QC2 := Aside0.mk hC2; have QR2 := Aside0.mk (Kd.R_below (Kd.R_alloc HR.out _) hb); clear hb hC2) | ((with_reducible refine gate_builtin (b := .append) (xs := #[.tmp 14, .tmp 17]) rfl ?_); at_builtin; refine Kd.R_append_rows (Kd.int .u8) (Rr := (Kd.int .u8).K w2) (w0 := W) W.heap.size rfl (.tmp 14) (.tmp 17) 23 5 (.int .u8 0) 1 rfl Tryd.underlying23 QT.info5 rfl (by decide) (by omega) _ (plN (xs.take i)) (leB 8 y1) A2 8 c2 (fun _ => True) (fun _ => False) rfl rfl QR2.out (by have h := QC2.out; unfold Cu at h; rw [leB_len] at h; exact h) (fun _ _ h => h) (fun _ h => h.elim) (fun _ _ => trivial) QB2.out QB2.out.size (by have := Qst.out.2; first | omega | (rw [leB_len]; omega)) ?_; intro v9 w9 hr9 hb9 _ _; have QR9 := Aside0.mk hr9; have QB9 := Aside0.mk hb9; clear hr9 hb9))
      go_roundg k1
      case rel => exact ⟨i + 1, rfl, ⟨by have := HA.out; omega⟩, ⟨by rw [Qst.out.1]; exact QR9.out⟩, QB9⟩
      · omega
end F64
end Go.Proofs.YtpjaaonpbohkdaaDoor.QR
