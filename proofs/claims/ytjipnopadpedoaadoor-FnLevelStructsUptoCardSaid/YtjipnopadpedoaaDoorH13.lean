/- Shred. -/
import Derived.Test.YtjipnopadpedoaaDoorH12
namespace Go.Proofs.YtjipnopadpedoaaDoor.QR
open Go.RowKit Go.Proofs.YtjipnopadpedoaaDoorW.PrintWords Go.Proofs.YtjipnopadpedoaaDoorW.PrintLast Go.Proofs.YtjipnopadpedoaaDoorW.PrintMore
open Go.Proofs.YtjipnopadpedoaaDoor.PFnLevelStructs (S25 z25 k25 rd_T25 at_T25)
set_option linter.unusedVariables false
set_option linter.unusedSimpArgs false
/-- The levels of i rows. -/
def shL (ls df : Nat) (l : List S25) (i : Nat) : List (Nat × Nat) := (List.range i).flatMap fun j => shr ls 0 (l.getD j z25) df 0
theorem shL_succ (ls df : Nat) (l : List S25) (i : Nat) : shL ls df l (i + 1) = shL ls df l i ++ shr ls 0 (l.getD i z25) df 0 := by
  unfold shL
  rw [List.range_succ, List.flatMap_append]
  simp
theorem shL_le (ls df : Nat) (l : List S25) : ∀ (i r : Nat), (shL ls df l i).length ≤ (shL ls df l (i + r)).length
  | i, 0 => Nat.le_refl _
  | i, r + 1 => by
    rw [← Nat.add_assoc, shL_succ, List.length_append]
    have := shL_le ls df l i r
    omega
theorem shL_ge (ls df : Nat) (l : List S25) : ∀ i, i ≤ (shL ls df l i).length
  | 0 => Nat.zero_le _
  | i + 1 => by
    rw [shL_succ, List.length_append]
    have := shL_ge ls df l i
    have := shr_pos ls 0 (l.getD i z25) df 0
    omega
set_option maxHeartbeats 8000000 in
set_option maxRecDepth 100000 in
theorem shred_is (l : List S25) (A : Option Addr) (c ls df : Nat) (w : World) (hC : Kd.C k25 w A l.length l) (hc : l.length ≤ c) (h1 : df + 2 * ls < 900) (hs : (shL ls df l l.length).length ≤ 4000000) :
    Calls Tryd.prog 5 #[.slice A l.length c, .int .i64 (ls : Int), .int .i64 (df : Int)] w fun e w' => ∃ vD vR : Value, e = .returned (.tuple #[vD, vR]) ∧ RI w w' vD (dsN (shL ls df l l.length)) ∧ RI w w' vR (rsN (shL ls df l l.length)) ∧ Below w.heap.size w w' := by
  have QP := Aside0.mk (fun (i : Nat) (hi : i < l.length) (g : Nat) (W : World) (hS : SR w W g (dsN (shL ls df l i)) (rsN (shL ls df l i))) (A : Option Addr) (c : Nat) (hA : Kd.C k25 w A (l.getD i z25).f3.length (l.getD i z25).f3) (hcA : (l.getD i z25).f3.length ≤ c) => put_is w g ls 0 (l.getD i z25) A c df 0 _ _ W hS hA hcA h1 (by omega) (by omega) (by
    have h6 := shL_succ ls df l i
    have h7 := shL_le ls df l (i + 1) (l.length - (i + 1))
    rw [show i + 1 + (l.length - (i + 1)) = l.length by omega, h6, List.length_append] at h7
    rw [dsN_len]
    omega) (by rw [dsN_len, rsN_len]))
  have QC := Aside0.mk hC
  have hge := shL_ge ls df l l.length
  obtain ⟨n, hn1⟩ : ∃ n, n = l.length := ⟨_, rfl⟩
  have Qn := Aside0.mk hn1
  rw [← hn1] at hc hs hge ⊢
  clear hC hn1
  go_enter Tryd.func5, Tryd.ntmps5
  go_upto_region 2 with fail
  refine wp_as (fun V => SR w V w.heap.size [] []) ⟨.slice none 0 0, .slice none 0 0, blk_new w _, Kd.R_nil _ _ _ _ _, Kd.R_nil _ _ _ _ _, .inl rfl, b2 w _, Nat.le_refl _⟩ ?_
  rintro V hS0
  have QS := Aside0.mk hS0
  clear hS0
  obtain ⟨g, hg⟩ : ∃ g, g = w.heap.size := ⟨_, rfl⟩
  rw [← hg] at QS ⊢
  clear hg
  go_wp2
  go_loopg [15] n (fun kq v15 w' => ∃ (i : Nat), v15 = .int .i64 (i : Int) ∧ Aside0 (i + kq = n) ∧ Aside0 (SR w w' g (dsN (shL ls df l i)) (rsN (shL ls df l i))))
  case atStart => exact ⟨0, rfl, ⟨by omega⟩, QS⟩
  case round =>
    obtain ⟨i, rfl, HA, HS⟩ := hrel
    rcases Nat.eq_zero_or_pos gk with h0 | h0
    · obtain rfl : i = n := by have := HA.out; omega
      obtain ⟨vD, vR, hP⟩ := HS.out
      have k0 := hP.c0
      have k1 := hP.c1
      have QP2 := Aside0.mk hP
      clear hP HS
      go_wp2
      go_quiet (fail)
      go_wp2
      refine bodyPost_ret (v := .tuple #[vD, vR]) (by simp [results, Tryd.results5, go_sem]) rfl ?_
      have hb : Below wr.heap.size wr (wr.drewN nq) := pw_below_drewN (Below.refl _ _) _
      exact ⟨vD, vR, rfl, Kd.R_below QP2.out.rd hb, Kd.R_below QP2.out.rr hb, pw_below_drewN QP2.out.bl _⟩
    · have hin : i < n := by have := HA.out; omega
      have hiI : (i : Int) < (n : Int) := by omega
      obtain ⟨k1, rfl⟩ : ∃ k1, gk = k1 + 1 := ⟨gk - 1, by omega⟩
      obtain ⟨ad, A4, c4, hA, a0, a1, a2, a3, a4, a5⟩ := at_T25 QC.out (i : Int) (by omega) (by have := Qn.out; omega)
      rw [Int.toNat_natCast, show rd_T25 l (i : Int) = l.getD i z25 by unfold rd_T25; rw [Int.toNat_natCast]] at *
      subst hA
      obtain ⟨vD, vR, hP⟩ := HS.out
      replace a0 := cell_keep a0 hP.bl
      replace a1 := cell_keep a1 hP.bl
      replace a2 := cell_keep a2 hP.bl
      replace a3 := cell_keep a3 hP.bl
      have QR := Aside0.mk (fun (W : World) (hS : SR w W g (dsN (shL ls df l i)) (rsN (shL ls df l i))) => QP.out i (by have := Qn.out; omega) g W hS A4 c4 a5 a4)
      have Qk := Aside0.mk (shL_succ ls df l i)
      generalize l.getD i z25 = q at *
      obtain ⟨q0, q1, q2, q3⟩ := q
      simp only at a0 a1 a2 a3
      rw [Nat.zero_add, show ((0 : Nat) : Int) = 0 from rfl] at QR
      have HS2 := Aside0.mk HS.out
      clear hP
      go_wp2_with (go_at_call 11; (with_reducible refine Calls.mono (QR.out _ ?hSR) ?_); (case hSR => exact HS2.out.step (b2 wr _)); rintro e w5 ⟨rfl, hs⟩; have Q5 := Aside0.mk hs; clear hs)
      go_roundg k1
      case rel => exact ⟨i + 1, rfl, ⟨by have := HA.out; omega⟩, ⟨by rw [Qk.out, dsN_append, rsN_append]; exact Q5.out⟩⟩
      · omega
end Go.Proofs.YtjipnopadpedoaaDoor.QR
