/- Numbers as values: asValues; how two of them are ordered: NotNumber, Order. -/
import Derived.Test.YtlnbkmkdapeicaaGreatDoorF17
namespace Go.Proofs.YtlnbkmkdapeicaaGreatDoor.QR
open Go.RowKit Go.Proofs.YtlnbkmkdapeicaaGreatDoorW.PrintWords Go.Proofs.YtlnbkmkdapeicaaGreatDoorW.PrintLast Go.Proofs.YtlnbkmkdapeicaaGreatDoorW.PrintMore
set_option linter.unusedVariables false
set_option linter.unusedSimpArgs false
abbrev TyI : Value := TyN 2 32 true
abbrev VU (a : Int) (A : Option Addr) (c : Nat) : Value := .agg #[.bool false, .int .u64 a, .string ⟨#[]⟩, .slice A 0 c]
def tv (a : Int) : TV := (false, a, ⟨#[]⟩)
/-- Numbers of 64 bits. -/
def u64s (xs : List Int) : Prop := ∀ x ∈ xs, 0 ≤ x ∧ x < 18446744073709551616
set_option maxHeartbeats 8000000 in
set_option maxRecDepth 100000 in
theorem nn_is (a : Int) (A : Option Addr) (c : Nat) (w : World) : Calls Tryz.prog 19 #[TyI, VU a A c] w fun e w' => e = .returned (.bool false) ∧ Below w.heap.size w w' := by
  have hT : TyI = .agg (TyM 2 32 true) := rfl
  rw [hT]
  clear hT
  go_enter Tryz.func19, Tryz.ntmps19
  go_wp2
  go_ret
  exact ⟨rfl, b3 w _ _⟩
/-- How two numbers are ordered. -/
def ordI (a b : Int) : Int := if wrap64 a < wrap64 b then -1 else if wrap64 b < wrap64 a then 1 else 0
set_option maxHeartbeats 8000000 in
set_option maxRecDepth 100000 in
theorem ord_is (a b : Int) (A1 A2 : Option Addr) (c1 c2 : Nat) (w : World) : Calls Tryz.prog 20 #[TyI, VU a A1 c1, VU b A2 c2] w fun e w' => e = .returned (.int .i64 (ordI a b)) ∧ Below w.heap.size w w' := by
  have QI := Aside0.mk (fun (A : Option Addr) (c : Nat) (l : List Int) (w1 : World) (hC : Kd.C (Kd.int .i64) w1 A l.length l) (hc : l.length ≤ c) (h : QT.spec_in.f 9 2 l = some false) => QT.spec_in.calls 9 2 A c l false w1 hC hc h)
  obtain ⟨r, hr⟩ : ∃ r, r = ordI a b := ⟨_, rfl⟩
  rw [← hr]
  have Qr := Aside0.mk hr
  clear hr
  have hT : TyI = .agg (TyM 2 32 true) := rfl
  rw [hT]
  clear hT
  go_enter Tryz.func20, Tryz.ntmps20
  go_upto_region 1 with (fail)
  obtain ⟨W, hW⟩ : ∃ W, W = ((w.alloc (.cells (TyM 2 32 true) 35)).alloc (.cells #[.bool false, .int .u64 a, .string ⟨#[]⟩, .slice A1 0 c1] 52)).alloc (.cells #[.bool false, .int .u64 b, .string ⟨#[]⟩, .slice A2 0 c2] 52) := ⟨_, rfl⟩
  have g1 : W.heap[w.heap.size]? = some (.cells (TyM 2 32 true) 35 (0, 0)) := by rw [hW]; exact blk_alloc (blk_alloc (blk_new w _) _) _
  have g2 : W.heap[w.heap.size + 1]? = some (.cells #[.bool false, .int .u64 a, .string ⟨#[]⟩, .slice A1 0 c1] 52 (0, 0)) := by rw [hW]; have := blk_alloc (blk_new (w.alloc (.cells (TyM 2 32 true) 35)) (.cells #[.bool false, .int .u64 a, .string ⟨#[]⟩, .slice A1 0 c1] 52)) (.cells #[.bool false, .int .u64 b, .string ⟨#[]⟩, .slice A2 0 c2] 52); rw [World.size_alloc] at this; exact this
  have g3 : W.heap[w.heap.size + 2]? = some (.cells #[.bool false, .int .u64 b, .string ⟨#[]⟩, .slice A2 0 c2] 52 (0, 0)) := by rw [hW]; have := blk_new ((w.alloc (.cells (TyM 2 32 true) 35)).alloc (.cells #[.bool false, .int .u64 a, .string ⟨#[]⟩, .slice A1 0 c1] 52)) (.cells #[.bool false, .int .u64 b, .string ⟨#[]⟩, .slice A2 0 c2] 52); rw [World.size_alloc, World.size_alloc] at this; exact this
  have QB0 := Aside0.mk (show Below w.heap.size w W by rw [hW]; exact (b3 w _ _).alloc (b3 w _ _).size _)
  rw [← hW]
  clear hW
  obtain ⟨h0, hh0⟩ : ∃ h0, h0 = w.heap.size := ⟨_, rfl⟩
  rw [← hh0] at g1 g2 g3 ⊢
  have Q0 := Aside0.mk hh0
  obtain ⟨t0, t1, t2, t3, t4, t5, t6, t7, t8, t9⟩ := TyM_cells g1
  obtain ⟨v0, v1, v2, v3⟩ := VC_cells g2
  obtain ⟨x0, x1, x2, x3⟩ := VC_cells g3
  have G := Aside0.mk (And.intro g1 (And.intro g2 g3))
  clear hh0 g1 g2 g3
  go_quiet ((fail))
  go_upto_region 8 with (fail)
  have QB1 := Aside0.mk (show Below w.heap.size w (W.drewN nq) from pw_below_drewN QB0.out _)
  have G1 := Aside0.mk (show (W.drewN nq).heap[h0]? = some (.cells (TyM 2 32 true) 35 (0, 0)) ∧ (W.drewN nq).heap[h0 + 1]? = some (.cells #[.bool false, .int .u64 a, .string ⟨#[]⟩, .slice A1 0 c1] 52 (0, 0)) ∧ (W.drewN nq).heap[h0 + 2]? = some (.cells #[.bool false, .int .u64 b, .string ⟨#[]⟩, .slice A2 0 c2] 52 (0, 0)) from G.out)
  clear t0 t1 t2 t3 t4 t5 t6 t7 t8 t9 v0 v1 v2 v3 x0 x1 x2 x3 QB0 G
  generalize W.drewN nq = W1 at QB1 G1 ⊢
  obtain ⟨t0, t1, t2, t3, t4, t5, t6, t7, t8, t9⟩ := TyM_cells G1.out.1
  go_upto_region 10 with (go_at_call 32; go_must (refine (QI.out _ 5 [5, 20, 4, 19, 15] _ (Kd.C_of_reads (d := (0 : Int)) (enc := Value.int .i64) ⟨rfl, by decide, fun _ => ⟨_, rfl, fun j hj => by
      rw [show ((⟨W1.heap.size, 0, none⟩ : Addr).add j) = ⟨W1.heap.size, j, none⟩ by simp [Addr.add]; exact fun h => h.symm]
      rw [blk_cell (blk_new W1 _) j]
      have h5 : j = 0 ∨ j = 1 ∨ j = 2 ∨ j = 3 ∨ j = 4 := by simp at hj; omega
      rcases h5 with rfl | rfl | rfl | rfl | rfl <;> rfl⟩⟩) (by decide) (by decide +kernel)).mono ?_; rintro e w2 ⟨rfl, hb⟩; have Q2 := Aside0.mk hb; clear hb))
  have hb2 := Q2.out.below
  have g1 := (hb2.block h0 (by rw [World.size_alloc]; have := blk_lt G1.out.1; omega)).trans (blk_alloc G1.out.1 _)
  have g2 := (hb2.block (h0 + 1) (by rw [World.size_alloc]; have := blk_lt G1.out.2.1; omega)).trans (blk_alloc G1.out.2.1 _)
  have g3 := (hb2.block (h0 + 2) (by rw [World.size_alloc]; have := blk_lt G1.out.2.2; omega)).trans (blk_alloc G1.out.2.2 _)
  have QB2 := Aside0.mk ((QB1.out.alloc QB1.out.size _).trans (hb2.mono (QB1.out.alloc QB1.out.size _).size))
  clear hb2 Q2 QB1 G1 t0 t1 t2 t3 t4 t5 t6 t7 t8 t9 QI
  obtain ⟨t0, t1, t2, t3, t4, t5, t6, t7, t8, t9⟩ := TyM_cells g1
  obtain ⟨v0, v1, v2, v3⟩ := VC_cells g2
  obtain ⟨x0, x1, x2, x3⟩ := VC_cells g3
  clear g1 g2 g3
  go_upto_region 11 with (fail)
  go_quiet ((fail))
  have hord : r = if wrap64 a < wrap64 b then -1 else if wrap64 b < wrap64 a then 1 else 0 := Qr.out
  have Qo := Aside0.mk hord
  clear hord Qr t0 t1 t2 t3 t4 t5 t6 t7 t8 t9 v0 v1 v2 v3 x0 x1 x2 x3
  generalize wrap64 a = a' at Qo ⊢
  generalize wrap64 b = b' at Qo ⊢
  by_cases h1 : a' < b'
  · have h1' : decide (a' < b') = true := decide_eq_true h1
    go_wp2
    go_ret
    have h := Qo.out
    rw [if_pos h1] at h
    exact ⟨by rw [h]; rfl, pw_below_drewN QB2.out _⟩
  · have h1' : decide (a' < b') = false := decide_eq_false h1
    by_cases h2 : b' < a'
    · have h2' : decide (b' < a') = true := decide_eq_true h2
      go_wp2
      go_ret
      have h := Qo.out
      rw [if_neg (by omega), if_pos h2] at h
      exact ⟨by rw [h]; rfl, pw_below_drewN QB2.out _⟩
    · have h2' : decide (b' < a') = false := decide_eq_false h2
      go_wp2
      go_ret
      have h := Qo.out
      rw [if_neg (by omega), if_neg (by omega)] at h
      exact ⟨by rw [h]; rfl, pw_below_drewN QB2.out _⟩
end Go.Proofs.YtlnbkmkdapeicaaGreatDoor.QR
