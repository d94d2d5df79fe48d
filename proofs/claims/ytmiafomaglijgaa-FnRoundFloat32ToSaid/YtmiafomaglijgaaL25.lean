/- What impl.RoundFloat32To returns: what the kernel gives, and whether it went well. -/
import Derived.Test.YtmiafomaglijgaaL24
import Derived.Defers
import Derived.Recover
import Derived.Laws.Panics
namespace Go.Proofs.Ytmiafomaglijgaa.QR
open Ieee Go.Proofs.Ytmiafomaglijgaa.Fl Go.RowKit Go.Proofs.YtmiafomaglijgaaW.PrintWords Go.Proofs.YtmiafomaglijgaaW.PrintLast Go.Proofs.YtmiafomaglijgaaW.PrintMore
set_option linter.unusedVariables false
set_option linter.unusedSimpArgs false
/-- Nothing panics. -/
def NoP (Q : Exit → Act → World → Prop) : Exit → Act → World → Prop
  | .panic _, _, _ => False
  | e, a, w => Q e a w
theorem wp_noP {P : Program} {c : Code} {Q : Exit → Act → World → Prop} {a : Act} {w : World} (h : c.wp P (NoP Q) a w) : c.wp P Q a w :=
  wp_mono h (fun e a w h => by
    cases e with
    | panic c => exact absurd h (fun h => h)
    | normal => exact h
    | exit i => exact h
    | goto l => exact h
    | ret => exact h
    | outgrown => exact h)
theorem noP_normal {Q : Exit → Act → World → Prop} {a : Act} {w : World} (h : Q .normal a w) : NoP Q .normal a w := h
theorem idle (p q : Addr) (w : World) :
    CallsD Try.prog 10 #[.pointer (some p), .pointer (some q)] .returning w fun e u' w' => e = .returned (.tuple #[]) ∧ u' = .returning ∧ w' = w := by
  refine callsD_of_wpS Try.func10 rfl fun c₀ cs hu => ?_
  apply wpS_seq
  apply wpS_region
  simp [wpOpsS, go_sem, recoverD, hu, Try.ntmps10, Exit.thenS]
  refine wpS_cond (t := false) (by simp [Act.eval, Array.replicate]) ?_
  simp only [Bool.false_eq_true, if_false]
  refine wpS_of_wp (wp_skip ?_)
  cases c₀
  simp_all [bodyPostS, results, Try.results10]
set_option maxHeartbeats 8000000 in
set_option maxRecDepth 100000 in
theorem impl_is (mode : Nat) (hm : mode < 10) {v m y : Nat} {b : Bool} (hc : CallOK mode v m y b) (w : World) : Calls Try.prog 4 #[.int .u32 (v : Int), .int .u32 (m : Int), .int .i64 (mode : Int)] w fun e w' => e = .returned (.tuple #[.int .u32 (y : Int), .bool b]) ∧ Below w.heap.size w w' := by
  have h1 := f32_of (v : Int)
  have h2 := f32_of (m : Int)
  rw [Int.toNat_natCast] at h1 h2
  have h3 := f32_bits y
  have hw : IntKind.i8.wrap (mode : Int) = (mode : Int) := by
    simp [IntKind.wrap, IntKind.signed, IntKind.bits]; omega
  have QT := Aside0.mk (fun w => to_is mode hm hc w)
  clear hm hc
  go_enter_defers Try.func4, Try.ntmps4
  go_wp2_with (first | (go_at_call 11; with_reducible refine Calls.mono (QT.out _) ?_; rintro e w1 ⟨z, rfl, hb, hz⟩; have Q1 := Aside0.mk (And.intro hb hz); clear hb hz) | fail)
  have e0 : w1.heap[w.heap.size]? = some (.cells #[.int .u32 0] 22 (0, 0)) := (Q1.out.1.block w.heap.size (by rw [World.size_alloc, World.size_alloc]; omega)).trans (blk_alloc (blk_new w _) _)
  have e1 : w1.heap[w.heap.size + 1]? = some (.cells #[.bool false] 4 (0, 0)) := (Q1.out.1.block (w.heap.size + 1) (by rw [World.size_alloc, World.size_alloc]; omega)).trans (by have := blk_new (w.alloc (.cells #[.int .u32 0] 22)) (.cells #[.bool false] 4); rw [World.size_alloc] at this; exact this)
  have hb : Below w.heap.size w w1 := (below_alloc (below_alloc (Below.refl _ _) _) _).trans (Q1.out.1.mono (by rw [World.size_alloc, World.size_alloc]; omega))
  have c0 := (blk_cell e0 0).trans rfl
  have c1 := (blk_cell e1 0).trans rfl
  have z0 := blk_frozen e0 0
  have z1 := blk_frozen e1 0
  have hz := Q1.out.2
  have Q2 := Aside0.mk hb
  clear Q1 QT e0 e1 hb h1 h2 hw
  generalize hr : w.heap.size = r at c0 c1 z0 z1 Q2 ⊢
  have Qr := Aside0.mk hr
  clear hr
  rcases hz with ⟨rfl, rfl⟩ | ⟨rfl, t, x, rfl⟩
  · refine wp_noP ?_
    go_region_with (fail)
    all_goals
      refine noP_normal ?_
      go_wp2
      refine leaves_cons (f := 10) (args := #[.pointer (some ⟨r, 0, none⟩), .pointer (some ⟨r + 1, 0, none⟩)]) (by simp) (by simp [go_sem]) ?_
      refine (idle ⟨r, 0, none⟩ ⟨r + 1, 0, none⟩ _).mono ?_
      rintro e u' w'' ⟨rfl, rfl, rfl⟩
      have q1 : ((w1.setCell ⟨r, 0, none⟩ (.int .u32 (y : Int))).setCell ⟨r + 1, 0, none⟩ (.bool true)).cell? ⟨r, 0, none⟩ = some (.int .u32 (y : Int)) := by simp [go_sem, c0]
      have q2 : ((w1.setCell ⟨r, 0, none⟩ (.int .u32 (y : Int))).setCell ⟨r + 1, 0, none⟩ (.bool true)).cell? ⟨r + 1, 0, none⟩ = some (.bool true) := by simp [go_sem, c1]
      refine ⟨_, by simp [results, Try.results4, go_sem, q1, q2]; rfl, ?_⟩
      refine ⟨rfl, ?_⟩
      have hB := (Q2.out.setCell (p := ⟨r, 0, none⟩) (Nat.le_refl _) (.int .u32 (y : Int))).setCell (p := ⟨r + 1, 0, none⟩) (Nat.le_succ _) (.bool true)
      rw [Qr.out]
      first | exact hB | exact hB.drew | exact hB.drew.drew
  · refine wp_noP ?_
    go_region_with (fail)
    all_goals
      refine noP_normal ?_
      go_wp2
      refine leaves_cons (f := 10) (args := #[.pointer (some ⟨r, 0, none⟩), .pointer (some ⟨r + 1, 0, none⟩)]) (by simp) (by simp [go_sem]) ?_
      refine (idle ⟨r, 0, none⟩ ⟨r + 1, 0, none⟩ _).mono ?_
      rintro e u' w'' ⟨rfl, rfl, rfl⟩
      have q1 : ((w1.setCell ⟨r, 0, none⟩ (.int .u32 (y : Int))).setCell ⟨r + 1, 0, none⟩ (.bool false)).cell? ⟨r, 0, none⟩ = some (.int .u32 (y : Int)) := by simp [go_sem, c0]
      have q2 : ((w1.setCell ⟨r, 0, none⟩ (.int .u32 (y : Int))).setCell ⟨r + 1, 0, none⟩ (.bool false)).cell? ⟨r + 1, 0, none⟩ = some (.bool false) := by simp [go_sem, c1]
      refine ⟨_, by simp [results, Try.results4, go_sem, q1, q2]; rfl, ?_⟩
      refine ⟨rfl, ?_⟩
      have hB := (Q2.out.setCell (p := ⟨r, 0, none⟩) (Nat.le_refl _) (.int .u32 (y : Int))).setCell (p := ⟨r + 1, 0, none⟩) (Nat.le_succ _) (.bool false)
      rw [Qr.out]
      first | exact hB | exact hB.drew | exact hB.drew.drew
end Go.Proofs.Ytmiafomaglijgaa.QR
