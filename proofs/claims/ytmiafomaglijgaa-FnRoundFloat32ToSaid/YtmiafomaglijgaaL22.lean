/- The kernel's call: what it makes of one number. -/
import Derived.Test.YtmiafomaglijgaaL21
import Derived.Laws.Pointers
import Derived.Deep.QuietTactic
namespace Go.Proofs.Ytmiafomaglijgaa.QR
open Ieee Go.Proofs.Ytmiafomaglijgaa.Fl Go.RowKit Go.Proofs.YtmiafomaglijgaaW.PrintWords Go.Proofs.YtmiafomaglijgaaW.PrintLast Go.Proofs.YtmiafomaglijgaaW.PrintMore
set_option linter.unusedVariables false
set_option linter.unusedSimpArgs false
theorem cell_keep {w w1 : World} {p : Addr} {v : Value} (h : w.cell? p = some v) (hb : Below w.heap.size w w1) : w1.cell? p = some v := by
  have hlt : p.block < w.heap.size := by
    unfold World.cell? at h
    split at h
    · rename_i e
      exact (Array.getElem?_eq_some_iff.1 e).1
    · cases h
  unfold World.cell? at h ⊢
  rw [hb.block p.block hlt]
  exact h
theorem order_eq32 {a b : Nat} {s t : Bool} {M N : Nat} (ha : Units (F32.read a) s M) (hb : Units (F32.read b) t N) : (FloatKind.f32.format.order a b == some Ordering.eq) = decide (sg s M = sg t N) := by
  have h := order_units ha hb
  have e : FloatKind.f32.format.order a b = (F32.read a).order (F32.read b) := rfl
  rw [e, h, Int.compare_eq_ite_lt]
  by_cases h1 : sg s M = sg t N
  · rw [if_neg (by omega), if_neg (by omega), decide_eq_true h1]; rfl
  · rw [decide_eq_false h1]
    split
    · rfl
    · rw [if_pos (by omega)]; rfl
theorem read32_0 : Units (F32.read 0) false 0 := ⟨0, -149, by decide, by omega, by rw [Nat.zero_mul]⟩
theorem read32_half : Units (F32.read 1056964608) false H1 := ⟨8388608, -24, by decide, by omega, by
  rw [show ((-24 : Int) + 1074).toNat = 1050 by omega, show H1 = pw (23 + 1050) from rfl, pw_add]
  exact congrArg (· * pw 1050) (show pw 23 = 8388608 from rfl)⟩
theorem nan_no {x : Nat} (h : (F64.read x).isNaN = false) : (FloatKind.f64.format.order x x != some Ordering.eq) = false := by
  have key : ∀ d : Datum, d.isNaN = false → d.order d = some .eq := by
    intro d hd
    cases d with
    | nan s t => cases hd
    | infinity s => cases s <;> rfl
    | number s m i => unfold Datum.order; simp
  have e : FloatKind.f64.format.order x x = (F64.read x).order (F64.read x) := rfl
  rw [e, key _ h]
  rfl
set_option maxHeartbeats 8000000 in
set_option maxRecDepth 100000 in
theorem new_is (t : ByteArray) (w : World) : Calls Try.prog 40 #[.string t] w fun e w' => ∃ x, e = .returned (.iface 63 x) ∧ Below w.heap.size w w' := by
  go_enter Try.func40, Try.ntmps40
  go_wp2
  go_ret
  exact ⟨_, rfl, below_alloc (Below.refl _ _) _⟩
set_option maxHeartbeats 8000000 in
set_option maxRecDepth 100000 in
theorem call_whole (mode : Nat) {v m q : Nat} {sv s : Bool} {Mv M : Nat} (hv : Units (F32.read v) sv Mv) (hgv : Good Mv) (hq : Units (F32.read q) s M) (hg : Good M) (hdiv : floatBits .quo .f32 v m = some q) {X : Nat} (hX : Units (F32.read (W F32 false (Dz s M))) false X) (hX0 : X = 0) (g : Nat) (ep : Value) (F : Value) (w : World)
    (hs : w.heap[g]? = some (.cells #[.float .f32 m, .int .i8 (mode : Int), F] 48 (0, 0))) :
    Calls Try.prog 17 #[.pointer (some ⟨g, 0, none⟩), .float .f32 v, ep] w fun e w' => e = .returned (.float .f32 v) ∧ Below w.heap.size w w' := by
  have hxv := k64 sv hgv
  have cv := up_run (widen_is hv hgv)
  have QI := Aside0.mk (fun w => isinf_is (W F64 sv Mv) (W64_lt _ _) (units_fin hxv).2 w)
  rw [(units_fin hxv).1] at QI
  have QN := Aside0.mk (fun w => isnan_is (W F64 sv Mv) false (nan_no (units_fin hxv).2) w)
  have cq := fun w => run_float_arith (P := Try.prog) (w := w) .quo 26 .f32 _ _ _ hdiv
  have hx := k64 s hg
  have hl := k64 s (R_good .down s hg)
  have c1 := up_run (widen_is hq hg)
  have QF := Aside0.mk (fun w => flr_is (W F64 s M) (units_fin hx).2 w)
  rw [whl_is .down hx] at QF
  have c2 := down_run (narrow_is hl (R_good .down s hg))
  have c3 := fun w => run_float_arith (P := Try.prog) (w := w) .sub 26 .f32 _ _ _ (sub_any F32 hq (k32 s (R_good .down s hg)))
  rw [hX0] at hX
  have c4 := order_eq32 hX read32_0
  rw [decide_eq_true rfl] at c4
  have d0 := blk_cell hs 0
  clear hv hgv hq hg hdiv hxv hx hl hX hX0
  generalize W F64 sv Mv = xv at cv QI QN
  generalize W F64 s M = x at c1 QF
  generalize W F64 s (R .down s M * U1) = l64 at QF c2
  generalize W F32 s (R .down s M * U1) = l32 at c2 c3
  generalize W F32 false (Dz s M) = z32 at c3 c4
  have QS := Aside0.mk hs
  clear hs
  go_enter Try.func17, Try.ntmps17
  go_wp2_with (first | (go_at_call 7; with_reducible refine Calls.mono (QI.out _) ?_; rintro e w1 ⟨rfl, hb⟩; have d1 := cell_keep d0 hb; have Q1 := Aside0.mk hb; clear hb) | (go_at_call 38; with_reducible refine Calls.mono (QN.out _) ?_; rintro e w2 ⟨rfl, hb⟩; have d2 := cell_keep d1 hb; have Q2 := Aside0.mk (Q1.out.trans (hb.mono Q1.out.size)); clear hb) | (go_at_call 13; with_reducible refine Calls.mono (QF.out _) ?_; rintro e w3 ⟨rfl, hb⟩; have Q3 := Aside0.mk (Q2.out.trans (hb.mono Q2.out.size)); clear hb))
  go_ret
  exact ⟨rfl, Q3.out⟩
end Go.Proofs.Ytmiafomaglijgaa.QR
