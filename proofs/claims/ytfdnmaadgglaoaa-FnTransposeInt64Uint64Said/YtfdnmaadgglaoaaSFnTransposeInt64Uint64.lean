/- What impl.TransposeInt64Uint64 returns, for every list and every map: where each number is a place of the map, what the map has there, cut to its bits, and true; else nothing, and false (the run-time panic is caught). A list of more than 2^48 numbers is left out. -/
import Derived.Test.YtfdnmaadgglaoaaPFnTransposeInt64Uint64x1
import Derived.Defers
import Derived.Recover
import Derived.Laws.Pointers
import Derived.Laws.Panics
namespace Go.Proofs.Ytfdnmaadgglaoaa
open Go.RowKit Go.Proofs.YtfdnmaadgglaoaaW.PrintWords Go.Proofs.YtfdnmaadgglaoaaW.PrintLast Go.Proofs.YtfdnmaadgglaoaaW.PrintMore

theorem bounds_drawn {P : Program} {w : World} {α : Type} (k : IntKind) (x y : Int) (code : BoundsCode) :
    ∃ s n, (boundsPanic k x y code : Sem α).run P w = .halt (.panic (boundsValue P (IntKind.i64.wrap x) y s code.toNat)) (w.drewN n) := by
  unfold boundsPanic boundsValue
  split
  · have h : ∃ s, Sem.run P (do let signed ← (· == 1) <$> choose (.extern "runtime.boundsError.signed" 2); (runtimePanic (.bounds (IntKind.i64.wrap x) y signed code) : Sem α)) w = .halt (.panic (.iface P.rt.boundsError (.agg #[.int .i64 (IntKind.i64.wrap x), .int .i64 y, .bool s, .int .u8 code.toNat]))) w.drew := by
      simp [runtimePanic, goPanic, go_sem]
    obtain ⟨s, hs⟩ := h
    exact ⟨s, 1, hs⟩
  · exact ⟨(k != .u64), 0, by simp [runtimePanic, goPanic, go_sem]; rfl⟩
theorem index_out_drawn {P : Program} {w : World} (t : TypeId) (a0 : Option Addr) (len cap : Nat) (k : IntKind) (i : Int) (h : P.underlying t = some (.slice (P.elem t))) (hnil : a0 = none → len = 0) (ho : ¬ (0 ≤ i ∧ i < (len : Int))) :
    ∃ pv n, (Instr.indexAt t (.slice a0 len cap) (.int k i)).run P w = .halt (.panic (.iface P.rt.boundsError pv)) (w.drewN n) := by
  have hb : ∀ len : Nat, ∃ pv n, (boundsPanic k i len .index : Sem Value).run P w = .halt (.panic (.iface P.rt.boundsError pv)) (w.drewN n) := by
    intro len
    obtain ⟨s, n, h⟩ := bounds_drawn (P := P) (w := w) (α := Value) k i len .index
    exact ⟨_, n, h⟩
  cases a0 with
  | some a =>
    rw [run_indexAt_slice (h := h), if_neg (by omega)]
    exact hb len
  | none =>
    obtain rfl := hnil rfl
    have e : (Instr.indexAt t (.slice none 0 cap) (.int k i)).run P w = (boundsPanic k i 0 .index).run P w := by
      simp [Instr.indexAt, run_underlying h, asIntOf]
    rw [e]
    exact hb 0
theorem C_none {α : Type} {d : Kd α} {w : World} {A : Option Addr} {n : Nat} {xs : List α} (h : Kd.C d w A n xs) (e : A = none) : n = 0 :=
  Nat.eq_zero_of_not_pos fun hp => by
    obtain ⟨ad, ea, _⟩ := h.2.2 hp
    rw [e] at ea
    cases ea
theorem cell_kept {w W : World} {S : Nat → Prop} (h : Kept w W S) {b j : Nat} (hb : b < w.heap.size) (hn : ¬ S b) : W.cell? ⟨b, j, none⟩ = w.cell? ⟨b, j, none⟩ := by
  simp only [World.cell?, h.2 b hb hn]
theorem frozen_kept {w W : World} {S : Nat → Prop} (h : Kept w W S) {b j : Nat} (hb : b < w.heap.size) (hn : ¬ S b) : W.frozen? ⟨b, j, none⟩ = w.frozen? ⟨b, j, none⟩ := by
  simp only [World.frozen?, h.2 b hb hn]
end Go.Proofs.Ytfdnmaadgglaoaa
namespace Go.Proofs.Ytfdnmaadgglaoaa.PFnTransposeInt64Uint64
open Go.RowKit Go.Proofs.YtfdnmaadgglaoaaW.PrintWords Go.Proofs.YtfdnmaadgglaoaaW.PrintLast Go.Proofs.YtfdnmaadgglaoaaW.PrintMore

theorem catch_panicking (p q : Addr) (x y : Value) (u : TypeId) (pv : Value) (older : List PanicEntry) (w : World) (hc : w.cell? p = some x) (hz : w.frozen? p = false) (hc2 : w.cell? q = some y) (hz2 : w.frozen? q = false) (hpq : p.block ≠ q.block) :
    CallsD Try.prog 15 #[.pointer (some p), .pointer (some q)] (.panicking ({ v := .iface u pv, recovered := false } :: older)) w fun e u' w' =>
      e = .returned (.tuple #[]) ∧ u' = .panicking ({ v := .iface u pv, recovered := true } :: older) ∧ w' = (w.setCell p (.slice none 0 0)).setCell q (.bool false) := by
  refine callsD_of_wpS Try.func15 rfl fun c₀ cs hu => ?_
  apply wpS_seq
  apply wpS_region
  simp [wpOpsS, go_sem, recoverD, hu, Try.ntmps15, Exit.thenS]
  refine wpS_cond (t := true) (by simp [Act.eval, Array.replicate]) ?_
  simp only [if_true]
  apply wpS_region
  have h2 : (w.setCell p (.slice none 0 0)).cell? q = some y := by rw [World.cell?_setCell_other _ _ _ _ (fun e => hpq (by rw [e]))]; exact hc2
  simp [wpOpsS, go_sem, hc, hz, hz2, h2, bodyPostS, results, Try.results15]

theorem catch_idle (p q : Addr) (w : World) :
    CallsD Try.prog 15 #[.pointer (some p), .pointer (some q)] .returning w fun e u' w' => e = .returned (.tuple #[]) ∧ u' = .returning ∧ w' = w := by
  refine callsD_of_wpS Try.func15 rfl fun c₀ cs hu => ?_
  apply wpS_seq
  apply wpS_region
  simp [wpOpsS, go_sem, recoverD, hu, Try.ntmps15, Exit.thenS]
  refine wpS_cond (t := false) (by simp [Act.eval, Array.replicate]) ?_
  simp only [Bool.false_eq_true, if_false]
  refine wpS_of_wp (wp_skip ?_)
  cases c₀
  simp_all [bodyPostS, results, Try.results15]
end Go.Proofs.Ytfdnmaadgglaoaa.PFnTransposeInt64Uint64
namespace Go.Proofs.Ytfdnmaadgglaoaa.PFnTransposeInt64Uint64
open Go.RowKit Go.Proofs.YtfdnmaadgglaoaaW.PrintWords Go.Proofs.YtfdnmaadgglaoaaW.PrintLast Go.Proofs.YtfdnmaadgglaoaaW.PrintMore
def Bad (l m : List Int) (i : Int) : Prop := ∃ j : Nat, i ≤ j ∧ j < l.length ∧ ¬ (0 ≤ rd l j ∧ rd l j < (m.length : Int))
theorem Bad.next {l m : List Int} {i : Int} (h : Bad l m i) (h0 : 0 ≤ i) (hx : 0 ≤ rd l i) (hy : rd l i < (m.length : Int)) : Bad l m (i + 1) := by
  obtain ⟨j, h1, h2, h3⟩ := h
  refine ⟨j, ?_, h2, h3⟩
  by_cases e : i = j
  · subst e; exact absurd ⟨hx, hy⟩ h3
  · omega
theorem Bad.lt {l m : List Int} {i : Int} (h : Bad l m i) : i < (l.length : Int) := by
  obtain ⟨j, h1, h2, _⟩ := h
  omega
/-- It ends in a panic of Go's own, with an interface value. -/
def Panics (e : Ending) : Prop := ∃ (T : TypeId) (pv : Value), e = .panicked [{ v := .iface T pv, recovered := false }]
set_option linter.unusedVariables false
set_option maxHeartbeats 8000000 in
set_option maxRecDepth 100000 in
theorem utils_transposeInt64Uint64.panics (A0 : Option Addr) (c0 : Nat) (l0 : List Int) (P1_ : Nat → Prop) (u9000_ : Value) (l1 : List Int) (A2 : Option Addr) (c2 : Nat) (l2 : List Int) (w0 w : World) (hB : Below w0.heap.size w0 w) (hr0 : ∀ W_, Kept w W_ (fun k_ => P1_ k_) → Kd.C (Kd.int .i64) W_ A0 l0.length l0) (hc0 : l0.length ≤ c0) (ho1 : Kd.R (Kd.int .u64) 27 w w0.heap.size P1_ u9000_ l1) (hr2 : ∀ W_, Kept w W_ (fun k_ => P1_ k_) → Kd.C (Kd.int .i32) W_ A2 l2.length l2) (hc2 : l2.length ≤ c2)
    (hm : l0.length ≤ 9223372036854775806) (hlen : l1.length = l0.length) (hbad : Bad l0 l2 0) :
    Calls Try.prog 21 #[.slice A0 l0.length c0, u9000_, .slice A2 l2.length c2] w fun e w' => Panics e ∧ Below w0.heap.size w0 w' ∧ Kept w w' (fun k_ => P1_ k_) := by
  have HR0 := Aside0.mk hr0
  have HC0 := Aside0.mk hc0
  clear hr0 hc0
  have HO1 := Aside0.mk (show Kd.R (Kd.int .u64) 27 w w0.heap.size (fun k_ => (P1_ k_ ∨ w.heap.size ≤ k_)) u9000_ l1 from Kd.R_mono ho1 (fun k_ hk => (.inl hk)))
  have HR2 := Aside0.mk hr2
  have HC2 := Aside0.mk hc2
  clear hr2 hc2
  have HK := Aside0.mk (Kept.refl w (fun k_ => P1_ k_))
  have HW0 := Aside0.mk hB.size
  have HB := Aside0.mk hB
  clear hB
  have HL := Aside0.mk hlen
  have HBAD := Aside0.mk hbad
  clear hlen hbad
  go_enter Try.func21, Try.ntmps21
  go_wp2
  go_loopg [10] (l0.length) (fun kq v10 w' => ∃ (x1_1 : List Int) (x10_1 : Int), v10 = .int .i64 x10_1 ∧ Aside0 (0 ≤ x10_1 ∧ x10_1 + kq = l0.length ∧ x1_1.length = l0.length ∧ Bad l0 l2 x10_1) ∧ Aside0 (Kd.R (Kd.int .u64) 27 w' w0.heap.size (fun k_ => (P1_ k_ ∨ w.heap.size ≤ k_)) u9000_ x1_1) ∧ Aside0 (Kept w w' (fun k_ => P1_ k_)) ∧ Aside0 (Below w0.heap.size w0 w'))
  case atStart => exact ⟨(l1), (0), (by first | rfl | (simp; done) | (simp [*]; done)), ⟨by omega, by omega, HL.out, HBAD.out⟩, ⟨by (with_reducible repeat (first | apply Kd.R_alloc | apply Kd.R_drewN | apply Kd.R_drew)); exact HO1.out⟩, ⟨by repeat (first | (with_reducible first | exact HK.out | apply Kept.alloc | apply Kept.drewN | apply Kept.drew) | exact HK.out)⟩, ⟨by repeat (first | (with_reducible first | exact HB.out | apply below_alloc | apply pw_below_drewN | apply below_drew1) | exact HB.out)⟩⟩
  case round =>
    obtain ⟨x1_1, x10_1, rfl, HA, HO_1, HK, HB⟩ := hrel
    have hlt := HA.out.2.2.2.lt
    obtain ⟨k1, rfl⟩ : ∃ k1, gk = k1 + 1 := ⟨gk - 1, by have := HA.out; omega⟩
    have c4b0 : decide (x10_1 < (l0.length : Int)) = true := decide_eq_true hlt
    have c5b0 : decide (0 ≤ x10_1) = true := decide_eq_true HA.out.1
    clear hlt
    by_cases c7 : 0 ≤ (rd l0 x10_1)
    · by_cases c8 : (rd l0 x10_1) < (l2.length : Int)
      · have HN := Aside0.mk (HA.out.2.2.2.next HA.out.1 c7 c8)
        have c7b0 : decide (0 ≤ (rd l0 x10_1)) = true := decide_eq_true c7
        have c8b0 : decide ((rd l0 x10_1) < (l2.length : Int)) = true := decide_eq_true c8
        have c9b0 : decide (x10_1 < (x1_1.length : Int)) = true := decide_eq_true (by have := HA.out; omega)
        clear c7 c8
        obtain ⟨y103, hy103⟩ : ∃ y_ : List Int, y_ = (x1_1.set (x10_1 : Int).toNat (IntKind.u64.wrap (rd l2 (rd l0 x10_1)))) := ⟨_, rfl⟩
        have Ny103 := Aside0.mk hy103
        clear hy103
        have p101 : 0 ≤ (x10_1 : Int) := of_decide_eq_true (by first | (with_reducible assumption) | assumption)
        have q101 : x10_1 < (l0.length : Int) := of_decide_eq_true (by first | (with_reducible assumption) | assumption)
        obtain ⟨ad101, e101, hx101_0⟩ := Kd.at_int (Kd.C_kept_now HR0.out HK.out) x10_1 p101 q101
        cases e101
        replace p101 := eq_true p101
        replace q101 := eq_true q101
        have p102 : 0 ≤ ((rd l0 x10_1) : Int) := of_decide_eq_true (by first | (with_reducible assumption) | assumption)
        have q102 : (rd l0 x10_1) < (l2.length : Int) := of_decide_eq_true (by first | (with_reducible assumption) | assumption)
        obtain ⟨ad102, e102, hx102_0⟩ := Kd.at_int (Kd.C_kept_now HR2.out HK.out) (rd l0 x10_1) p102 q102
        cases e102
        replace p102 := eq_true p102
        replace q102 := eq_true q102
        have p10 : 0 ≤ (x10_1 : Int) := of_decide_eq_true (by first | (with_reducible assumption) | assumption)
        have q10 : (x10_1 : Int) < ((x1_1.length : Int) : Int) := of_decide_eq_true (by first | (with_reducible assumption) | assumption)
        obtain ⟨go10, co10, eo10, gb10, gl10, cl10, HG10⟩ := Kd.R_form HO_1.out (by omega)
        (first | cases eo10 | (injection eo10 with ea_ en_ ec_; (first | subst ea_ | (injection ea_ with ea_; subst ea_)); subst ec_; clear en_))
        have GB10 := Aside0.mk gb10
        have GG10 := Aside0.mk HG10
        clear gb10 gl10 HG10
        have HMgo10 := Aside0.mk (show (P1_ go10 ∨ w.heap.size ≤ go10) from (HO_1.out.1 _ rfl))
        obtain ⟨hx10_0, hf10_0⟩ := Kd.R_celln 0 HO_1.out (x10_1 : Int) p10 q10
        replace p10 := eq_true p10
        replace q10 := eq_true q10
        have HP11 := Kd.R_putg HO_1.out (x10_1 : Int) (IntKind.u64.wrap (rd l2 (rd l0 x10_1)))
        go_wp2_with (first | ((with_reducible refine gate_store (t := 27) (p := 22) rfl ?_); refine store_event (t := 27) (p := 22) (v := ?vo_w12) (w1 := (wr.setCell ⟨go10, (x10_1 : Int).toNat, none⟩ (.int .u64 (IntKind.u64.wrap (rd l2 (rd l0 x10_1)))))) ?hg ?ho ?hn ?hr ?_; (case ho => rfl); (case hg => rfl); (case hn => rfl); (case hr => first | (go_simp; done) | (go_simp; rfl)); intro w12 hw; have hg : wr.grownBy w12 (some go10) := (by rw [hw]; exact HP11.2); have hp_ : Kd.R (Kd.int .u64) 27 w12 w0.heap.size (fun k_ => (P1_ k_ ∨ w.heap.size ≤ k_)) (.slice (some ⟨go10, 0, none⟩) x1_1.length co10) y103 := (by rw [hw, Ny103.out]; exact HP11.1); clear HP11; have n0_ := Aside0.mk (hp_); have n1_ := Aside0.mk ((by rw [hw]; exact below_set (HB.out) GB10.out : Below w0.heap.size w0 w12)); have n2_ := Aside0.mk (Kept.of_grown (S := (fun k_ => P1_ k_)) hg (by repeat (first | (with_reducible first | exact HK.out | apply Kept.alloc | apply Kept.drewN | apply Kept.drew) | exact HK.out)) (fun k_ e_ => (HO_1.out.1 k_ e_))); clear HO_1; clear HB; clear HK; have HO_1 := n0_; have HB := n1_; have HK := n2_; clear n0_ n1_ n2_; clear hg hw hp_))
        go_roundg k1
        case measure => omega
        case rel => exact ⟨(y103), (wrap64 (x10_1 + 1)), (by first | rfl | (simp; done) | (simp [*]; done)), ⟨by have h_ := HA.out; rw [Ny103.out, List.length_set, show wrap64 (x10_1 + 1) = x10_1 + 1 from by unfold wrap64; omega]; exact ⟨by omega, by omega, h_.2.2.1, HN.out⟩⟩, ⟨by (with_reducible repeat (first | apply Kd.R_alloc | apply Kd.R_drewN | apply Kd.R_drew)); exact HO_1.out⟩, ⟨by repeat (first | (with_reducible first | exact HK.out | apply Kept.alloc | apply Kept.drewN | apply Kept.drew) | exact HK.out)⟩, ⟨by repeat (first | (with_reducible first | exact HB.out | apply below_alloc | apply pw_below_drewN | apply below_drew1) | exact HB.out)⟩⟩
      · have HX := Aside0.mk (show ¬ (0 ≤ rd l0 x10_1 ∧ rd l0 x10_1 < (l2.length : Int)) from fun h => c8 h.2)
        clear c7 c8
        obtain ⟨pv_, n_, hrun⟩ := index_out_drawn (P := Try.prog) (w := wr) 22 A2 l2.length c2 .i64 (rd l0 x10_1) Try.underlying22 (C_none (Kd.C_kept_now HR2.out HK.out)) HX.out
        have p101 : 0 ≤ (x10_1 : Int) := of_decide_eq_true (by first | (with_reducible assumption) | assumption)
        have q101 : x10_1 < (l0.length : Int) := of_decide_eq_true (by first | (with_reducible assumption) | assumption)
        obtain ⟨ad101, e101, hx101_0⟩ := Kd.at_int (Kd.C_kept_now HR0.out HK.out) x10_1 p101 q101
        cases e101
        replace p101 := eq_true p101
        replace q101 := eq_true q101
        go_wp2
        exact ⟨rfl, ⟨8, pv_, rfl⟩, pw_below_drewN HB.out _, Kept.drewN HK.out _⟩
    · have HX := Aside0.mk (show ¬ (0 ≤ rd l0 x10_1 ∧ rd l0 x10_1 < (l2.length : Int)) from fun h => c7 h.1)
      clear c7
      obtain ⟨pv_, n_, hrun⟩ := index_out_drawn (P := Try.prog) (w := wr) 22 A2 l2.length c2 .i64 (rd l0 x10_1) Try.underlying22 (C_none (Kd.C_kept_now HR2.out HK.out)) HX.out
      have p101 : 0 ≤ (x10_1 : Int) := of_decide_eq_true (by first | (with_reducible assumption) | assumption)
      have q101 : x10_1 < (l0.length : Int) := of_decide_eq_true (by first | (with_reducible assumption) | assumption)
      obtain ⟨ad101, e101, hx101_0⟩ := Kd.at_int (Kd.C_kept_now HR0.out HK.out) x10_1 p101 q101
      cases e101
      replace p101 := eq_true p101
      replace q101 := eq_true q101
      go_wp2
      exact ⟨rfl, ⟨8, pv_, rfl⟩, pw_below_drewN HB.out _, Kept.drewN HK.out _⟩
end Go.Proofs.Ytfdnmaadgglaoaa.PFnTransposeInt64Uint64
namespace Go.Proofs.Ytfdnmaadgglaoaa.PFnTransposeInt64Uint64
open Go.RowKit Go.Proofs.YtfdnmaadgglaoaaW.PrintWords Go.Proofs.YtfdnmaadgglaoaaW.PrintLast Go.Proofs.YtfdnmaadgglaoaaW.PrintMore
set_option linter.unusedVariables false

def inRange (l m : List Int) : Bool := l.all fun x => decide (0 ≤ x) && decide (x < (m.length : Int))
theorem bad_of (l m : List Int) (h : inRange l m = false) : Bad l m 0 := by
  have h1 : ¬ ∀ x ∈ l, 0 ≤ x ∧ x < (m.length : Int) := by
    intro hx
    have : inRange l m = true := by
      unfold inRange
      rw [List.all_eq_true]
      intro x hm
      have := hx x hm
      simp [this.1, this.2]
    rw [h] at this
    cases this
  have h2 : ∃ x, x ∈ l ∧ ¬ (0 ≤ x ∧ x < (m.length : Int)) := by
    refine Classical.byContradiction fun hn => h1 fun x hx => Classical.byContradiction fun hc => hn ⟨x, hx, hc⟩
  obtain ⟨x, hx, hb⟩ := h2
  obtain ⟨j, hj, rfl⟩ := List.getElem_of_mem hx
  refine ⟨j, by omega, hj, ?_⟩
  simpa [rd, hj] using hb
theorem in_at {l m : List Int} (h : inRange l m = true) (j : Nat) (hj : j < l.length) : 0 ≤ rd l (j : Int) ∧ rd l (j : Int) < (m.length : Int) := by
  unfold inRange at h
  rw [List.all_eq_true] at h
  have := h l[j] (List.getElem_mem hj)
  simpa [rd, hj] using this
def mapped (l m : List Int) : List Int := l.map fun x => IntKind.u64.wrap (rd m x)
theorem set_mapped (l m d : List Int) (hd : d.length = l.length) (i : Nat) (hi : i < l.length) :
    ((mapped l m).take i ++ d.drop i).set i (IntKind.u64.wrap (rd m (rd l (i : Int)))) = (mapped l m).take (i + 1) ++ d.drop (i + 1) := by
  have e : ((mapped l m).take i).length = i := by simp [mapped]; omega
  rw [List.set_append_right _ _ (by omega), e, Nat.sub_self, List.drop_eq_getElem_cons (by omega), List.set_cons_zero, List.take_add_one]
  rw [List.getElem?_eq_getElem (by simp [mapped]; omega)]
  simp [mapped, rd, hi]
theorem trans_loop (l m d : List Int) (hd : d.length = l.length) (hn : l.length ≤ 9223372036854775806) (h : inRange l m = true) (n : Nat) : ∀ (k i : Nat), i + n = l.length → n < k →
    utils_transposeInt64Uint64.l0 k ((mapped l m).take i ++ d.drop i) m l (l.length : Int) (i : Int) = some (mapped l m) := by
  induction n with
  | zero =>
    intro k i hi hk
    obtain ⟨k, rfl⟩ : ∃ q, k = q + 1 := ⟨k - 1, by omega⟩
    simp only [utils_transposeInt64Uint64.l0]
    rw [if_neg (by omega), List.take_of_length_le (by simp [mapped]; omega), List.drop_eq_nil_of_le (by omega), List.append_nil]
  | succ n ih =>
    intro k i hi hk
    obtain ⟨k, rfl⟩ : ∃ q, k = q + 1 := ⟨k - 1, by omega⟩
    obtain ⟨h1, h2⟩ := in_at h i (by omega)
    have hl : ((mapped l m).take i ++ d.drop i).length = l.length := by simp [mapped]; omega
    simp only [utils_transposeInt64Uint64.l0]
    rw [if_pos (by omega), if_pos (by omega), if_pos (by omega), if_pos h1, if_pos h2, if_pos (by omega), Int.toNat_natCast, set_mapped l m d hd i (by omega), show wrap64 ((i : Int) + 1) = ((i + 1 : Nat) : Int) from by unfold wrap64; omega]
    exact ih k (i + 1) (by omega) (by omega)
theorem trans_some (l m d : List Int) (hd : d.length = l.length) (hn : l.length ≤ 9223372036854775806) (h : inRange l m = true) :
    utils_TransposeInt64Uint64.f (l.length + 1) l d m = some (mapped l m) := by
  have := trans_loop l m d hd hn h l.length (l.length + 1) 0 (by omega) (by omega)
  unfold utils_TransposeInt64Uint64.f utils_transposeInt64Uint64.f
  rw [show (some (mapped l m)) = (some (mapped l m)).bind fun t => some t from rfl, ← this]
  simp

set_option maxHeartbeats 8000000 in
set_option maxRecDepth 100000 in
theorem utils_TransposeInt64Uint64.panics (A0 : Option Addr) (c0 : Nat) (l0 : List Int) (P1_ : Nat → Prop) (u9000_ : Value) (l1 : List Int) (A2 : Option Addr) (c2 : Nat) (l2 : List Int) (w0 w : World) (hB : Below w0.heap.size w0 w) (hr0 : ∀ W_, Kept w W_ (fun k_ => P1_ k_) → Kd.C (Kd.int .i64) W_ A0 l0.length l0) (hc0 : l0.length ≤ c0) (ho1 : Kd.R (Kd.int .u64) 27 w w0.heap.size P1_ u9000_ l1) (hr2 : ∀ W_, Kept w W_ (fun k_ => P1_ k_) → Kd.C (Kd.int .i32) W_ A2 l2.length l2) (hc2 : l2.length ≤ c2)
    (hm : l0.length ≤ 9223372036854775806) (hlen : l1.length = l0.length) (hbad : Bad l0 l2 0) :
    Calls Try.prog 16 #[.slice A0 l0.length c0, u9000_, .slice A2 l2.length c2] w fun e w' => Panics e ∧ Below w0.heap.size w0 w' ∧ Kept w w' (fun k_ => P1_ k_) := by
  have HL := Aside0.mk hlen
  clear hlen
  go_enter Try.func16, Try.ntmps16
  go_wp2_with fail
  refine (utils_transposeInt64Uint64.panics A0 c0 l0 P1_ _ l1 A2 c2 l2 w0 w hB hr0 hc0 ho1 hr2 hc2 hm HL.out hbad).mono ?_
  rintro e w' ⟨⟨T, pv, rfl⟩, hb, hk⟩
  exact ⟨rfl, ⟨T, pv, rfl⟩, hb, hk⟩

end Go.Proofs.Ytfdnmaadgglaoaa.PFnTransposeInt64Uint64
namespace Go.Proofs.Ytfdnmaadgglaoaa.PFnTransposeInt64Uint64
open Go.RowKit Go.Proofs.YtfdnmaadgglaoaaW.PrintWords Go.Proofs.YtfdnmaadgglaoaaW.PrintLast Go.Proofs.YtfdnmaadgglaoaaW.PrintMore
set_option linter.unusedVariables false
theorem inf27 : (Try.prog.info? 27).map (fun i => (i.zero, i.size, i.bytes)) = some (some (.int .u64 0), 1, 8) := by kernel_rfl

set_option maxHeartbeats 800000 in
set_option maxRecDepth 100000 in
theorem impl_yes (A0 : Option Addr) (c0 : Nat) (l0 : List Int) (A1 : Option Addr) (c1 : Nat) (l1 : List Int) (w : World) (hr0 : Kd.C (Kd.int .i64) w A0 l0.length l0) (hc0 : l0.length ≤ c0) (hr1 : Kd.C (Kd.int .i32) w A1 l1.length l1) (hc1 : l1.length ≤ c1) (hin : inRange l0 l1 = true) (hn : l0.length ≤ 35184372088832) :
    Calls Try.prog 9 #[.slice A0 l0.length c0, .slice A1 l1.length c1] w fun e w' => ∃ v0_ : Value, e = .returned (.tuple #[v0_, .bool true]) ∧ Kd.R (Kd.int .u64) 27 w' w.heap.size (fun _ => True) v0_ (mapped l0 l1) ∧ Below w.heap.size w w' := by
  have HI := Aside0.mk hin
  have HR0 := Aside0.mk hr0
  have HR1 := Aside0.mk hr1
  clear hin hr0 hr1
  go_enter_defers Try.func9, Try.ntmps9
  go_wp2_with (first | ((with_reducible refine gate_dst (N := 8) rfl ?_); refine Kd.R_make (Kd.int .u64) _ 27 rfl (N := 8) rfl 30 _ _ rfl (l0.length : Int) rfl rfl Try.underlying30 (.int .u64 0) 8 inf27 rfl (by decide) (by omega) 0 (ok := fun _ => True) (okp := fun _ => True) rfl (fun _ hk => hk) trivial (by omega) (by simp; omega) (Below.refl _ _) (Nat.le_refl _) ?_; intro v1 w1 ho hb hg hnew; obtain ⟨Ao, co, rfl⟩ := Kd.R_slice ho; (have f1 : w1.cell? ⟨w.heap.size, 0, none⟩ = some (.slice none 0 0) := (hb.cell (p := ⟨w.heap.size, 0, none⟩) (by first | (simp; done) | (simp; omega))).trans (by simp [go_sem])); (have f2 : w1.cell? ⟨w.heap.size + 1, 0, none⟩ = some (.bool false) := (hb.cell (p := ⟨w.heap.size + 1, 0, none⟩) (by first | (simp; done) | (simp; omega))).trans (by simp [go_sem])); (have f3 : w1.frozen? ⟨w.heap.size, 0, none⟩ = false := (hb.frozen (p := ⟨w.heap.size, 0, none⟩) (by first | (simp; done) | (simp; omega))).trans (by simp [go_sem])); (have f4 : w1.frozen? ⟨w.heap.size + 1, 0, none⟩ = false := (hb.frozen (p := ⟨w.heap.size + 1, 0, none⟩) (by first | (simp; done) | (simp; omega))).trans (by simp [go_sem])); (have HO := Aside0.mk (Kd.R_mono (ok' := fun k => w.heap.size + 2 ≤ k) (Kd.R_bound ho) (fun k hk => by have := hk.2.1; simpa using this))); (have HB := Aside0.mk (show Below w.heap.size w w1 from below_step (below_alloc (below_alloc (Below.refl _ _) _) _) hb)); (have hsz : w.heap.size + 2 ≤ w1.heap.size := by have := hb.size; simpa using this); clear ho hb hg hnew) | (fail))
  have hrep : (List.replicate ((l0.length : Int)).toNat (0 : Int)).length = l0.length := by simp
  have HO2 : Aside0 (Kd.R (Kd.int .u64) 27 w1 w.heap.size (fun k => w.heap.size + 2 ≤ k) (.slice Ao l0.length co) (List.replicate ((l0.length : Int)).toNat (0 : Int))) := ⟨by have h := HO.out; rw [hrep] at h; exact Kd.R_lower h (by simp; omega)⟩
  have HREP := Aside0.mk hrep
  clear HO hrep
  have hlt := HB.out.size
  have HBs : Below w.heap.size w (w1.setCell ⟨w.heap.size, 0, none⟩ (.slice Ao l0.length co)) := below_set HB.out (Nat.le_refl _)
  have HOs : Kd.R (Kd.int .u64) 27 (w1.setCell ⟨w.heap.size, 0, none⟩ (.slice Ao l0.length co)) w.heap.size (fun k => w.heap.size + 2 ≤ k) (.slice Ao l0.length co) (List.replicate ((l0.length : Int)).toNat (0 : Int)) := Kd.R_far HO2.out (fun k hk => by show k ≠ w.heap.size; omega) _
  refine (utils_TransposeInt64Uint64.calls (l0.length + 1) A0 c0 l0 (fun k => w.heap.size + 2 ≤ k) _ _ A1 c1 l1 (mapped l0 l1) w _ HBs (Kd.C_kept_came (Kd.heap_int _) HR0.out HBs (fun k hk => by omega)) hc0 HOs (Kd.C_kept_came (Kd.heap_int _) HR1.out HBs (fun k hk => by omega)) hc1 (trans_some l0 l1 _ HREP.out (by omega) HI.out)).mono ?_
  rintro e w2 ⟨rfl, hr, hb2, hk2⟩
  clear HBs HOs
  have HR := Aside0.mk hr
  have HB2 := Aside0.mk hb2
  have g0 : w.heap.size + 1 < w1.heap.size := by have := hsz; omega
  have g1 : w2.cell? ⟨w.heap.size, 0, none⟩ = some (.slice Ao l0.length co) := (cell_kept hk2 (by simp; omega) (by omega)).trans (by simp [go_sem, f1])
  have g2 : w2.cell? ⟨w.heap.size + 1, 0, none⟩ = some (.bool false) := (cell_kept hk2 (by simp; omega) (by omega)).trans (by simp [go_sem, f2])
  have g3 : w2.frozen? ⟨w.heap.size, 0, none⟩ = false := (frozen_kept hk2 (by simp; omega) (by omega)).trans (by simp [go_sem, f3])
  have g4 : w2.frozen? ⟨w.heap.size + 1, 0, none⟩ = false := (frozen_kept hk2 (by simp; omega) (by omega)).trans (by simp [go_sem, f4])
  clear hr hb2 hk2 f1 f2 f3 f4 hlt
  go_wp2
  refine leaves_cons (f := 15) (args := #[.pointer (some ⟨w.heap.size, 0, none⟩), .pointer (some ⟨w.heap.size + 1, 0, none⟩)]) (by simp) (by simp [go_sem]) ?_
  refine (catch_idle ⟨w.heap.size, 0, none⟩ ⟨w.heap.size + 1, 0, none⟩ _).mono ?_
  rintro e u' w'' ⟨rfl, rfl, rfl⟩
  have hne : (⟨w.heap.size, 0, none⟩ : Addr) ≠ ⟨w.heap.size + 1, 0, none⟩ := by simp
  have q1 : ((w2.setCell ⟨w.heap.size, 0, none⟩ (.slice Ao l0.length co)).setCell ⟨w.heap.size + 1, 0, none⟩ (.bool true)).cell? ⟨w.heap.size, 0, none⟩ = some (.slice Ao l0.length co) := by simp [go_sem, g1]
  have q2 : ((w2.setCell ⟨w.heap.size, 0, none⟩ (.slice Ao l0.length co)).setCell ⟨w.heap.size + 1, 0, none⟩ (.bool true)).cell? ⟨w.heap.size + 1, 0, none⟩ = some (.bool true) := by simp [go_sem, g2]
  refine ⟨_, by simp [results, Try.results9, go_sem, q1, q2]; rfl, ?_⟩
  refine ⟨_, rfl, Kd.R_mono (Kd.R_far (Kd.R_far HR.out (fun k hk => ?_) _) (fun k hk => ?_) _) (fun _ _ => trivial), below_set (below_set HB2.out (Nat.le_refl _)) (Nat.le_succ _)⟩
  · show k ≠ w.heap.size
    have : w.heap.size + 2 ≤ k := hk.elim id (fun h => by simp at h; omega)
    omega
  · show k ≠ w.heap.size + 1
    have : w.heap.size + 2 ≤ k := hk.elim id (fun h => by simp at h; omega)
    omega
set_option maxHeartbeats 800000 in
set_option maxRecDepth 100000 in
theorem impl_no (A0 : Option Addr) (c0 : Nat) (l0 : List Int) (A1 : Option Addr) (c1 : Nat) (l1 : List Int) (w : World) (hr0 : Kd.C (Kd.int .i64) w A0 l0.length l0) (hc0 : l0.length ≤ c0) (hr1 : Kd.C (Kd.int .i32) w A1 l1.length l1) (hc1 : l1.length ≤ c1) (hin : inRange l0 l1 = false) (hn : l0.length ≤ 35184372088832) :
    Calls Try.prog 9 #[.slice A0 l0.length c0, .slice A1 l1.length c1] w fun e w' => ∃ v0_ : Value, e = .returned (.tuple #[v0_, .bool false]) ∧ Kd.R (Kd.int .u64) 27 w' w.heap.size (fun _ => True) v0_ [] ∧ Below w.heap.size w w' := by
  have HI := Aside0.mk hin
  have HR0 := Aside0.mk hr0
  have HR1 := Aside0.mk hr1
  clear hin hr0 hr1
  go_enter_defers Try.func9, Try.ntmps9
  go_wp2_with (first | ((with_reducible refine gate_dst (N := 8) rfl ?_); refine Kd.R_make (Kd.int .u64) _ 27 rfl (N := 8) rfl 30 _ _ rfl (l0.length : Int) rfl rfl Try.underlying30 (.int .u64 0) 8 inf27 rfl (by decide) (by omega) 0 (ok := fun _ => True) (okp := fun _ => True) rfl (fun _ hk => hk) trivial (by omega) (by simp; omega) (Below.refl _ _) (Nat.le_refl _) ?_; intro v1 w1 ho hb hg hnew; obtain ⟨Ao, co, rfl⟩ := Kd.R_slice ho; (have f1 : w1.cell? ⟨w.heap.size, 0, none⟩ = some (.slice none 0 0) := (hb.cell (p := ⟨w.heap.size, 0, none⟩) (by first | (simp; done) | (simp; omega))).trans (by simp [go_sem])); (have f2 : w1.cell? ⟨w.heap.size + 1, 0, none⟩ = some (.bool false) := (hb.cell (p := ⟨w.heap.size + 1, 0, none⟩) (by first | (simp; done) | (simp; omega))).trans (by simp [go_sem])); (have f3 : w1.frozen? ⟨w.heap.size, 0, none⟩ = false := (hb.frozen (p := ⟨w.heap.size, 0, none⟩) (by first | (simp; done) | (simp; omega))).trans (by simp [go_sem])); (have f4 : w1.frozen? ⟨w.heap.size + 1, 0, none⟩ = false := (hb.frozen (p := ⟨w.heap.size + 1, 0, none⟩) (by first | (simp; done) | (simp; omega))).trans (by simp [go_sem])); (have HO := Aside0.mk (Kd.R_mono (ok' := fun k => w.heap.size + 2 ≤ k) (Kd.R_bound ho) (fun k hk => by have := hk.2.1; simpa using this))); (have HB := Aside0.mk (show Below w.heap.size w w1 from below_step (below_alloc (below_alloc (Below.refl _ _) _) _) hb)); (have hsz : w.heap.size + 2 ≤ w1.heap.size := by have := hb.size; simpa using this); clear ho hb hg hnew) | (fail))
  have hrep : (List.replicate ((l0.length : Int)).toNat (0 : Int)).length = l0.length := by simp
  have HO2 : Aside0 (Kd.R (Kd.int .u64) 27 w1 w.heap.size (fun k => w.heap.size + 2 ≤ k) (.slice Ao l0.length co) (List.replicate ((l0.length : Int)).toNat (0 : Int))) := ⟨by have h := HO.out; rw [hrep] at h; exact Kd.R_lower h (by simp; omega)⟩
  have HREP := Aside0.mk hrep
  clear HO hrep
  have hlt := HB.out.size
  have HBs : Below w.heap.size w (w1.setCell ⟨w.heap.size, 0, none⟩ (.slice Ao l0.length co)) := below_set HB.out (Nat.le_refl _)
  have HOs : Kd.R (Kd.int .u64) 27 (w1.setCell ⟨w.heap.size, 0, none⟩ (.slice Ao l0.length co)) w.heap.size (fun k => w.heap.size + 2 ≤ k) (.slice Ao l0.length co) (List.replicate ((l0.length : Int)).toNat (0 : Int)) := Kd.R_far HO2.out (fun k hk => by show k ≠ w.heap.size; omega) _
  refine (utils_TransposeInt64Uint64.panics A0 c0 l0 (fun k => w.heap.size + 2 ≤ k) _ _ A1 c1 l1 w _ HBs (Kd.C_kept_came (Kd.heap_int _) HR0.out HBs (fun k hk => by omega)) hc0 HOs (Kd.C_kept_came (Kd.heap_int _) HR1.out HBs (fun k hk => by omega)) hc1 (by omega) HREP.out (bad_of _ _ HI.out)).mono ?_
  rintro e w2 ⟨⟨TT, pv, rfl⟩, hb2, hk2⟩
  clear HBs HOs
  have HB2 := Aside0.mk hb2
  have g0 : w.heap.size + 1 < w1.heap.size := by have := hsz; omega
  have g1 : w2.cell? ⟨w.heap.size, 0, none⟩ = some (.slice Ao l0.length co) := (cell_kept hk2 (by simp; omega) (by omega)).trans (by simp [go_sem, f1])
  have g2 : w2.cell? ⟨w.heap.size + 1, 0, none⟩ = some (.bool false) := (cell_kept hk2 (by simp; omega) (by omega)).trans (by simp [go_sem, f2])
  have g3 : w2.frozen? ⟨w.heap.size, 0, none⟩ = false := (frozen_kept hk2 (by simp; omega) (by omega)).trans (by simp [go_sem, f3])
  have g4 : w2.frozen? ⟨w.heap.size + 1, 0, none⟩ = false := (frozen_kept hk2 (by simp; omega) (by omega)).trans (by simp [go_sem, f4])
  clear hb2 hk2 f1 f2 f3 f4 hlt
  refine leaves_cons (f := 15) (args := #[.pointer (some ⟨w.heap.size, 0, none⟩), .pointer (some ⟨w.heap.size + 1, 0, none⟩)]) (by simp) (by simp [go_sem]) ?_
  refine (catch_panicking ⟨w.heap.size, 0, none⟩ ⟨w.heap.size + 1, 0, none⟩ _ _ TT pv [] _ g1 g3 g2 g4 (by simp)).mono ?_
  rintro e u' w'' ⟨rfl, rfl, rfl⟩
  have q1 : ((w2.setCell ⟨w.heap.size, 0, none⟩ (.slice none 0 0)).setCell ⟨w.heap.size + 1, 0, none⟩ (.bool false)).cell? ⟨w.heap.size, 0, none⟩ = some (.slice none 0 0) := by simp [go_sem, g1]
  have q2 : ((w2.setCell ⟨w.heap.size, 0, none⟩ (.slice none 0 0)).setCell ⟨w.heap.size + 1, 0, none⟩ (.bool false)).cell? ⟨w.heap.size + 1, 0, none⟩ = some (.bool false) := by simp [go_sem, g2]
  refine ⟨_, by simp [results, Try.results9, go_sem, q1, q2]; rfl, ?_⟩
  exact ⟨_, rfl, Kd.R_nil _ _ _ _ _, below_set (below_set HB2.out (Nat.le_refl _)) (Nat.le_succ _)⟩
def impl_TransposeInt64Uint64.f (l0 : List Int) (l1 : List Int) : Option (List Int × Bool) :=
  if l0.length ≤ 35184372088832 then some (if inRange l0 l1 = true then mapped l0 l1 else [], inRange l0 l1) else none
theorem impl_TransposeInt64Uint64.calls (A0 : Option Addr) (c0 : Nat) (l0 : List Int) (A1 : Option Addr) (c1 : Nat) (l1 : List Int) (r1 : List Int) (r2 : Bool) (w : World) (hr0 : Kd.C (Kd.int .i64) w A0 l0.length l0) (hc0 : l0.length ≤ c0) (hr1 : Kd.C (Kd.int .i32) w A1 l1.length l1) (hc1 : l1.length ≤ c1) (h : impl_TransposeInt64Uint64.f l0 l1 = some (r1, r2)) :
    Calls Try.prog 9 #[.slice A0 l0.length c0, .slice A1 l1.length c1] w fun e w' => ∃ v0_ : Value, e = .returned (.tuple #[v0_, .bool r2]) ∧ Kd.R (Kd.int .u64) 27 w' w.heap.size (fun _ => True) v0_ r1 ∧ Below w.heap.size w w' := by
  unfold impl_TransposeInt64Uint64.f at h
  by_cases hn : l0.length ≤ 35184372088832
  · rw [if_pos hn] at h
    have h2 := Option.some.inj h
    simp only [Prod.mk.injEq] at h2
    obtain ⟨rfl, rfl⟩ := h2
    by_cases hi : inRange l0 l1 = true
    · simp only [hi, if_true]
      exact impl_yes A0 c0 l0 A1 c1 l1 w hr0 hc0 hr1 hc1 hi hn
    · have hf : inRange l0 l1 = false := by simpa using hi
      simp only [hf, Bool.false_eq_true, if_false]
      exact impl_no A0 c0 l0 A1 c1 l1 w hr0 hc0 hr1 hc1 hf hn
  · rw [if_neg hn] at h
    cases h
end Go.Proofs.Ytfdnmaadgglaoaa.PFnTransposeInt64Uint64
