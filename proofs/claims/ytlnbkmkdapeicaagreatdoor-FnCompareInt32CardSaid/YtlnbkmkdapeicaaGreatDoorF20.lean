/- What comparisons of numbers say, by the reference: compareDue. -/
import Derived.Test.YtlnbkmkdapeicaaGreatDoorF19
import Derived.Deep.CutRange
namespace Go.Proofs.YtlnbkmkdapeicaaGreatDoor.QR
open Go.RowKit Go.Proofs.YtlnbkmkdapeicaaGreatDoorW.PrintWords Go.Proofs.YtlnbkmkdapeicaaGreatDoorW.PrintLast Go.Proofs.YtlnbkmkdapeicaaGreatDoorW.PrintMore
set_option linter.unusedVariables false
set_option linter.unusedSimpArgs false
theorem cell_keep {w w1 : World} {p : Addr} {v : Value} (h : w.cell? p = some v) (hb : Below w.heap.size w w1) : w1.cell? p = some v := by
  have hlt : p.block < w.heap.size := by
    unfold World.cell? at h
    split at h
    · rename_i e
      exact (Array.getElem?_eq_some_iff.1 e).1
    · cases h
  unfold World.cell? at h ⊢
  rw [hb.block p.block hlt]
  exact h
/-- A value of a number lies there. -/
def Elt (w : World) (p : Addr) (a : Int) (A : Option Addr) (c : Nat) : Prop := w.cell? p = some (.bool false) ∧ w.cell? ⟨p.block, p.off + 1, none⟩ = some (.int .u64 a) ∧ w.cell? ⟨p.block, p.off + 2, none⟩ = some (.string ⟨#[]⟩) ∧ w.cell? ⟨p.block, p.off + 3, none⟩ = some (.slice A 0 c)
theorem Elt.keep {w w1 : World} {p : Addr} {a : Int} {A : Option Addr} {c : Nat} (h : Elt w p a A c) (hb : Below w.heap.size w w1) : Elt w1 p a A c := ⟨cell_keep h.1 hb, cell_keep h.2.1 hb, cell_keep h.2.2.1 hb, cell_keep h.2.2.2 hb⟩
def ansB (op : Nat) (c : Int) : Bool := match op with
  | 0 => c == 0
  | 1 => c != 0
  | 2 => decide (c > 0)
  | _ => decide (c ≥ 0)
theorem answer_is (op : Nat) (hop : op ≤ 3) (c : Int) : QT.laws_answer.f (op : Int) c false = some (ansB op c) := by
  have h : op = 0 ∨ op = 1 ∨ op = 2 ∨ op = 3 := by omega
  rcases h with rfl | rfl | rfl | rfl <;> rfl
/-- The places of a pair. -/
def plX (how i : Nat) : Nat := if how = 2 then 0 else i
def plY (how i : Nat) : Nat := if how = 1 then 0 else i
theorem place_is (how i : Nat) (hhow : how ≤ 2) : QT.laws_place2.f (how : Int) (i : Int) = some (((plX how i : Nat) : Int), ((plY how i : Nat) : Int)) := by
  have h : how = 0 ∨ how = 1 ∨ how = 2 := by omega
  rcases h with rfl | rfl | rfl <;> rfl
def dueR (op how : Nat) (xs ys : List Int) (i : Nat) : Bool := ansB op (ordI (rd xs ((plX how i : Nat) : Int)) (rd ys ((plY how i : Nat) : Int)))
def dueL (op how : Nat) (xs ys : List Int) (n : Nat) : List Bool := (List.range n).map (dueR op how xs ys)
theorem dueL_len (op how : Nat) (xs ys : List Int) (n : Nat) : (dueL op how xs ys n).length = n := by simp [dueL]
theorem dueL_succ (op how : Nat) (xs ys : List Int) (n : Nat) : dueL op how xs ys (n + 1) = dueL op how xs ys n ++ [dueR op how xs ys n] := by simp [dueL, List.range_succ]
theorem infoB : (Tryz.prog.info? 4).map (fun i => (i.zero, i.size, i.bytes)) = some (some (.bool false), 1, 1) := by kernel_rfl
theorem tv_getD (xs : List Int) (i : Nat) (h : i < xs.length) : (xs.map tv).getD i zV = (false, rd xs (i : Int), ⟨#[]⟩) := by
  unfold rd
  rw [Int.toNat_natCast, List.getD_eq_getElem?_getD, List.getElem?_map, List.getD_eq_getElem?_getD, List.getElem?_eq_getElem h]
  rfl
set_option maxHeartbeats 8000000 in
set_option maxRecDepth 100000 in
theorem cd_is (op how n : Nat) (hop : op ≤ 3) (hhow : how ≤ 2) (hn : n ≤ 300) (Aa : Option Addr) (xs : List Int) (ca : Nat) (Ab : Option Addr) (ys : List Int) (cb : Nat) (w : World) (hx : Kd.C kV w Aa xs.length (xs.map tv)) (hy : Kd.C kV w Ab ys.length (ys.map tv)) (hpx : ∀ i, i < n → plX how i < xs.length) (hpy : ∀ i, i < n → plY how i < ys.length) (hlx : xs.length ≤ 300) (hly : ys.length ≤ 300) :
    Calls Tryz.prog 9 #[TyI, .int .i64 (op : Int), .int .i64 (how : Int), .slice Aa xs.length ca, .slice Ab ys.length cb, .int .i64 (n : Int)] w fun e w' => ∃ A' c', e = .returned (.slice A' n c') ∧ n ≤ c' ∧ Kd.C Kd.bool w' A' n (dueL op how xs ys n) ∧ Below w.heap.size w w' := by
  have hT : TyI = .agg (TyM 2 32 true) := rfl
  rw [hT]
  clear hT
  have QC := Aside0.mk (And.intro hx hy)
  have Qp := Aside0.mk (And.intro hpx hpy)
  have hni : (n : Int) ≤ 300 := by omega
  have QPL := Aside0.mk (fun (i : Nat) (w1 : World) => QT.laws_place2.calls (how : Int) (i : Int) _ _ w1 (place_is how i hhow))
  have QAN := Aside0.mk (fun (c : Int) (w1 : World) => QT.laws_answer.calls (op : Int) c false _ w1 (answer_is op hop c))
  have QNN := Aside0.mk (fun (a : Int) (A : Option Addr) (c : Nat) (w1 : World) => show Calls Tryz.prog 19 #[.agg (TyM 2 32 true), VU a A c] w1 fun e w' => e = .returned (.bool false) ∧ Below w1.heap.size w1 w' from nn_is a A c w1)
  have QOR := Aside0.mk (fun (a b : Int) (A1 A2 : Option Addr) (c1 c2 : Nat) (w1 : World) => show Calls Tryz.prog 20 #[.agg (TyM 2 32 true), VU a A1 c1, VU b A2 c2] w1 fun e w' => e = .returned (.int .i64 (ordI a b)) ∧ Below w1.heap.size w1 w' from ord_is a b A1 A2 c1 c2 w1)
  obtain ⟨nx, hnx⟩ : ∃ nx, nx = xs.length := ⟨_, rfl⟩
  obtain ⟨ny, hny⟩ : ∃ ny, ny = ys.length := ⟨_, rfl⟩
  rw [← hnx, ← hny]
  have Ql := Aside0.mk (show nx = xs.length ∧ ny = ys.length ∧ xs.length ≤ 300 ∧ ys.length ≤ 300 from ⟨hnx, hny, hlx, hly⟩)
  clear hx hy hpx hpy hlx hly hnx hny
  go_enter Tryz.func9, Tryz.ntmps9
  go_upto_region 1 with (fail)
  obtain ⟨W, hW⟩ : ∃ W, W = w.alloc (.cells (TyM 2 32 true) 35) := ⟨_, rfl⟩
  obtain ⟨h0, hh0⟩ : ∃ h0, h0 = w.heap.size := ⟨_, rfl⟩
  have g1 : W.heap[h0]? = some (.cells (TyM 2 32 true) 35 (0, 0)) := by rw [hW, hh0]; exact blk_new w _
  have hb0 : Below w.heap.size w W := by rw [hW]; exact b2 w _
  rw [← hW, ← hh0]
  have Q0 := Aside0.mk (And.intro g1 hb0)
  clear hW hh0 g1 hb0
  go_wp2_with fail
  go_loopg [13, 14] n (fun kq v13 v14 w' => ∃ i : Nat, v14 = .int .i64 (i : Int) ∧ Aside0 (i + kq = n) ∧ Aside0 (Kd.R Kd.bool 4 w' W.heap.size (fun _ => True) v13 (dueL op how xs ys i)) ∧ Aside0 (Below W.heap.size W w'))
  case atStart => exact ⟨0, rfl, ⟨by omega⟩, ⟨Kd.R_nil _ _ _ _ _⟩, ⟨Below.refl _ _⟩⟩
  case round =>
    obtain ⟨i, rfl, HA, HR, HB⟩ := hrel
    obtain ⟨A6, c6, rfl⟩ := Kd.R_slice HR.out
    rcases Nat.eq_zero_or_pos gk with hk0 | hk0
    · have hin2 : n = i := by have := HA.out; omega
      subst hin2
      rw [dueL_len]
      have hi : ((n : Int) < (n : Int)) = False := by simp
      go_wp2
      go_ret
      obtain ⟨A9, c9, e9, l9, r9⟩ := Kd.R_reads HR.out
      rw [dueL_len] at e9 l9 r9
      exact ⟨A9, c9, congrArg Ending.returned e9, l9, r9, Q0.out.2.trans (HB.out.mono Q0.out.2.size)⟩
    · obtain ⟨zi, hzi⟩ : ∃ zi, zi = dueL op how xs ys i := ⟨_, rfl⟩
      have hzl : zi.length = i := by rw [hzi, dueL_len]
      rw [← hzi] at HR ⊢
      have Qz := Aside0.mk (And.intro hzi hzl)
      clear hzi hzl
      have hi : (i : Int) < (n : Int) := by have := HA.out; omega
      have hi2 : i < n := by have := HA.out; omega
      have QI := Aside0.mk hi2
      obtain ⟨k1, rfl⟩ : ∃ k1, gk = k1 + 1 := ⟨gk - 1, by omega⟩
      have h0W : h0 < W.heap.size := blk_lt Q0.out.1
      have hBw := Q0.out.2.trans (HB.out.mono Q0.out.2.size)
      obtain ⟨px, hpx⟩ : ∃ px, px = plX how i := ⟨_, rfl⟩
      obtain ⟨py, hpy⟩ : ∃ py, py = plY how i := ⟨_, rfl⟩
      have hpx1 : px < nx := by rw [hpx, Ql.out.1]; exact Qp.out.1 i hi2
      have hpy1 : py < ny := by rw [hpy, Ql.out.2.1]; exact Qp.out.2 i hi2
      have hpxi : (px : Int) < (nx : Int) := by omega
      have hpyi : (py : Int) < (ny : Int) := by omega
      obtain ⟨ada, A3, c3, ea, p0, p1, p2, p3⟩ := kV_at QC.out.1 px (by rw [← Ql.out.1]; exact hpx1)
      obtain ⟨adb, A4, c4, eb, q0, q1, q2, q3⟩ := kV_at QC.out.2 py (by rw [← Ql.out.2.1]; exact hpy1)
      subst ea
      subst eb
      rw [tv_getD xs px (by rw [← Ql.out.1]; exact hpx1)] at p0 p1 p2
      rw [tv_getD ys py (by rw [← Ql.out.2.1]; exact hpy1)] at q0 q1 q2
      obtain ⟨a, ha⟩ : ∃ a, a = rd xs (px : Int) := ⟨_, rfl⟩
      obtain ⟨b, hb⟩ : ∃ b, b = rd ys (py : Int) := ⟨_, rfl⟩
      rw [← ha] at p1
      rw [← hb] at q1
      have QE := Aside0.mk (show Elt w (ada.add (px * 4)) a A3 c3 ∧ Elt w (adb.add (py * 4)) b A4 c4 from ⟨⟨p0, p1, p2, p3⟩, ⟨q0, q1, q2, q3⟩⟩)
      clear p0 p1 p2 p3 q0 q1 q2 q3
      have hd : dueR op how xs ys i = ansB op (ordI a b) := by unfold dueR; rw [← hpx, ← hpy, ← ha, ← hb]
      have Qd := Aside0.mk hd
      have QP := Aside0.mk (fun w1 => QPL.out i w1)
      rw [← hpx, ← hpy] at QP
      have QBr := HB
      clear hd ha hb hpx hpy hk0 hi2 HB hpx1 hpy1 hBw
      go_upto_region 6 with (go_at_call 18; go_must (refine (QP.out _).mono ?_; rintro e w1 ⟨rfl, hb⟩; have Q1 := Aside0.mk (And.intro (QBr.out.trans (hb.below.mono QBr.out.size)) (Kd.R_below HR.out hb.below)); clear hb))
      have QW := Aside0.mk (fun (w' : World) (hb : Below W.heap.size W w') => show w'.heap[h0]? = some (.cells (TyM 2 32 true) 35 (0, 0)) ∧ Elt w' (ada.add (px * 4)) a A3 c3 ∧ Elt w' (adb.add (py * 4)) b A4 c4 from ⟨(hb.block h0 h0W).trans Q0.out.1, QE.out.1.keep (Q0.out.2.trans (hb.mono Q0.out.2.size)), QE.out.2.keep (Q0.out.2.trans (hb.mono Q0.out.2.size))⟩)
      obtain ⟨g1, ⟨p0, p1, p2, p3⟩, ⟨q0, q1, q2, q3⟩⟩ := QW.out w1 Q1.out.1
      obtain ⟨t0, t1, t2, t3, t4, t5, t6, t7, t8, t9⟩ := TyM_cells g1
      clear g1
      go_cut [17] from 24 to 62 (fun s17 wc => s17 = .bool false ∧ Aside0 (Below W.heap.size W wc ∧ Kd.R Kd.bool 4 wc W.heap.size (fun _ => True) (.slice A6 zi.length c6) zi))
      case first =>
        refine wp_noP ?_
        go_region_with (go_at_call 19; go_must (refine (QNN.out _ _ _ _).mono ?_; rintro e w2 ⟨rfl, hb⟩; first | (have Q3 := Aside0.mk (And.intro (Q2.out.1.trans (hb.mono Q2.out.1.size)) (Kd.R_below Q2.out.2 hb))) | (have Q2 := Aside0.mk (show Below W.heap.size W w2 ∧ _ from And.intro (Q1.out.1.trans (Below.mono (show Below w1.heap.size w1 w2 from ⟨hb.os, hb.tape, hb.output, hb.size, hb.block⟩) Q1.out.1.size)) (Kd.R_below Q1.out.2 (show Below w1.heap.size w1 w2 from ⟨hb.os, hb.tape, hb.output, hb.size, hb.block⟩))); obtain ⟨g2, ⟨r0, r1, r2, r3⟩, ⟨s0, s1, s2, s3⟩⟩ := QW.out w2 Q2.out.1; obtain ⟨y0, y1, y2, y3, y4, y5, y6, y7, y8, y9⟩ := TyM_cells g2; clear g2); clear hb))
        all_goals
          refine noP_normal ?_
          go_wp2
          go_meet
          case rel => exact ⟨rfl, Q3⟩
      case rest =>
        obtain ⟨rfl, Q4⟩ := hcut
        clear t0 t1 t2 t3 t4 t5 t6 t7 t8 t9 p0 p1 p2 p3 q0 q1 q2 q3
        obtain ⟨g1, ⟨p0, p1, p2, p3⟩, ⟨q0, q1, q2, q3⟩⟩ := QW.out wc Q4.out.1
        obtain ⟨t0, t1, t2, t3, t4, t5, t6, t7, t8, t9⟩ := TyM_cells g1
        clear g1
        go_upto_region 9 with (fail)
        refine wp_region_still_tail 9 (by kernel_rfl) (by kernel_rfl) ?_
        simp only [List.take_succ_cons, List.take_zero, List.drop_succ_cons, List.drop_zero]
        change wpStill _ _ (World.drew wc) _ _ _
        have dt := TyM_cells (w := wc.drew) (g := h0) (k := 2) (t := 32) (sg := true) (QW.out wc Q4.out.1).1
        obtain ⟨t0', t1', t2', t3', t4', t5', t6', t7', t8', t9'⟩ := dt
        have dp : Elt wc.drew (ada.add (px * 4)) a A3 c3 := (QW.out wc Q4.out.1).2.1
        have dq : Elt wc.drew (adb.add (py * 4)) b A4 c4 := (QW.out wc Q4.out.1).2.2
        obtain ⟨p0', p1', p2', p3'⟩ := dp
        obtain ⟨q0', q1', q2', q3'⟩ := dq
        clear t0 t1 t2 t3 t4 t5 t6 t7 t8 t9 p0 p1 p2 p3 q0 q1 q2 q3
        repeat still_step
        refine wpStill_nil ?_
        change wpList _ _ _ _ _ (World.drew wc)
        clear t0' t1' t2' t3' t4' t5' t6' t7' t8' t9' p0' p1' p2' p3' q0' q1' q2' q3'
        obtain ⟨bv, hbv⟩ : ∃ bv, bv = ansB op (ordI a b) := ⟨_, rfl⟩
        have QA2 := Aside0.mk (fun w1 => QAN.out (ordI a b) w1)
        rw [← hbv] at Qd QA2
        clear hbv
        obtain ⟨cv, hcv⟩ : ∃ cv, cv = ordI a b := ⟨_, rfl⟩
        have QO2 := Aside0.mk (fun w1 => QOR.out a b A3 A4 c3 c4 w1)
        rw [← hcv] at QA2 QO2
        clear hcv
        go_wp2_with (first | (go_at_call 20; go_must (refine (QO2.out _).mono ?_; rintro e w5 ⟨rfl, hb⟩; have hb5 : Below wc.heap.size wc w5 := ⟨hb.os, hb.tape, hb.output, hb.size, hb.block⟩; have Q5 := Aside0.mk (And.intro (Q4.out.1.trans (hb5.mono Q4.out.1.size)) (Kd.R_below Q4.out.2 hb5)); clear hb hb5)) | (go_at_call 21; go_must (refine (QA2.out _).mono ?_; rintro e w6 ⟨rfl, hb⟩; have Q6 := Aside0.mk (And.intro (Q5.out.1.trans (hb.below.mono Q5.out.1.size)) (Kd.R_below Q5.out.2 hb.below)); clear hb)) | ((with_reducible refine gate_builtin (b := .append) (xs := #[.tmp 56, .tmp 61]) rfl ?_); at_builtin; go_must (refine Kd.R_append Kd.bool (w0 := W) W.heap.size rfl (.tmp 56) (.tmp 61) 38 4 (.bool false) 1 rfl Tryz.underlying38 infoB rfl (by decide) (by omega) _ zi bv [.bool bv] (fun _ => True) (fun _ => False) rfl rfl rfl (fun _ h => h.elim) (fun _ _ => trivial) Q6.out.2 Q6.out.1 Q6.out.1.size (by rw [Qz.out.2]; have := QI.out; omega) ?_; intro v9 w9 hr9 hb9 _ _; have QR9 := Aside0.mk hr9; have QB9 := Aside0.mk hb9; clear hr9 hb9)))
        go_roundg k1
        case rel =>
          refine ⟨i + 1, rfl, ⟨by have := HA.out; omega⟩, ⟨?_⟩, QB9⟩
          rw [dueL_succ, Qd.out, ← Qz.out.1]
          exact QR9.out
        · omega
end Go.Proofs.YtlnbkmkdapeicaaGreatDoor.QR
