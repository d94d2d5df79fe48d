/- DefRepLevelsToListInfo, of no levels at all. -/
import Derived.Test.YtjipnopadpedoaaDoorH6
namespace Go.Proofs.YtjipnopadpedoaaDoor.QR
open Go.RowKit Go.Proofs.YtjipnopadpedoaaDoorW.PrintWords Go.Proofs.YtjipnopadpedoaaDoorW.PrintLast Go.Proofs.YtjipnopadpedoaaDoorW.PrintMore
set_option linter.unusedVariables false
set_option linter.unusedSimpArgs false
set_option maxHeartbeats 8000000 in
set_option maxRecDepth 100000 in
theorem ftz_is (gb n c f : Nat) (w : World) (hf : f < 1000000) (hG : Gm w) :
    Calls Tryd.prog 24 #[.slice (some ⟨gb, 0, none⟩) n c, .int .i64 (f : Int), .int .i64 0] w fun e w' => e = .returned (.iface 77 (.pointer (some ⟨w.heap.size, 0, none⟩))) ∧ w'.heap[w.heap.size]? = some (.cells (wrC gb n c 0 0 0 (2 ^ (f % 8)) (f / 8)) 80 (0, 0)) ∧ Below w.heap.size w w' := by
  have hm8 : f % 8 < 8 := Nat.mod_lt _ (by omega)
  have k3 := hG.2.1 (f % 8) hm8
  have d0 : (f : Int) / 8 = ((f / 8 : Nat) : Int) := by omega
  have m0 : (f : Int) % 8 = ((f % 8 : Nat) : Int) := by omega
  have m0t : Int.tmod (f : Int) 8 = ((f % 8 : Nat) : Int) := rfl
  generalize 2 ^ (f % 8) = mk at *
  generalize f / 8 = q at *
  generalize f % 8 = r at *
  have g3 : (r : Int) < 8 := by omega
  have hg0 := hG.1
  clear hG
  go_enter Tryd.func24, Tryd.ntmps24
  go_wp2
  go_ret
  exact ⟨rfl, blk_new w _, b2 w _⟩
set_option maxHeartbeats 8000000 in
set_option maxRecDepth 100000 in
theorem li0_is {us : List Value} (A1 A2 : Option Addr) (c1 c2 f n c go gb B : Nat) (w : World)
    (ho : w.heap[go]? = some (.cells (ioC 0 0 0 gb n c f) 68 (0, 0))) (hb : w.heap[gb]? = some (.cells us.toArray 5 (0, 0))) (hok : OkN us n) (hf : f ≤ 1000) (hBo : B ≤ go) (hBb : B ≤ gb) (hB2 : 2 ≤ B) (hG : Gm w) :
    Calls Tryd.prog 21 #[.slice A1 0 c1, .slice A2 0 c2, .agg #[.int .i32 1, .int .i16 2, .int .i16 1, .int .i16 0], .pointer (some ⟨go, 0, none⟩), .slice none 0 0] w fun e w' => e = .returned .nilIface ∧ w'.heap[go]? = some (.cells (ioC 0 0 0 gb n c f) 68 (0, 0)) ∧ w'.heap[gb]? = some (.cells us.toArray 5 (0, 0)) ∧ Below B w w' := by
  have hne : gb ≠ go := by
    intro he
    rw [he, ho] at hb
    injection hb with hb
    injection hb with _ hb _
    cases hb
  have QZ := Aside0.mk (fun W => sz_is W)
  obtain ⟨c0, c1', c2', c3, c4, zz⟩ := io_cells ho
  have Qo := Aside0.mk (And.intro ho (And.intro hb hne))
  have Qk := Aside0.mk (And.intro hok (And.intro hG (And.intro hBo (And.intro hBb hB2))))
  have cn := fun w => run_neq_slice_nil_any (P := Tryd.prog) w 33 5 (some ⟨gb, 0, none⟩) n c 0 0 Tryd.underlying33
  clear ho hb hok hG hBo hBb hB2
  have mP : ∀ (p : Addr) (w : World), Sem.run Tryd.prog (method 251 77 (.pointer (some p)) "Pos") w = .ok (48, .pointer (some p)) w := fun p w => by kernel_rfl
  have mF : ∀ (p : Addr) (w : World), Sem.run Tryd.prog (method 251 77 (.pointer (some p)) "Finish") w = .ok (46, .pointer (some p)) w := fun p w => by kernel_rfl
  go_enter_defers Tryd.func21, Tryd.ntmps21
  go_upto_region 5 with (go_at_call 23; (with_reducible refine Calls.mono (QZ.out _) ?_); rintro e w1 ⟨rfl, hb⟩; have B1 := Aside0.mk (((b2 w (.cells inC 58)).trans (hb.mono (b2 w (.cells inC 58)).size))); have I1 := Aside0.mk ((hb.block _ (by simp)).trans (blk_new w (.cells inC 58))); clear hb c0 c1' c2' c3 c4 zz; obtain ⟨c0, c1', c2', c3, c4, zz⟩ := io_cells ((B1.out.block go (blk_lt Qo.out.1)).trans Qo.out.1))
  obtain ⟨d0, d1, d2, d3, d4, zd⟩ := io_cells (V := w1.drew) ((B1.out.block go (blk_lt Qo.out.1)).trans Qo.out.1)
  have QF := Aside0.mk (ftz_is gb n c f w1.drew (by omega) (Gm.below Qk.out.2.1 B1.out.drew Qk.out.2.1.1))
  clear c0 c1' c2' c3 c4 zz
  refine wp_region_still_tail 12 (by kernel_rfl) (by kernel_rfl) ?_; simp only [List.take_succ_cons, List.take_zero, List.drop_succ_cons, List.drop_zero]; change wpStill _ _ (World.drew _) _ _ _; (repeat still_step); refine wpStill_nil ?_; change wpList _ _ _ _ _ (World.drew _)
  go_upto_region 6 with (go_at_call 24; (with_reducible refine Calls.mono QF.out ?_); rintro e w2 ⟨rfl, h1, h2⟩; have W2 := Aside0.mk (And.intro h1 h2); clear h1 h2)
  have Bk := Aside0.mk (show B ≤ w.heap.size from Nat.le_trans Qk.out.2.2.1 (Nat.le_of_lt (blk_lt Qo.out.1)))
  refine wp_as (fun V => V.heap[w.heap.size]? = some (.cells inC 58 (0, 0)) ∧ V.heap[go]? = some (.cells (ioC 0 0 0 gb n c f) 68 (0, 0)) ∧ V.heap[gb]? = some (.cells us.toArray 5 (0, 0)) ∧ V.heap[w1.heap.size]? = some (.cells (wrC gb n c 0 0 0 (2 ^ (f % 8)) (f / 8)) 80 (0, 0)) ∧ Below B w V) ?_ ?_
  · have b2 : Below w.heap.size w w2 := B1.out.drew.trans (W2.out.2.mono B1.out.size)
    exact ⟨(W2.out.2.block _ (blk_lt I1.out)).trans I1.out, (b2.block go (blk_lt Qo.out.1)).trans Qo.out.1, (b2.block gb (blk_lt Qo.out.2.1)).trans Qo.out.2.1, W2.out.1, b2.mono Bk.out⟩
  have Qg := Aside0.mk (show w.heap.size < w1.heap.size ∧ go < w.heap.size ∧ gb < w.heap.size from ⟨blk_lt I1.out, blk_lt Qo.out.1, blk_lt Qo.out.2.1⟩)
  clear QF d0 d1 d2 d3 d4 zd W2 B1 I1 QZ
  generalize w1.heap.size = g at *
  generalize w.heap.size = gi at *
  clear w1 w2
  rintro w2 ⟨v1, v2, v3, v4, v5⟩
  have QV := Aside0.mk (And.intro v1 (And.intro v2 (And.intro v3 (And.intro v4 v5))))
  clear v1 v2 v3 v4 v5
  go_upto_region 8 with fail
  go_wp2
  go_loopg [14, 45] 0 (fun kq v14 v45 w' => v14 = .int .i64 0 ∧ v45 = .int .i64 0 ∧ Aside0 (w'.heap[gi]? = some (.cells inC 58 (0, 0)) ∧ w'.heap[go]? = some (.cells (ioC 0 0 0 gb n c f) 68 (0, 0)) ∧ w'.heap[gb]? = some (.cells us.toArray 5 (0, 0)) ∧ w'.heap[g]? = some (.cells (wrC gb n c 0 0 0 (2 ^ (f % 8)) (f / 8)) 80 (0, 0)) ∧ Below B w w'))
  case atStart => exact ⟨rfl, rfl, QV⟩
  case round =>
    obtain ⟨rfl, rfl, HI⟩ := hrel
    obtain ⟨e0, e1, e2, e3, e4, ze⟩ := io_cells HI.out.2.1
    obtain ⟨i0, i1, i2, i3, zi⟩ := in_cells HI.out.1
    have QP := Aside0.mk (fun (W : World) (hw : W.heap = wr.heap) => pos_is gb n c 0 0 0 (2 ^ (f % 8)) (f / 8) g W (by rw [hw]; exact HI.out.2.2.2.1))
    go_wp2_with (go_at_call 48; (with_reducible refine Calls.mono (QP.out _ rfl) ?_); rintro e w5 ⟨rfl, rfl⟩)
    refine leaves_cons (f := 46) (args := #[.pointer (some ⟨g, 0, none⟩)]) (by simp) (by simp [go_sem, mF]) ?_
    have hgo : g ≠ go := by have := Qg.out; omega
    have HW := Aside0.mk (show (w5.setCell ⟨go, 1, none⟩ (.int .i64 ((0 : Nat) : Int))).heap[g]? = some (.cells (wrC gb n c 0 0 0 (2 ^ (f % 8)) (f / 8)) 80 (0, 0)) from (Below.heap_setCell _ _ _ g hgo).trans HI.out.2.2.2.1)
    have HO := Aside0.mk (show (w5.setCell ⟨go, 1, none⟩ (.int .i64 ((0 : Nat) : Int))).heap[go]? = some (.cells (ioC 0 0 0 gb n c f) 68 (0, 0)) from blk_set HI.out.2.1 1 _)
    have HB := Aside0.mk (show (w5.setCell ⟨go, 1, none⟩ (.int .i64 ((0 : Nat) : Int))).heap[gb]? = some (.cells us.toArray 5 (0, 0)) from (Below.heap_setCell _ _ _ gb hne).trans HI.out.2.2.1)
    have H0 := Aside0.mk (show Below B w (w5.setCell ⟨go, 1, none⟩ (.int .i64 ((0 : Nat) : Int))) from HI.out.2.2.2.2.setCell (p := ⟨go, 1, none⟩) Qk.out.2.2.1 _)
    refine (finz_is _ _ _ _ _ _ _ _ _ HW.out).mono ?_
    rintro e u2 w7 ⟨rfl, rfl, j⟩
    refine ⟨_, by simp [results, Tryd.results21, go_sem]; rfl, ?_⟩
    exact ⟨rfl, (j.block _ (blk_lt HO.out)).trans HO.out, (j.block _ (blk_lt HB.out)).trans HB.out, H0.out.trans (j.mono (by have := Qk.out.2.2.1; have := blk_lt HO.out; omega))⟩
/-- Both, as one. -/
theorem liA_is {D R : List Int} {us : List Value} (A1 A2 : Option Addr) (c1 c2 N f n c go gb B : Nat) (w : World)
    (hD : ∀ V, Below B w V → Kd.C (Kd.int .i16) V A1 D.length D) (hR : ∀ V, Below B w V → Kd.C (Kd.int .i16) V A2 R.length R) (hl : R.length = D.length) (h20 : D.length ≤ 4000000)
    (hD0 : ∀ j, j < D.length → 0 ≤ rd D (j : Int)) (hR0 : ∀ j, j < D.length → 0 ≤ rd R (j : Int))
    (ho : w.heap[go]? = some (.cells (ioC N 0 0 gb n c f) 68 (0, 0))) (hb : w.heap[gb]? = some (.cells us.toArray 5 (0, 0))) (hok : OkN us n) (hn : (f + N) / 8 < n) (hf : f ≤ 1000) (hN : N = 0 → D.length = 0) (hN5 : N ≤ 1000) (hBo : B ≤ go) (hBb : B ≤ gb) (hB2 : 2 ≤ B) (hG : Gm w) (hst : (stB D R D.length).length = N) :
    Calls Tryd.prog 21 #[.slice A1 D.length c1, .slice A2 R.length c2, .agg #[.int .i32 1, .int .i16 2, .int .i16 1, .int .i16 0], .pointer (some ⟨go, 0, none⟩), .slice none 0 0] w fun e w' => e = .returned .nilIface ∧ w'.heap[go]? = some (.cells (ioC N N (nulls (stB D R D.length)) gb n c f) 68 (0, 0)) ∧ (∃ us' : List Value, w'.heap[gb]? = some (.cells us'.toArray 5 (0, 0)) ∧ OkN us' n ∧ ∀ k, k < f + N → btN us' k = if k < f then btN us k else (stB D R D.length).getD (k - f) false) ∧ Below B w w' := by
  rcases Nat.eq_zero_or_pos N with h0 | h0
  · have hd := hN h0
    subst h0
    have hs : stB D R D.length = [] := List.eq_nil_of_length_eq_zero hst
    rw [hs, hl, hd]
    refine Calls.mono (li0_is A1 A2 c1 c2 f n c go gb B w ho hb hok hf hBo hBb hB2 hG) ?_
    rintro e w' ⟨rfl, j1, j2, j3⟩
    exact ⟨rfl, j1, ⟨us, j2, hok, fun k hk => by rw [if_pos (by omega)]⟩, j3⟩
  · exact li_is A1 A2 c1 c2 N f n c go gb B w hD hR hl h20 hD0 hR0 ho hb hok hn hf h0 hN5 hBo hBb hB2 hG hst
end Go.Proofs.YtjipnopadpedoaaDoor.QR
