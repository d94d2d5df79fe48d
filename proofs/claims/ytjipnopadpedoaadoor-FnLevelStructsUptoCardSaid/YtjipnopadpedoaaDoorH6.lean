/- DefRepLevelsToListInfo, of no offsets. -/
import Derived.Test.YtjipnopadpedoaaDoorH5
namespace Go.Proofs.YtjipnopadpedoaaDoor.QR
open Go.RowKit Go.Proofs.YtjipnopadpedoaaDoorW.PrintWords Go.Proofs.YtjipnopadpedoaaDoorW.PrintLast Go.Proofs.YtjipnopadpedoaaDoorW.PrintMore
set_option linter.unusedVariables false
set_option linter.unusedSimpArgs false
/-- The starts among the first i levels: is the one that starts there? -/
def stB (D R : List Int) (i : Nat) : List Bool := ((List.range i).filter (fun (j : Nat) => rd R (j : Int) == 0)).map (fun (j : Nat) => decide (1 ≤ rd D (j : Int)))
theorem stB_succ (D R : List Int) (i : Nat) : stB D R (i + 1) = stB D R i ++ (if rd R (i : Int) = 0 then [decide (1 ≤ rd D (i : Int))] else []) := by
  unfold stB
  rw [List.range_succ, List.filter_append, List.map_append]
  congr 1
  by_cases h : rd R (i : Int) = 0
  · rw [if_pos h, List.filter_cons_of_pos (by simpa using h)]
    rfl
  · rw [if_neg h, List.filter_cons_of_neg (by simpa using h)]
    rfl
theorem stB_pre (D R : List Int) : ∀ (i r : Nat), ∃ s, stB D R (i + r) = stB D R i ++ s
  | i, 0 => ⟨[], by rw [List.append_nil]; rfl⟩
  | i, r + 1 => by
    obtain ⟨s, hs⟩ := stB_pre D R i r
    rw [← Nat.add_assoc, stB_succ, hs, List.append_assoc]
    exact ⟨_, rfl⟩
theorem stB_len_le (D R : List Int) {i N : Nat} (h : i ≤ N) : (stB D R i).length ≤ (stB D R N).length := by
  obtain ⟨s, hs⟩ := stB_pre D R i (N - i)
  rw [show i + (N - i) = N by omega] at hs
  rw [hs, List.length_append]
  omega
/-- How many are not. -/
def nulls (l : List Bool) : Nat := (l.filter (fun b => !b)).length
theorem nulls_append (a b : List Bool) : nulls (a ++ b) = nulls a + nulls b := by unfold nulls; rw [List.filter_append, List.length_append]
theorem nulls_le (l : List Bool) : nulls l ≤ l.length := List.length_filter_le _ _
/-- Room and answer, as the package has them. -/
def ioC (N rd nl gb n c f : Nat) : Array Value := #[.int .i64 (N : Int), .int .i64 (rd : Int), .int .i64 (nl : Int), .slice (some ⟨gb, 0, none⟩) n c, .int .i64 (f : Int)]
theorem io_cells {V : World} {N rd nl gb n c f g : Nat} (h : V.heap[g]? = some (.cells (ioC N rd nl gb n c f) 68 (0, 0))) : V.cell? ⟨g, 0, none⟩ = some (.int .i64 (N : Int)) ∧ V.cell? ⟨g, 1, none⟩ = some (.int .i64 (rd : Int)) ∧ V.cell? ⟨g, 2, none⟩ = some (.int .i64 (nl : Int)) ∧ V.cell? ⟨g, 3, none⟩ = some (.slice (some ⟨gb, 0, none⟩) n c) ∧ V.cell? ⟨g, 4, none⟩ = some (.int .i64 (f : Int)) ∧ (∀ k, V.frozen? ⟨g, k, none⟩ = false) :=
  ⟨blk_cell h 0, blk_cell h 1, blk_cell h 2, blk_cell h 3, blk_cell h 4, fun k => blk_frozen h k⟩
def inC : Array Value := #[.int .i32 1, .int .i16 2, .int .i16 1, .int .i16 0]
theorem in_cells {V : World} {g : Nat} (h : V.heap[g]? = some (.cells inC 58 (0, 0))) : V.cell? ⟨g, 0, none⟩ = some (.int .i32 1) ∧ V.cell? ⟨g, 1, none⟩ = some (.int .i16 2) ∧ V.cell? ⟨g, 2, none⟩ = some (.int .i16 1) ∧ V.cell? ⟨g, 3, none⟩ = some (.int .i16 0) ∧ (∀ k, V.frozen? ⟨g, k, none⟩ = false) :=
  ⟨blk_cell h 0, blk_cell h 1, blk_cell h 2, blk_cell h 3, fun k => blk_frozen h k⟩
/-- What holds between the levels. -/
structure LI (w0 V : World) (B gi go g gb n c f t N nl : Nat) (wb : Nat → Bool) : Prop where
  hi : V.heap[gi]? = some (.cells inC 58 (0, 0))
  ho : V.heap[go]? = some (.cells (ioC N 0 nl gb n c f) 68 (0, 0))
  wi : WI w0 V B g gb n c f t N wb
  sz : B ≤ V.heap.size
theorem LI.bel {w0 V : World} {B gi go g gb n c f t N nl : Nat} {wb : Nat → Bool} (h : LI w0 V B gi go g gb n c f t N nl wb) : Below B w0 V := by
  obtain ⟨_, _, _, _, _, hb⟩ := h.wi
  exact hb
theorem WI.step {w0 V V' : World} {B g gb n c f t N : Nat} {wb : Nat → Bool} (h : WI w0 V B g gb n c f t N wb) (hB : B ≤ V.heap.size) (hb : Below V.heap.size V V') : WI w0 V' B g gb n c f t N wb := by
  obtain ⟨cur, us, h1, h2, h3, h4⟩ := h
  exact ⟨cur, us, (hb.block _ (blk_lt h1)).trans h1, (hb.block _ (blk_lt h2)).trans h2, h3, h4.trans (hb.mono hB)⟩
theorem LI.step {w0 V V' : World} {B gi go g gb n c f t N nl : Nat} {wb : Nat → Bool} (h : LI w0 V B gi go g gb n c f t N nl wb) (hb : Below V.heap.size V V') : LI w0 V' B gi go g gb n c f t N nl wb :=
  ⟨(hb.block _ (blk_lt h.hi)).trans h.hi, (hb.block _ (blk_lt h.ho)).trans h.ho, h.wi.step h.sz hb, Nat.le_trans h.sz hb.size⟩
theorem LI.pos {w0 V W : World} {B gi go g gb n c f t N nl : Nat} {wb : Nat → Bool} (h : LI w0 V B gi go g gb n c f t N nl wb) (hw : W.heap = V.heap) : Calls Tryd.prog 48 #[.pointer (some ⟨g, 0, none⟩)] W fun e w' => e = .returned (.int .i64 (t : Int)) ∧ w' = W := by
  obtain ⟨cur, us, h1, h2, h3, h4⟩ := h.wi
  rw [← hw] at h1
  exact pos_is _ _ _ _ _ _ _ _ _ W h1
theorem at16 {W : World} {ad : Addr} {n i : Nat} {l : List Int} (h : Kd.C (Kd.int .i16) W (some ad) n l) (hi : i < n) (hl : n = l.length := by first | rfl | assumption) : W.cell? (ad.add i) = some (.int .i16 (rd l (i : Int))) := by
  subst hl
  obtain ⟨ad2, hA, hc⟩ := Kd.at_int h (i : Int) (by omega) (by omega)
  cases hA
  rw [Int.toNat_natCast] at hc
  exact hc
/-- The bit that comes next lies beside; Clear has been counted. -/
structure LS (w0 V : World) (B gi go g gb n c f t N nl : Nat) (wb : Nat → Bool) : Prop where
  hi : V.heap[gi]? = some (.cells inC 58 (0, 0))
  ho : V.heap[go]? = some (.cells (ioC N 0 nl gb n c f) 68 (0, 0))
  ws : WS w0 V B g gb n c f t N wb
  sz : B ≤ V.heap.size
theorem LI.set {w0 V : World} {B gi go g gb n c f t N nl : Nat} {wb : Nat → Bool} (h : LI w0 V B gi go g gb n c f t N nl wb) (hgi : gi ≠ g) (hgo : go ≠ g) (hne : gb ≠ g) (hg : B ≤ g) (hb : wb (f + t) = true) : Calls Tryd.prog 50 #[.pointer (some ⟨g, 0, none⟩)] V fun e w' => e = .returned (.tuple #[]) ∧ LS w0 w' B gi go g gb n c f t N nl wb := by
  refine Calls.mono (wi_set h.wi hne hg h.sz hb) ?_
  rintro e w' ⟨rfl, k1, k2⟩
  exact ⟨rfl, k2.blk h.hi hgi hgi, k2.blk h.ho hgo hgo, k1, Nat.le_trans h.sz k2.size⟩
theorem WI.cell {w0 V : World} {B g gb n c f t N : Nat} {wb : Nat → Bool} (h : WI w0 V B g gb n c f t N wb) (go : Nat) (hg : go ≠ g) (hgb : go ≠ gb) (hB : B ≤ go) (k : Nat) (v : Value) : WI w0 (V.setCell ⟨go, k, none⟩ v) B g gb n c f t N wb := by
  obtain ⟨cur, us, h1, h2, h3, h4⟩ := h
  exact ⟨cur, us, (Below.heap_setCell _ _ _ g (fun h => hg h.symm)).trans h1, (Below.heap_setCell _ _ _ gb (fun h => hgb h.symm)).trans h2, h3, h4.setCell hB _⟩
theorem LI.clear {w0 V : World} {B gi go g gb n c f t N nl : Nat} {wb : Nat → Bool} (h : LI w0 V B gi go g gb n c f t N nl wb) (hgi : gi ≠ go) (hg : go ≠ g) (hgb : go ≠ gb) (hB : B ≤ go) (hb : wb (f + t) = false) : LS w0 (V.setCell ⟨go, 2, none⟩ (.int .i64 ((nl + 1 : Nat) : Int))) B gi go g gb n c f t N (nl + 1) wb :=
  ⟨(Below.heap_setCell _ _ _ gi hgi).trans h.hi, blk_set h.ho 2 _, wi_clear (h.wi.cell go hg hgb hB 2 _) hb, by rw [show (V.setCell ⟨go, 2, none⟩ (.int .i64 ((nl + 1 : Nat) : Int))).heap.size = V.heap.size by simp [World.setCell]]; exact h.sz⟩
theorem LS.next {w0 V : World} {B gi go g gb n c f t N nl : Nat} {wb : Nat → Bool} (h : LS w0 V B gi go g gb n c f t N nl wb) (hgi : gi ≠ g) (hgo : go ≠ g) (hne : gb ≠ g) (hgib : gi ≠ gb) (hgob : go ≠ gb) (hg : B ≤ g) (hgb : B ≤ gb) (hq : (f + t) / 8 < n) (hs : f + t < 1000000) : Calls Tryd.prog 47 #[.pointer (some ⟨g, 0, none⟩)] V fun e w' => e = .returned (.tuple #[]) ∧ LI w0 w' B gi go g gb n c f (t + 1) N nl wb := by
  refine Calls.mono (ws_next h.ws hne hg hgb h.sz hq hs) ?_
  rintro e w' ⟨rfl, k1, k2⟩
  exact ⟨rfl, k2.blk h.hi hgi hgib, k2.blk h.ho hgo hgob, k1, Nat.le_trans h.sz k2.size⟩
theorem stB_at {D R : List Int} {us : List Value} {i M N f : Nat} {wb : Nat → Bool} (hsu : stB D R (i + 1) = stB D R i ++ (if rd R (i : Int) = 0 then [decide (1 ≤ rd D (i : Int))] else [])) (hN : (stB D R M).length = N) (hi : i < M) (hwb : wb = fun k => if k < f then btN us k else (stB D R M).getD (k - f) false) (h0 : rd R (i : Int) = 0) : wb (f + (stB D R i).length) = decide (1 ≤ rd D (i : Int)) ∧ (stB D R i).length < N := by
  rw [if_pos h0] at hsu
  obtain ⟨s, hs⟩ := stB_pre D R (i + 1) (M - (i + 1))
  rw [show i + 1 + (M - (i + 1)) = M by omega, hsu] at hs
  constructor
  · rw [hwb]
    simp only
    rw [if_neg (by omega), hs, show f + (stB D R i).length - f = (stB D R i).length by omega, List.getD_eq_getElem?_getD, List.append_assoc, List.getElem?_append_right (Nat.le_refl _), Nat.sub_self]
    rfl
  · rw [hs, List.length_append, List.length_append] at hN
    simp only [List.length_singleton] at hN
    omega
set_option maxHeartbeats 8000000 in
set_option maxRecDepth 100000 in
theorem li_is {D R : List Int} {us : List Value} (A1 A2 : Option Addr) (c1 c2 N f n c go gb B : Nat) (w : World)
    (hD : ∀ V, Below B w V → Kd.C (Kd.int .i16) V A1 D.length D) (hR : ∀ V, Below B w V → Kd.C (Kd.int .i16) V A2 R.length R) (hl : R.length = D.length) (h20 : D.length ≤ 4000000)
    (hD0 : ∀ j, j < D.length → 0 ≤ rd D (j : Int)) (hR0 : ∀ j, j < D.length → 0 ≤ rd R (j : Int))
    (ho : w.heap[go]? = some (.cells (ioC N 0 0 gb n c f) 68 (0, 0))) (hb : w.heap[gb]? = some (.cells us.toArray 5 (0, 0))) (hok : OkN us n) (hn : (f + N) / 8 < n) (hf : f ≤ 1000) (hN : 1 ≤ N) (hN5 : N ≤ 1000) (hBo : B ≤ go) (hBb : B ≤ gb) (hB2 : 2 ≤ B) (hG : Gm w) (hst : (stB D R D.length).length = N) :
    Calls Tryd.prog 21 #[.slice A1 D.length c1, .slice A2 R.length c2, .agg #[.int .i32 1, .int .i16 2, .int .i16 1, .int .i16 0], .pointer (some ⟨go, 0, none⟩), .slice none 0 0] w fun e w' => e = .returned .nilIface ∧ w'.heap[go]? = some (.cells (ioC N N (nulls (stB D R D.length)) gb n c f) 68 (0, 0)) ∧ (∃ us' : List Value, w'.heap[gb]? = some (.cells us'.toArray 5 (0, 0)) ∧ OkN us' n ∧ ∀ k, k < f + N → btN us' k = if k < f then btN us k else (stB D R D.length).getD (k - f) false) ∧ Below B w w' := by
  have hne : gb ≠ go := by
    intro he
    rw [he, ho] at hb
    injection hb with hb
    injection hb with _ hb _
    cases hb
  have QN := Aside0.mk hst
  have QZ := Aside0.mk (fun W => sz_is W)
  obtain ⟨c0, c1', c2', c3, c4, zz⟩ := io_cells ho
  have Qo := Aside0.mk (And.intro ho (And.intro hb hne))
  have Qk := Aside0.mk (And.intro hok (And.intro hn (And.intro hG (And.intro hBo (And.intro hBb hB2)))))
  have Q00 := Aside0.mk (And.intro hD0 hR0)
  have QDR := Aside0.mk (And.intro hD hR)
  have cn := fun w => run_neq_slice_nil_any (P := Tryd.prog) w 33 5 (some ⟨gb, 0, none⟩) n c 0 0 Tryd.underlying33
  rw [hl]
  clear ho hb hok hn hG hBo hBb hB2 hD0 hR0 hD hR hst
  have mP : ∀ (p : Addr) (w : World), Sem.run Tryd.prog (method 251 77 (.pointer (some p)) "Pos") w = .ok (48, .pointer (some p)) w := fun p w => by kernel_rfl
  have mS : ∀ (p : Addr) (w : World), Sem.run Tryd.prog (method 251 77 (.pointer (some p)) "Set") w = .ok (50, .pointer (some p)) w := fun p w => by kernel_rfl
  have mC : ∀ (p : Addr) (w : World), Sem.run Tryd.prog (method 251 77 (.pointer (some p)) "Clear") w = .ok (45, .pointer (some p)) w := fun p w => by kernel_rfl
  have mN : ∀ (p : Addr) (w : World), Sem.run Tryd.prog (method 251 77 (.pointer (some p)) "Next") w = .ok (47, .pointer (some p)) w := fun p w => by kernel_rfl
  have mF : ∀ (p : Addr) (w : World), Sem.run Tryd.prog (method 251 77 (.pointer (some p)) "Finish") w = .ok (46, .pointer (some p)) w := fun p w => by kernel_rfl
  go_enter_defers Tryd.func21, Tryd.ntmps21
  go_upto_region 5 with (go_at_call 23; (with_reducible refine Calls.mono (QZ.out _) ?_); rintro e w1 ⟨rfl, hb⟩; have B1 := Aside0.mk (((b2 w (.cells inC 58)).trans (hb.mono (b2 w (.cells inC 58)).size))); have I1 := Aside0.mk ((hb.block _ (by simp)).trans (blk_new w (.cells inC 58))); clear hb c0 c1' c2' c3 c4 zz; obtain ⟨c0, c1', c2', c3, c4, zz⟩ := io_cells ((B1.out.block go (blk_lt Qo.out.1)).trans Qo.out.1))
  obtain ⟨d0, d1, d2, d3, d4, zd⟩ := io_cells (V := w1.drew) ((B1.out.block go (blk_lt Qo.out.1)).trans Qo.out.1)
  have QF := Aside0.mk (ft_is gb n c 5 f N w1.drew Qk.out.1 ((B1.out.block gb (blk_lt Qo.out.2.1)).trans Qo.out.2.1) hN (by omega) (by have := Qk.out.2.1; omega) (by have := Qk.out.2.1; omega) (Gm.below Qk.out.2.2.1 B1.out.drew Qk.out.2.2.1.1))
  clear c0 c1' c2' c3 c4 zz
  refine wp_region_still_tail 12 (by kernel_rfl) (by kernel_rfl) ?_; simp only [List.take_succ_cons, List.take_zero, List.drop_succ_cons, List.drop_zero]; change wpStill _ _ (World.drew _) _ _ _; (repeat still_step); refine wpStill_nil ?_; change wpList _ _ _ _ _ (World.drew _)
  go_upto_region 6 with (go_at_call 24; (with_reducible refine Calls.mono QF.out ?_); rintro e w2 ⟨rfl, h1, h2⟩; have W2 := Aside0.mk (And.intro h1 h2); clear h1 h2)
  obtain ⟨wb, hwb⟩ : ∃ wb : Nat → Bool, wb = fun k => if k < f then btN us k else (stB D R D.length).getD (k - f) false := ⟨_, rfl⟩
  have Qwb := Aside0.mk hwb
  have Bk := Aside0.mk (show B ≤ w.heap.size from Nat.le_trans Qk.out.2.2.2.1 (Nat.le_of_lt (blk_lt Qo.out.1)))
  refine wp_as (fun V => LI w V B w.heap.size go w1.heap.size gb n c f 0 N 0 wb) ?_ ?_
  · have b2 : Below w.heap.size w w2 := B1.out.drew.trans (W2.out.2.mono B1.out.size)
    refine ⟨(W2.out.2.block _ (blk_lt I1.out)).trans I1.out, (b2.block go (blk_lt Qo.out.1)).trans Qo.out.1, ⟨_, us, W2.out.1, (b2.block gb (blk_lt Qo.out.2.1)).trans Qo.out.2.1, ?_, b2.mono Bk.out⟩, Nat.le_trans Bk.out b2.size⟩
    rw [Nat.add_zero]
    exact kw_start Qk.out.1 (by have := Qk.out.2.1; omega) (fun k hk => by rw [hwb]; exact (if_pos hk).symm)
  have Qg := Aside0.mk (show w.heap.size < w1.heap.size ∧ go < w.heap.size ∧ gb < w.heap.size from ⟨blk_lt I1.out, blk_lt Qo.out.1, blk_lt Qo.out.2.1⟩)
  clear QF d0 d1 d2 d3 d4 zd W2 B1 I1 hwb QZ
  generalize w1.heap.size = g at *
  generalize w.heap.size = gi at *
  clear w1 w2
  rintro w2 HL0
  have HL := Aside0.mk HL0
  clear HL0
  obtain ⟨M, hM⟩ : ∃ M, M = D.length := ⟨_, rfl⟩
  have QM := Aside0.mk hM
  rw [← hM] at hl h20 ⊢
  clear hM
  go_upto_region 8 with fail
  go_wp2
  go_loopg [14, 45] M (fun kq v14 v45 w' => ∃ (i : Nat), v14 = .int .i64 0 ∧ v45 = .int .i64 (i : Int) ∧ Aside0 (i + kq = M) ∧ Aside0 (LI w w' B gi go g gb n c f (stB D R i).length N (nulls (stB D R i)) wb))
  case atStart => exact ⟨0, rfl, rfl, ⟨by omega⟩, HL⟩
  case round =>
    obtain ⟨i, rfl, rfl, HA, HI⟩ := hrel
    obtain ⟨e0, e1, e2, e3, e4, ze⟩ := io_cells HI.out.ho
    obtain ⟨i0, i1, i2, i3, zi⟩ := in_cells HI.out.hi
    rcases Nat.eq_zero_or_pos gk with h0 | h0
    · obtain rfl : i = M := by have := HA.out; omega
      have QP := Aside0.mk (fun (W : World) (hw : W.heap = wr.heap) => HI.out.pos hw)
      have eN : (stB D R i).length = N := by rw [QM.out]; exact QN.out
      have Qne := Aside0.mk (show gi ≠ g ∧ go ≠ g ∧ gb ≠ g ∧ gi ≠ gb ∧ gi ≠ go ∧ go ≠ gb ∧ B ≤ g from ⟨by have := Qg.out; omega, by have := Qg.out; omega, by have := Qg.out; omega, by have := Qg.out; omega, by have := Qg.out; omega, fun h => hne h.symm, by have := Qg.out; have := Bk.out; omega⟩)
      rw [eN] at QP HI
      have Q21 : ¬ (1 : Int) < 1 := by omega
      clear QDR Q00
      by_cases hz : (0 : Int) < (nulls (stB D R i) : Int)
      · have hzd := decide_eq_true hz
        go_upto_region 37 with (go_at_call 48; (with_reducible refine Calls.mono (QP.out _ rfl) ?_); rintro e w5 ⟨rfl, rfl⟩)
        go_wp2_with (go_at_call 48; (with_reducible refine Calls.mono (QP.out _ rfl) ?_); rintro e w5 ⟨rfl, rfl⟩)
        refine leaves_cons (f := 46) (args := #[.pointer (some ⟨g, 0, none⟩)]) (by simp) (by simp [go_sem, mF]) ?_
        have HW := Aside0.mk (show WI w (w5.setCell ⟨go, 1, none⟩ (.int .i64 (N : Int))) B g gb n c f N N wb from HI.out.wi.cell go Qne.out.2.1 Qne.out.2.2.2.2.2.1 Qk.out.2.2.2.1 1 _)
        have HO := Aside0.mk (show (w5.setCell ⟨go, 1, none⟩ (.int .i64 (N : Int))).heap[go]? = some (.cells (ioC N N (nulls (stB D R i)) gb n c f) 68 (0, 0)) from blk_set HI.out.ho 1 _)
        refine (wi_end _ HW.out Qne.out.2.2.1 Qk.out.2.2.2.2.1 (by rw [show (w5.setCell ⟨go, 1, none⟩ (.int .i64 (N : Int))).heap.size = w5.heap.size by simp [World.setCell]]; exact HI.out.sz) Qk.out.2.1 hN).mono ?_
        rintro e u2 w7 ⟨rfl, rfl, ⟨us2, j1, j2, j3⟩, j4, j5⟩
        refine ⟨_, by simp [results, Tryd.results21, go_sem]; rfl, ?_⟩
        refine ⟨rfl, ?_, ⟨us2, j1, j2, fun k hk => ?_⟩, j4⟩
        · rw [← QM.out]
          exact j5.blk HO.out Qne.out.2.2.2.2.2.1 Qne.out.2.2.2.2.2.1
        · rw [j3 k hk, Qwb.out]
      · have hzd := decide_eq_false hz
        go_wp2_with (go_at_call 48; (with_reducible refine Calls.mono (QP.out _ rfl) ?_); rintro e w5 ⟨rfl, rfl⟩)
        refine leaves_cons (f := 46) (args := #[.pointer (some ⟨g, 0, none⟩)]) (by simp) (by simp [go_sem, mF]) ?_
        have HW := Aside0.mk (show WI w (w5.setCell ⟨go, 1, none⟩ (.int .i64 (N : Int))) B g gb n c f N N wb from HI.out.wi.cell go Qne.out.2.1 Qne.out.2.2.2.2.2.1 Qk.out.2.2.2.1 1 _)
        have HO := Aside0.mk (show (w5.setCell ⟨go, 1, none⟩ (.int .i64 (N : Int))).heap[go]? = some (.cells (ioC N N (nulls (stB D R i)) gb n c f) 68 (0, 0)) from blk_set HI.out.ho 1 _)
        refine (wi_end _ HW.out Qne.out.2.2.1 Qk.out.2.2.2.2.1 (by rw [show (w5.setCell ⟨go, 1, none⟩ (.int .i64 (N : Int))).heap.size = w5.heap.size by simp [World.setCell]]; exact HI.out.sz) Qk.out.2.1 hN).mono ?_
        rintro e u2 w7 ⟨rfl, rfl, ⟨us2, j1, j2, j3⟩, j4, j5⟩
        refine ⟨_, by simp [results, Tryd.results21, go_sem]; rfl, ?_⟩
        refine ⟨rfl, ?_, ⟨us2, j1, j2, fun k hk => ?_⟩, j4⟩
        · rw [← QM.out]
          exact j5.blk HO.out Qne.out.2.2.2.2.2.1 Qne.out.2.2.2.2.2.1
        · rw [j3 k hk, Qwb.out]
    · have hiM : i < M := by have := HA.out; omega
      have hiI : (i : Int) < (M : Int) := by omega
      obtain ⟨k1, rfl⟩ : ∃ k1, gk = k1 + 1 := ⟨gk - 1, by omega⟩
      obtain ⟨ad, hA, hc⟩ := Kd.at_int (QDR.out.1 wr HI.out.bel) (i : Int) (by omega) (by have := QM.out; omega)
      obtain ⟨ar, hB, hr⟩ := Kd.at_int (QDR.out.2 wr HI.out.bel) (i : Int) (by omega) (by omega)
      rw [Int.toNat_natCast] at hc hr
      subst hA hB
      have QHC := Aside0.mk (fun (W : World) (hb : Below B w W) => at16 (QDR.out.1 W hb) (i := i) (by have := QM.out; omega))
      have hd0 := Q00.out.1 i (by have := QM.out; omega)
      have hr0 := Q00.out.2 i (by have := QM.out; omega)
      have hsu := stB_succ D R i
      have hwn : rd R (i : Int) = 0 → wb (f + (stB D R i).length) = decide (1 ≤ rd D (i : Int)) ∧ (stB D R i).length < N := stB_at hsu QN.out (by have := QM.out; omega) Qwb.out
      generalize rd D (i : Int) = d at *
      generalize rd R (i : Int) = r at *
      have Qsu := Aside0.mk (And.intro hsu hwn)
      clear hsu hwn
      have dlt := decide_eq_false (show ¬ d < 0 by omega)
      have dlt' : ¬ d < 0 := by omega
      by_cases h2 : 1 < r
      · have h2d := decide_eq_true h2
        go_wp2
        go_quiet (fail)
        go_wp2
        go_roundg k1
        case rel =>
          refine ⟨i + 1, rfl, rfl, ⟨by have := HA.out; omega⟩, ⟨?_⟩⟩
          rw [Qsu.out.1, if_neg (by omega), List.append_nil]
          exact HI.out.step (pw_below_drewN (Below.refl _ _) _)
        · omega
      have h2d := decide_eq_false h2
      by_cases h1 : r = 1
      · subst h1
        go_wp2
        go_quiet (fail)
        go_wp2
        go_quiet (fail)
        go_wp2
        go_roundg k1
        case rel =>
          refine ⟨i + 1, rfl, rfl, ⟨by have := HA.out; omega⟩, ⟨?_⟩⟩
          rw [Qsu.out.1, if_neg (by omega), List.append_nil]
          exact HI.out.step (pw_below_drewN (Below.refl _ _) _)
        · omega
      · obtain rfl : r = 0 := by omega
        have QP := Aside0.mk (fun (W : World) (hw : W.heap = wr.heap) => HI.out.pos hw)
        obtain ⟨hwb, htN⟩ := Qsu.out.2 rfl
        have Qw := Aside0.mk (And.intro hwb htN)
        have t1 : decide ((N : Int) ≤ ((stB D R i).length : Int)) = false := decide_eq_false (by omega)
        have t2 : ¬ (N : Int) ≤ ((stB D R i).length : Int) := by omega
        have t3 : ¬ N ≤ (stB D R i).length := by omega
        have t4 : ¬ (N : Int) ≤ 0 := by omega
        have t5 : ¬ N = 0 := by omega
        clear hwb htN
        go_wp2
        go_quiet (fail)
        go_wp2
        go_quiet (fail)
        go_upto_region 17 with fail
        go_quiet ((refine Calls.mono (QP.out (wr.drewN _) rfl) ?_; rintro _ _ ⟨rfl, rfl⟩; exact ⟨rfl, _, rfl⟩))
        go_upto_region 27 with fail
        refine wp_as (fun V => LI w V B gi go g gb n c f (stB D R i).length N (nulls (stB D R i)) wb) (HI.out.step (pw_below_drewN (Below.refl _ _) _)) ?_
        clear e0 e1 e2 e3 e4 ze i0 i1 i2 i3 zi hc hr QP HI
        rintro V HV0
        have HV := Aside0.mk HV0
        clear HV0
        have Qne := Aside0.mk (show gi ≠ g ∧ go ≠ g ∧ gb ≠ g ∧ gi ≠ gb ∧ gi ≠ go ∧ go ≠ gb ∧ B ≤ g from ⟨by have := Qg.out; omega, by have := Qg.out; omega, by have := Qg.out; omega, by have := Qg.out; omega, by have := Qg.out; omega, fun h => hne h.symm, by have := Qg.out; have := Bk.out; omega⟩)
        have Qln := Aside0.mk (show (stB D R i).length < N ∧ nulls (stB D R i) < N from ⟨Qw.out.2, Nat.lt_of_le_of_lt (nulls_le _) Qw.out.2⟩)
        obtain ⟨S, hS⟩ : ∃ S, S = stB D R i := ⟨_, rfl⟩
        rw [← hS] at HV Qln t1 t2 t3 Qw Qsu
        have QS := Aside0.mk hS
        clear hS
        have hc := QHC.out V HV.out.bel
        obtain ⟨i0, i1, i2, i3, zi⟩ := in_cells HV.out.hi
        have sub1 : (2 : Int) - 1 = 1 := rfl
        by_cases h1d : 1 ≤ d
        · have d1 := decide_eq_true h1d
          go_quiet (fail)
          go_upto_region 28 with fail
          refine wp_as (fun W => LI w W B gi go g gb n c f S.length N (nulls S) wb) (HV.out.step (pw_below_drewN (Below.refl _ _) _)) ?_
          clear hc i0 i1 i2 i3 zi HV
          rintro V HV0
          have HV := Aside0.mk HV0
          clear HV0
          have QC := Aside0.mk (HV.out.set Qne.out.1 Qne.out.2.1 Qne.out.2.2.1 Qne.out.2.2.2.2.2.2 (by rw [Qw.out.1]; exact d1))
          go_wp2_with (first | (go_at_call 50; (with_reducible refine Calls.mono QC.out ?_); rintro e w4 ⟨rfl, hs⟩; have QX := Aside0.mk (hs.next Qne.out.1 Qne.out.2.1 Qne.out.2.2.1 Qne.out.2.2.2.1 Qne.out.2.2.2.2.2.1 Qne.out.2.2.2.2.2.2 Qk.out.2.2.2.2.1 (by have := Qk.out.2.1; have := Qln.out.1; omega) (by have := Qln.out.1; omega)); clear hs) | (go_at_call 47; (with_reducible refine Calls.mono QX.out ?_); rintro e w5 ⟨rfl, hs⟩; have QY := Aside0.mk hs; clear hs))
          go_roundg k1
          case rel =>
            refine ⟨i + 1, rfl, rfl, ⟨by have := HA.out; omega⟩, ⟨?_⟩⟩
            rw [Qsu.out.1]
            simp only [if_true]
            rw [d1, List.length_append, nulls_append]
            exact QY.out
          · omega
        · have d1 := decide_eq_false h1d
          go_quiet (fail)
          go_upto_region 29 with fail
          refine wp_as (fun W => LI w W B gi go g gb n c f S.length N (nulls S) wb) (HV.out.step (pw_below_drewN (Below.refl _ _) _)) ?_
          clear hc i0 i1 i2 i3 zi HV
          rintro V HV0
          have HV := Aside0.mk HV0
          clear HV0
          have s1 : IntKind.i64.wrap ((nulls S : Int) + 1) = ((nulls S + 1 : Nat) : Int) := by rw [IntWalk.i64_in _ (by have := Qln.out.2; omega)]; rfl
          obtain ⟨e0, e1, e2, e3, e4, ze⟩ := io_cells HV.out.ho
          have QC := Aside0.mk (HV.out.clear Qne.out.2.2.2.2.1 Qne.out.2.1 Qne.out.2.2.2.2.2.1 Qk.out.2.2.2.1 (by rw [Qw.out.1]; exact d1))
          have QX := Aside0.mk (QC.out.next Qne.out.1 Qne.out.2.1 Qne.out.2.2.1 Qne.out.2.2.2.1 Qne.out.2.2.2.2.2.1 Qne.out.2.2.2.2.2.2 Qk.out.2.2.2.2.1 (by have := Qk.out.2.1; have := Qln.out.1; omega) (by have := Qln.out.1; omega))
          rw [show ((nulls S + 1 : Nat) : Int) = (nulls S : Int) + 1 from rfl] at QX
          go_wp2_with (first | (go_at_call 45; (with_reducible refine Calls.mono (clear_is _ _) ?_); rintro e w4 ⟨rfl, rfl⟩) | (go_at_call 47; (with_reducible refine Calls.mono QX.out ?_); rintro e w5 ⟨rfl, hs⟩; have QY := Aside0.mk hs; clear hs))
          go_roundg k1
          case rel =>
            refine ⟨i + 1, rfl, rfl, ⟨by have := HA.out; omega⟩, ⟨?_⟩⟩
            rw [Qsu.out.1]
            simp only [if_true]
            rw [d1, List.length_append, nulls_append]
            exact QY.out
          · omega
end Go.Proofs.YtjipnopadpedoaaDoor.QR
