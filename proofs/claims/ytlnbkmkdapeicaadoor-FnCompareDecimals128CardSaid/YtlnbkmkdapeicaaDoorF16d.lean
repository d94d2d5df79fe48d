/- The thin package's function, the walk: decimals are put into bytes, compared, the answers handed back. -/
import Derived.Test.YtlnbkmkdapeicaaDoorF15
import Derived.Test.YtlnbkmkdapeicaaDoorQTx4
namespace Go.Proofs.YtlnbkmkdapeicaaDoor.QR
open Go.RowKit Go.Proofs.YtlnbkmkdapeicaaDoorW.PrintWords Go.Proofs.YtlnbkmkdapeicaaDoorW.PrintLast Go.Proofs.YtlnbkmkdapeicaaDoorW.PrintMore
set_option linter.unusedVariables false
set_option linter.unusedSimpArgs false
theorem made_one (z : Value) (n : Nat) : madeCells #[z] n = (List.replicate n z).toArray := by
  rw [← Array.toList_inj]
  apply List.ext_getElem
  · simp [madeCells]
  · intro i h1 h2
    simp [madeCells, Nat.mod_one]
/-- The decimals of pairs of words. -/
abbrev dOf (rs : List (List Int)) : List Dc := rs.map fun r => (rd r 0, IntKind.i64.wrap (rd r 1))
/-- Each has two words. -/
def Pw (rs : List (List Int)) : Prop := ∀ r ∈ rs, r.length = 2 ∧ ∀ x ∈ r, 0 ≤ x ∧ x < 18446744073709551616
theorem rd_in {r : List Int} (h : ∀ x ∈ r, 0 ≤ x ∧ x < 18446744073709551616) (i : Int) : 0 ≤ rd r i ∧ rd r i < 18446744073709551616 := by
  unfold rd
  rw [List.getD_eq_getElem?_getD]
  by_cases hi : i.toNat < r.length
  · rw [List.getElem?_eq_getElem hi]
    exact h _ (List.getElem_mem hi)
  · rw [List.getElem?_eq_none (by omega)]
    exact ⟨Int.le_refl _, by decide⟩
theorem dOf_ok {rs : List (List Int)} (h : Pw rs) : ∀ z ∈ dOf rs, (0 ≤ z.1 ∧ z.1 < 18446744073709551616) ∧ IntKind.i64.wrap z.2 = z.2 := by
  intro z hz
  obtain ⟨r, hr, rfl⟩ := List.mem_map.1 hz
  refine ⟨rd_in (h r hr).2 0, ?_⟩
  simp only [IntKind.wrap_i64]
  omega
/-- Two new rows, made in any order. -/
def Two (W wc : World) (gx gy : Nat) (X Y : Obj) : Prop := gx ≠ gy ∧ W.heap.size ≤ gx ∧ W.heap.size ≤ gy ∧ wc.heap[gx]? = some X ∧ wc.heap[gy]? = some Y ∧ Below W.heap.size W wc
theorem two_a {W wa wb : World} {X Y : Obj} (h1 : Below W.heap.size W wa) (h2 : Below (wa.alloc X).heap.size (wa.alloc X) wb) : Two W (wb.alloc Y) wa.heap.size wb.heap.size X Y := by
  have e := (h2.block wa.heap.size (by rw [World.size_alloc]; omega)).trans (blk_new wa X)
  have hs := h2.size
  rw [World.size_alloc] at hs
  have hB := (h1.alloc h1.size X).trans (h2.mono (h1.alloc h1.size X).size)
  exact ⟨by omega, h1.size, hB.size, blk_alloc e _, blk_new wb Y, hB.alloc hB.size Y⟩
theorem two_b {W wb : World} {X Y : Obj} (h : Below W.heap.size W wb) : Two W ((wb.alloc X).alloc Y) wb.heap.size (wb.heap.size + 1) X Y := by
  have hB := h.alloc h.size X
  have e := blk_new (wb.alloc X) Y
  rw [World.size_alloc] at e
  exact ⟨by omega, h.size, by have := h.size; omega, blk_alloc (blk_new wb X) _, e, hB.alloc hB.size Y⟩
theorem two_c {W wb : World} {X Y : Obj} (h : Below W.heap.size W wb) : Two W ((wb.alloc Y).alloc X) (wb.heap.size + 1) wb.heap.size X Y := by
  have hB := h.alloc h.size Y
  have e := blk_new (wb.alloc Y) X
  rw [World.size_alloc] at e
  exact ⟨by omega, by have := h.size; omega, h.size, e, blk_alloc (blk_new wb Y) _, hB.alloc hB.size X⟩
set_option maxHeartbeats 8000000 in
set_option maxRecDepth 100000 in
theorem ci_is (op how : Nat) (hop : op ≤ 3) (hhow : how ≤ 2) (Aa : Option Addr) (xs : List (List Int)) (ca : Nat) (Ab : Option Addr) (ys : List (List Int)) (cb : Nat) (B : Option Addr) (bl : List Int) (cB' f n : Nat) (w : World)
    (hCa : Kd.C (Kd.slice 27 (Kd.int .u64)) w Aa xs.length xs) (hCb : Kd.C (Kd.slice 27 (Kd.int .u64)) w Ab ys.length ys) (hxp : Pw xs) (hyp : Pw ys) (hCl : Cu w B bl) (hcl : bl.length ≤ cB') (hbl : bytesOk bl = true) (hb100 : bl.length ≤ 1000) (hl3 : xs.length ≤ 300) (hr3 : ys.length ≤ 300) (hn : n ≤ 300)
    (hp0 : how = 0 → xs.length = n ∧ ys.length = n) (hp1 : how = 1 → xs.length = n ∧ 1 ≤ ys.length) (hp2 : how = 2 → ys.length = n ∧ 1 ≤ xs.length) (hf : f ≤ 7) (hfn : f + n ≤ 8 * bl.length) (hM : Bm w) :
    Calls Tryd.prog 5 #[.int .i64 (op : Int), .int .i64 (how : Int), .slice Aa xs.length ca, .slice Ab ys.length cb, .slice B bl.length cB', .int .i64 (f : Int)] w fun e w' => ∃ A' c' bl', e = .returned (.tuple #[.slice A' bl.length c', .bool true]) ∧ bl.length ≤ c' ∧ bl'.length = bl.length ∧ bytesOk bl' = true ∧ Cu w' A' bl' ∧ (∀ k, k < f + n → bt1 bl' k = if k < f then bt1 bl k else duB op how (dOf xs) (dOf ys) (k - f)) ∧ Below w.heap.size w w' := by
  have QCP := Aside0.mk (fun w1 (hb : Below w.heap.size w w1) => cpd_is B bl cB' w1 (Kd.C_below hCl hb) hcl (by omega) hbl)
  have QA := Aside0.mk (And.intro hCa hCb)
  have QP := Aside0.mk (And.intro hxp hyp)
  have QCN := Aside0.mk (fun (gx gy gO cO : Nat) (Po : Option Addr) (us : List Value) (w1 : World) (h1 : w1.heap[gx]? = some (.cells (cB (flatD (dOf xs))).toArray 5 (0, 0))) (h2 : w1.heap[gy]? = some (.cells (cB (flatD (dOf ys))).toArray 5 (0, 0))) (h3 : w1.heap[gO]? = some (.cells us.toArray 5 (0, 0))) (hU : OkU us bl.length) (hc : bl.length ≤ cO) (hM1 : Bm w1) (hg : 2 < gO ∧ 3 < gO) (hPo : 0 < bl.length → Po = some ⟨gO, 0, none⟩) => by
    have hxl : (flatD (dOf xs)).length = 16 * xs.length := by rw [flatD_len, List.length_map]
    have hyl : (flatD (dOf ys)).length = 16 * ys.length := by rw [flatD_len, List.length_map]
    have h := cn_is op how hop hhow (some ⟨gx, 0, none⟩) (flatD (dOf xs)) (16 * xs.length) (some ⟨gy, 0, none⟩) (flatD (dOf ys)) (16 * ys.length) xs.length ys.length n gO bl.length cO f us w1 (cB_C h1 (by omega)) (by omega) (bytesOk_flatD _) hxl (cB_C h2 (by omega)) (by omega) (bytesOk_flatD _) hyl hn hl3 hr3 hp0 hp1 hp2 Po hPo h3 hU hc (by omega) hf hfn hM1 hg
    have e1 := elsI_flat (dOf xs) (dOf_ok hxp)
    have e2 := elsI_flat (dOf ys) (dOf_ok hyp)
    rw [List.length_map] at e1 e2
    rw [hxl, hyl, e1, e2] at h
    exact h)
  have hgl : 2 < w.heap.size ∧ 3 < w.heap.size := hM.1
  have Qh := Aside0.mk (show xs.length ≤ 300 ∧ ys.length ≤ 300 ∧ bl.length ≤ 1000 ∧ f + n ≤ 8 * bl.length from ⟨hl3, hr3, hb100, hfn⟩)
  have QM := Aside0.mk hM
  obtain ⟨nl, hnl⟩ : ∃ nl, nl = xs.length := ⟨_, rfl⟩
  obtain ⟨nr, hnr⟩ : ∃ nr, nr = ys.length := ⟨_, rfl⟩
  obtain ⟨L, hL⟩ : ∃ L, L = bl.length := ⟨_, rfl⟩
  rw [← hnl, ← hnr] at QCN Qh
  rw [← hL] at QCP QCN Qh
  rw [← hnl, ← hnr, ← hL]
  have Qn := Aside0.mk (show nl = xs.length ∧ nr = ys.length ∧ L = bl.length from ⟨hnl, hnr, hL⟩)
  have hli : (nl : Int) ≤ 300 := by omega
  have hri : (nr : Int) ≤ 300 := by omega
  obtain ⟨mx, hmx0⟩ : ∃ mx, mx = 16 * nl := ⟨_, rfl⟩
  obtain ⟨my, hmy0⟩ : ∃ my, my = 16 * nr := ⟨_, rfl⟩
  rw [← hmx0, ← hmy0] at QCN
  have hxm : (16 : Int) * (nl : Int) = (mx : Int) := by omega
  have hym : (16 : Int) * (nr : Int) = (my : Int) := by omega
  have hmxi : (mx : Int) ≤ 4800 := by omega
  have hmyi : (my : Int) ≤ 4800 := by omega
  have hmxw : IntKind.i64.wrap (mx : Int) = (mx : Int) := IntWalk.i64_in _ (by omega)
  have hmyw : IntKind.i64.wrap (my : Int) = (my : Int) := IntWalk.i64_in _ (by omega)
  have Qmm := Aside0.mk (And.intro hmx0 hmy0)
  have QO := Aside0.mk (fun (w1 : World) => (show Calls Tryd.prog 18 #[.int .i64 (op : Int)] w1 fun e w' => e = .returned (.int .i8 (op : Int)) ∧ Below w1.heap.size w1 w' from
    QT.impl_operator.calls (op : Int) (op : Int) w1 (by
      have h : op = 0 ∨ op = 1 ∨ op = 2 ∨ op = 3 := by omega
      rcases h with rfl | rfl | rfl | rfl <;> rfl)))
  clear hmx0 hmy0 hxp hyp hCa hCb hCl hcl hbl hb100 hl3 hr3 hn hp0 hp1 hp2 hf hfn hM hnl hnr hL
  go_enter_defers Tryd.func5, Tryd.ntmps5
  go_upto_region 2 with (fail)
  obtain ⟨W0, hW0⟩ : ∃ W0, W0 = (w.alloc (.cells #[.slice none 0 0] 23)).alloc (.cells #[.bool false] 4) := ⟨_, rfl⟩
  have hr0 : W0.heap[w.heap.size]? = some (.cells #[.slice none 0 0] 23 (0, 0)) := by rw [hW0]; exact blk_alloc (blk_new w _) _
  have hr1 : W0.heap[w.heap.size + 1]? = some (.cells #[.bool false] 4 (0, 0)) := by rw [hW0]; have := blk_new (w.alloc (.cells #[.slice none 0 0] 23)) (.cells #[.bool false] 4); rw [World.size_alloc] at this; exact this
  have hw0 : Below w.heap.size w W0 := by rw [hW0]; exact b3 w _ _
  have hs0 : W0.heap.size = w.heap.size + 2 := by rw [hW0, World.size_alloc, World.size_alloc]
  rw [← hW0]
  obtain ⟨r0, hr0e⟩ : ∃ r0, r0 = w.heap.size := ⟨_, rfl⟩
  rw [← hr0e] at hr0 hr1 hs0 ⊢
  have QW := Aside0.mk (And.intro hr0 (And.intro hr1 (And.intro hw0 (And.intro hs0 hr0e))))
  clear hW0 hr0 hr1 hw0 hs0 hr0e
  go_upto_region 3 with (go_at_call 14; go_must (refine (QCP.out W0 QW.out.2.2.1).mono ?_; rintro e w1 ⟨A0, c', rfl, h1, h2, h3⟩; have K1 := Aside0.mk (And.intro h1 (And.intro h2 h3)); have q0 := (h3.block r0 (blk_lt QW.out.1)).trans QW.out.1; have k0 := blk_cell q0 0; have z0 := blk_frozen q0 0; clear h1 h2 h3 q0))
  clear k0 z0
  obtain ⟨W2, hW2⟩ : ∃ W2, W2 = w1.setCell ⟨r0, 0, none⟩ (.slice A0 L c') := ⟨_, rfl⟩
  rw [← hW2]
  have hw1 : Below w.heap.size w w1 := QW.out.2.2.1.trans (K1.out.2.2.mono QW.out.2.2.1.size)
  have q0 : W2.heap[r0]? = some (.cells #[.slice A0 L c'] 23 (0, 0)) := by
    rw [hW2]
    have := blk_set ((K1.out.2.2.block r0 (blk_lt QW.out.1)).trans QW.out.1) 0 (.slice A0 L c')
    simpa using this
  have q1 : W2.heap[r0 + 1]? = some (.cells #[.bool false] 4 (0, 0)) := by
    rw [hW2, Below.heap_setCell _ _ _ _ (by simp)]
    exact (K1.out.2.2.block (r0 + 1) (blk_lt QW.out.2.1)).trans QW.out.2.1
  have qg : 0 < L → ∃ g us, A0 = some ⟨g, 0, none⟩ ∧ r0 + 2 ≤ g ∧ W2.heap[g]? = some (.cells us.toArray 5 (0, 0)) ∧ OkU us L ∧ bytesU us L = bl := fun h => by
    obtain ⟨g, us, e1, e2, e3, e4, e5⟩ := K1.out.2.1 h
    have hlt : r0 + 2 ≤ g := by have := QW.out.2.2.2.1; omega
    refine ⟨g, us, e1, hlt, ?_, e4, e5⟩
    rw [hW2, Below.heap_setCell _ _ _ _ (by simp; omega)]
    exact e3
  have hw2 : Below w.heap.size w W2 := by rw [hW2]; exact hw1.setCell (by rw [← QW.out.2.2.2.2]; exact Nat.le_refl _) _
  have hs2 : r0 + 2 ≤ W2.heap.size := blk_lt q1
  have Q2 := Aside0.mk (show W2.heap[r0]? = some (.cells #[.slice A0 L c'] 23 (0, 0)) ∧ W2.heap[r0 + 1]? = some (.cells #[.bool false] 4 (0, 0)) ∧ r0 + 2 ≤ W2.heap.size ∧ Below w.heap.size w W2 ∧ r0 = w.heap.size from ⟨q0, q1, hs2, hw2, QW.out.2.2.2.2⟩)
  have QG := Aside0.mk qg
  have QU := Aside0.mk (show L ≤ c' from K1.out.1)
  clear hW2 hw1 q0 q1 qg hw2 hs2 K1 QCP QW
  have hmx := print_make_of (P := Tryd.prog) 23 5 (.int .u8 0) 1 Tryd.underlying23 info5 rfl (by omega) mx (by omega)
  have hmy := print_make_of (P := Tryd.prog) 23 5 (.int .u8 0) 1 Tryd.underlying23 info5 rfl (by omega) my (by omega)
  go_cut [14, 15] from 20 (fun s14 s15 wc => ∃ gx gy, s14 = .slice (some ⟨gx, 0, none⟩) mx mx ∧ s15 = .slice (some ⟨gy, 0, none⟩) my my ∧ Aside0 (Two W2 wc gx gy (.cells (madeCells #[.int .u8 0] mx) 5) (.cells (madeCells #[.int .u8 0] my) 5)))
  case first =>
    refine wp_noP ?_
    go_region_with (fail)
    all_goals
      refine noP_normal ?_
      go_wp2
      go_meet
      case rel =>
        have hd : Below W2.heap.size W2 W2.drew := ⟨rfl, rfl, rfl, Nat.le_refl _, fun _ _ => rfl⟩
        first
        | exact ⟨_, _, rfl, rfl, ⟨two_b hd⟩⟩
        | exact ⟨_, _, rfl, rfl, ⟨two_c hd⟩⟩
  case rest =>
    obtain ⟨gx, gy, rfl, rfl, H2⟩ := hcut
    clear hmx hmy
    have Qzgx := Aside0.mk (show (dOf xs).length = nl by rw [List.length_map]; exact Qn.out.1.symm)
    obtain ⟨zsgx, hzsgx⟩ : ∃ zs, zs = dOf xs := ⟨_, rfl⟩
    have Qegx := Aside0.mk (show zsgx.length = nl by rw [hzsgx]; exact Qzgx.out)
    have Qggx := Aside0.mk (show ∀ i, i < nl → zsgx[i]? = some (rd (QT.rd_L5 xs (i : Int)) 0, IntKind.i64.wrap (rd (QT.rd_L5 xs (i : Int)) 1)) from fun i hi => by
      have hix : i < xs.length := by rw [← Qn.out.1]; exact hi
      rw [hzsgx, List.getElem?_map, List.getElem?_eq_getElem hix]
      unfold QT.rd_L5
      rw [Int.toNat_natCast, List.getD_eq_getElem?_getD, List.getElem?_eq_getElem hix]
      rfl)
    rw [← hzsgx] at QCN
    have Qwgx := Aside0.mk hzsgx
    clear hzsgx
    go_wp2_with fail
    go_loopg [32] nl (fun kq v32 w' => ∃ i : Nat, v32 = .int .i64 (i : Int) ∧ Aside0 (i + kq = nl) ∧ Aside0 (w'.heap[gx]? = some (.cells (rowB zsgx zsgx.length i).toArray 5 (0, 0))) ∧ Aside0 (Fr wc w' gx gx))
    case atStart => exact ⟨0, rfl, ⟨by omega⟩, ⟨by rw [rowB_zero, Qegx.out, ← Qmm.out.1, ← made_one]; exact H2.out.2.2.2.1⟩, ⟨Fr.refl _ _ _⟩⟩
    case round =>
      obtain ⟨i, rfl, HA, HG, HF⟩ := hrel
      rcases Nat.eq_zero_or_pos gk with h0 | h0
      · have hi : ((i : Int) < (nl : Int)) = False := by have := HA.out; simp; omega
        obtain rfl : nl = i := by have := HA.out; omega
        obtain ⟨W4, hW4⟩ : ∃ W4, W4 = wr := ⟨_, rfl⟩
        subst hW4
        have QX := Aside0.mk (show W4.heap[gx]? = some (.cells (cB (flatD zsgx)).toArray 5 (0, 0)) ∧ W4.heap[gy]? = some (.cells (madeCells #[.int .u8 0] my) 5 (0, 0)) ∧ Below W2.heap.size W2 W4 from
          ⟨by rw [← rowB_end, Qegx.out]; have h := HG.out; rw [Qegx.out] at h; exact h, (HF.out.far gy (blk_lt H2.out.2.2.2.2.1) (Ne.symm H2.out.1) (Ne.symm H2.out.1)).trans H2.out.2.2.2.2.1, H2.out.2.2.2.2.2.trans (HF.out.below (B := W2.heap.size) H2.out.2.2.2.2.2.size H2.out.2.1 H2.out.2.1)⟩)
        clear HG HF HA hi h0
        have Qzgy := Aside0.mk (show (dOf ys).length = nr by rw [List.length_map]; exact Qn.out.2.1.symm)
        obtain ⟨zsgy, hzsgy⟩ : ∃ zs, zs = dOf ys := ⟨_, rfl⟩
        have Qegy := Aside0.mk (show zsgy.length = nr by rw [hzsgy]; exact Qzgy.out)
        have Qggy := Aside0.mk (show ∀ i, i < nr → zsgy[i]? = some (rd (QT.rd_L5 ys (i : Int)) 0, IntKind.i64.wrap (rd (QT.rd_L5 ys (i : Int)) 1)) from fun i hi => by
          have hix : i < ys.length := by rw [← Qn.out.2.1]; exact hi
          rw [hzsgy, List.getElem?_map, List.getElem?_eq_getElem hix]
          unfold QT.rd_L5
          rw [Int.toNat_natCast, List.getD_eq_getElem?_getD, List.getElem?_eq_getElem hix]
          rfl)
        rw [← hzsgy] at QCN
        have Qwgy := Aside0.mk hzsgy
        clear hzsgy
        go_wp2_with fail
        go_loopg [51] nr (fun kq v51 w' => ∃ i : Nat, v51 = .int .i64 (i : Int) ∧ Aside0 (i + kq = nr) ∧ Aside0 (w'.heap[gy]? = some (.cells (rowB zsgy zsgy.length i).toArray 5 (0, 0))) ∧ Aside0 (Fr W4 w' gy gy))
        case atStart => exact ⟨0, rfl, ⟨by omega⟩, ⟨by rw [rowB_zero, Qegy.out, ← Qmm.out.2, ← made_one]; exact QX.out.2.1⟩, ⟨Fr.refl _ _ _⟩⟩
        case round =>
          obtain ⟨i, rfl, HA, HG, HF⟩ := hrel
          rcases Nat.eq_zero_or_pos gk with h0 | h0
          · have hi : ((i : Int) < (nr : Int)) = False := by have := HA.out; simp; omega
            obtain rfl : nr = i := by have := HA.out; omega
            obtain ⟨W6, hW6⟩ : ∃ W6, W6 = wr := ⟨_, rfl⟩
            subst hW6
            have QY := Aside0.mk (show W6.heap[gx]? = some (.cells (cB (flatD zsgx)).toArray 5 (0, 0)) ∧ W6.heap[gy]? = some (.cells (cB (flatD zsgy)).toArray 5 (0, 0)) ∧ Below W2.heap.size W2 W6 from
              ⟨(HF.out.far gx (blk_lt QX.out.1) H2.out.1 H2.out.1).trans QX.out.1, by rw [← rowB_end, Qegy.out]; have h := HG.out; rw [Qegy.out] at h; exact h, QX.out.2.2.trans (HF.out.below (B := W2.heap.size) QX.out.2.2.size H2.out.2.2.1 H2.out.2.2.1)⟩)
            clear HG HF HA hi h0 QX
            go_upto_region 14 with (fail)
            have e0 : W6.heap[r0]? = some (.cells #[.slice A0 L c'] 23 (0, 0)) := (QY.out.2.2.block r0 (blk_lt Q2.out.1)).trans Q2.out.1
            have e1 : W6.heap[r0 + 1]? = some (.cells #[.bool false] 4 (0, 0)) := (QY.out.2.2.block (r0 + 1) (blk_lt Q2.out.2.1)).trans Q2.out.2.1
            have hgx : r0 + 2 ≤ gx := Nat.le_trans Q2.out.2.2.1 H2.out.2.1
            have eg : ∃ gO us0, (0 < L → A0 = some ⟨gO, 0, none⟩) ∧ W6.heap[gO]? = some (.cells us0.toArray 5 (0, 0)) ∧ OkU us0 L ∧ bytesU us0 L = bl ∧ r0 + 2 ≤ gO := by
              by_cases hL0 : 0 < L
              · obtain ⟨g, us, f1, f2, f3, f4, f5⟩ := QG.out hL0
                exact ⟨g, us, fun _ => f1, (QY.out.2.2.block g (blk_lt f3)).trans f3, f4, f5, f2⟩
              · have hL0' : L = 0 := by omega
                have hbl0 : bl = [] := List.eq_nil_of_length_eq_zero (by rw [← Qn.out.2.2]; exact hL0')
                exact ⟨gx, cB (flatD zsgx), fun h => absurd h hL0, QY.out.1, ⟨by omega, fun q hq => absurd hq (by omega)⟩, by rw [hL0', hbl0]; rfl, hgx⟩
            obtain ⟨gO, us0, hPo, eg, hU0, hbu, hgO2⟩ := eg
            have QOO := Aside0.mk (And.intro hPo (And.intro hU0 (And.intro hbu hgO2)))
            clear hPo hU0 hbu hgO2 hgx
            have hb6 : Below w.heap.size w W6 := Q2.out.2.2.2.1.trans (QY.out.2.2.mono Q2.out.2.2.2.1.size)
            have Q6 := Aside0.mk (And.intro e0 (And.intro e1 (And.intro eg hb6)))
            have c0 := blk_cell e0 0
            simp only [List.getElem?_toArray, List.getElem?_cons_zero] at c0
            clear e0 e1 eg hb6
            refine wp_noP ?_
            go_region_with (first | (go_at_call 18; go_must (refine (QO.out _).mono ?_; rintro e w7 ⟨rfl, hb⟩; have Q7 := Aside0.mk (show Below W6.heap.size W6 w7 from ⟨hb.os, hb.tape, hb.output, hb.size, hb.block⟩); have e7 := (Q7.out.block r0 (blk_lt Q6.out.1)).trans Q6.out.1; have c7 := blk_cell e7 0; simp only [List.getElem?_toArray, List.getElem?_cons_zero] at c7; clear hb e7)) | (go_at_call 17; go_must (refine (QCN.out gx gy gO c' A0 us0 w7 ((Q7.out.block gx (blk_lt QY.out.1)).trans QY.out.1) ((Q7.out.block gy (blk_lt QY.out.2.1)).trans QY.out.2.1) ((Q7.out.block gO (blk_lt Q6.out.2.2.1)).trans Q6.out.2.2.1) QOO.out.2.1 QU.out (QM.out.below (Q6.out.2.2.2.trans (Q7.out.mono Q6.out.2.2.2.size)) QM.out.1) (by have := QM.out.1; have := Q2.out; have := QOO.out.2.2.2; omega) QOO.out.1).mono ?_; rintro e w8 ⟨rfl, us', h1, h2, h3⟩; have Q8 := Aside0.mk (And.intro h1 (And.intro h2 h3)); clear h1 h2 h3)))
            all_goals
              refine noP_normal ?_
              have hgo := QOO.out.2.2.2
              have d0 : w8.heap[r0]? = some (.cells #[.slice A0 L c'] 23 (0, 0)) := by
                have h7 := (Q7.out.block r0 (blk_lt Q6.out.1)).trans Q6.out.1
                exact (Q8.out.2.2.far r0 (blk_lt h7) (by omega) (by omega)).trans h7
              have d1 : w8.heap[r0 + 1]? = some (.cells #[.bool false] 4 (0, 0)) := by
                have h7 := (Q7.out.block (r0 + 1) (blk_lt Q6.out.2.1)).trans Q6.out.2.1
                exact (Q8.out.2.2.far (r0 + 1) (blk_lt h7) (by omega) (by omega)).trans h7
              have hb7 : Below w.heap.size w w7 := Q6.out.2.2.2.trans (Q7.out.mono Q6.out.2.2.2.size)
              have hb8 : Below w.heap.size w w8 := hb7.trans (Q8.out.2.2.below (B := w.heap.size) hb7.size (by have := Q2.out; omega) (by have := Q2.out; omega))
              have g1 := (blk_cell d0 0).trans rfl
              have g2 := (blk_cell d1 0).trans rfl
              have g3 := blk_frozen d0 0
              have g4 := blk_frozen d1 0
              have Q9 := Aside0.mk (show Below w.heap.size w w8 ∧ w.heap.size ≤ r0 ∧ r0 + 2 ≤ gO from ⟨hb8, by have := Q2.out; omega, hgo⟩)
              clear d0 d1 hb7 hb8 c0 c7 Q6 Q7 QY H2 QCN QA QO QG hgo
              go_wp2
              refine leaves_cons (f := 13) (args := #[.pointer (some ⟨r0, 0, none⟩), .pointer (some ⟨r0 + 1, 0, none⟩)]) (by simp) (by simp [go_sem]) ?_
              refine (idle ⟨r0, 0, none⟩ ⟨r0 + 1, 0, none⟩ _).mono ?_
              rintro e u' w'' ⟨rfl, rfl, rfl⟩
              have q1 : ((w8.setCell ⟨r0, 0, none⟩ (.slice A0 L c')).setCell ⟨r0 + 1, 0, none⟩ (.bool true)).cell? ⟨r0, 0, none⟩ = some (.slice A0 L c') := by simp [go_sem, g1]
              have q2 : ((w8.setCell ⟨r0, 0, none⟩ (.slice A0 L c')).setCell ⟨r0 + 1, 0, none⟩ (.bool true)).cell? ⟨r0 + 1, 0, none⟩ = some (.bool true) := by simp [go_sem, g2]
              refine ⟨_, by simp [results, Tryd.results5, go_sem, q1, q2]; rfl, ?_⟩
              have hK := Q8.out.2.1
              rw [Qwgx.out, Qwgy.out] at hK
              have hgr := Q9.out.2.2
              have e8 : ((w8.setCell ⟨r0, 0, none⟩ (.slice A0 L c')).setCell ⟨r0 + 1, 0, none⟩ (.bool true)).heap[gO]? = some (.cells us'.toArray 5 (0, 0)) := by
                rw [Below.heap_setCell _ _ _ _ (by simp; omega), Below.heap_setCell _ _ _ _ (by simp; omega)]
                exact Q8.out.1
              refine ⟨A0, c', bytesU us' L, rfl, QU.out, bytesU_len _ _, bytesU_ok hK.1, ?_, fun k hk => ?_, (Q9.out.1.setCell Q9.out.2.1 _).setCell (by show w.heap.size ≤ r0 + 1; have := Q9.out; omega) _⟩
              · by_cases hL0 : 0 < L
                · generalize (w8.setCell ⟨r0, 0, none⟩ (.slice A0 L c')).setCell ⟨r0 + 1, 0, none⟩ (.bool true) = w9 at e8 ⊢
                  rw [QOO.out.1 hL0]
                  exact bytesU_C e8 hK.1 (by have := Qh.out; omega)
                · exact ⟨rfl, by rw [bytesU_len]; have := Qh.out; omega, fun h => absurd h (by rw [bytesU_len]; exact hL0)⟩
              · have hfn := Qh.out.2.2.2
                rw [bytesU_bit us' (by omega), hK.2.2 k hk, ← bytesU_bit us0 (show k < 8 * L by omega), QOO.out.2.2.1]
          · have hi : (i : Int) < (nr : Int) := by have := HA.out; omega
            have hin : i < nr := by have := HA.out; omega
            obtain ⟨k1, rfl⟩ : ∃ k1, gk = k1 + 1 := ⟨gk - 1, by omega⟩
            have hBr : Below w.heap.size w wr := Q2.out.2.2.2.1.trans ((QX.out.2.2.trans (HF.out.below (B := W2.heap.size) QX.out.2.2.size H2.out.2.2.1 H2.out.2.2.1)).mono Q2.out.2.2.2.1.size)
            have hix : i < ys.length := by have := Qn.out; omega
            obtain ⟨ad, A0', c0', e, c1, hc1, hC1⟩ := QT.at_L5 (Kd.C_below QA.out.2 hBr) (i : Int) (by omega) (by omega)
            subst e
            rw [Int.toNat_natCast] at c1
            have hmem : QT.rd_L5 ys (i : Int) ∈ ys := by
              unfold QT.rd_L5
              rw [Int.toNat_natCast, List.getD_eq_getElem?_getD, List.getElem?_eq_getElem hix]
              exact List.getElem_mem hix
            obtain ⟨hl2, hr2⟩ := QP.out.2 _ hmem
            have hzi := Qggy.out i hin
            obtain ⟨r, hr⟩ : ∃ r, r = QT.rd_L5 ys (i : Int) := ⟨_, rfl⟩
            rw [← hr] at c1 hC1 hc1 hl2 hr2 hzi
            rw [hl2] at c1 hC1 hc1
            obtain ⟨ad1, e1, d0⟩ := Kd.at_int hC1 0 (by omega) (by omega)
            subst e1
            obtain ⟨ad2, e2, d1⟩ := Kd.at_int hC1 1 (by omega) (by omega)
            cases e2
            rw [show (0 : Int).toNat = 0 from rfl] at d0
            rw [show (1 : Int).toNat = 1 from rfl] at d1
            have hlo := rd_in hr2 0
            have hhi := rd_in hr2 1
            obtain ⟨lo, hlo0⟩ : ∃ lo, lo = rd r 0 := ⟨_, rfl⟩
            obtain ⟨hi', hhi0⟩ : ∃ hi', hi' = rd r 1 := ⟨_, rfl⟩
            rw [← hlo0] at d0 hlo hzi
            rw [← hhi0] at d1 hhi hzi
            have hww : wrap64 hi' = IntKind.i64.wrap hi' := by simp [IntKind.wrap_i64, wrap64]
            clear hww
            have hle : i < zsgy.length := by rw [Qegy.out]; exact hin
            have QNw := Aside0.mk (fun w => QT.decimal128_New.calls (IntKind.i64.wrap hi') lo lo (IntKind.i64.wrap hi') w rfl)
            have QPp := Aside0.mk (fun (w5 : World) (hg : w5.heap[gy]? = some (.cells (rowB zsgy zsgy.length i).toArray 5 (0, 0))) => by
              have hp := pa_is gy my my i 5 (rowB zsgy zsgy.length i) (lo, IntKind.i64.wrap hi') hlo w5 hg (Nat.le_refl _) (by have := Qmm.out; omega) (by rw [rowB_len (Nat.le_of_lt hle), Qegy.out]; have := Qmm.out; omega) (by omega) (rowB_byte (Nat.le_of_lt hle) (by omega)) (rowB_byte (Nat.le_of_lt hle) (by omega))
              rw [rowB_put hle hzi] at hp
              exact hp)
            have hc2 : (0 : Int) < 2 := by decide
            have d0' : wr.drew.cell? ad1 = some (.int .u64 lo) := d0
            have d1' : wr.drew.cell? ⟨ad1.block, ad1.off + 1, none⟩ = some (.int .u64 hi') := d1
            clear hzi hle hBr h0 hr hlo0 hhi0 hhi hlo hr2 hC1 hc1 hmem hl2 hix
            go_upto_region 12 with (fail)
            refine wp_noP ?_
            go_region_with (first | (go_at_call 16; go_must (refine (QNw.out _).mono ?_; rintro e w5 ⟨rfl, hb⟩; have Q5 := Aside0.mk (show Below wr.heap.size wr w5 from ⟨hb.os, hb.tape, hb.output, hb.size, hb.block⟩); clear hb)) | (go_at_call 15; go_must (refine (QPp.out _ ((Q5.out.block gy (blk_lt HG.out)).trans HG.out)).mono ?_; rintro e w6 ⟨rfl, h1, h2⟩; have Q6 := Aside0.mk (And.intro h1 (HF.out.trans ((Fr.of_below Q5.out).trans h2))); clear h1 h2)))
            all_goals refine noP_normal ?_
            all_goals go_wp2
            all_goals
              go_roundg k1
              case rel => exact ⟨i + 1, rfl, ⟨by have := HA.out; omega⟩, ⟨Q6.out.1⟩, ⟨Q6.out.2⟩⟩
              · omega
      · have hi : (i : Int) < (nl : Int) := by have := HA.out; omega
        have hin : i < nl := by have := HA.out; omega
        obtain ⟨k1, rfl⟩ : ∃ k1, gk = k1 + 1 := ⟨gk - 1, by omega⟩
        have hBr : Below w.heap.size w wr := Q2.out.2.2.2.1.trans ((H2.out.2.2.2.2.2.trans (HF.out.below (B := W2.heap.size) (Nat.le_trans H2.out.2.2.2.2.2.size (Nat.le_refl _)) H2.out.2.1 H2.out.2.1)).mono Q2.out.2.2.2.1.size)
        have hix : i < xs.length := by have := Qn.out; omega
        obtain ⟨ad, A0', c0', e, c1, hc1, hC1⟩ := QT.at_L5 (Kd.C_below QA.out.1 hBr) (i : Int) (by omega) (by omega)
        subst e
        rw [Int.toNat_natCast] at c1
        have hmem : QT.rd_L5 xs (i : Int) ∈ xs := by
          unfold QT.rd_L5
          rw [Int.toNat_natCast, List.getD_eq_getElem?_getD, List.getElem?_eq_getElem hix]
          exact List.getElem_mem hix
        obtain ⟨hl2, hr2⟩ := QP.out.1 _ hmem
        have hzi := Qggx.out i hin
        obtain ⟨r, hr⟩ : ∃ r, r = QT.rd_L5 xs (i : Int) := ⟨_, rfl⟩
        rw [← hr] at c1 hC1 hc1 hl2 hr2 hzi
        rw [hl2] at c1 hC1 hc1
        obtain ⟨ad1, e1, d0⟩ := Kd.at_int hC1 0 (by omega) (by omega)
        subst e1
        obtain ⟨ad2, e2, d1⟩ := Kd.at_int hC1 1 (by omega) (by omega)
        cases e2
        rw [show (0 : Int).toNat = 0 from rfl] at d0
        rw [show (1 : Int).toNat = 1 from rfl] at d1
        have hlo := rd_in hr2 0
        have hhi := rd_in hr2 1
        obtain ⟨lo, hlo0⟩ : ∃ lo, lo = rd r 0 := ⟨_, rfl⟩
        obtain ⟨hi', hhi0⟩ : ∃ hi', hi' = rd r 1 := ⟨_, rfl⟩
        rw [← hlo0] at d0 hlo hzi
        rw [← hhi0] at d1 hhi hzi
        have hww : wrap64 hi' = IntKind.i64.wrap hi' := by simp [IntKind.wrap_i64, wrap64]
        clear hww
        have hle : i < zsgx.length := by rw [Qegx.out]; exact hin
        have QNw := Aside0.mk (fun w => QT.decimal128_New.calls (IntKind.i64.wrap hi') lo lo (IntKind.i64.wrap hi') w rfl)
        have QPp := Aside0.mk (fun (w5 : World) (hg : w5.heap[gx]? = some (.cells (rowB zsgx zsgx.length i).toArray 5 (0, 0))) => by
          have hp := pa_is gx mx mx i 5 (rowB zsgx zsgx.length i) (lo, IntKind.i64.wrap hi') hlo w5 hg (Nat.le_refl _) (by have := Qmm.out; omega) (by rw [rowB_len (Nat.le_of_lt hle), Qegx.out]; have := Qmm.out; omega) (by omega) (rowB_byte (Nat.le_of_lt hle) (by omega)) (rowB_byte (Nat.le_of_lt hle) (by omega))
          rw [rowB_put hle hzi] at hp
          exact hp)
        have hc2 : (0 : Int) < 2 := by decide
        have d0' : wr.drew.cell? ad1 = some (.int .u64 lo) := d0
        have d1' : wr.drew.cell? ⟨ad1.block, ad1.off + 1, none⟩ = some (.int .u64 hi') := d1
        clear hzi hle hBr h0 hr hlo0 hhi0 hhi hlo hr2 hC1 hc1 hmem hl2 hix
        go_upto_region 7 with (fail)
        refine wp_noP ?_
        go_region_with (first | (go_at_call 16; go_must (refine (QNw.out _).mono ?_; rintro e w5 ⟨rfl, hb⟩; have Q5 := Aside0.mk (show Below wr.heap.size wr w5 from ⟨hb.os, hb.tape, hb.output, hb.size, hb.block⟩); clear hb)) | (go_at_call 15; go_must (refine (QPp.out _ ((Q5.out.block gx (blk_lt HG.out)).trans HG.out)).mono ?_; rintro e w6 ⟨rfl, h1, h2⟩; have Q6 := Aside0.mk (And.intro h1 (HF.out.trans ((Fr.of_below Q5.out).trans h2))); clear h1 h2)))
        all_goals refine noP_normal ?_
        all_goals go_wp2
        all_goals
          go_roundg k1
          case rel => exact ⟨i + 1, rfl, ⟨by have := HA.out; omega⟩, ⟨Q6.out.1⟩, ⟨Q6.out.2⟩⟩
          · omega
end Go.Proofs.YtlnbkmkdapeicaaDoor.QR
