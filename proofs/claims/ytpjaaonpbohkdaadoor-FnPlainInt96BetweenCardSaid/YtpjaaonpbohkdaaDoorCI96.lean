/- As many numbers of 96 bits as bits are set, with nulls between them: apart. -/
import Derived.Test.YtpjaaonpbohkdaaDoorBI96
import Derived.Deep.DeepMust
import Derived.Test.YtpjaaonpbohkdaaDoorZA8
import Derived.BigRegion
namespace Go.Proofs.YtpjaaonpbohkdaaDoor.QR
open Go.RowKit Go.Proofs.YtpjaaonpbohkdaaDoorW.PrintWords Go.Proofs.YtpjaaonpbohkdaaDoorW.PrintLast Go.Proofs.YtpjaaonpbohkdaaDoorW.PrintMore
set_option linter.unusedVariables false
set_option linter.unusedSimpArgs false
namespace I96
theorem cpdz_is (A : Option Addr) (l : List Int) (c : Nat) (w : World) (hC : Cu w A l) (hc : l.length ≤ c) (hl : l.length ≤ 1000000) : Calls Tryd.prog 22 #[.slice A l.length c] w fun e w' => ∃ A' c', e = .returned (.slice A' l.length c') ∧ l.length ≤ c' ∧ Cu w' A' l ∧ Nz w' A' ∧ Below w.heap.size w w' := by
  have hf : QT.impl_copied.f l = some l := by
    unfold QT.impl_copied.f
    simp only [Option.bind_some, List.nil_append, List.length_nil]
    rw [if_pos (by omega)]
  refine (QT.impl_copied.calls A c l l w hC hc hf).mono ?_
  rintro e w' ⟨v, rfl, hR, hB⟩
  obtain ⟨A', c', rfl, hl', hr⟩ := Kd.R_reads hR
  refine ⟨A', c', rfl, hl', hr, ?_, hB⟩
  intro ad hA cs fz he
  obtain ⟨_, inner, ho, _⟩ := hR
  obtain ⟨cells, h5⟩ := own_typed ho ad.block (by rw [hA]; rfl)
  rw [h5] at he
  injection he with he
  injection he with _ ht _
  cases ht
theorem range_at {W : World} {g : Nat} {us : List (List Int)} (hg : W.heap[g]? = some (.cells (flatC us).toArray 78 (0, 0))) (ha : all12 us) {j : Nat} {u : List Int} (hu : us[j]? = some u) : W.rangeAt g (12 * j) (flatC [u]) := by
  intro k v hv
  rw [flatC_one, List.getElem?_map] at hv
  cases hx : u[k]? with
  | none => rw [hx] at hv; cases hv
  | some x =>
    rw [hx] at hv
    cases hv
    exact (blk_cell hg _).trans (by simpa using flatC_at ha hu hx)
theorem there_new {w : World} : (w.alloc (.cells (flatC [zero]).toArray 78)).there w.heap.size 0 12 := fun j hj => ⟨by rw [Nat.zero_add, blk_cell (blk_new w _) j, List.getElem?_toArray, List.getElem?_eq_getElem (by rw [flatC_one, List.length_map, zero_len]; exact hj)]; rfl, blk_frozen (blk_new w _) _⟩
/-- A new variable of 96 bits is written. -/
theorem put_new (w : World) {u : List Int} (hu : u.length = 12) : ((w.alloc (.cells (flatC [zero]).toArray 78)).setCells w.heap.size 0 (flatC [u])).heap[w.heap.size]? = some (.cells (flatC [u]).toArray 78 (0, 0)) ∧ Below w.heap.size w ((w.alloc (.cells (flatC [zero]).toArray 78)).setCells w.heap.size 0 (flatC [u])) := by
  have hl : (flatC [u]).length = 12 := by rw [flatC_one, List.length_map, hu]
  have hz : (flatC [zero]).length = 12 := by rw [flatC_one, List.length_map, zero_len]
  have hV := sets_below (Vw.start (blk_new w (.cells (flatC [zero]).toArray 78))) 0 (flatC [u]) (by omega)
  rw [show (flatC [zero]).take 0 ++ flatC [u] ++ (flatC [zero]).drop (0 + (flatC [u]).length) = flatC [u] by rw [List.take_zero, List.nil_append, List.drop_eq_nil_of_le (by omega), List.append_nil]] at hV
  exact ⟨hV.now, (b2 w _).trans ((hV.below (B := w.heap.size) (Nat.le_refl _)).mono (Nat.le_refl _))⟩
set_option maxHeartbeats 8000000 in
set_option maxRecDepth 100000 in
theorem apt_is (g n nv : Nat) (tl : Int) (D : List Int) (xs : List TV) (B : Option Addr) (bl : List Int) (cb f : Nat) (w : World) (hD : Dc w g nv tl D) (hg0 : 0 < g)
    (hnv : n ≤ nv) (hnv2 : nv ≤ 1000000) (hDl : 12 * rk (bt1 bl) f n ≤ D.length) (hDl2 : D.length ≤ 1000000)
    (hC : Cu w B bl) (hcb : bl.length ≤ cb) (hbo : bytesOk bl = true) (hll : bl.length ≤ 1000000) (hfl : f + n ≤ 8 * bl.length) (hn : n ≤ 500) (hf : f ≤ 1000) (hrk : rk (bt1 bl) f n ≤ xs.length) (hx0 : ∀ j x, xs[j]? = some x → x = (false, 0, strOfNums (chunk D j))) (hM : Bm w) (hn0 : 0 < n) :
    Calls Tryd.prog 38 #[.int .i64 (n : Int), .slice B bl.length cb, .int .i64 (f : Int), .func (.func 39) #[.pointer (some ⟨g, 0, none⟩)] #[], .func (.func 40) #[] #[]] w fun e w' => ∃ v0 A c, e = .returned (.tuple #[v0, .bool true]) ∧ v0 = .slice A n c ∧ n ≤ c ∧ Kd.C kV w' A n (wantL (bt1 bl) f xs n) ∧ (∀ ad, A = some ad → w.heap.size ≤ ad.block) ∧ Fr w w' g g := by
  have hmk := make_is n (by omega)
  have hni : (n : Int) ≤ 500 := by omega
  have hfi : (f : Int) ≤ 1000 := by omega
  have QD := Aside0.mk hD
  have Qdec := Aside0.mk (show n ≤ nv ∧ nv ≤ 1000000 ∧ 12 * rk (bt1 bl) f n ≤ D.length ∧ D.length ≤ 1000000 from ⟨hnv, hnv2, hDl, hDl2⟩)
  have QC := Aside0.mk hC
  have Qh := Aside0.mk (show 0 < g ∧ bl.length ≤ cb ∧ bytesOk bl = true ∧ bl.length ≤ 1000000 ∧ f + n ≤ 8 * bl.length ∧ n ≤ 500 ∧ rk (bt1 bl) f n ≤ xs.length ∧ 0 < bl.length from ⟨hg0, hcb, hbo, hll, hfl, hn, hrk, by omega⟩)
  have Qx := Aside0.mk hx0
  have QM := Aside0.mk hM
  clear hD hnv hnv2 hDl hDl2 hC hcb hbo hll hfl hn hf hrk hx0 hM hg0 hn0
  go_enter Tryd.func38, Tryd.ntmps38
  go_upto_region 2 with (fail)
  obtain ⟨W1, hW1⟩ : ∃ W1, W1 = w.alloc (.cells (flatC (List.replicate n zero)).toArray 78) := ⟨_, rfl⟩
  have HB1 := Aside0.mk (show W1.heap[w.heap.size]? = some (.cells (flatC (List.replicate n zero)).toArray 78 (0, 0)) by rw [hW1]; exact blk_new w _)
  have QB1 := Aside0.mk (show Below w.heap.size w W1 by rw [hW1]; exact b2 w _)
  rw [← hW1]
  clear hW1 hmk
  go_wp2_with fail
  have QBi := Aside0.mk (show ∀ (k : Nat) (w' : World), k < f + n → Below W1.heap.size W1 w' → Calls Tryd.prog 46 #[.slice B bl.length cb, .int .i64 (k : Int)] w' fun e w'' => e = .returned (.bool (bt1 bl k)) ∧ Below w'.heap.size w' w'' from fun k w' hk hb => by
    have hb2 := QB1.out.trans (hb.mono QB1.out.size)
    exact bis_is B bl cb k w' (Kd.C_below QC.out hb2) (by have := Qh.out; omega) Qh.out.2.2.2.1 Qh.out.2.2.1 (QM.out.below hb2 QM.out.1))
  go_loopg [13, 22] n (fun kq v13 v22 w' => ∃ i : Nat, v13 = .int .i64 ((i : Int) - ((rk (bt1 bl) f i : Nat) : Int)) ∧ v22 = .int .i64 (i : Int) ∧ Aside0 (i + kq = n) ∧ Aside0 (Below W1.heap.size W1 w'))
  case atStart => exact ⟨0, rfl, rfl, ⟨by omega⟩, ⟨Below.refl _ _⟩⟩
  case round =>
    obtain ⟨i, rfl, rfl, HA, HB⟩ := hrel
    have hrl := rk_le (bt1 bl) f i
    obtain ⟨r, hr⟩ : ∃ r, r = rk (bt1 bl) f i := ⟨_, rfl⟩
    rw [← hr] at hrl ⊢
    have Qr := Aside0.mk (And.intro hr hrl)
    rcases Nat.eq_zero_or_pos gk with hk0 | hk0
    · have hi : ((i : Int) < (n : Int)) = False := by have := HA.out; simp; omega
      clear hr hrl
      obtain rfl : i = n := by have := HA.out; omega
      have hwr := QB1.out.trans (HB.out.mono QB1.out.size)
      have hbk := (HB.out.block w.heap.size (blk_lt HB1.out)).trans HB1.out
      have QCP := Aside0.mk (cpdz_is B bl cb wr (Kd.C_below QC.out hwr) Qh.out.2.1 Qh.out.2.2.2.1)
      have Qwr := Aside0.mk (And.intro hwr hbk)
      clear hwr hbk hi hk0
      have hrr : (r : Int) = ((rk (bt1 bl) f i : Nat) : Int) := by rw [Qr.out.1]
      rw [hrr]
      clear hrr
      go_wp2_with (first | (go_at_call 22; refine QCP.out.mono ?_; rintro e w3 ⟨B3, c3, rfl, hc3, hC3, hz3, hB3⟩; have K3 := Aside0.mk (And.intro hc3 (And.intro hC3 (And.intro hB3 hz3))); clear hc3 hC3 hB3 hz3) | (go_at_call 39; fail))
      have hwB := Qwr.out.1.trans (K3.out.2.2.1.mono Qwr.out.1.size)
      have hb3 := (K3.out.2.2.1.block w.heap.size (blk_lt Qwr.out.2)).trans Qwr.out.2
      obtain ⟨DA, dc, hd1, hd2, hd3⟩ := QD.out
      have hgw : g < w.heap.size := blk_lt hd1
      have hD3 : Dc w3 g nv tl D := ⟨DA, dc, (hwB.block g hgw).trans hd1, hd2, Kd.C_below hd3 hwB⟩
      have hne : g ≠ w.heap.size := by omega
      have ha0 : all12 (List.replicate i zero) := zeros_12 i
      have HX := dsp_is g w.heap.size i i nv tl D (List.replicate i zero) B3 bl c3 f w3 hb3 ha0 hne hD3 (by rw [List.length_replicate]; exact Nat.le_refl _) (Nat.le_refl _) (by rw [List.length_replicate]; exact Nat.le_refl _) Qdec.out.1 Qdec.out.2.1 Qdec.out.2.2.1 Qdec.out.2.2.2 K3.out.2.1 K3.out.2.2.2 Qh.out.2.2.2.2.2.2.2 K3.out.1 Qh.out.2.2.1 Qh.out.2.2.2.1 Qh.out.2.2.2.2.1 (by omega)
      refine HX.mono ?_
      rintro e w4 ⟨rfl, us, k1, k12, k2, k4, k5⟩
      rw [List.length_replicate] at k2
      have hC4 : Cu w4 B bl := Cu.frz k5 (Kd.C_below QC.out hwB) (fun ad hA hl => by have := Cu.lt QC.out hl ad hA; omega) hD3.choose_spec.choose_spec.1 (by intro u hu x e; subst e; simp at hu)
      have hM4 : Bm w4 := by
        have hM3 := QM.out.below hwB QM.out.1
        have hw0 := QM.out.1
        refine ⟨Nat.lt_of_lt_of_le hM3.1 k5.size, fun k hk => ?_⟩
        have h := hM3.2 k hk
        unfold World.cell? at h ⊢
        rw [show (⟨0, k, none⟩ : Addr).block = 0 from rfl] at h ⊢
        rw [k5.far 0 hM3.1 (by omega) (by have := Qh.out.1; omega)]
        exact h
      have hF4 : Fr w w4 g g := by
        refine ⟨k5.os.trans hwB.os, k5.tape.trans hwB.tape, k5.output.trans hwB.output, Nat.le_trans hwB.size k5.size, fun k h1 h2 _ => ?_⟩
        exact (k5.far k (Nat.lt_of_lt_of_le h1 hwB.size) (by omega) h2).trans (hwB.block k h1)
      have K4 := Aside0.mk (show w4.heap[w.heap.size]? = some (.cells (flatC us).toArray 78 (0, 0)) ∧ us.length = i ∧ all12 us ∧ Sp us D (bt1 bl) f i ∧ Fr w w4 g g ∧ Cu w4 B bl ∧ Bm w4 from ⟨k1, k2, k12, k4, hF4, hC4, hM4⟩)
      clear HX k1 k2 k12 k4 k5 hC4 hM4 hF4 hwB hb3 hd1 hd2 hd3 hgw hD3 hne ha0 QD Qdec K3 Qwr QCP QBi HB QB1 HB1
      go_wp2_with fail
      have QBj := Aside0.mk (show ∀ (k : Nat) (w' : World), k < f + i → Below w4.heap.size w4 w' → Calls Tryd.prog 46 #[.slice B bl.length cb, .int .i64 (k : Int)] w' fun e w'' => e = .returned (.bool (bt1 bl k)) ∧ Below w'.heap.size w' w'' from fun k w' hk hb =>
        bis_is B bl cb k w' (Kd.C_below K4.out.2.2.2.2.2.1 hb) (by have := Qh.out; omega) Qh.out.2.2.2.1 Qh.out.2.2.1 (K4.out.2.2.2.2.2.2.below hb K4.out.2.2.2.2.2.2.1))
      go_loopg [10, 53] i (fun kq v10 v53 w' => ∃ j : Nat, v53 = .int .i64 (j : Int) ∧ Aside0 (j + kq = i) ∧ Aside0 (Kd.R kV 33 w' w4.heap.size (fun _ => True) v10 (wantL (bt1 bl) f xs j)) ∧ Aside0 (Below w4.heap.size w4 w'))
      case atStart => exact ⟨0, rfl, ⟨by omega⟩, ⟨Kd.R_nil _ _ _ _ _⟩, ⟨Below.refl _ _⟩⟩
      case round =>
        obtain ⟨j, rfl, HA2, HR, HB⟩ := hrel
        obtain ⟨A6, c6, rfl⟩ := Kd.R_slice HR.out
        rcases Nat.eq_zero_or_pos gk with hk0 | hk0
        · have hi : ((j : Int) < (i : Int)) = False := by have := HA2.out; simp; omega
          go_wp2
          obtain rfl : j = i := by have := HA2.out; omega
          have hr := HR.out
          obtain ⟨A9, c9, e9, l9, r9⟩ := Kd.R_reads hr
          rw [wantL_len] at e9 l9 r9
          refine bodyPost_ret (v := .tuple #[.slice A6 (wantL (bt1 bl) f xs j).length c6, .bool true]) (by simp [results, Tryd.results38, go_sem]) rfl ?_
          rw [wantL_len]
          cases e9
          have hF := K4.out.2.2.2.2.1
          exact ⟨_, A6, c6, rfl, rfl, l9, r9, fun ad hA => Nat.le_trans hF.size (Kd.R_base HR.out ad.block (by rw [hA]; rfl)), ⟨HB.out.os.trans hF.os, HB.out.tape.trans hF.tape, HB.out.output.trans hF.output, Nat.le_trans hF.size HB.out.size, fun k h1 h2 h3 => (HB.out.block k (Nat.lt_of_lt_of_le h1 hF.size)).trans (hF.far k h1 h2 h3)⟩⟩
        · have hi : (j : Int) < (i : Int) := by have := HA2.out; omega
          have hj : j < i := by omega
          have hjj : (j : Int) ≤ 500 := by omega
          have QJ := Aside0.mk hj
          have hju : j < us.length := by rw [K4.out.2.1]; exact hj
          have hbkw : w.heap.size < w4.heap.size := blk_lt K4.out.1
          have Qb := Aside0.mk (QBj.out (f + j))
          rw [Int.natCast_add] at Qb
          obtain ⟨bt, hbt⟩ : ∃ bt, bt = bt1 bl (f + j) := ⟨_, rfl⟩
          rw [← hbt] at Qb
          have Qbt := Aside0.mk hbt
          have Quj := Aside0.mk (show us[j]? = some (us[j]'hju) from List.getElem?_eq_getElem hju)
          generalize us[j]'hju = u at Quj
          have hu12 : u.length = 12 := K4.out.2.2.1 u (List.mem_of_getElem? Quj.out)
          have hrg := range_at ((HB.out.block _ hbkw).trans K4.out.1) K4.out.2.2.1 Quj.out
          have hul : (flatC [u]).length = 12 := by rw [flatC_one, List.length_map, hu12]
          have Qu := Aside0.mk (And.intro hu12 (And.intro hrg hul))
          obtain ⟨C, hC⟩ : ∃ C, C = flatC [u] := ⟨_, rfl⟩
          have QC5 := Aside0.mk hC
          have Qsz := Aside0.mk (show C.toArray.size = 12 by rw [List.size_toArray, hC, hul])
          obtain ⟨k1, rfl⟩ : ∃ k1, gk = k1 + 1 := ⟨gk - 1, by omega⟩
          clear hk0 hbt hbkw hu12 hrg hul hC
          go_upto_region 14 with (first | ((with_reducible refine gate_op (x := .load 78 (.tmp 56)) rfl ?_); refine wpList_load_mid rfl 78 (.tmp 56) rfl w.heap.size (12 * j) (by first | rfl | (show Value.pointer _ = _; simp [Nat.mul_comm])) C (.array 12 5) (by rw [QC5.out]; exact Qu.out.2.1) (by kernel_rfl) rfl (by rw [QC5.out, Qu.out.2.2]; kernel_rfl) ?_) | ((with_reducible refine gate_op (x := .store 78 (.tmp 18) (.tmp 57)) rfl ?_); go_must (refine wpList_store_mid rfl 78 (.tmp 18) (.tmp 57) rfl wr.heap.size 0 C.toArray rfl rfl (by rw [Qsz.out]; exact there_new) (by rw [Qsz.out]; kernel_rfl) (all_oneCell_toArray (by rw [QC5.out]; exact flatC_one' _)) ?_)))
          try rw [show C.toArray.toList = C from rfl]
          have hpn := put_new wr Qu.out.1
          rw [← QC5.out] at hpn
          change (wr.alloc (.cells #[.int .u8 0, .int .u8 0, .int .u8 0, .int .u8 0, .int .u8 0, .int .u8 0, .int .u8 0, .int .u8 0, .int .u8 0, .int .u8 0, .int .u8 0, .int .u8 0] 78)).setCells wr.heap.size 0 C |>.heap[wr.heap.size]? = _ ∧ Below wr.heap.size wr ((wr.alloc (.cells #[.int .u8 0, .int .u8 0, .int .u8 0, .int .u8 0, .int .u8 0, .int .u8 0, .int .u8 0, .int .u8 0, .int .u8 0, .int .u8 0, .int .u8 0, .int .u8 0] 78)).setCells wr.heap.size 0 C) at hpn
          generalize (wr.alloc (.cells #[.int .u8 0, .int .u8 0, .int .u8 0, .int .u8 0, .int .u8 0, .int .u8 0, .int .u8 0, .int .u8 0, .int .u8 0, .int .u8 0, .int .u8 0, .int .u8 0] 78)).setCells wr.heap.size 0 C = w7 at hpn ⊢
          obtain ⟨h71, h72⟩ := hpn
          have Q7 := Aside0.mk (And.intro h71 (HB.out.trans (h72.mono HB.out.size)))
          have HR7 := Aside0.mk (Kd.R_below HR.out h72)
          obtain ⟨gx, hgx⟩ : ∃ gx, gx = wr.heap.size := ⟨_, rfl⟩
          rw [← hgx] at Q7 ⊢
          have Qb7 := Aside0.mk (Qb.out w7 (by omega) Q7.out.2)
          clear h71 h72 hgx Qb HR HB
          cases bt
          · go_wp2_with (first | (go_at_call 46; refine Qb7.out.mono ?_; rintro e w5 ⟨rfl, hb⟩; have QB5 := Aside0.mk (Q7.out.2.trans (hb.mono Q7.out.2.size)); have QR5 := Aside0.mk (Kd.R_below HR7.out hb); clear hb) | ((with_reducible refine gate_builtin (b := .append) (xs := #[.tmp 69, .tmp 71]) rfl ?_); at_builtin; refine Kd.R_append kV (w0 := w4) w4.heap.size rfl (.tmp 69) (.tmp 71) 22 33 (.agg #[.bool false, .int .u64 0, .string ⟨#[]⟩, .slice none 0 0]) 56 rfl Tryd.underlying22 info34 rfl (by decide) (by omega) _ (wantL (bt1 bl) f xs j) nV [.bool true, .int .u64 0, .string ⟨#[]⟩, .slice none 0 0] (fun _ => True) (fun _ => False) rfl rfl (kV_mkM _ _ _ nV none 0) (fun _ h => h.elim) (fun _ _ => trivial) QR5.out QB5.out QB5.out.size (by rw [wantL_len]; omega) ?_; intro v9 w9 hr9 hb9 _ _; have QR9 := Aside0.mk hr9; have QB9 := Aside0.mk hb9; clear hr9 hb9))
            go_roundg k1
            case rel =>
              refine ⟨j + 1, rfl, ⟨by have := HA2.out; omega⟩, ⟨?_⟩, QB9⟩
              simp only [wantL, ← Qbt.out]
              exact QR9.out
            · omega
          · obtain ⟨rj, hrj⟩ : ∃ rj, rj = rk (bt1 bl) f j := ⟨_, rfl⟩
            have hlt := rk_lt (bt1 bl) f j Qbt.out.symm i hj
            have hrx : rj < xs.length := by have := Qh.out; omega
            obtain ⟨x, hx⟩ : ∃ x, x = xs.getD rj zV := ⟨_, rfl⟩
            have hxe : xs[rj]? = some x := by rw [hx, List.getD_eq_getElem?_getD, List.getElem?_eq_getElem hrx]; rfl
            have hxx := Qx.out rj x hxe
            have hu := K4.out.2.2.2.1 j hj Qbt.out.symm
            rw [← hrj] at hu
            rw [Quj.out] at hu
            have hue := Option.some.inj hu
            rw [← hue] at hxx
            have hval := fun w' => val_is u Qu.out.1 w'
            rw [agg_cells, ← QC5.out] at hval
            have Qv := Aside0.mk hval
            obtain ⟨y, hy⟩ : ∃ y, y = strOfNums u := ⟨_, rfl⟩
            rw [← hy] at Qv hxx
            have Qw := Aside0.mk (show wantL (bt1 bl) f xs (j + 1) = wantL (bt1 bl) f xs j ++ [(false, 0, y)] by simp only [wantL]; rw [← Qbt.out, ← hrj, ← hx, hxx]; rfl)
            clear Quj hrj hlt hrx hx hxe hu hju hxx hue hval hy
            go_wp2_with (first | (go_at_call 46; refine Qb7.out.mono ?_; rintro e w5 ⟨rfl, hb⟩; have QB5 := Aside0.mk (Q7.out.2.trans (hb.mono Q7.out.2.size)); have QR5 := Aside0.mk (Kd.R_below HR7.out hb); have G5 := Aside0.mk ((hb.block gx (blk_lt Q7.out.1)).trans Q7.out.1); clear hb) | ((with_reducible refine gate_op (x := .load 78 (.tmp 18)) rfl ?_); go_must (refine wpList_load_mid rfl 78 (.tmp 18) rfl gx 0 rfl C (.array 12 5) (fun k v hv => (blk_cell G5.out (0 + k)).trans (by simpa using hv)) (by kernel_rfl) rfl (by rw [QC5.out, Qu.out.2.2]; kernel_rfl) ?_)) | (go_at_call 40; refine (Qv.out _).mono ?_; rintro e w6 ⟨rfl, hb⟩; have QB6 := Aside0.mk (QB5.out.trans (hb.mono QB5.out.size)); have QR6 := Aside0.mk (Kd.R_below QR5.out hb); clear hb) | ((with_reducible refine gate_builtin (b := .append) (xs := #[.tmp 63, .tmp 67]) rfl ?_); at_builtin; refine Kd.R_append kV (w0 := w4) w4.heap.size rfl (.tmp 63) (.tmp 67) 22 33 (.agg #[.bool false, .int .u64 0, .string ⟨#[]⟩, .slice none 0 0]) 56 rfl Tryd.underlying22 info34 rfl (by decide) (by omega) _ (wantL (bt1 bl) f xs j) (false, 0, y) [.bool false, .int .u64 0, .string y, .slice none 0 0] (fun _ => True) (fun _ => False) rfl rfl (kV_mkM _ _ _ (false, 0, y) none 0) (fun _ h => h.elim) (fun _ _ => trivial) QR6.out QB6.out QB6.out.size (by rw [wantL_len]; omega) ?_; intro v9 w9 hr9 hb9 _ _; have QR9 := Aside0.mk hr9; have QB9 := Aside0.mk hb9; clear hr9 hb9))
            go_roundg k1
            case rel =>
              refine ⟨j + 1, rfl, ⟨by have := HA2.out; omega⟩, ⟨?_⟩, QB9⟩
              rw [Qw.out]
              exact QR9.out
            · omega
    · have hi : (i : Int) < (n : Int) := by have := HA.out; omega
      have hii : (i : Int) ≤ 500 := by omega
      have hri : (r : Int) ≤ (i : Int) := by omega
      have QI := Aside0.mk (show i < n by omega)
      have Qb := Aside0.mk (QBi.out (f + i) wr (by omega) HB.out)
      rw [Int.natCast_add] at Qb
      obtain ⟨bt, hbt⟩ : ∃ bt, bt = bt1 bl (f + i) := ⟨_, rfl⟩
      rw [← hbt] at Qb
      have Qbt := Aside0.mk hbt
      obtain ⟨k1, rfl⟩ : ∃ k1, gk = k1 + 1 := ⟨gk - 1, by omega⟩
      have hsub : (i : Int) - (r : Int) + 1 = (i : Int) + 1 - (r : Int) := by omega
      clear hr hrl hk0 hbt
      cases bt
      · go_wp2_with (go_at_call 46; refine Qb.out.mono ?_; rintro e w2 ⟨rfl, hb⟩; have QB2 := Aside0.mk hb; clear hb)
        go_roundg k1
        case rel =>
          refine ⟨i + 1, ?_, rfl, ⟨by have := HA.out; omega⟩, ⟨HB.out.trans (QB2.out.mono HB.out.size)⟩⟩
          simp only [rk, ← Qbt.out, ← Qr.out.1]
          first | rfl | (congr 1; simp; omega)
        · omega
      · go_wp2_with (go_at_call 46; refine Qb.out.mono ?_; rintro e w2 ⟨rfl, hb⟩; have QB2 := Aside0.mk hb; clear hb)
        go_roundg k1
        case rel =>
          refine ⟨i + 1, ?_, rfl, ⟨by have := HA.out; omega⟩, ⟨HB.out.trans (QB2.out.mono HB.out.size)⟩⟩
          simp only [rk, ← Qbt.out, ← Qr.out.1]
          first | rfl | (congr 1; simp; omega)
        · omega
end I96
end Go.Proofs.YtpjaaonpbohkdaaDoor.QR
/- As many numbers of 96 bits as bits are set, with nulls between them: the thin package's function. -/
namespace Go.Proofs.YtpjaaonpbohkdaaDoor.QR
open Go.RowKit Go.Proofs.YtpjaaonpbohkdaaDoorW.PrintWords Go.Proofs.YtpjaaonpbohkdaaDoorW.PrintLast Go.Proofs.YtpjaaonpbohkdaaDoorW.PrintMore
set_option linter.unusedVariables false
set_option linter.unusedSimpArgs false
namespace I96
set_option maxHeartbeats 8000000 in
set_option maxRecDepth 100000 in
theorem ptb_is (A : Option Addr) (c n : Nat) (l : List Int) (xs : List TV) (B : Option Addr) (bl : List Int) (cb f : Nat) (w : World) (hC : Cu w A l) (hc : l.length ≤ c) (hl : l.length ≤ 1000000) (hn0 : 0 < n)
    (hCb : Cu w B bl) (hcb : bl.length ≤ cb) (hbo : bytesOk bl = true) (hll : bl.length ≤ 1000000) (hfl : f + n ≤ 8 * bl.length) (hn : n ≤ 500) (hf : f ≤ 1000) (hrk : rk (bt1 bl) f n ≤ xs.length) (hDl : 12 * rk (bt1 bl) f n ≤ l.length) (hx0 : ∀ j x, xs[j]? = some x → x = (false, 0, strOfNums (chunk l j))) (hM : Bm w) :
    Calls Tryd.prog 17 #[.slice A l.length c, .int .i64 (n : Int), .slice B bl.length cb, .int .i64 (f : Int)] w fun e w' => ∃ A' c', e = .returned (.tuple #[.slice A' n c', .bool true]) ∧ n ≤ c' ∧ Kd.C kV w' A' n (wantL (bt1 bl) f xs n) ∧ Below w.heap.size w w' := by
  have mixed : Tryd.prog.follows .mixedOrders = true := by kernel_rfl
  have QN := Aside0.mk (fun w => npd_is w)
  have QC := Aside0.mk hC
  have Qc := Aside0.mk (And.intro hc hl)
  have Qh := Aside0.mk (show 0 < n ∧ Cu w B bl ∧ bl.length ≤ cb ∧ bytesOk bl = true ∧ bl.length ≤ 1000000 ∧ f + n ≤ 8 * bl.length ∧ n ≤ 500 ∧ f ≤ 1000 ∧ rk (bt1 bl) f n ≤ xs.length ∧ 12 * rk (bt1 bl) f n ≤ l.length from ⟨hn0, hCb, hcb, hbo, hll, hfl, hn, hf, hrk, hDl⟩)
  have Qx := Aside0.mk (And.intro hx0 hM)
  obtain ⟨ll, hll0⟩ : ∃ ll, ll = l.length := ⟨_, rfl⟩
  rw [← hll0]
  have Qll := Aside0.mk hll0
  clear hC hc hl hn0 hCb hcb hbo hll hfl hn hf hrk hDl hx0 hM hll0
  go_enter_defers Tryd.func17, Tryd.ntmps17
  go_wp2_with (go_at_call 37; refine (QN.out _).mono ?_; rintro e w1 ⟨g, rfl, h1, h2, h3⟩; have H1 := Aside0.mk (And.intro h1 (And.intro h2 h3)); clear h1 h2 h3)
  obtain ⟨W0, hW0⟩ : ∃ W0, W0 = (w.alloc (.cells #[.slice none 0 0] 22)).alloc (.cells #[.bool false] 4) := ⟨_, rfl⟩
  rw [← hW0] at H1
  have hr0 : W0.heap[w.heap.size]? = some (.cells #[.slice none 0 0] 22 (0, 0)) := by rw [hW0]; exact blk_alloc (blk_new w _) _
  have hr1 : W0.heap[w.heap.size + 1]? = some (.cells #[.bool false] 4 (0, 0)) := by rw [hW0]; have := blk_new (w.alloc (.cells #[.slice none 0 0] 22)) (.cells #[.bool false] 4); rw [World.size_alloc] at this; exact this
  have hw0 : Below w.heap.size w W0 := by rw [hW0]; exact b3 w _ _
  have hs0 : W0.heap.size = w.heap.size + 2 := by rw [hW0, World.size_alloc, World.size_alloc]
  clear hW0
  have QW := Aside0.mk (show Below w.heap.size w w1 ∧ w1.heap[w.heap.size]? = some (.cells #[.slice none 0 0] 22 (0, 0)) ∧ w1.heap[w.heap.size + 1]? = some (.cells #[.bool false] 4 (0, 0)) ∧ w.heap.size + 2 ≤ g ∧ w1.heap[g]? = some (.cells #[.int .i64 0, .slice none 0 0, .int .i64 0, .nilIface] 79 (0, 0)) from
    ⟨hw0.trans (H1.out.2.2.mono hw0.size), (H1.out.2.2.block _ (blk_lt hr0)).trans hr0, (H1.out.2.2.block _ (blk_lt hr1)).trans hr1, by rw [← hs0]; exact H1.out.1, H1.out.2.1⟩)
  have QCD := Aside0.mk (cpd_is A l c w1.drew (show Cu w1.drew A l from Kd.C_below QC.out QW.out.1.drew) Qc.out.1 Qc.out.2)
  rw [← Qll.out] at QCD
  clear hr0 hr1 hw0 hs0 H1 QN
  refine wp_noP ?_
  first
  | go_region_with (first | (go_at_call 22; (refine QCD.out.mono ?_; rintro e w2 ⟨A2, c2, rfl, hc2, hC2, hB2⟩; have K2 := Aside0.mk (show ll ≤ c2 ∧ Cu w2 A2 l ∧ Below w1.heap.size w1 w2 from ⟨hc2, hC2, ⟨hB2.os, hB2.tape, hB2.output, hB2.size, hB2.block⟩⟩); clear hc2 hC2 hB2)) | (go_at_call 21; refine (setd_is g 0 n A2 ll c2 _ _ _ ((K2.out.2.2.block g (blk_lt QW.out.2.2.2.2)).trans QW.out.2.2.2.2)).mono ?_; rintro e w3 ⟨rfl, h1, h2⟩; have K3 := Aside0.mk (And.intro h1 h2); clear h1 h2))
  | fail
  refine noP_normal ?_
  go_wp2_with fail
  obtain ⟨hW1, hR0, hR1, hgg, hG⟩ := QW.out
  obtain ⟨hc2, hC2, hB2⟩ := K2.out
  obtain ⟨hG3, hF3⟩ := K3.out
  have hw2 := hW1.trans (hB2.mono hW1.size)
  have hG2 := (hB2.block g (blk_lt hG)).trans hG
  have hw0 : 0 < w.heap.size := Qx.out.2.1
  have nb2 : ∀ u ∈ (#[.int .i64 0, .slice none 0 0, .int .i64 0, .nilIface] : Array Value), ∀ x, u ≠ .int .u8 x := by intro u hu x e; subst e; simp at hu
  have hC3 : Cu w3 A2 l := hC2.fr hF3 hG2 nb2 hG2 nb2
  have hCb3 : Cu w3 B bl := Cu.fr hF3 (Kd.C_below Qh.out.2.1 hw2) hG2 nb2 hG2 nb2
  have hD3 : Dc w3 g n 0 l := ⟨A2, c2, by rw [← Qll.out]; exact hG3, by rw [← Qll.out]; exact hc2, hC3⟩
  have hM3 : Bm w3 := (Qx.out.2.below hw2 hw0).fr hF3 (by omega)
  have hAP := apt_is g n n 0 l xs B bl cb f w3 hD3 (by omega) (Nat.le_refl _) (by have := Qh.out; omega) Qh.out.2.2.2.2.2.2.2.2.2 Qc.out.2
    hCb3 Qh.out.2.2.1 Qh.out.2.2.2.1 Qh.out.2.2.2.2.1 Qh.out.2.2.2.2.2.1 Qh.out.2.2.2.2.2.2.1 Qh.out.2.2.2.2.2.2.2.1 Qh.out.2.2.2.2.2.2.2.2.1 Qx.out.1 hM3 Qh.out.1
  refine hAP.mono ?_
  rintro e w4 ⟨_, A', c', rfl, rfl, hc', hK, hba, hF4⟩
  have hr0 : w4.heap[w.heap.size]? = some (.cells #[.slice none 0 0] 22 (0, 0)) := by
    have h2 := (hB2.block _ (blk_lt hR0)).trans hR0
    have h3 := (hF3.far _ (blk_lt h2) (by omega) (by omega)).trans h2
    exact (hF4.far _ (blk_lt h3) (by omega) (by omega)).trans h3
  have hr1 : w4.heap[w.heap.size + 1]? = some (.cells #[.bool false] 4 (0, 0)) := by
    have h2 := (hB2.block _ (blk_lt hR1)).trans hR1
    have h3 := (hF3.far _ (blk_lt h2) (by omega) (by omega)).trans h2
    exact (hF4.far _ (blk_lt h3) (by omega) (by omega)).trans h3
  have hBe : Below w.heap.size w w4 := ⟨(hF4.os.trans hF3.os).trans hw2.os, (hF4.tape.trans hF3.tape).trans hw2.tape, (hF4.output.trans hF3.output).trans hw2.output, Nat.le_trans hw2.size (Nat.le_trans hF3.size hF4.size), fun k hk => ((hF4.far k (Nat.lt_of_lt_of_le hk (Nat.le_trans hw2.size hF3.size)) (by omega) (by omega)).trans (hF3.far k (Nat.lt_of_lt_of_le hk hw2.size) (by omega) (by omega))).trans (hw2.block k hk)⟩
  have hge : ∀ ad, A' = some ad → w.heap.size + 2 ≤ ad.block := fun ad hA => Nat.le_trans (by have := blk_lt hG3; omega) (hba ad hA)
  have g1 := (blk_cell hr0 0).trans rfl
  have g2 := (blk_cell hr1 0).trans rfl
  have g3 := blk_frozen hr0 0
  have g4 := blk_frozen hr1 0
  have K5 := Aside0.mk (And.intro hc' (And.intro hK (And.intro hBe hge)))
  clear hW1 hR0 hR1 hgg hG hc2 hC2 hB2 hG3 hF3 hw2 hG2 hw0 nb2 hC3 hCb3 hD3 hM3 hAP hc' hK hba hF4 hr0 hr1 hBe hge QW K2 K3 QCD QC Qx Qh Qc Qll
  go_wp2
  refine leaves_cons (f := 19) (args := #[.pointer (some ⟨w.heap.size, 0, none⟩), .pointer (some ⟨w.heap.size + 1, 0, none⟩)]) (by simp) (by simp [go_sem]) ?_
  refine (idle ⟨w.heap.size, 0, none⟩ ⟨w.heap.size + 1, 0, none⟩ _).mono ?_
  rintro e u' w'' ⟨rfl, rfl, rfl⟩
  have q1 : ((w4.setCell ⟨w.heap.size, 0, none⟩ (.slice A' n c')).setCell ⟨w.heap.size + 1, 0, none⟩ (.bool true)).cell? ⟨w.heap.size, 0, none⟩ = some (.slice A' n c') := by simp [go_sem, g1]
  have q2 : ((w4.setCell ⟨w.heap.size, 0, none⟩ (.slice A' n c')).setCell ⟨w.heap.size + 1, 0, none⟩ (.bool true)).cell? ⟨w.heap.size + 1, 0, none⟩ = some (.bool true) := by simp [go_sem, g2]
  refine ⟨_, by simp [results, Tryd.results17, go_sem, q1, q2]; rfl, ?_⟩
  refine ⟨A', c', rfl, K5.out.1, kVC_keep K5.out.2.1 (fun ad hA => ?_), (K5.out.2.2.1.setCell (Nat.le_refl _) _).setCell (by simp) _⟩
  have := K5.out.2.2.2 ad hA
  rw [Below.heap_setCell _ _ _ _ (by simp; omega), Below.heap_setCell _ _ _ _ (by simp; omega)]
end I96
end Go.Proofs.YtpjaaonpbohkdaaDoor.QR
