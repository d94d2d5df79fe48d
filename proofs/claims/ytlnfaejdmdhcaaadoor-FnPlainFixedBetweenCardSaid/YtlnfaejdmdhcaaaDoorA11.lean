/- As many texts as bits are set, with nulls between them: apart. -/
import Derived.Test.YtlnfaejdmdhcaaaDoorA10
namespace Go.Proofs.YtlnfaejdmdhcaaaDoor.QR
open Go.RowKit Go.Proofs.YtlnfaejdmdhcaaaDoorW.PrintWords Go.Proofs.YtlnfaejdmdhcaaaDoorW.PrintLast Go.Proofs.YtlnfaejdmdhcaaaDoorW.PrintMore
set_option linter.unusedVariables false
set_option linter.unusedSimpArgs false
def textsL (xs : List TV) : List (List Int) := xs.map fun x => bytesOf x.2.2
theorem info68 : (Tryd.prog.info? 68).map (fun i => (i.zero, i.size, i.bytes)) = some (some (.slice none 0 0), 1, 24) := by kernel_rfl
theorem cpd_is (A : Option Addr) (l : List Int) (c : Nat) (w : World) (hC : Cu w A l) (hc : l.length ≤ c) (hl : l.length ≤ 1000000) : Calls Tryd.prog 17 #[.slice A l.length c] w fun e w' => ∃ A' c', e = .returned (.slice A' l.length c') ∧ l.length ≤ c' ∧ Cu w' A' l ∧ Below w.heap.size w w' := by
  have hf : QT.impl_copied.f l = some l := by
    unfold QT.impl_copied.f
    simp only [Option.bind_some, List.nil_append, List.length_nil]
    rw [if_pos (by omega)]
  refine (QT.impl_copied.calls A c l l w hC hc hf).mono ?_
  rintro e w' ⟨v, rfl, hR, hB⟩
  obtain ⟨A', c', rfl, hl', hr⟩ := Kd.R_reads hR
  exact ⟨A', c', rfl, hl', hr, hB⟩
theorem str_bytes (s : ByteArray) : strOfNums (bytesOf s) = s := by
  obtain ⟨a⟩ := s
  simp only [strOfNums, bytesOf, List.map_map]
  congr 1
  rw [← Array.toList_inj]
  simp only [List.toList_toArray]
  conv => rhs; rw [← List.map_id a.toList]
  apply List.map_congr_left
  intro x _
  simp
theorem vtx_is (A : Option Addr) (c : Nat) (s : ByteArray) (w : World) (hC : Cu w A (bytesOf s)) (hc : (bytesOf s).length ≤ c) : Calls Tryd.prog 27 #[.slice A (bytesOf s).length c] w fun e w' => ∃ A3 c3, e = .returned (.agg #[.bool false, .int .u64 0, .string s, .slice A3 0 c3]) ∧ Below w.heap.size w w' := by
  refine (QT.impl_valueText.calls A c (bytesOf s) false 0 s [] w hC hc (by unfold QT.impl_valueText.f; rw [str_bytes])).mono ?_
  rintro e w' ⟨v, rfl, hR, hB⟩
  obtain ⟨A3, c3, rfl⟩ := Kd.R_slice hR
  exact ⟨A3, c3, rfl, hB⟩
set_option maxHeartbeats 8000000 in
set_option maxRecDepth 100000 in
theorem apt_is (g n nv : Nat) (tl : Int) (D : List Int) (xs : List TV) (B : Option Addr) (bl : List Int) (cb f : Nat) (w : World) (hD : Dc w g 66 nv tl D) (hg0 : 0 < g)
    (hdec : ∀ (bk : Nat) (vs : List Value) (w3 : World), w3.heap[bk]? = some (.cells vs.toArray 68 (0, 0)) → g ≠ bk → (∀ u ∈ vs, Sl u) → Dc w3 g 66 nv tl D → n ≤ vs.length → Calls Tryd.prog 36 #[.pointer (some ⟨g, 0, none⟩), .slice (some ⟨bk, 0, none⟩) (rk (bt1 bl) f n) n] w3 fun e w' => Dd w3 bk g 68 vs (textsL xs) (rk (bt1 bl) f n) e w')
    (hC : Cu w B bl) (hcb : bl.length ≤ cb) (hbo : bytesOk bl = true) (hll : bl.length ≤ 1000000) (hfl : f + n ≤ 8 * bl.length) (hn : n ≤ 500) (hf : f ≤ 1000) (hrk : rk (bt1 bl) f n ≤ xs.length) (hx0 : ∀ x ∈ xs, x.1 = false ∧ x.2.1 = 0) (hM : Bm w) :
    Calls Tryd.prog 25 #[.int .i64 (n : Int), .slice B bl.length cb, .int .i64 (f : Int), .func (.func 26) #[.pointer (some ⟨g, 0, none⟩)] #[], .func (.func 27) #[] #[]] w fun e w' => ∃ v0 A c, e = .returned (.tuple #[v0, .bool true]) ∧ v0 = .slice A n c ∧ n ≤ c ∧ Kd.C kV w' A n (wantL (bt1 bl) f xs n) ∧ (∀ ad, A = some ad → w.heap.size ≤ ad.block) ∧ Fr w w' g g := by
  have hmk := print_make_of (P := Tryd.prog) 84 68 (.slice none 0 0) 24 Tryd.underlying84 info68 rfl (by omega) n (by omega)
  have hni : (n : Int) ≤ 500 := by omega
  have hfi : (f : Int) ≤ 1000 := by omega
  have QD := Aside0.mk hD
  have Qdec := Aside0.mk hdec
  have QC := Aside0.mk hC
  have Qh := Aside0.mk (show 0 < g ∧ bl.length ≤ cb ∧ bytesOk bl = true ∧ bl.length ≤ 1000000 ∧ f + n ≤ 8 * bl.length ∧ n ≤ 500 ∧ rk (bt1 bl) f n ≤ xs.length from ⟨hg0, hcb, hbo, hll, hfl, hn, hrk⟩)
  have Qx := Aside0.mk hx0
  have QM := Aside0.mk hM
  clear hD hdec hC hcb hbo hll hfl hn hf hrk hx0 hM hg0
  go_enter Tryd.func25, Tryd.ntmps25
  go_upto_region 2 with (fail)
  obtain ⟨W1, hW1⟩ : ∃ W1, W1 = w.alloc (.cells (madeCells #[.slice none 0 0] n) 68) := ⟨_, rfl⟩
  have hmc : madeCells #[(.slice none 0 0 : Value)] n = (List.replicate n (.slice none 0 0 : Value)).toArray := by
    rw [← Array.toList_inj]
    apply List.ext_getElem
    · simp [madeCells]
    · intro i h1 h2
      simp [madeCells, Nat.mod_one]
  have HB1 := Aside0.mk (show W1.heap[w.heap.size]? = some (.cells (List.replicate n (.slice none 0 0 : Value)).toArray 68 (0, 0)) by rw [hW1, hmc]; exact blk_new w _)
  have QB1 := Aside0.mk (show Below w.heap.size w W1 by rw [hW1]; exact b2 w _)
  rw [← hW1]
  clear hW1 hmc hmk
  go_wp2_with fail
  have QBi := Aside0.mk (show ∀ (k : Nat) (w' : World), k < f + n → Below W1.heap.size W1 w' → Calls Tryd.prog 29 #[.slice B bl.length cb, .int .i64 (k : Int)] w' fun e w'' => e = .returned (.bool (bt1 bl k)) ∧ Below w'.heap.size w' w'' from fun k w' hk hb => by
    have hb2 := QB1.out.trans (hb.mono QB1.out.size)
    exact bis_is B bl cb k w' (Kd.C_below QC.out hb2) (by have := Qh.out; omega) Qh.out.2.2.2.1 Qh.out.2.2.1 (QM.out.below hb2 QM.out.1))
  go_loopg [13, 22] n (fun kq v13 v22 w' => ∃ i : Nat, v13 = .int .i64 ((i : Int) - ((rk (bt1 bl) f i : Nat) : Int)) ∧ v22 = .int .i64 (i : Int) ∧ Aside0 (i + kq = n) ∧ Aside0 (Below W1.heap.size W1 w'))
  case atStart => exact ⟨0, rfl, rfl, ⟨by omega⟩, ⟨Below.refl _ _⟩⟩
  case round =>
    obtain ⟨i, rfl, rfl, HA, HB⟩ := hrel
    have hrl := rk_le (bt1 bl) f i
    obtain ⟨r, hr⟩ : ∃ r, r = rk (bt1 bl) f i := ⟨_, rfl⟩
    rw [← hr] at hrl ⊢
    have Qr := Aside0.mk (And.intro hr hrl)
    rcases Nat.eq_zero_or_pos gk with hk0 | hk0
    · have hi : ((i : Int) < (n : Int)) = False := by have := HA.out; simp; omega
      clear hr hrl
      obtain rfl : i = n := by have := HA.out; omega
      have hwr := QB1.out.trans (HB.out.mono QB1.out.size)
      have hbk := (HB.out.block w.heap.size (blk_lt HB1.out)).trans HB1.out
      have QCP := Aside0.mk (cpd_is B bl cb wr (Kd.C_below QC.out hwr) Qh.out.2.1 Qh.out.2.2.2.1)
      have Qwr := Aside0.mk (And.intro hwr hbk)
      clear hwr hbk hi hk0
      have hrr : (r : Int) = ((rk (bt1 bl) f i : Nat) : Int) := by rw [Qr.out.1]
      rw [hrr]
      clear hrr
      go_wp2_with (first | (go_at_call 17; refine QCP.out.mono ?_; rintro e w3 ⟨B3, c3, rfl, hc3, hC3, hB3⟩; have K3 := Aside0.mk (And.intro hc3 (And.intro hC3 hB3)); clear hc3 hC3 hB3) | (go_at_call 26; fail))
      have hwB := Qwr.out.1.trans (K3.out.2.2.mono Qwr.out.1.size)
      have hb3 := (K3.out.2.2.block w.heap.size (blk_lt Qwr.out.2)).trans Qwr.out.2
      obtain ⟨DA, dc, hd1, hd2, hd3⟩ := QD.out
      have hgw : g < w.heap.size := blk_lt hd1
      have hD3 : Dc w3 g 66 nv tl D := ⟨DA, dc, (hwB.block g hgw).trans hd1, hd2, Kd.C_below hd3 hwB⟩
      have hne : g ≠ w.heap.size := by omega
      have hsl0 : ∀ u ∈ List.replicate i (.slice none 0 0 : Value), Sl u := fun u hu => by rw [List.eq_of_mem_replicate hu]; exact ⟨_, _, _, rfl⟩
      have HX := dsp_is g w.heap.size i i nv 66 tl D (textsL xs) (List.replicate i (.slice none 0 0)) B3 bl c3 f w3 hb3 hsl0 hD3 (Qdec.out w.heap.size _ w3 hb3 hne hsl0 hD3 (by rw [List.length_replicate]; exact Nat.le_refl _)) (by rw [List.length_replicate]; exact Nat.le_refl _) (Nat.le_refl _) (by rw [List.length_replicate]; exact Nat.le_refl _) K3.out.2.1 K3.out.1 Qh.out.2.2.1 Qh.out.2.2.2.1 Qh.out.2.2.2.2.1 (by omega)
      refine HX.mono ?_
      rintro e w4 ⟨rfl, us, k1, k2, k3, k4, k5⟩
      rw [List.length_replicate] at k2
      have hC4 : Cu w4 B bl := Cu.fr k5 (Kd.C_below QC.out hwB) hb3 (sl_nb hsl0) hD3.choose_spec.choose_spec.1 (by intro u hu x e; subst e; simp at hu)
      have hM4 : Bm w4 := by
        have hM3 := QM.out.below hwB QM.out.1
        have hw0 := QM.out.1
        refine ⟨Nat.lt_of_lt_of_le hM3.1 k5.size, fun k hk => ?_⟩
        have h := hM3.2 k hk
        unfold World.cell? at h ⊢
        rw [show (⟨0, k, none⟩ : Addr).block = 0 from rfl] at h ⊢
        rw [k5.far 0 hM3.1 (by omega) (by have := Qh.out.1; omega)]
        exact h
      have hF4 : Fr w w4 g g := by
        refine ⟨k5.os.trans hwB.os, k5.tape.trans hwB.tape, k5.output.trans hwB.output, Nat.le_trans hwB.size k5.size, fun k h1 h2 _ => ?_⟩
        exact (k5.far k (Nat.lt_of_lt_of_le h1 hwB.size) (by omega) h2).trans (hwB.block k h1)
      have K4 := Aside0.mk (show w4.heap[w.heap.size]? = some (.cells us.toArray 68 (0, 0)) ∧ us.length = i ∧ (∀ u ∈ us, Sl u) ∧ Sp w4 us (textsL xs) (bt1 bl) f i ∧ Fr w w4 g g ∧ Cu w4 B bl ∧ Bm w4 from ⟨k1, k2, k3, k4, hF4, hC4, hM4⟩)
      clear HX k1 k2 k3 k4 k5 hC4 hM4 hF4 hwB hb3 hd1 hd2 hd3 hgw hD3 hne hsl0 QD Qdec K3 Qwr QCP QBi HB QB1 HB1
      go_wp2_with fail
      have QBj := Aside0.mk (show ∀ (k : Nat) (w' : World), k < f + i → Below w4.heap.size w4 w' → Calls Tryd.prog 29 #[.slice B bl.length cb, .int .i64 (k : Int)] w' fun e w'' => e = .returned (.bool (bt1 bl k)) ∧ Below w'.heap.size w' w'' from fun k w' hk hb =>
        bis_is B bl cb k w' (Kd.C_below K4.out.2.2.2.2.2.1 hb) (by have := Qh.out; omega) Qh.out.2.2.2.1 Qh.out.2.2.1 (K4.out.2.2.2.2.2.2.below hb K4.out.2.2.2.2.2.2.1))
      go_loopg [10, 53] i (fun kq v10 v53 w' => ∃ j : Nat, v53 = .int .i64 (j : Int) ∧ Aside0 (j + kq = i) ∧ Aside0 (Kd.R kV 34 w' w4.heap.size (fun _ => True) v10 (wantL (bt1 bl) f xs j)) ∧ Aside0 (Below w4.heap.size w4 w'))
      case atStart => exact ⟨0, rfl, ⟨by omega⟩, ⟨Kd.R_nil _ _ _ _ _⟩, ⟨Below.refl _ _⟩⟩
      case round =>
        obtain ⟨j, rfl, HA2, HR, HB⟩ := hrel
        obtain ⟨A6, c6, rfl⟩ := Kd.R_slice HR.out
        rcases Nat.eq_zero_or_pos gk with hk0 | hk0
        · have hi : ((j : Int) < (i : Int)) = False := by have := HA2.out; simp; omega
          go_wp2
          obtain rfl : j = i := by have := HA2.out; omega
          have hr := HR.out
          obtain ⟨A9, c9, e9, l9, r9⟩ := Kd.R_reads hr
          rw [wantL_len] at e9 l9 r9
          refine bodyPost_ret (v := .tuple #[.slice A6 (wantL (bt1 bl) f xs j).length c6, .bool true]) (by simp [results, Tryd.results25, go_sem]) rfl ?_
          rw [wantL_len]
          cases e9
          have hF := K4.out.2.2.2.2.1
          exact ⟨_, A6, c6, rfl, rfl, l9, r9, fun ad hA => Nat.le_trans hF.size (Kd.R_base HR.out ad.block (by rw [hA]; rfl)), ⟨HB.out.os.trans hF.os, HB.out.tape.trans hF.tape, HB.out.output.trans hF.output, Nat.le_trans hF.size HB.out.size, fun k h1 h2 h3 => (HB.out.block k (Nat.lt_of_lt_of_le h1 hF.size)).trans (hF.far k h1 h2 h3)⟩⟩
        · have hi : (j : Int) < (i : Int) := by have := HA2.out; omega
          have hj : j < i := by omega
          have hjj : (j : Int) ≤ 500 := by omega
          have QJ := Aside0.mk hj
          have hju : j < us.length := by rw [K4.out.2.1]; exact hj
          have hbkw : w.heap.size < w4.heap.size := blk_lt K4.out.1
          have hcu : wr.cell? ⟨w.heap.size, j, none⟩ = some (us[j]'hju) := (blk_cell ((HB.out.block _ hbkw).trans K4.out.1) j).trans (by simp [hju])
          have Qb := Aside0.mk (QBj.out (f + j) wr (by omega) HB.out)
          rw [Int.natCast_add] at Qb
          obtain ⟨bt, hbt⟩ : ∃ bt, bt = bt1 bl (f + j) := ⟨_, rfl⟩
          rw [← hbt] at Qb
          have Qbt := Aside0.mk hbt
          have Quj := Aside0.mk (show us[j]? = some (us[j]'hju) from List.getElem?_eq_getElem hju)
          obtain ⟨k1, rfl⟩ : ∃ k1, gk = k1 + 1 := ⟨gk - 1, by omega⟩
          clear hk0 hbt hbkw
          cases bt
          · generalize us[j]'hju = u at hcu
            go_wp2_with (first | (go_at_call 29; refine Qb.out.mono ?_; rintro e w5 ⟨rfl, hb⟩; have QB5 := Aside0.mk (HB.out.trans (hb.mono HB.out.size)); have QR5 := Aside0.mk (Kd.R_below HR.out hb); clear hb) | ((with_reducible refine gate_builtin (b := .append) (xs := #[.tmp 69, .tmp 71]) rfl ?_); at_builtin; refine Kd.R_append kV (w0 := w4) w4.heap.size rfl (.tmp 69) (.tmp 71) 22 34 (.agg #[.bool false, .int .u64 0, .string ⟨#[]⟩, .slice none 0 0]) 56 rfl Tryd.underlying22 info34 rfl (by decide) (by omega) _ (wantL (bt1 bl) f xs j) nV [.bool true, .int .u64 0, .string ⟨#[]⟩, .slice none 0 0] (fun _ => True) (fun _ => False) rfl rfl (kV_mkM _ _ _ nV none 0) (fun _ h => h.elim) (fun _ _ => trivial) QR5.out QB5.out QB5.out.size (by rw [wantL_len]; omega) ?_; intro v9 w9 hr9 hb9 _ _; have QR9 := Aside0.mk hr9; have QB9 := Aside0.mk hb9; clear hr9 hb9))
            go_roundg k1
            case rel =>
              refine ⟨j + 1, rfl, ⟨by have := HA2.out; omega⟩, ⟨?_⟩, QB9⟩
              simp only [wantL, ← Qbt.out]
              exact QR9.out
            · omega
          · obtain ⟨rj, hrj⟩ : ∃ rj, rj = rk (bt1 bl) f j := ⟨_, rfl⟩
            have hlt := rk_lt (bt1 bl) f j Qbt.out.symm i hj
            have hrx : rj < xs.length := by have := Qh.out; omega
            obtain ⟨x, hx⟩ : ∃ x, x = xs.getD rj zV := ⟨_, rfl⟩
            have hxe : xs[rj]? = some x := by rw [hx, List.getD_eq_getElem?_getD, List.getElem?_eq_getElem hrx]; rfl
            have hx0 := Qx.out x (List.mem_of_getElem? hxe)
            have ht : (textsL xs)[rk (bt1 bl) f j]? = some (bytesOf x.2.2) := by unfold textsL; rw [← hrj, List.getElem?_map, hxe]; rfl
            obtain ⟨At, ct, hu, hct, hCt⟩ := K4.out.2.2.2.1 j _ hj Qbt.out.symm ht
            obtain ⟨x0, x1, x2⟩ := x
            simp only at hx0 hu hct hCt
            obtain ⟨rfl, rfl⟩ := hx0
            rw [Quj.out] at hu
            rw [Option.some.inj hu] at hcu
            have Qv := Aside0.mk (fun w' hb => vtx_is At ct x2 w' (Kd.C_below hCt hb) hct)
            have Qw := Aside0.mk (show wantL (bt1 bl) f xs (j + 1) = wantL (bt1 bl) f xs j ++ [(false, 0, x2)] by simp only [wantL]; rw [← Qbt.out, ← hrj, ← hx]; rfl)
            obtain ⟨Lt, hLt⟩ : ∃ Lt, Lt = (bytesOf x2).length := ⟨_, rfl⟩
            rw [← hLt] at hcu Qv
            clear Quj hrj hlt hrx hx hxe ht hu hct hCt hLt hju
            go_wp2_with (first | (go_at_call 29; refine Qb.out.mono ?_; rintro e w5 ⟨rfl, hb⟩; have QB5 := Aside0.mk (HB.out.trans (hb.mono HB.out.size)); have QR5 := Aside0.mk (Kd.R_below HR.out hb); clear hb) | (go_at_call 27; refine (Qv.out _ QB5.out).mono ?_; rintro e w6 ⟨A7, c7, rfl, hb⟩; have QB6 := Aside0.mk (QB5.out.trans (hb.mono QB5.out.size)); have QR6 := Aside0.mk (Kd.R_below QR5.out hb); clear hb) | ((with_reducible refine gate_builtin (b := .append) (xs := #[.tmp 63, .tmp 67]) rfl ?_); at_builtin; refine Kd.R_append kV (w0 := w4) w4.heap.size rfl (.tmp 63) (.tmp 67) 22 34 (.agg #[.bool false, .int .u64 0, .string ⟨#[]⟩, .slice none 0 0]) 56 rfl Tryd.underlying22 info34 rfl (by decide) (by omega) _ (wantL (bt1 bl) f xs j) (false, 0, x2) [.bool false, .int .u64 0, .string x2, .slice A7 0 c7] (fun _ => True) (fun _ => False) rfl rfl (kV_mkM _ _ _ (false, 0, x2) A7 c7) (fun _ h => h.elim) (fun _ _ => trivial) QR6.out QB6.out QB6.out.size (by rw [wantL_len]; omega) ?_; intro v9 w9 hr9 hb9 _ _; have QR9 := Aside0.mk hr9; have QB9 := Aside0.mk hb9; clear hr9 hb9))
            go_roundg k1
            case rel =>
              refine ⟨j + 1, rfl, ⟨by have := HA2.out; omega⟩, ⟨?_⟩, QB9⟩
              rw [Qw.out]
              exact QR9.out
            · omega
    · have hi : (i : Int) < (n : Int) := by have := HA.out; omega
      have hii : (i : Int) ≤ 500 := by omega
      have hri : (r : Int) ≤ (i : Int) := by omega
      have QI := Aside0.mk (show i < n by omega)
      have Qb := Aside0.mk (QBi.out (f + i) wr (by omega) HB.out)
      rw [Int.natCast_add] at Qb
      obtain ⟨bt, hbt⟩ : ∃ bt, bt = bt1 bl (f + i) := ⟨_, rfl⟩
      rw [← hbt] at Qb
      have Qbt := Aside0.mk hbt
      obtain ⟨k1, rfl⟩ : ∃ k1, gk = k1 + 1 := ⟨gk - 1, by omega⟩
      have hsub : (i : Int) - (r : Int) + 1 = (i : Int) + 1 - (r : Int) := by omega
      clear hr hrl hk0 hbt
      cases bt
      · go_wp2_with (go_at_call 29; refine Qb.out.mono ?_; rintro e w2 ⟨rfl, hb⟩; have QB2 := Aside0.mk hb; clear hb)
        go_roundg k1
        case rel =>
          refine ⟨i + 1, ?_, rfl, ⟨by have := HA.out; omega⟩, ⟨HB.out.trans (QB2.out.mono HB.out.size)⟩⟩
          simp only [rk, ← Qbt.out, ← Qr.out.1]
          first | rfl | (congr 1; simp; omega)
        · omega
      · go_wp2_with (go_at_call 29; refine Qb.out.mono ?_; rintro e w2 ⟨rfl, hb⟩; have QB2 := Aside0.mk hb; clear hb)
        go_roundg k1
        case rel =>
          refine ⟨i + 1, ?_, rfl, ⟨by have := HA.out; omega⟩, ⟨HB.out.trans (QB2.out.mono HB.out.size)⟩⟩
          simp only [rk, ← Qbt.out, ← Qr.out.1]
          first | rfl | (congr 1; simp; omega)
        · omega
end Go.Proofs.YtlnfaejdmdhcaaaDoor.QR
/- As many texts of one length as bits are set, with nulls between them: apart. -/
namespace Go.Proofs.YtlnfaejdmdhcaaaDoor.QR
open Go.RowKit Go.Proofs.YtlnfaejdmdhcaaaDoorW.PrintWords Go.Proofs.YtlnfaejdmdhcaaaDoorW.PrintLast Go.Proofs.YtlnfaejdmdhcaaaDoorW.PrintMore
set_option linter.unusedVariables false
set_option linter.unusedSimpArgs false
theorem info59 : (Tryd.prog.info? 59).map (fun i => (i.zero, i.size, i.bytes)) = some (some (.slice none 0 0), 1, 24) := by kernel_rfl
theorem vfx_is (A : Option Addr) (c : Nat) (s : ByteArray) (w : World) (hC : Cu w A (bytesOf s)) (hc : (bytesOf s).length ≤ c) : Calls Tryd.prog 20 #[.slice A (bytesOf s).length c] w fun e w' => ∃ A3 c3, e = .returned (.agg #[.bool false, .int .u64 0, .string s, .slice A3 0 c3]) ∧ Below w.heap.size w w' := by
  refine (QT.impl_valueFixed.calls A c (bytesOf s) false 0 s [] w hC hc (by unfold QT.impl_valueFixed.f; rw [str_bytes])).mono ?_
  rintro e w' ⟨v, rfl, hR, hB⟩
  obtain ⟨A3, c3, rfl⟩ := Kd.R_slice hR
  exact ⟨A3, c3, rfl, hB⟩
set_option maxHeartbeats 8000000 in
set_option maxRecDepth 100000 in
theorem aptf_is (g n nv : Nat) (tl : Int) (D : List Int) (xs : List TV) (B : Option Addr) (bl : List Int) (cb f : Nat) (w : World) (hD : Dc w g 56 nv tl D) (hg0 : 0 < g)
    (hdec : ∀ (bk : Nat) (vs : List Value) (w3 : World), w3.heap[bk]? = some (.cells vs.toArray 59 (0, 0)) → g ≠ bk → (∀ u ∈ vs, Sl u) → Dc w3 g 56 nv tl D → n ≤ vs.length → Calls Tryd.prog 30 #[.pointer (some ⟨g, 0, none⟩), .slice (some ⟨bk, 0, none⟩) (rk (bt1 bl) f n) n] w3 fun e w' => Dd w3 bk g 59 vs (textsL xs) (rk (bt1 bl) f n) e w')
    (hC : Cu w B bl) (hcb : bl.length ≤ cb) (hbo : bytesOk bl = true) (hll : bl.length ≤ 1000000) (hfl : f + n ≤ 8 * bl.length) (hn : n ≤ 500) (hf : f ≤ 1000) (hrk : rk (bt1 bl) f n ≤ xs.length) (hx0 : ∀ x ∈ xs, x.1 = false ∧ x.2.1 = 0) (hM : Bm w) :
    Calls Tryd.prog 18 #[.int .i64 (n : Int), .slice B bl.length cb, .int .i64 (f : Int), .func (.func 19) #[.pointer (some ⟨g, 0, none⟩)] #[], .func (.func 20) #[] #[]] w fun e w' => ∃ v0 A c, e = .returned (.tuple #[v0, .bool true]) ∧ v0 = .slice A n c ∧ n ≤ c ∧ Kd.C kV w' A n (wantL (bt1 bl) f xs n) ∧ (∀ ad, A = some ad → w.heap.size ≤ ad.block) ∧ Fr w w' g g := by
  have hmk := print_make_of (P := Tryd.prog) 73 59 (.slice none 0 0) 24 Tryd.underlying73 info59 rfl (by omega) n (by omega)
  have hni : (n : Int) ≤ 500 := by omega
  have hfi : (f : Int) ≤ 1000 := by omega
  have QD := Aside0.mk hD
  have Qdec := Aside0.mk hdec
  have QC := Aside0.mk hC
  have Qh := Aside0.mk (show 0 < g ∧ bl.length ≤ cb ∧ bytesOk bl = true ∧ bl.length ≤ 1000000 ∧ f + n ≤ 8 * bl.length ∧ n ≤ 500 ∧ rk (bt1 bl) f n ≤ xs.length from ⟨hg0, hcb, hbo, hll, hfl, hn, hrk⟩)
  have Qx := Aside0.mk hx0
  have QM := Aside0.mk hM
  clear hD hdec hC hcb hbo hll hfl hn hf hrk hx0 hM hg0
  go_enter Tryd.func18, Tryd.ntmps18
  go_upto_region 2 with (fail)
  obtain ⟨W1, hW1⟩ : ∃ W1, W1 = w.alloc (.cells (madeCells #[.slice none 0 0] n) 59) := ⟨_, rfl⟩
  have hmc : madeCells #[(.slice none 0 0 : Value)] n = (List.replicate n (.slice none 0 0 : Value)).toArray := by
    rw [← Array.toList_inj]
    apply List.ext_getElem
    · simp [madeCells]
    · intro i h1 h2
      simp [madeCells, Nat.mod_one]
  have HB1 := Aside0.mk (show W1.heap[w.heap.size]? = some (.cells (List.replicate n (.slice none 0 0 : Value)).toArray 59 (0, 0)) by rw [hW1, hmc]; exact blk_new w _)
  have QB1 := Aside0.mk (show Below w.heap.size w W1 by rw [hW1]; exact b2 w _)
  rw [← hW1]
  clear hW1 hmc hmk
  go_wp2_with fail
  have QBi := Aside0.mk (show ∀ (k : Nat) (w' : World), k < f + n → Below W1.heap.size W1 w' → Calls Tryd.prog 29 #[.slice B bl.length cb, .int .i64 (k : Int)] w' fun e w'' => e = .returned (.bool (bt1 bl k)) ∧ Below w'.heap.size w' w'' from fun k w' hk hb => by
    have hb2 := QB1.out.trans (hb.mono QB1.out.size)
    exact bis_is B bl cb k w' (Kd.C_below QC.out hb2) (by have := Qh.out; omega) Qh.out.2.2.2.1 Qh.out.2.2.1 (QM.out.below hb2 QM.out.1))
  go_loopg [13, 22] n (fun kq v13 v22 w' => ∃ i : Nat, v13 = .int .i64 ((i : Int) - ((rk (bt1 bl) f i : Nat) : Int)) ∧ v22 = .int .i64 (i : Int) ∧ Aside0 (i + kq = n) ∧ Aside0 (Below W1.heap.size W1 w'))
  case atStart => exact ⟨0, rfl, rfl, ⟨by omega⟩, ⟨Below.refl _ _⟩⟩
  case round =>
    obtain ⟨i, rfl, rfl, HA, HB⟩ := hrel
    have hrl := rk_le (bt1 bl) f i
    obtain ⟨r, hr⟩ : ∃ r, r = rk (bt1 bl) f i := ⟨_, rfl⟩
    rw [← hr] at hrl ⊢
    have Qr := Aside0.mk (And.intro hr hrl)
    rcases Nat.eq_zero_or_pos gk with hk0 | hk0
    · have hi : ((i : Int) < (n : Int)) = False := by have := HA.out; simp; omega
      clear hr hrl
      obtain rfl : i = n := by have := HA.out; omega
      have hwr := QB1.out.trans (HB.out.mono QB1.out.size)
      have hbk := (HB.out.block w.heap.size (blk_lt HB1.out)).trans HB1.out
      have QCP := Aside0.mk (cpd_is B bl cb wr (Kd.C_below QC.out hwr) Qh.out.2.1 Qh.out.2.2.2.1)
      have Qwr := Aside0.mk (And.intro hwr hbk)
      clear hwr hbk hi hk0
      have hrr : (r : Int) = ((rk (bt1 bl) f i : Nat) : Int) := by rw [Qr.out.1]
      rw [hrr]
      clear hrr
      go_wp2_with (first | (go_at_call 17; refine QCP.out.mono ?_; rintro e w3 ⟨B3, c3, rfl, hc3, hC3, hB3⟩; have K3 := Aside0.mk (And.intro hc3 (And.intro hC3 hB3)); clear hc3 hC3 hB3) | (go_at_call 19; fail))
      have hwB := Qwr.out.1.trans (K3.out.2.2.mono Qwr.out.1.size)
      have hb3 := (K3.out.2.2.block w.heap.size (blk_lt Qwr.out.2)).trans Qwr.out.2
      obtain ⟨DA, dc, hd1, hd2, hd3⟩ := QD.out
      have hgw : g < w.heap.size := blk_lt hd1
      have hD3 : Dc w3 g 56 nv tl D := ⟨DA, dc, (hwB.block g hgw).trans hd1, hd2, Kd.C_below hd3 hwB⟩
      have hne : g ≠ w.heap.size := by omega
      have hsl0 : ∀ u ∈ List.replicate i (.slice none 0 0 : Value), Sl u := fun u hu => by rw [List.eq_of_mem_replicate hu]; exact ⟨_, _, _, rfl⟩
      have HX := dspf_is g w.heap.size i i nv 56 tl D (textsL xs) (List.replicate i (.slice none 0 0)) B3 bl c3 f w3 hb3 hsl0 hD3 (Qdec.out w.heap.size _ w3 hb3 hne hsl0 hD3 (by rw [List.length_replicate]; exact Nat.le_refl _)) (by rw [List.length_replicate]; exact Nat.le_refl _) (Nat.le_refl _) (by rw [List.length_replicate]; exact Nat.le_refl _) K3.out.2.1 K3.out.1 Qh.out.2.2.1 Qh.out.2.2.2.1 Qh.out.2.2.2.2.1 (by omega)
      refine HX.mono ?_
      rintro e w4 ⟨rfl, us, k1, k2, k3, k4, k5⟩
      rw [List.length_replicate] at k2
      have hC4 : Cu w4 B bl := Cu.fr k5 (Kd.C_below QC.out hwB) hb3 (sl_nb hsl0) hD3.choose_spec.choose_spec.1 (by intro u hu x e; subst e; simp at hu)
      have hM4 : Bm w4 := by
        have hM3 := QM.out.below hwB QM.out.1
        have hw0 := QM.out.1
        refine ⟨Nat.lt_of_lt_of_le hM3.1 k5.size, fun k hk => ?_⟩
        have h := hM3.2 k hk
        unfold World.cell? at h ⊢
        rw [show (⟨0, k, none⟩ : Addr).block = 0 from rfl] at h ⊢
        rw [k5.far 0 hM3.1 (by omega) (by have := Qh.out.1; omega)]
        exact h
      have hF4 : Fr w w4 g g := by
        refine ⟨k5.os.trans hwB.os, k5.tape.trans hwB.tape, k5.output.trans hwB.output, Nat.le_trans hwB.size k5.size, fun k h1 h2 _ => ?_⟩
        exact (k5.far k (Nat.lt_of_lt_of_le h1 hwB.size) (by omega) h2).trans (hwB.block k h1)
      have K4 := Aside0.mk (show w4.heap[w.heap.size]? = some (.cells us.toArray 59 (0, 0)) ∧ us.length = i ∧ (∀ u ∈ us, Sl u) ∧ Sp w4 us (textsL xs) (bt1 bl) f i ∧ Fr w w4 g g ∧ Cu w4 B bl ∧ Bm w4 from ⟨k1, k2, k3, k4, hF4, hC4, hM4⟩)
      clear HX k1 k2 k3 k4 k5 hC4 hM4 hF4 hwB hb3 hd1 hd2 hd3 hgw hD3 hne hsl0 QD Qdec K3 Qwr QCP QBi HB QB1 HB1
      go_wp2_with fail
      have QBj := Aside0.mk (show ∀ (k : Nat) (w' : World), k < f + i → Below w4.heap.size w4 w' → Calls Tryd.prog 29 #[.slice B bl.length cb, .int .i64 (k : Int)] w' fun e w'' => e = .returned (.bool (bt1 bl k)) ∧ Below w'.heap.size w' w'' from fun k w' hk hb =>
        bis_is B bl cb k w' (Kd.C_below K4.out.2.2.2.2.2.1 hb) (by have := Qh.out; omega) Qh.out.2.2.2.1 Qh.out.2.2.1 (K4.out.2.2.2.2.2.2.below hb K4.out.2.2.2.2.2.2.1))
      go_loopg [10, 53] i (fun kq v10 v53 w' => ∃ j : Nat, v53 = .int .i64 (j : Int) ∧ Aside0 (j + kq = i) ∧ Aside0 (Kd.R kV 34 w' w4.heap.size (fun _ => True) v10 (wantL (bt1 bl) f xs j)) ∧ Aside0 (Below w4.heap.size w4 w'))
      case atStart => exact ⟨0, rfl, ⟨by omega⟩, ⟨Kd.R_nil _ _ _ _ _⟩, ⟨Below.refl _ _⟩⟩
      case round =>
        obtain ⟨j, rfl, HA2, HR, HB⟩ := hrel
        obtain ⟨A6, c6, rfl⟩ := Kd.R_slice HR.out
        rcases Nat.eq_zero_or_pos gk with hk0 | hk0
        · have hi : ((j : Int) < (i : Int)) = False := by have := HA2.out; simp; omega
          go_wp2
          obtain rfl : j = i := by have := HA2.out; omega
          have hr := HR.out
          obtain ⟨A9, c9, e9, l9, r9⟩ := Kd.R_reads hr
          rw [wantL_len] at e9 l9 r9
          refine bodyPost_ret (v := .tuple #[.slice A6 (wantL (bt1 bl) f xs j).length c6, .bool true]) (by simp [results, Tryd.results18, go_sem]) rfl ?_
          rw [wantL_len]
          cases e9
          have hF := K4.out.2.2.2.2.1
          exact ⟨_, A6, c6, rfl, rfl, l9, r9, fun ad hA => Nat.le_trans hF.size (Kd.R_base HR.out ad.block (by rw [hA]; rfl)), ⟨HB.out.os.trans hF.os, HB.out.tape.trans hF.tape, HB.out.output.trans hF.output, Nat.le_trans hF.size HB.out.size, fun k h1 h2 h3 => (HB.out.block k (Nat.lt_of_lt_of_le h1 hF.size)).trans (hF.far k h1 h2 h3)⟩⟩
        · have hi : (j : Int) < (i : Int) := by have := HA2.out; omega
          have hj : j < i := by omega
          have hjj : (j : Int) ≤ 500 := by omega
          have QJ := Aside0.mk hj
          have hju : j < us.length := by rw [K4.out.2.1]; exact hj
          have hbkw : w.heap.size < w4.heap.size := blk_lt K4.out.1
          have hcu : wr.cell? ⟨w.heap.size, j, none⟩ = some (us[j]'hju) := (blk_cell ((HB.out.block _ hbkw).trans K4.out.1) j).trans (by simp [hju])
          have Qb := Aside0.mk (QBj.out (f + j) wr (by omega) HB.out)
          rw [Int.natCast_add] at Qb
          obtain ⟨bt, hbt⟩ : ∃ bt, bt = bt1 bl (f + j) := ⟨_, rfl⟩
          rw [← hbt] at Qb
          have Qbt := Aside0.mk hbt
          have Quj := Aside0.mk (show us[j]? = some (us[j]'hju) from List.getElem?_eq_getElem hju)
          obtain ⟨k1, rfl⟩ : ∃ k1, gk = k1 + 1 := ⟨gk - 1, by omega⟩
          clear hk0 hbt hbkw
          cases bt
          · generalize us[j]'hju = u at hcu
            go_wp2_with (first | (go_at_call 29; refine Qb.out.mono ?_; rintro e w5 ⟨rfl, hb⟩; have QB5 := Aside0.mk (HB.out.trans (hb.mono HB.out.size)); have QR5 := Aside0.mk (Kd.R_below HR.out hb); clear hb) | ((with_reducible refine gate_builtin (b := .append) (xs := #[.tmp 69, .tmp 71]) rfl ?_); at_builtin; refine Kd.R_append kV (w0 := w4) w4.heap.size rfl (.tmp 69) (.tmp 71) 22 34 (.agg #[.bool false, .int .u64 0, .string ⟨#[]⟩, .slice none 0 0]) 56 rfl Tryd.underlying22 info34 rfl (by decide) (by omega) _ (wantL (bt1 bl) f xs j) nV [.bool true, .int .u64 0, .string ⟨#[]⟩, .slice none 0 0] (fun _ => True) (fun _ => False) rfl rfl (kV_mkM _ _ _ nV none 0) (fun _ h => h.elim) (fun _ _ => trivial) QR5.out QB5.out QB5.out.size (by rw [wantL_len]; omega) ?_; intro v9 w9 hr9 hb9 _ _; have QR9 := Aside0.mk hr9; have QB9 := Aside0.mk hb9; clear hr9 hb9))
            go_roundg k1
            case rel =>
              refine ⟨j + 1, rfl, ⟨by have := HA2.out; omega⟩, ⟨?_⟩, QB9⟩
              simp only [wantL, ← Qbt.out]
              exact QR9.out
            · omega
          · obtain ⟨rj, hrj⟩ : ∃ rj, rj = rk (bt1 bl) f j := ⟨_, rfl⟩
            have hlt := rk_lt (bt1 bl) f j Qbt.out.symm i hj
            have hrx : rj < xs.length := by have := Qh.out; omega
            obtain ⟨x, hx⟩ : ∃ x, x = xs.getD rj zV := ⟨_, rfl⟩
            have hxe : xs[rj]? = some x := by rw [hx, List.getD_eq_getElem?_getD, List.getElem?_eq_getElem hrx]; rfl
            have hx0 := Qx.out x (List.mem_of_getElem? hxe)
            have ht : (textsL xs)[rk (bt1 bl) f j]? = some (bytesOf x.2.2) := by unfold textsL; rw [← hrj, List.getElem?_map, hxe]; rfl
            obtain ⟨At, ct, hu, hct, hCt⟩ := K4.out.2.2.2.1 j _ hj Qbt.out.symm ht
            obtain ⟨x0, x1, x2⟩ := x
            simp only at hx0 hu hct hCt
            obtain ⟨rfl, rfl⟩ := hx0
            rw [Quj.out] at hu
            rw [Option.some.inj hu] at hcu
            have Qv := Aside0.mk (fun w' hb => vfx_is At ct x2 w' (Kd.C_below hCt hb) hct)
            have Qw := Aside0.mk (show wantL (bt1 bl) f xs (j + 1) = wantL (bt1 bl) f xs j ++ [(false, 0, x2)] by simp only [wantL]; rw [← Qbt.out, ← hrj, ← hx]; rfl)
            obtain ⟨Lt, hLt⟩ : ∃ Lt, Lt = (bytesOf x2).length := ⟨_, rfl⟩
            rw [← hLt] at hcu Qv
            clear Quj hrj hlt hrx hx hxe ht hu hct hCt hLt hju
            go_wp2_with (first | (go_at_call 29; refine Qb.out.mono ?_; rintro e w5 ⟨rfl, hb⟩; have QB5 := Aside0.mk (HB.out.trans (hb.mono HB.out.size)); have QR5 := Aside0.mk (Kd.R_below HR.out hb); clear hb) | (go_at_call 20; refine (Qv.out _ QB5.out).mono ?_; rintro e w6 ⟨A7, c7, rfl, hb⟩; have QB6 := Aside0.mk (QB5.out.trans (hb.mono QB5.out.size)); have QR6 := Aside0.mk (Kd.R_below QR5.out hb); clear hb) | ((with_reducible refine gate_builtin (b := .append) (xs := #[.tmp 63, .tmp 67]) rfl ?_); at_builtin; refine Kd.R_append kV (w0 := w4) w4.heap.size rfl (.tmp 63) (.tmp 67) 22 34 (.agg #[.bool false, .int .u64 0, .string ⟨#[]⟩, .slice none 0 0]) 56 rfl Tryd.underlying22 info34 rfl (by decide) (by omega) _ (wantL (bt1 bl) f xs j) (false, 0, x2) [.bool false, .int .u64 0, .string x2, .slice A7 0 c7] (fun _ => True) (fun _ => False) rfl rfl (kV_mkM _ _ _ (false, 0, x2) A7 c7) (fun _ h => h.elim) (fun _ _ => trivial) QR6.out QB6.out QB6.out.size (by rw [wantL_len]; omega) ?_; intro v9 w9 hr9 hb9 _ _; have QR9 := Aside0.mk hr9; have QB9 := Aside0.mk hb9; clear hr9 hb9))
            go_roundg k1
            case rel =>
              refine ⟨j + 1, rfl, ⟨by have := HA2.out; omega⟩, ⟨?_⟩, QB9⟩
              rw [Qw.out]
              exact QR9.out
            · omega
    · have hi : (i : Int) < (n : Int) := by have := HA.out; omega
      have hii : (i : Int) ≤ 500 := by omega
      have hri : (r : Int) ≤ (i : Int) := by omega
      have QI := Aside0.mk (show i < n by omega)
      have Qb := Aside0.mk (QBi.out (f + i) wr (by omega) HB.out)
      rw [Int.natCast_add] at Qb
      obtain ⟨bt, hbt⟩ : ∃ bt, bt = bt1 bl (f + i) := ⟨_, rfl⟩
      rw [← hbt] at Qb
      have Qbt := Aside0.mk hbt
      obtain ⟨k1, rfl⟩ : ∃ k1, gk = k1 + 1 := ⟨gk - 1, by omega⟩
      have hsub : (i : Int) - (r : Int) + 1 = (i : Int) + 1 - (r : Int) := by omega
      clear hr hrl hk0 hbt
      cases bt
      · go_wp2_with (go_at_call 29; refine Qb.out.mono ?_; rintro e w2 ⟨rfl, hb⟩; have QB2 := Aside0.mk hb; clear hb)
        go_roundg k1
        case rel =>
          refine ⟨i + 1, ?_, rfl, ⟨by have := HA.out; omega⟩, ⟨HB.out.trans (QB2.out.mono HB.out.size)⟩⟩
          simp only [rk, ← Qbt.out, ← Qr.out.1]
          first | rfl | (congr 1; simp; omega)
        · omega
      · go_wp2_with (go_at_call 29; refine Qb.out.mono ?_; rintro e w2 ⟨rfl, hb⟩; have QB2 := Aside0.mk hb; clear hb)
        go_roundg k1
        case rel =>
          refine ⟨i + 1, ?_, rfl, ⟨by have := HA.out; omega⟩, ⟨HB.out.trans (QB2.out.mono HB.out.size)⟩⟩
          simp only [rk, ← Qbt.out, ← Qr.out.1]
          first | rfl | (congr 1; simp; omega)
        · omega
end Go.Proofs.YtlnfaejdmdhcaaaDoor.QR
