/- A list of numbers is compared with one number: the kernel. -/
import Derived.Test.YtlnbkmkdapeicaaDoorF10d
namespace Go.Proofs.YtlnbkmkdapeicaaDoor.QR
open Go.RowKit Go.Proofs.YtlnbkmkdapeicaaDoorW.PrintWords Go.Proofs.YtlnbkmkdapeicaaDoorW.PrintLast Go.Proofs.YtlnbkmkdapeicaaDoorW.PrintMore
set_option linter.unusedVariables false
set_option linter.unusedSimpArgs false
/-- A loop that compares a list with a number. -/
def OpAS (F : FuncId) (cap : Array Value) (gm op : Nat) : Prop := ∀ (gl oA nA cA : Nat) (xs : List Dc) (y : Dc) (gT cT n : Nat) (ts : List Value) (w : World), w.heap[gl]? = some (.cells (cI xs).toArray 50 (0, 0)) → gl ≠ gT → oA + n ≤ xs.length → n = nA → w.heap[gm]? = some (.cells #[.func (.func 58) #[] #[], .func (.func 60) #[] #[]] 74 (0, 0)) → gm ≠ gT → w.heap[gT]? = some (.cells ts.toArray 158 (0, 0)) → n ≤ ts.length → n ≤ 1000000 →
    Calls Tryd.prog F (#[.slice (some ⟨gl, oA * 2, none⟩) nA cA, .agg #[.int .u64 y.1, .int .i64 y.2], .slice (some ⟨gT, 0, none⟩) n cT] ++ cap) w fun e w' => e = .returned (.tuple #[]) ∧ w'.heap[gT]? = some (.cells (cU (fun i => cmpB op (rdD xs (oA + i)) y) n ++ ts.drop n).toArray 158 (0, 0)) ∧ Fr w w' gT gT
set_option maxHeartbeats 8000000 in
set_option maxRecDepth 100000 in
theorem kas_is (F : FuncId) (cap : Array Value) (gm op : Nat) (hcf : ∀ (args : Array Value) (w : World), (callFunc F args).run Tryd.prog w = .ok (.enter F args) w) (hF : OpAS F cap gm op) (Al : Option Addr) (lb : List Int) (cl : Nat) (Ar : Option Addr) (rb : List Int) (cr n gO L cO f gop : Nat) (us : List Value) (w : World)
    (hCl : Cu w Al lb) (hcl : lb.length ≤ cl) (hbl : bytesOk lb = true) (hCr : Cu w Ar rb) (hcr : rb.length ≤ cr) (hbr : bytesOk rb = true) (hnl : lb.length = 16 * n) (hm : 16 ≤ rb.length) (hm6 : rb.length ≤ 1000000) (hn : n ≤ 300)
    (hO : w.heap[gO]? = some (.cells us.toArray 5 (0, 0))) (hOk : OkU us L) (hLc : L ≤ cO) (hL6 : L ≤ 1000) (hf : f ≤ 7) (hfn : f + n ≤ 8 * L) (Po : Option Addr) (hPo : 0 < L → Po = some ⟨gO, 0, none⟩) (hop : w.heap[gop]? = some (.cells #[.func (.func F) #[] cap] 142 (0, 0))) (hog : gop ≠ gO) (hgm : w.heap[gm]? = some (.cells #[.func (.func 58) #[] #[], .func (.func 60) #[] #[]] 74 (0, 0))) (hgmO : gm ≠ gO) (hM : Bm w) (hgO : 2 < gO ∧ 3 < gO) :
    Calls Tryd.prog 68 #[.slice Al lb.length cl, .slice Ar rb.length cr, .slice Po L cO, .int .i64 (f : Int), .pointer (some ⟨gop, 0, none⟩)] w fun e w' => e = .returned (.tuple #[]) ∧ ∃ us', w'.heap[gO]? = some (.cells us'.toArray 5 (0, 0)) ∧ KInv us us' L f n (fun i => cmpB op (rdD (elsI lb n) i) (w16 rb 0)) ∧ Fr w w' gO gO := by
  have QGl := Aside0.mk (fun w1 (hb : Below w.heap.size w w1) => gd_is Al lb cl n w1 (Kd.C_below hCl hb) hcl (by omega) hbl hnl)
  have QGa := Aside0.mk (fun w1 (hb : Below w.heap.size w w1) => ga_is Ar rb cr 0 w1 (Kd.C_below hCr hb) hcr hm6 hbr (by omega))
  have QMm := Aside0.mk (And.intro hgm hgmO)
  have QO := Aside0.mk (And.intro hO (And.intro hOk (And.intro hop (And.intro hog (And.intro hM hgO)))))
  have QPo := Aside0.mk hPo
  have Qn := Aside0.mk (show n ≤ 300 ∧ L ≤ cO ∧ L ≤ 1000 ∧ f ≤ 7 ∧ f + n ≤ 8 * L from ⟨hn, hLc, hL6, hf, hfn⟩)
  obtain ⟨xs, hxs⟩ : ∃ xs, xs = elsI lb n := ⟨_, rfl⟩
  obtain ⟨y, hy⟩ : ∃ y, y = w16 rb 0 := ⟨_, rfl⟩
  have hxl : xs.length = n := by rw [hxs, elsI_len]
  rw [← hxs] at QGl ⊢
  rw [← hy] at QGa ⊢
  obtain ⟨bf, hbf⟩ : ∃ bf : Nat → Bool, bf = fun (i : Nat) => cmpB op (rdD xs i) y := ⟨_, rfl⟩
  rw [← hbf]
  have Qb := Aside0.mk (And.intro hxl (And.intro hxl hbf))
  obtain ⟨ll, hll⟩ : ∃ ll, ll = lb.length := ⟨_, rfl⟩
  obtain ⟨lr, hlr⟩ : ∃ lr, lr = rb.length := ⟨_, rfl⟩
  rw [← hll] at QGl ⊢
  rw [← hlr] at QGa ⊢
  have QF := Aside0.mk hF
  have hni : (n : Int) ≤ 300 := by omega
  have hfi : (f : Int) ≤ 7 := by omega
  have hfr : Int.tmod (f : Int) 8 = (f : Int) := by rw [Int.tmod_eq_emod_of_nonneg (by omega)]; omega
  clear hgm hgmO hF hCl hcl hbl hnl hCr hcr hbr hm hm6 hn hO hOk hLc hL6 hf hfn hop hog hM hgO hPo hxs hy hxl hbf hll hlr
  go_enter Tryd.func68, Tryd.ntmps68
  go_upto_region 1 with (go_at_call 65; go_must (refine (QGl.out _ (Below.refl _ _)).mono ?_; rintro e w1 ⟨gl, rfl, h1, h2, h3⟩; have K1 := Aside0.mk (And.intro h1 (And.intro h2 h3)); clear h1 h2 h3))
  go_upto_region 2 with (go_at_call 69; go_must (refine (QGa.out _ K1.out.2.2).mono ?_; rintro e w2 ⟨rfl, hb⟩; have K2 := Aside0.mk hb; clear hb))
  obtain ⟨gy, hgy⟩ : ∃ gy, gy = w2.heap.size := ⟨_, rfl⟩
  obtain ⟨WB, hWB⟩ : ∃ WB, WB = w2.alloc (.cells #[.int .u64 y.1, .int .i64 y.2] 50) := ⟨_, rfl⟩
  have KB := Aside0.mk (show WB.heap[gy]? = some (.cells (cI [y]).toArray 50 (0, 0)) ∧ Below w2.heap.size w2 WB ∧ gy = w2.heap.size by
    refine ⟨?_, ?_, hgy⟩
    · rw [hWB, hgy]; exact blk_new w2 _
    · rw [hWB]; exact b2 w2 _)
  rw [← hWB]
  clear hWB
  rw [← hgy]
  clear hgy
  go_upto_region 4 with (fail)
  obtain ⟨gT, hgT⟩ : ∃ gT, gT = WB.heap.size := ⟨_, rfl⟩
  obtain ⟨W3, hW3⟩ : ∃ W3, W3 = WB.alloc (.cells (List.replicate 32 (.int .u32 0 : Value)).toArray 158) := ⟨_, rfl⟩
  have hS : KS F cap gm 142 w xs [y] gl gy gT gO gop W3 (List.replicate 32 (.int .u32 0)) us := by
    have hB2 := K1.out.2.2.trans (K2.out.mono K1.out.2.2.size)
    have hBB := hB2.trans (KB.out.2.1.mono hB2.size)
    have hl1 := (K2.out.block gl (blk_lt K1.out.2.1)).trans K1.out.2.1
    have hl2 := (KB.out.2.1.block gl (blk_lt hl1)).trans hl1
    have hy2 := KB.out.1
    have hgl : w.heap.size ≤ gl := K1.out.1
    have hgw : w.heap.size ≤ gy := by rw [KB.out.2.2]; exact hB2.size
    have hB3 : Below w.heap.size w W3 := by rw [hW3]; exact hBB.alloc hBB.size _
    refine ⟨?_, ?_, ?_, (hB3.block gO (blk_lt QO.out.1)).trans QO.out.1, (hB3.block gop (blk_lt QO.out.2.2.1)).trans QO.out.2.2.1, (hB3.block gm (blk_lt QMm.out.1)).trans QMm.out.1, Fr.of_below hB3, rfl, blk_lt QO.out.1, blk_lt QO.out.2.2.1, QO.out.2.2.2.1, hgl, hgw, ?_, ?_, blk_lt QMm.out.1, QMm.out.2⟩
    · rw [hW3]; exact blk_alloc hl2 _
    · rw [hW3]; exact blk_alloc hy2 _
    · rw [hW3, hgT]; exact blk_new WB _
    · rw [hgT]; exact blk_lt hl2
    · rw [hgT]; exact blk_lt hy2
  change Code.wp _ _ _ _ (WB.alloc (.cells (List.replicate 32 (.int .u32 0 : Value)).toArray 158))
  rw [← hW3, ← hgT]
  have QS := Aside0.mk hS
  clear hS hW3 hgT K1 K2 KB QGl QGa
  go_upto_if 33 with (fail)
  go_cut [2, 9, 11] from 23 (fun s2 s9 s11 wc => ∃ (t0 oo : Nat) (P : Option Addr) (us1 ts1 : List Value), s11 = .int .i64 ((n - t0 : Nat) : Int) ∧ s2 = .slice P (L - oo) (cO - oo) ∧ s9 = .slice (some ⟨gl, t0 * 2, none⟩) (n - t0) (n - t0) ∧ Aside0 (oo < L → P = some ⟨gO, oo, none⟩) ∧ Aside0 (f + t0 = 8 * oo ∧ t0 ≤ n) ∧ Aside0 (KS F cap gm 142 w xs [y] gl gy gT gO gop wc ts1 us1) ∧ Aside0 (KInv us us1 L f t0 bf))
  case rest =>
    obtain ⟨t0, oo, P, us1, ts1, rfl, rfl, rfl, HP, HT, HK, HI⟩ := hcut
    clear QS
    obtain ⟨nb, hnb⟩ : ∃ nb, nb = (n - t0) / 32 := ⟨_, rfl⟩
    have hR : ((n - t0 : Nat) : Int) ≤ 300 := by have := Qn.out; omega
    have hq : Int.tdiv ((n - t0 : Nat) : Int) 32 = (nb : Int) := by rw [Int.tdiv_eq_ediv_of_nonneg (by omega)]; omega
    have hnb9 : (nb : Int) ≤ 9 := by omega
    have Qnb := Aside0.mk hnb
    clear hnb
    go_wp2_with fail
    go_loopg [2, 9, 19] nb (fun kq v2 v9 v19 w' => ∃ (j t o' ol : Nat) (P' : Option Addr) (us2 ts2 : List Value), v19 = .int .i64 (j : Int) ∧ v2 = .slice P' (L - o') (cO - o') ∧ v9 = .slice (some ⟨gl, ol * 2, none⟩) (n - t) (n - t) ∧ Aside0 (j + kq = nb ∧ t = t0 + 32 * j ∧ o' = oo + 4 * j) ∧ Aside0 (ol ≤ n ∧ (t < n → ol = t)) ∧ Aside0 (o' < L → P' = some ⟨gO, o', none⟩) ∧ Aside0 (KS F cap gm 142 w xs [y] gl gy gT gO gop w' ts2 us2) ∧ Aside0 (KInv us us2 L f t bf))
    case atStart => exact ⟨0, t0, oo, t0, P, us1, ts1, rfl, rfl, rfl, ⟨by omega, by omega, by omega⟩, ⟨HT.out.2, fun _ => rfl⟩, HP, HK, HI⟩
    case round =>
      obtain ⟨j, t, o', ol, P', us2, ts2, rfl, rfl, rfl, HA, HL, HP2, HK2, HI2⟩ := hrel
      clear HP HK HI
      have h8o : f + t = 8 * o' := by have := HA.out; have := HT.out; omega
      have Q8 := Aside0.mk h8o
      clear h8o
      have kp := blk_cell HK2.out.p 0
      simp only [List.getElem?_toArray, List.getElem?_cons_zero] at kp
      rcases Nat.eq_zero_or_pos gk with h0 | h0
      · have hjn : j = nb := by have := HA.out; omega
        have hj : ((j : Int) < (nb : Int)) = False := by simp; omega
        obtain ⟨r, hr⟩ : ∃ r, r = n - t := ⟨_, rfl⟩
        rw [← hr]
        have hr32 : r < 32 := by have := HA.out; have := Qnb.out; have := HT.out; omega
        have hr32i : (r : Int) ≤ 32 := by omega
        have hr32n : r ≤ 32 := by omega
        have htn : t ≤ n := by have := HA.out; have := Qnb.out; have := HT.out; omega
        obtain ⟨q32, hq32⟩ : ∃ q32, q32 = 32 * nb := ⟨_, rfl⟩
        have h32 : (32 : Int) * (nb : Int) = (q32 : Int) := by omega
        have hsub : ((n - t0 : Nat) : Int) - (q32 : Int) = (r : Int) := by have := HA.out; have := Qnb.out; have := HT.out; omega
        have Qr := Aside0.mk (show r = n - t ∧ t + r = n ∧ f + t + r ≤ 8 * L from ⟨hr, by omega, by have := Qn.out; omega⟩)
        have holr : ol + r ≤ n := by
          rcases Nat.lt_or_ge t n with h | h
          · have := HL.out.2 h; omega
          · have := HL.out; omega
        clear hr htn hjn h0 hq32
        go_upto_region 27 with (fail)
        have hop := QF.out gl ol r r xs y gT 32 r ts2 wr.drew HK2.out.l (by have := HK2.out.lt; omega) (by rw [Qb.out.1]; exact holr) rfl HK2.out.m (by have := HK2.out.lt; omega) HK2.out.t (by rw [HK2.out.tl]; exact hr32n) (by omega)
        have Qop := Aside0.mk hop
        clear hop
        have kp' : wr.drew.cell? ⟨gop, 0, none⟩ = some (.func (.func F) #[] cap) := kp
        have ky0' : wr.drew.cell? ⟨gy, 0, none⟩ = some (.int .u64 y.1) := (blk_cell HK2.out.r 0).trans rfl
        have ky1' : wr.drew.cell? ⟨gy, 1, none⟩ = some (.int .i64 y.2) := (blk_cell HK2.out.r 1).trans rfl
        refine wp_region_still_tail 5 (by kernel_rfl) (by kernel_rfl) ?_
        simp only [List.take_succ_cons, List.take_zero, List.drop_succ_cons, List.drop_zero]
        change wpStill _ _ (World.drew wr) _ _ _
        repeat still_step
        refine wpStill_nil ?_
        change wpList _ _ _ _ _ (World.drew wr)
        go_upto_region 28 with ((with_reducible refine gate_call (F := F) ?_); go_must (refine Qop.out.mono ?_; rintro e w4 ⟨rfl, h1, h2⟩; have Q4 := Aside0.mk (HK2.out.tmp (show Fr wr w4 gT gT from ⟨h2.os, h2.tape, h2.output, h2.size, h2.far⟩) h1 (by rw [List.length_append, cU_len, List.length_drop, HK2.out.tl]; omega)); clear h1 h2))
        obtain ⟨ts3, hts3⟩ : ∃ ts3, ts3 = cU (fun i => cmpB op (rdD xs (ol + i)) y) r ++ ts2.drop r := ⟨_, rfl⟩
        rw [← hts3] at Q4
        have Qts := Aside0.mk (show ∀ i, i < r → ts3[i]? = some (.int .u32 (b2i (bf (t + i)))) from fun i hi => by
          rw [hts3, List.getElem?_append_left (by rw [cU_len]; exact hi), cU_get _ hi, Qb.out.2.2]
          have := HL.out.2 (by have := Qr.out; omega)
          rw [this])
        clear hts3
        go_wp2_with fail
        go_loopg [107] r (fun kq v107 w' => ∃ (i : Nat) (us3 : List Value), v107 = .int .i64 (i : Int) ∧ Aside0 (i + kq = r) ∧ Aside0 (KS F cap gm 142 w xs [y] gl gy gT gO gop w' ts3 us3) ∧ Aside0 (KInv us us3 L f (t + i) bf))
        case atStart => exact ⟨0, us2, rfl, ⟨by omega⟩, Q4, HI2⟩
        case round =>
          obtain ⟨i, us3, rfl, HA3, HK3, HI3⟩ := hrel
          rcases Nat.eq_zero_or_pos gk with h0 | h0
          · obtain rfl : i = r := by have := HA3.out; omega
            go_wp2
            go_end0
            have hti : t + i = n := Qr.out.2.1
            exact ⟨rfl, us3, HK3.out.o, by rw [← hti]; exact HI3.out, HK3.out.fr⟩
          · have hi : (i : Int) < (r : Int) := by have := HA3.out; omega
            have hir : i < r := by have := HA3.out; omega
            obtain ⟨k1, rfl⟩ : ∃ k1, gk = k1 + 1 := ⟨gk - 1, by omega⟩
            obtain rfl := HP2.out (by have := Q8.out; have := Qr.out; have := Qn.out; omega)
            have k0 := (blk_cell HK3.out.t i).trans (show ts3.toArray[i]? = some (.int .u32 (b2i (bf (t + i)))) by rw [List.getElem?_toArray]; exact Qts.out i hir)
            obtain ⟨b, hb⟩ : ∃ b, b = bf (t + i) := ⟨_, rfl⟩
            rw [← hb] at k0
            have hbt : (b2i b != 0) = b := by cases b <;> rfl
            have hdv : (f + (t + i)) / 8 = o' + i / 8 := by have := Q8.out; omega
            have hmd : (f + (t + i)) % 8 = i % 8 := by have := Q8.out; omega
            obtain ⟨x, hx, hx8⟩ := HI3.out.1.2 ((f + (t + i)) / 8) (by have := Qr.out; omega)
            have hkb := kinv_bit HI3.out (by have := Qr.out; omega) hx
            rw [hdv] at hx
            have hsb := sbt_is gO o' (L - o') (cO - o') i 5 us3 x b wr HK3.out.o (by have := Qr.out; have := Q8.out; omega) (by have := Qn.out; omega) hx hx8 (HK3.out.bm QO.out.2.2.2.2.1 QO.out.2.2.2.2.2)
            rw [hdv, hmd, ← hb] at hkb
            obtain ⟨us4, hus4⟩ : ∃ us4, us4 = us3.set (o' + i / 8) (.int .u8 (setb x (i % 8) b)) := ⟨_, rfl⟩
            rw [← hus4] at hsb hkb
            have Qsb := Aside0.mk hsb
            have Qkb := Aside0.mk hkb
            generalize b2i b = xb at k0 hbt
            clear hsb hkb hus4 hx hx8 hb h0 hir hdv hmd
            go_wp2_with (go_at_call 66; go_must (refine Qsb.out.mono ?_; rintro e w7 ⟨rfl, h1, h2⟩; have Q7 := Aside0.mk (HK3.out.out h2 h1); clear h1 h2))
            go_roundg k1
            case rel => exact ⟨i + 1, us4, rfl, ⟨by have := HA3.out; omega⟩, Q7, Qkb⟩
            · omega
      · have hj : (j : Int) < (nb : Int) := by have := HA.out; omega
        have ht32 : t + 32 ≤ n := by have := HA.out; have := Qnb.out; have := HT.out; omega
        obtain rfl := HP2.out (by have := Q8.out; have := Qn.out; omega)
        obtain rfl := HL.out.2 (by omega)
        obtain ⟨k1, rfl⟩ : ∃ k1, gk = k1 + 1 := ⟨gk - 1, by omega⟩
        obtain ⟨m, hm⟩ : ∃ m, m = n - ol := ⟨_, rfl⟩
        obtain ⟨l', hl'⟩ : ∃ l', l' = L - o' := ⟨_, rfl⟩
        obtain ⟨c', hc'⟩ : ∃ c', c' = cO - o' := ⟨_, rfl⟩
        rw [← hm, ← hl', ← hc']
        have hm32 : 32 ≤ m := by omega
        have hm32i : (32 : Int) ≤ (m : Int) := by omega
        have hl4 : 4 ≤ l' := by have := Q8.out; have := Qn.out; omega
        have hlc : l' ≤ c' := by have := Qn.out; omega
        have Qm := Aside0.mk (show m = n - ol ∧ l' = L - o' ∧ c' = cO - o' ∧ ol + 32 ≤ n ∧ o' + 4 ≤ L from ⟨hm, hl', hc', ht32, by omega⟩)
        clear hm hl' hc' ht32 h0
        go_upto_region 22 with (fail)
        have hop := QF.out gl ol 32 m xs y gT 32 32 ts2 wr.drew HK2.out.l (by have := HK2.out.lt; omega) (by rw [Qb.out.1]; exact Qm.out.2.2.2.1) rfl HK2.out.m (by have := HK2.out.lt; omega) HK2.out.t (by rw [HK2.out.tl]; exact Nat.le_refl _) (by omega)
        rw [show (fun i => cmpB op (rdD xs (ol + i)) y) = (fun i => bf (ol + i)) by rw [Qb.out.2.2], show ts2.drop 32 = [] from List.drop_eq_nil_of_le (by rw [HK2.out.tl]; exact Nat.le_refl _), List.append_nil] at hop
        have Qop := Aside0.mk hop
        clear hop
        have kp' : wr.drew.cell? ⟨gop, 0, none⟩ = some (.func (.func F) #[] cap) := kp
        have ky0' : wr.drew.cell? ⟨gy, 0, none⟩ = some (.int .u64 y.1) := (blk_cell HK2.out.r 0).trans rfl
        have ky1' : wr.drew.cell? ⟨gy, 1, none⟩ = some (.int .i64 y.2) := (blk_cell HK2.out.r 1).trans rfl
        refine wp_region_still_tail 5 (by kernel_rfl) (by kernel_rfl) ?_
        simp only [List.take_succ_cons, List.take_zero, List.drop_succ_cons, List.drop_zero]
        change wpStill _ _ (World.drew wr) _ _ _
        repeat still_step
        refine wpStill_nil ?_
        change wpList _ _ _ _ _ (World.drew wr)
        go_upto_region 23 with ((with_reducible refine gate_call (F := F) ?_); go_must (refine Qop.out.mono ?_; rintro e w4 ⟨rfl, h1, h2⟩; have Q4 := Aside0.mk (HK2.out.tmp (show Fr wr w4 gT gT from ⟨h2.os, h2.tape, h2.output, h2.size, h2.far⟩) h1 (cU_len _ _)); clear h1 h2))
        by_cases hmm : m = 32
        · subst hmm
          go_upto_region 24 with (fail)
          have QKw := Q4
          have hpb := fun w' (hg : w'.heap[gO]? = some (.cells us2.toArray 5 (0, 0))) => pb_is (fun i => bf (ol + i)) gO o' l' c' 5 us2 w' hg hl4 hlc (by have := Qm.out; have := HI2.out.1.1; omega) (by have := Qm.out; have := Qn.out; omega)
          have QPB := Aside0.mk hpb
          clear hpb
          have Qlen := Aside0.mk (cU_len (fun i => bf (ol + i)) 32)
          obtain ⟨C, hC⟩ : ∃ C, C = cU (fun i => bf (ol + i)) 32 := ⟨_, rfl⟩
          rw [← hC] at QKw QPB Qlen
          have QC := Aside0.mk hC
          clear hC
          go_upto_region 25 with (first | ((with_reducible refine gate_op (x := .load 158 (.tmp 12)) rfl ?_); go_must (refine wpList_load_mid rfl 158 (.tmp 12) rfl gT 0 rfl C (.array 32 57) (fun k v hv => (blk_cell QKw.out.t (0 + k)).trans (by simpa using hv)) (by kernel_rfl) rfl (by rw [Qlen.out]; kernel_rfl) ?_)) | (go_at_call 67; go_must (refine (QPB.out _ QKw.out.o).mono ?_; rintro e w7 ⟨rfl, h1, h2⟩; have Q7 := Aside0.mk (QKw.out.out h2 h1); clear h1 h2)))
          have QI7 := Aside0.mk (kinv_pack HI2.out Q8.out Qm.out.2.2.2.2)
          by_cases hc4 : c' = 4
          · subst hc4
            obtain rfl : l' = 4 := by omega
            go_wp2
            go_roundg k1
            case rel =>
              refine ⟨j + 1, ol + 32, o' + 4, ol, some ⟨gO, o', none⟩, _, _, rfl, ?_, ?_, ⟨by have := HA.out; omega, by have := HA.out; omega, by have := HA.out; omega⟩, ⟨by have := Qm.out; omega, fun h => by first | rfl | (have := Qm.out; omega)⟩, ⟨fun h => by first | rfl | (have := Qm.out; omega)⟩, Q7, QI7⟩
              · first | rfl | (have hq1 := Qm.out; rw [show L - (o' + 4) = l' - 4 by omega, show cO - (o' + 4) = c' - 4 by omega]) | (have hq1 := Qm.out; rw [show L - (o' + 4) = 0 by omega, show cO - (o' + 4) = 0 by omega])
              · first | rfl | (have hq1 := Qm.out; rw [show n - (ol + 32) = m - 32 by omega, show (ol + 32) * 2 = ol * 2 + 64 by omega]) | (have hq1 := Qm.out; rw [show n - (ol + 32) = m - 32 by omega]) | (have hq1 := Qm.out; rw [show n - (ol + 32) = 0 by omega])
            · omega
          · have hc4b : ¬ c' - 4 = 0 := by omega
            have hl4i : (4 : Int) ≤ (l' : Int) := by omega
            have hlci : (l' : Int) ≤ (c' : Int) := by omega
            have hc4i : (4 : Int) ≤ (c' : Int) := by omega
            go_wp2
            go_roundg k1
            case rel =>
              refine ⟨j + 1, ol + 32, o' + 4, ol, some ⟨gO, o' + 4, none⟩, _, _, rfl, ?_, ?_, ⟨by have := HA.out; omega, by have := HA.out; omega, by have := HA.out; omega⟩, ⟨by have := Qm.out; omega, fun h => by first | rfl | (have := Qm.out; omega)⟩, ⟨fun h => by first | rfl | (have := Qm.out; omega)⟩, Q7, QI7⟩
              · first | rfl | (have hq1 := Qm.out; rw [show L - (o' + 4) = l' - 4 by omega, show cO - (o' + 4) = c' - 4 by omega]) | (have hq1 := Qm.out; rw [show L - (o' + 4) = 0 by omega, show cO - (o' + 4) = 0 by omega])
              · first | rfl | (have hq1 := Qm.out; rw [show n - (ol + 32) = m - 32 by omega, show (ol + 32) * 2 = ol * 2 + 64 by omega]) | (have hq1 := Qm.out; rw [show n - (ol + 32) = m - 32 by omega]) | (have hq1 := Qm.out; rw [show n - (ol + 32) = 0 by omega])
            · omega
        · have hmm2 : ¬ m - 32 = 0 := by omega
          go_upto_region 24 with (fail)
          have QKw := Q4
          have hpb := fun w' (hg : w'.heap[gO]? = some (.cells us2.toArray 5 (0, 0))) => pb_is (fun i => bf (ol + i)) gO o' l' c' 5 us2 w' hg hl4 hlc (by have := Qm.out; have := HI2.out.1.1; omega) (by have := Qm.out; have := Qn.out; omega)
          have QPB := Aside0.mk hpb
          clear hpb
          have Qlen := Aside0.mk (cU_len (fun i => bf (ol + i)) 32)
          obtain ⟨C, hC⟩ : ∃ C, C = cU (fun i => bf (ol + i)) 32 := ⟨_, rfl⟩
          rw [← hC] at QKw QPB Qlen
          have QC := Aside0.mk hC
          clear hC
          go_upto_region 25 with (first | ((with_reducible refine gate_op (x := .load 158 (.tmp 12)) rfl ?_); go_must (refine wpList_load_mid rfl 158 (.tmp 12) rfl gT 0 rfl C (.array 32 57) (fun k v hv => (blk_cell QKw.out.t (0 + k)).trans (by simpa using hv)) (by kernel_rfl) rfl (by rw [Qlen.out]; kernel_rfl) ?_)) | (go_at_call 67; go_must (refine (QPB.out _ QKw.out.o).mono ?_; rintro e w7 ⟨rfl, h1, h2⟩; have Q7 := Aside0.mk (QKw.out.out h2 h1); clear h1 h2)))
          have QI7 := Aside0.mk (kinv_pack HI2.out Q8.out Qm.out.2.2.2.2)
          by_cases hc4 : c' = 4
          · subst hc4
            obtain rfl : l' = 4 := by omega
            go_wp2
            go_roundg k1
            case rel =>
              refine ⟨j + 1, ol + 32, o' + 4, ol + 32, some ⟨gO, o', none⟩, _, _, rfl, ?_, ?_, ⟨by have := HA.out; omega, by have := HA.out; omega, by have := HA.out; omega⟩, ⟨by have := Qm.out; omega, fun h => by first | rfl | (have := Qm.out; omega)⟩, ⟨fun h => by first | rfl | (have := Qm.out; omega)⟩, Q7, QI7⟩
              · first | rfl | (have hq1 := Qm.out; rw [show L - (o' + 4) = l' - 4 by omega, show cO - (o' + 4) = c' - 4 by omega]) | (have hq1 := Qm.out; rw [show L - (o' + 4) = 0 by omega, show cO - (o' + 4) = 0 by omega])
              · first | rfl | (have hq1 := Qm.out; rw [show n - (ol + 32) = m - 32 by omega, show (ol + 32) * 2 = ol * 2 + 64 by omega]) | (have hq1 := Qm.out; rw [show n - (ol + 32) = m - 32 by omega]) | (have hq1 := Qm.out; rw [show n - (ol + 32) = 0 by omega])
            · omega
          · have hc4b : ¬ c' - 4 = 0 := by omega
            have hl4i : (4 : Int) ≤ (l' : Int) := by omega
            have hlci : (l' : Int) ≤ (c' : Int) := by omega
            have hc4i : (4 : Int) ≤ (c' : Int) := by omega
            go_wp2
            go_roundg k1
            case rel =>
              refine ⟨j + 1, ol + 32, o' + 4, ol + 32, some ⟨gO, o' + 4, none⟩, _, _, rfl, ?_, ?_, ⟨by have := HA.out; omega, by have := HA.out; omega, by have := HA.out; omega⟩, ⟨by have := Qm.out; omega, fun h => by first | rfl | (have := Qm.out; omega)⟩, ⟨fun h => by first | rfl | (have := Qm.out; omega)⟩, Q7, QI7⟩
              · first | rfl | (have hq1 := Qm.out; rw [show L - (o' + 4) = l' - 4 by omega, show cO - (o' + 4) = c' - 4 by omega]) | (have hq1 := Qm.out; rw [show L - (o' + 4) = 0 by omega, show cO - (o' + 4) = 0 by omega])
              · first | rfl | (have hq1 := Qm.out; rw [show n - (ol + 32) = m - 32 by omega, show (ol + 32) * 2 = ol * 2 + 64 by omega]) | (have hq1 := Qm.out; rw [show n - (ol + 32) = m - 32 by omega]) | (have hq1 := Qm.out; rw [show n - (ol + 32) = 0 by omega])
            · omega
  case first =>
    have kp := blk_cell QS.out.p 0
    simp only [List.getElem?_toArray, List.getElem?_cons_zero] at kp
    by_cases hf0 : f = 0
    · have hb : ((f : Int) != 0) = false := by subst hf0; rfl
      go_wp2
      go_meet
      case rel => exact ⟨0, 0, Po, us, _, rfl, rfl, rfl, QPo, ⟨by omega, by omega⟩, QS, ⟨kinv_start QO.out.2.1 _ _⟩⟩
    have hb : ((f : Int) != 0) = true := by simpa using hf0
    obtain rfl := QPo.out (by have := Qn.out; omega)
    obtain ⟨v, hv⟩ : ∃ v, v = min n (8 - f) := ⟨_, rfl⟩
    have hsub : (8 : Int) - (f : Int) = ((8 - f : Nat) : Int) := by omega
    have hmin : min (n : Int) ((8 - f : Nat) : Int) = (v : Int) := by omega
    have Qv := Aside0.mk (show v ≤ n ∧ v ≤ 8 - f ∧ 0 < f ∧ (v < n → v = 8 - f) by omega)
    have hvn : (v : Int) ≤ (n : Int) := by omega
    have hvn2 : v ≤ n := by omega
    have hv32 : (v : Int) ≤ 32 := by omega
    have hv32n : v ≤ 32 := by omega
    clear hv hf0
    go_upto_region 8 with (fail)
    have hop := QF.out gl 0 v n xs y gT 32 v (List.replicate 32 (.int .u32 0)) W3.drew QS.out.l (by have := QS.out.lt; omega) (by rw [Qb.out.1]; omega) rfl QS.out.m (by have := QS.out.lt; omega) QS.out.t (by rw [List.length_replicate]; omega) (by have := Qn.out; omega)
    rw [show (fun i => cmpB op (rdD xs (0 + i)) y) = bf by rw [Qb.out.2.2]; funext i; rw [Nat.zero_add]] at hop
    have Qop := Aside0.mk hop
    clear hop
    have kp' : W3.drew.cell? ⟨gop, 0, none⟩ = some (.func (.func F) #[] cap) := kp
    have ky0' : W3.drew.cell? ⟨gy, 0, none⟩ = some (.int .u64 y.1) := (blk_cell QS.out.r 0).trans rfl
    have ky1' : W3.drew.cell? ⟨gy, 1, none⟩ = some (.int .i64 y.2) := (blk_cell QS.out.r 1).trans rfl
    refine wp_region_still_tail 8 (by kernel_rfl) (by kernel_rfl) ?_
    simp only [List.take_succ_cons, List.take_zero, List.drop_succ_cons, List.drop_zero]
    change wpStill _ _ (World.drew W3) _ _ _
    repeat still_step
    refine wpStill_nil ?_
    change wpList _ _ _ _ _ (World.drew W3)
    go_upto_region 9 with ((with_reducible refine gate_call (F := F) ?_); go_must (refine Qop.out.mono ?_; rintro e w4 ⟨rfl, h1, h2⟩; have Q4 := Aside0.mk (And.intro h1 (show Fr W3 w4 gT gT from ⟨h2.os, h2.tape, h2.output, h2.size, h2.far⟩)); clear h1 h2))
    have hS4 := QS.out.tmp Q4.out.2 Q4.out.1 (by rw [List.length_append, cU_len, List.length_drop, List.length_replicate]; omega)
    have Q5 := Aside0.mk hS4
    clear hS4 Qop kp kp' Q4
    obtain ⟨ts1, hts1⟩ : ∃ ts1, ts1 = cU bf v ++ (List.replicate 32 (.int .u32 0 : Value)).drop v := ⟨_, rfl⟩
    rw [← hts1] at Q5
    have Qts := Aside0.mk hts1
    clear hts1
    have hnv : (n : Int) - (v : Int) = ((n - v : Nat) : Int) := by omega
    obtain ⟨ol, hol⟩ : ∃ ol, ol = if n = v then 0 else v := ⟨_, rfl⟩
    by_cases hvn3 : n = v
    · rw [if_pos hvn3] at hol
      go_upto_region 11 with (fail)
      have Qn3 := Aside0.mk hvn3
      clear hvn3 hol
      have Q6 := Q5
      go_wp2_with fail
      go_loopg [57] v (fun kq v57 w' => ∃ (i : Nat) (us1 : List Value), v57 = .int .i64 (i : Int) ∧ Aside0 (i + kq = v) ∧ Aside0 (KS F cap gm 142 w xs [y] gl gy gT gO gop w' ts1 us1) ∧ Aside0 (KInv us us1 L f i bf))
      case atStart => exact ⟨0, us, rfl, ⟨by omega⟩, Q6, ⟨kinv_start QO.out.2.1 _ _⟩⟩
      case round =>
        obtain ⟨i, us1, rfl, HA, HK, HI⟩ := hrel
        clear Q5 Q6 QS
        rcases Nat.eq_zero_or_pos gk with h0 | h0
        · obtain rfl : i = v := by have := HA.out; omega
          go_wp2
          refine bodyPost_ret (v := .tuple #[]) (by simp [results, Tryd.results68, go_sem]) rfl ?_
          exact ⟨rfl, us1, HK.out.o, by rw [Qn3.out]; exact HI.out, HK.out.fr⟩
        · have hi : (i : Int) < (v : Int) := by have := HA.out; omega
          have hiv : i < v := by omega
          obtain ⟨k1, rfl⟩ : ∃ k1, gk = k1 + 1 := ⟨gk - 1, by omega⟩
          have k0 := (blk_cell HK.out.t i).trans (show ts1.toArray[i]? = some (.int .u32 (b2i (bf i))) by rw [List.getElem?_toArray, Qts.out, List.getElem?_append_left (by rw [cU_len]; exact hiv)]; exact cU_get bf hiv)
          obtain ⟨t, ht⟩ : ∃ t, t = bf i := ⟨_, rfl⟩
          rw [← ht] at k0
          have hbt : (b2i t != 0) = t := by cases t <;> rfl
          obtain ⟨x, hx, hx8⟩ := HI.out.1.2 ((f + i) / 8) (by have := Qn.out; have := Qv.out; omega)
          have hsb := sbt_is gO 0 L cO (f + i) 5 us1 x t wr HK.out.o (by have := Qn.out; have := Qv.out; omega) (by have := Qn.out; omega) (by rw [Nat.zero_add]; exact hx) hx8 (HK.out.bm QO.out.2.2.2.2.1 QO.out.2.2.2.2.2)
          rw [Int.natCast_add, Nat.zero_add] at hsb
          have hkb := kinv_bit HI.out (by have := Qn.out; have := Qv.out; omega) hx
          rw [← ht] at hkb
          obtain ⟨us2, hus2⟩ : ∃ us2, us2 = us1.set ((f + i) / 8) (.int .u8 (setb x ((f + i) % 8) t)) := ⟨_, rfl⟩
          rw [← hus2] at hsb hkb
          have Qsb := Aside0.mk hsb
          have Qkb := Aside0.mk hkb
          generalize b2i t = xb at k0 hbt
          clear hsb hkb hus2 hx hx8 ht h0 hiv
          go_wp2_with (go_at_call 66; go_must (refine Qsb.out.mono ?_; rintro e w7 ⟨rfl, h1, h2⟩; have Q7 := Aside0.mk (HK.out.out h2 h1); clear h1 h2))
          go_roundg k1
          case rel => exact ⟨i + 1, us2, rfl, ⟨by have := HA.out; omega⟩, Q7, Qkb⟩
          · omega
    · rw [if_neg hvn3] at hol
      go_upto_region 11 with (fail)
      have Q6 := Q5
      go_wp2_with fail
      go_loopg [57] v (fun kq v57 w' => ∃ (i : Nat) (us1 : List Value), v57 = .int .i64 (i : Int) ∧ Aside0 (i + kq = v) ∧ Aside0 (KS F cap gm 142 w xs [y] gl gy gT gO gop w' ts1 us1) ∧ Aside0 (KInv us us1 L f i bf))
      case atStart => exact ⟨0, us, rfl, ⟨by omega⟩, Q6, ⟨kinv_start QO.out.2.1 _ _⟩⟩
      case round =>
        obtain ⟨i, us1, rfl, HA, HK, HI⟩ := hrel
        clear Q5 Q6 QS
        rcases Nat.eq_zero_or_pos gk with h0 | h0
        · obtain rfl : i = v := by have := HA.out; omega
          have hv8 : f + i = 8 := by have := Qv.out; omega
          have hL2 : 2 ≤ L := by have := Qn.out; omega
          have hL1 : (1 : Int) ≤ (L : Int) := by omega
          have hc1 : (1 : Int) ≤ (cO : Int) := by have := Qn.out; omega
          have hc2 : ¬ cO = 1 := by have := Qn.out; omega
          have hc3 : ¬ cO - 1 = 0 := by have := Qn.out; omega
          have hLc : (L : Int) ≤ (cO : Int) := by have := Qn.out; omega
          have hLc2 : L ≤ cO := by have := Qn.out; omega
          have hL1n : 1 ≤ L := by omega
          have hne : ¬ ((n - i : Nat) : Int) = 0 := by omega
          go_wp2
          go_meet
          case rel => exact ⟨i, 1, some ⟨gO, 1, none⟩, us1, ts1, rfl, rfl, rfl, ⟨fun _ => rfl⟩, ⟨by omega, by omega⟩, HK, HI⟩
        · have hi : (i : Int) < (v : Int) := by have := HA.out; omega
          have hiv : i < v := by omega
          obtain ⟨k1, rfl⟩ : ∃ k1, gk = k1 + 1 := ⟨gk - 1, by omega⟩
          have k0 := (blk_cell HK.out.t i).trans (show ts1.toArray[i]? = some (.int .u32 (b2i (bf i))) by rw [List.getElem?_toArray, Qts.out, List.getElem?_append_left (by rw [cU_len]; exact hiv)]; exact cU_get bf hiv)
          obtain ⟨t, ht⟩ : ∃ t, t = bf i := ⟨_, rfl⟩
          rw [← ht] at k0
          have hbt : (b2i t != 0) = t := by cases t <;> rfl
          obtain ⟨x, hx, hx8⟩ := HI.out.1.2 ((f + i) / 8) (by have := Qn.out; have := Qv.out; omega)
          have hsb := sbt_is gO 0 L cO (f + i) 5 us1 x t wr HK.out.o (by have := Qn.out; have := Qv.out; omega) (by have := Qn.out; omega) (by rw [Nat.zero_add]; exact hx) hx8 (HK.out.bm QO.out.2.2.2.2.1 QO.out.2.2.2.2.2)
          rw [Int.natCast_add, Nat.zero_add] at hsb
          have hkb := kinv_bit HI.out (by have := Qn.out; have := Qv.out; omega) hx
          rw [← ht] at hkb
          obtain ⟨us2, hus2⟩ : ∃ us2, us2 = us1.set ((f + i) / 8) (.int .u8 (setb x ((f + i) % 8) t)) := ⟨_, rfl⟩
          rw [← hus2] at hsb hkb
          have Qsb := Aside0.mk hsb
          have Qkb := Aside0.mk hkb
          generalize b2i t = xb at k0 hbt
          clear hsb hkb hus2 hx hx8 ht h0 hiv
          go_wp2_with (go_at_call 66; go_must (refine Qsb.out.mono ?_; rintro e w7 ⟨rfl, h1, h2⟩; have Q7 := Aside0.mk (HK.out.out h2 h1); clear h1 h2))
          go_roundg k1
          case rel => exact ⟨i + 1, us2, rfl, ⟨by have := HA.out; omega⟩, Q7, Qkb⟩
          · omega
end Go.Proofs.YtlnbkmkdapeicaaDoor.QR
