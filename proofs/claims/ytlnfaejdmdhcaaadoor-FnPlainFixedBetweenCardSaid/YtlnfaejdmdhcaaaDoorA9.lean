/- spacedExpandSwap: a list's elements are spread over the set bits, from behind, by exchange. -/
import Derived.Test.YtlnfaejdmdhcaaaDoorA8
import Derived.BigRegion
import Derived.Test.YtlnfaejdmdhcaaaDoorA1
import Derived.StillTailTactics
import Derived.BigQuiet
import Derived.Deep.QuietTactic
namespace Go.Proofs.YtlnfaejdmdhcaaaDoor.QR
open Go.RowKit Go.Proofs.YtlnfaejdmdhcaaaDoorW.PrintWords Go.Proofs.YtlnfaejdmdhcaaaDoorW.PrintLast Go.Proofs.YtlnfaejdmdhcaaaDoorW.PrintMore
set_option linter.unusedVariables false
set_option linter.unusedSimpArgs false
set_option maxHeartbeats 8000000 in
set_option maxRecDepth 100000 in
theorem ses_is (bk n cb : Nat) (A : Option Addr) (l : List Int) (cap f : Nat) (vs : List Value) (w : World) (hb : w.heap[bk]? = some (.cells vs.toArray 59 (0, 0))) (hvn : n ≤ vs.length) (hnc : n ≤ cb) (hvc : cb ≤ vs.length) (hsl : ∀ u ∈ vs, Sl u) (hC : Kd.C (Kd.int .u8) w A l.length l) (hcap : l.length ≤ cap) (hbo : bytesOk l = true) (hll : l.length ≤ 1000000) (hfl : f + n ≤ 8 * l.length) (hfl2 : f + n ≤ 1000000) :
    Calls Tryd.prog 32 #[.slice (some ⟨bk, 0, none⟩) n cb, .int .i64 ((n : Int) - (rk (bt1 l) f n : Int)), .slice A l.length cap, .int .i64 (f : Int)] w fun e w' => e = .returned (.int .i64 (n : Int)) ∧ ∃ wv us, Vw w wv w' bk 59 us ∧ Exp (bt1 l) f n vs us ∧ ∀ u ∈ us, Sl u := by
  obtain ⟨K0, hK0⟩ : ∃ K0, K0 = rk (bt1 l) f n := ⟨_, rfl⟩
  rw [← hK0]
  have hKn : K0 ≤ n := by rw [hK0]; exact rk_le _ _ _
  have hn1 : (n : Int) ≤ 1000000 := by omega
  have hsub : (n : Int) - ((n : Int) - (K0 : Int)) = (K0 : Int) := by omega
  have QR := Aside0.mk (rev_is A l cap f n w hC hcap hbo hll hfl hfl2)
  have QV := Aside0.mk (Vw.start hb)
  have Qb := Aside0.mk (show n ≤ vs.length ∧ n ≤ cb ∧ cb ≤ vs.length ∧ K0 ≤ n ∧ n ≤ 1000000 from ⟨hvn, hnc, hvc, hKn, by omega⟩)
  have Qs := Aside0.mk hsl
  have QK0 := Aside0.mk hK0
  have hlen : ((vs.length : Nat) : Int) = (vs.length : Int) := rfl
  clear hb hvn hnc hvc hsl hC hcap hbo hll hfl hfl2 hlen hK0
  go_enter Tryd.func32, Tryd.ntmps32
  go_upto_region 3 with (fail)
  by_cases hK0 : K0 = 0
  · subst hK0
    go_wp2
    go_ret
    refine ⟨rfl, w, vs, QV.out, ⟨rfl, fun i hi hb => ?_⟩, Qs.out⟩
    have := rk_lt _ f i hb n hi
    have := QK0.out
    omega
  have hK1 : ¬ ((K0 : Int) = 0) := by omega
  clear hsub
  go_wp2_with (go_at_call 39; refine QR.out.mono ?_; rintro e w1 ⟨g, r, c, rfl, h1, h2, h3, h4, h5⟩; have H1 := Aside0.mk h1; have H2 := Aside0.mk h2; have H3 := Aside0.mk h3; have H4 := Aside0.mk h4; clear h1 h2 h3 h4 h5)
  have mixed : Tryd.prog.follows .mixedOrders = true := by kernel_rfl
  have e10 : (.int .i64 (K0 : Int) : Value) = .int .i64 ((rk (bt1 l) f n : Nat) : Int) := by rw [← QK0.out]
  rw [e10]
  have QS := Aside0.mk (show RS w w1 g l f n r c ∧ r + c = n ∧ w.heap.size ≤ g from ⟨H1.out, H2.out, H4.out⟩)
  have QV1 := Aside0.mk ((QV.out).step H3.out)
  clear H1 H2 H3 H4 QR QV hK0 hK1 e10
  go_loopg [10] n (fun kq v10 w' => ∃ (r1 c1 : Nat) (wv : World) (us : List Value), v10 = .int .i64 ((rk (bt1 l) f kq : Nat) : Int) ∧ Aside0 (r1 + c1 = kq ∧ kq ≤ n ∧ w.heap.size ≤ g) ∧ Aside0 (RS wv w' g l f n r1 c1) ∧ Aside0 (Vw w wv w' bk 59 us) ∧ Aside0 (Inv (bt1 l) f n kq vs us) ∧ Aside0 (∀ u ∈ us, Sl u))
  case atStart => exact ⟨r, c, w, vs, rfl, ⟨QS.out.2.1, Nat.le_refl _, QS.out.2.2⟩, ⟨QS.out.1⟩, QV1, ⟨inv_start _ _ _ _⟩, Qs⟩
  case round =>
    obtain ⟨r1, c1, wv, us, rfl, HA, HS, HV, HI, HL⟩ := hrel
    clear QS QV1 Qs
    have HN := Aside0.mk (nr_is g l f n r1 c1 wv wr HS.out HV.out.bel)
    have hle := nr_le (bt1 l) f gk
    have hrkS := nr_rk (bt1 l) f gk
    have hrle := rk_le (bt1 l) f (nrS (bt1 l) f gk)
    rw [HA.out.1] at HN
    obtain ⟨S, hS⟩ : ∃ S, S = nrS (bt1 l) f gk := ⟨_, rfl⟩
    obtain ⟨M, hM⟩ : ∃ M, M = nrN (bt1 l) f gk := ⟨_, rfl⟩
    obtain ⟨K, hK⟩ : ∃ K, K = rk (bt1 l) f S := ⟨_, rfl⟩
    rw [← hS] at HN hle hrkS hrle
    rw [← hM] at HN hle hrkS
    rw [← hK] at hrkS hrle
    rw [hrkS]
    have hgk : gk ≤ n := HA.out.2.1
    have hSi : (S : Int) ≤ 1000000 := by omega
    have hMi : (M : Int) ≤ 1000000 := by omega
    have hKi : (K : Int) ≤ 1000000 := by omega
    have hKM : ((K + M : Nat) : Int) - (M : Int) = (K : Int) := by omega
    have QSM := Aside0.mk (show S = nrS (bt1 l) f gk ∧ M = nrN (bt1 l) f gk ∧ K = rk (bt1 l) f S ∧ S + M ≤ gk ∧ K ≤ S from ⟨hS, hM, hK, by omega, hrle⟩)
    clear hS hM hK hle hrkS hrle hgk HS
    go_wp2_with fail
    refine HN.out.mono ?_
    rintro e w2 ⟨rfl, r2, c2, ⟨h1, h2, h3⟩, h4⟩
    have H1 := Aside0.mk h1
    have HV2 := Aside0.mk (HV.out.step h2)
    have H4 := Aside0.mk h4
    clear h1 h2 h3 h4 HN HV
    by_cases hM0 : M = 0
    · subst hM0
      go_wp2
      go_ret
      exact ⟨rfl, wv, us, HV2.out.alloc _, inv_none HI.out QSM.out.2.1.symm, HL.out⟩
    have hM1 : ¬ ((M : Int) = 0) := by omega
    have hM2 : ((M : Int) == 0) = false := by simpa using hM1
    have hKM2 : (K : Int) + (M : Int) - (M : Int) = (K : Int) := by omega
    by_cases hKS : K = S
    · have hKS2 : (K : Int) = (S : Int) := by omega
      have hKS3 : ((K : Int) == (S : Int)) = true := by simpa using hKS2
      go_wp2
      go_ret
      exact ⟨rfl, wv, us, HV2.out.alloc _, inv_same HI.out (by rw [← QSM.out.1, ← QSM.out.2.2.1]; exact hKS), HL.out⟩
    have hKS2 : ¬ ((K : Int) = (S : Int)) := by omega
    have hKS3 : ((K : Int) == (S : Int)) = false := by simpa using hKS2
    go_upto_region 11 with (fail)
    obtain ⟨W3, hW3⟩ : ∃ W3, W3 = w2.alloc (.cells #[.int .i64 (S : Int), .int .i64 (M : Int)] 96) := ⟨_, rfl⟩
    have a0 : W3.cell? ⟨w2.heap.size, 0, none⟩ = some (.int .i64 (S : Int)) := by rw [hW3]; exact blk_cell (blk_new w2 _) 0
    have a1 : W3.cell? ⟨w2.heap.size, 1, none⟩ = some (.int .i64 (M : Int)) := by rw [hW3]; exact blk_cell (blk_new w2 _) 1
    have HV3 : Vw w wv W3 bk 59 us := by rw [hW3]; exact HV2.out.alloc _
    have H13 : RS wv W3 g l f n r2 c2 := by rw [hW3]; exact H1.out.below (Below.alloc (Below.refl _ _) (Nat.le_refl _) _)
    have hbkw : w2.heap.size ≠ bk := by have := HV2.out.lt; have := HV2.out.bel.size; omega
    rw [← hW3]
    have QV3 := Aside0.mk HV3
    have Q13 := Aside0.mk H13
    clear HV3 H13
    clear hW3 H1 HV2
    have hKS' : K < S := by have := QSM.out; omega
    clear hKS hKS2 hKS3 hKM hKM2
    go_upto_region 12 with (fail)
    have QN := Aside0.mk hM0
    have Q0 := Aside0.mk (And.intro a0 hbkw)
    have QKS := Aside0.mk hKS'
    clear hM0 hM1 hM2 a0 a1 hbkw hKS'
    go_loopg [13] M (fun kq v13 w' => ∃ (wv1 : World) (us1 : List Value), v13 = .int .i64 ((kq : Int) - 1) ∧ Aside0 (kq ≤ M ∧ w'.cell? ⟨w2.heap.size, 0, none⟩ = some (.int .i64 (S : Int))) ∧ Aside0 (RS wv1 w' g l f n r2 c2) ∧ Aside0 (Vw w wv1 w' bk 59 us1) ∧ Aside0 (Swp us us1 S K M kq) ∧ Aside0 (∀ u ∈ us1, Sl u))
    case atStart => exact ⟨wv, us, rfl, ⟨Nat.le_refl _, Q0.out.1⟩, Q13, QV3, ⟨swp_start _ _ _ _⟩, HL⟩
    case round =>
      obtain ⟨wv1, us1, rfl, GA, GS, GV, GI, GL⟩ := hrel
      rcases Nat.eq_zero_or_pos gk with hq0 | hq0
      · subst hq0
        have hz : decide ((0 : Int) ≤ ((0 : Nat) : Int) - 1) = false := by decide
        go_wp2
        go_roundg S
        case rel =>
          refine ⟨r2, c2, wv1, us1, ?_, ⟨H4.out.trans QSM.out.1.symm, ?_, HA.out.2.2⟩, GS, GV, ⟨?_⟩, GL⟩
          · rw [← QSM.out.2.2.1]
          · have := QSM.out; have := HA.out; omega
          · have h := GI.out
            have e := QSM.out
            rw [e.2.2.1, e.1, e.2.1] at h
            have h2 := swp_end HI.out h
            rw [← e.1] at h2
            exact h2
        · have := QSM.out; have := QN.out; omega
      · obtain ⟨q, rfl⟩ : ∃ q, gk = q + 1 := ⟨gk - 1, by omega⟩
        rw [show ((q + 1 : Nat) : Int) - 1 = (q : Int) by omega]
        have hl : us1.length = us.length ∧ us.length = vs.length := ⟨GI.out.1, HI.out.1⟩
        have hqb : S + q < us1.length ∧ K + q < us1.length := by have := QSM.out; have := HA.out; have := Qb.out; have := GA.out; have := QKS.out; omega
        obtain ⟨a, ha⟩ : ∃ a, us1[S + q]? = some a := ⟨_, List.getElem?_eq_getElem hqb.1⟩
        obtain ⟨b, hb⟩ : ∃ b, us1[K + q]? = some b := ⟨_, List.getElem?_eq_getElem hqb.2⟩
        have ca := GV.out.cell ha
        have cb' := GV.out.cell hb
        have fa := GV.out.frozen (S + q)
        have fb := GV.out.frozen (K + q)
        have cr := GA.out.2
        have hd1 : (0 : Int) ≤ (S : Int) + (q : Int) := by omega
        have hd2 : (S : Int) + (q : Int) < (n : Int) := by have := QSM.out; have := HA.out; have := GA.out; omega
        have hd3 : (0 : Int) ≤ (K : Int) + (q : Int) := by omega
        have hd4 : (K : Int) + (q : Int) < (n : Int) := by have := QKS.out; omega
        have hd5 : ((S : Int) + (q : Int)).toNat = S + q := by omega
        have hd6 : ((K : Int) + (q : Int)).toNat = K + q := by omega
        have hq1 : (q : Int) ≤ 1000000 := by omega
        have hd7 : IntKind.i64.wrap ((K : Int) + (q : Int)) = (K : Int) + (q : Int) := IntWalk.i64_in _ (by omega)
        have hd8 : IntKind.i64.wrap ((S : Int) + (q : Int)) = (S : Int) + (q : Int) := IntWalk.i64_in _ (by omega)
        have hd9 : decide ((0 : Int) ≤ (q : Int)) = true := decide_eq_true (by omega)
        have hne : w2.heap.size ≠ bk := Q0.out.2
        have Qa := Aside0.mk (And.intro ha hb)
        have ne1 : ¬ (K = S) := by have := QKS.out; omega
        have ne2 : ¬ (S = K) := by have := QKS.out; omega
        have sa : Sl a := GL.out _ (List.mem_of_getElem? ha)
        have sb : Sl b := GL.out _ (List.mem_of_getElem? hb)
        obtain ⟨Aa, na, ca', rfl⟩ := sa
        obtain ⟨Ab, nb', cb'', rfl⟩ := sb
        clear hl hqb ha hb hq0
        go_upto_region 15 with (fail)
        go_region
        have hb1 : S + q < us1.length ∧ K + q < us1.length := ⟨(List.getElem?_eq_some_iff.1 Qa.out.1).1, (List.getElem?_eq_some_iff.1 Qa.out.2).1⟩
        have GV1 := set_below GV.out (S + q) (.slice Ab nb' cb'') hb1.1
        have GS1 := rs_set1 GV.out GL.out GS.out (S + q) (.slice Ab nb' cb'')
        have GL1 : ∀ u ∈ us1.set (S + q) (.slice Ab nb' cb''), Sl u := by
          intro u hu
          rcases List.mem_or_eq_of_mem_set hu with hu | rfl
          · exact GL.out u hu
          · exact ⟨_, _, _, rfl⟩
        have GV2 := set_below GV1 (K + q) (.slice Aa na ca') (by simpa using hb1.2)
        have GS2 := rs_set1 GV1 GL1 GS1 (K + q) (.slice Aa na ca')
        have cr2 : ((wr.setCell ⟨bk, S + q, none⟩ (.slice Ab nb' cb'')).setCell ⟨bk, K + q, none⟩ (.slice Aa na ca')).cell? ⟨w2.heap.size, 0, none⟩ = some (.int .i64 (S : Int)) := by
          rw [World.cell?_setCell_other _ _ _ _ (by simp [hne]), World.cell?_setCell_other _ _ _ _ (by simp [hne])]
          exact cr
        generalize (wr.setCell ⟨bk, S + q, none⟩ (.slice Ab nb' cb'')).setCell ⟨bk, K + q, none⟩ (.slice Aa na ca') = wn at *
        have GV3 := Aside0.mk (GV2.step GV2.bel.drew)
        have GS3 := Aside0.mk GS2.drew
        have GC3 := Aside0.mk cr2
        have GL3 := Aside0.mk (swp_all GL.out Qa.out.1 Qa.out.2)
        clear fa fb ca cb' cr hd1 hd2 hd3 hd4 hd5 hd6 hd7 hd8 hd9 hne ne1 ne2 hb1 GV1 GS1 GL1 GV2 GS2 cr2
        go_wp2
        go_roundg q
        case rel =>
          refine ⟨_, (us1.set (S + q) (.slice Ab nb' cb'')).set (K + q) (.slice Aa na ca'), rfl, ⟨by have := GA.out; omega, GC3.out⟩, GS3, GV3, ⟨?_⟩, GL3⟩
          exact swp_step GI.out GA.out.1 QKS.out (by have := QSM.out; have := HA.out; have := Qb.out; have := HI.out.1; omega) Qa.out.1 Qa.out.2
        · omega
end Go.Proofs.YtlnfaejdmdhcaaaDoor.QR
/- Texts are read plainly, one behind the other: Decode. -/
namespace Go.Proofs.YtlnfaejdmdhcaaaDoor.QR
open Go.RowKit Go.Proofs.YtlnfaejdmdhcaaaDoorW.PrintWords Go.Proofs.YtlnfaejdmdhcaaaDoorW.PrintLast Go.Proofs.YtlnfaejdmdhcaaaDoorW.PrintMore
set_option linter.unusedVariables false
set_option linter.unusedSimpArgs false
abbrev Cu (w : World) (A : Option Addr) (l : List Int) : Prop := Kd.C (Kd.int .u8) w A l.length l
theorem Cu.keep {w w' : World} {A : Option Addr} {l : List Int} (h : Cu w A l) (hk : ∀ ad, A = some ad → 0 < l.length → w'.heap[ad.block]? = w.heap[ad.block]?) : Cu w' A l := by
  have hr := Kd.reads_of_C (enc := Value.int .u8) (d := (0 : Int)) (h1 := fun _ => rfl) h
  refine Kd.C_of_reads (d := (0 : Int)) (enc := Value.int .u8) ⟨hr.1, hr.2.1, fun hn => ?_⟩
  obtain ⟨ad, e, hc⟩ := hr.2.2 hn
  refine ⟨ad, e, fun j hj => ?_⟩
  have := hc j hj
  unfold World.cell? at this ⊢
  rw [add_block, hk ad e hn, ← add_block ad j]
  exact this
/-- A block that holds no byte is not the row's. -/
theorem Cu.ne {w : World} {A : Option Addr} {l : List Int} (h : Cu w A l) {g : Nat} {cs : Array Value} {ty : TypeId} {fz : Nat × Nat} (hg : w.heap[g]? = some (.cells cs ty fz)) (hn : ∀ u ∈ cs, ∀ x, u ≠ .int .u8 x) (ad : Addr) (hA : A = some ad) (hl : 0 < l.length) : ad.block ≠ g := by
  intro he
  obtain ⟨ad2, h2, h3⟩ := Kd.at_int h 0 (Int.le_refl _) (by omega)
  rw [hA] at h2
  cases h2
  obtain ⟨ab, ao, ap⟩ := ad
  simp only at he
  subst he
  rw [show (Addr.add ⟨ab, ao, ap⟩ (0 : Int).toNat) = ⟨ab, ao, ap⟩ by simp [Addr.add]] at h3
  unfold World.cell? at h3
  simp only [hg] at h3
  split at h3
  · cases h3
  · exact hn _ (Array.mem_of_getElem? h3) _ rfl
theorem sl_nb {us : List Value} (h : ∀ u ∈ us, Sl u) : ∀ u ∈ us.toArray, ∀ x, u ≠ .int .u8 x := by
  intro u hu x e
  obtain ⟨A, n, c, h2⟩ := h u (by simpa using hu)
  rw [h2] at e
  cases e
/-- Nothing but two blocks, and what is new. -/
structure Fr (w w' : World) (bk gd : Nat) : Prop where
  os : w'.os = w.os
  tape : w'.tape = w.tape
  output : w'.output = w.output
  size : w.heap.size ≤ w'.heap.size
  far : ∀ k, k < w.heap.size → k ≠ bk → k ≠ gd → w'.heap[k]? = w.heap[k]?
theorem Fr.refl (w : World) (bk gd : Nat) : Fr w w bk gd := ⟨rfl, rfl, rfl, Nat.le_refl _, fun _ _ _ _ => rfl⟩
theorem Fr.step {w w' w'' : World} {bk gd : Nat} (h : Fr w w' bk gd) (hb : Below w'.heap.size w' w'') : Fr w w'' bk gd := ⟨hb.os.trans h.os, hb.tape.trans h.tape, hb.output.trans h.output, Nat.le_trans h.size hb.size, fun k h1 h2 h3 => (hb.block k (Nat.lt_of_lt_of_le h1 h.size)).trans (h.far k h1 h2 h3)⟩
theorem Fr.set {w w' : World} {bk gd : Nat} (h : Fr w w' bk gd) (g o : Nat) (v : Value) (hg : g = bk ∨ g = gd) : Fr w (w'.setCell ⟨g, o, none⟩ v) bk gd := by
  refine ⟨h.os, h.tape, h.output, by simpa [World.setCell] using h.size, fun k h1 h2 h3 => ?_⟩
  rw [Below.heap_setCell w' ⟨g, o, none⟩ v k (by rcases hg with rfl | rfl <;> assumption)]
  exact h.far k h1 h2 h3
theorem Fr.trans {w w' w'' : World} {bk gd : Nat} (h : Fr w w' bk gd) (k : Fr w' w'' bk gd) : Fr w w'' bk gd := ⟨k.os.trans h.os, k.tape.trans h.tape, k.output.trans h.output, Nat.le_trans h.size k.size, fun i h1 h2 h3 => (k.far i (Nat.lt_of_lt_of_le h1 h.size) h2 h3).trans (h.far i h1 h2 h3)⟩
/-- The first m cells are slices that hold the texts. -/
def Tx (w : World) (us : List Value) (ts : List (List Int)) (m : Nat) : Prop := ∀ j t, j < m → ts[j]? = some t → ∃ A c, us[j]? = some (.slice A t.length c) ∧ t.length ≤ c ∧ Cu w A t
theorem Tx.keep {w w' : World} {us : List Value} {ts : List (List Int)} {m : Nat} (h : Tx w us ts m) (hk : ∀ A (t : List Int), Cu w A t → Cu w' A t) : Tx w' us ts m := fun j t h1 h2 => by
  obtain ⟨A, c, h3, h4, h5⟩ := h j t h1 h2
  exact ⟨A, c, h3, h4, hk A t h5⟩
/-- A text as it is written plainly. -/
def encT (t : List Int) : List Int := [(t.length : Int) % 256, (t.length : Int) / 256 % 256, (t.length : Int) / 65536 % 256, (t.length : Int) / 16777216 % 256] ++ t
def encs : List (List Int) → List Int
  | [] => []
  | t :: r => encT t ++ encs r
theorem encT_len (t : List Int) : (encT t).length = t.length + 4 := by simp [encT]
theorem encs_append : ∀ a b : List (List Int), encs (a ++ b) = encs a ++ encs b
  | [], _ => rfl
  | t :: r, b => by rw [List.cons_append]; simp only [encs]; rw [encs_append r b, List.append_assoc]
theorem encs_split (ts : List (List Int)) (i : Nat) : encs ts = encs (ts.take i) ++ encs (ts.drop i) := by rw [← encs_append, List.take_append_drop]
theorem encs_drop_len (ts : List (List Int)) (i : Nat) : (encs (ts.drop i)).length ≤ (encs ts).length := by
  have := congrArg List.length (encs_split ts i)
  rw [List.length_append] at this
  omega
theorem encT_le (t : List Int) (R : List Int) : rd (encT t ++ R) 0 = (t.length : Int) % 256 ∧ rd (encT t ++ R) 1 = (t.length : Int) / 256 % 256 ∧ rd (encT t ++ R) 2 = (t.length : Int) / 65536 % 256 ∧ rd (encT t ++ R) 3 = (t.length : Int) / 16777216 % 256 := by
  refine ⟨?_, ?_, ?_, ?_⟩ <;> simp [rd, encT]
theorem le4_len (n : Nat) (h : n ≤ 1000000) : QE.le4 ((n : Int) % 256) ((n : Int) / 256 % 256) ((n : Int) / 65536 % 256) ((n : Int) / 16777216 % 256) = (n : Int) := by unfold QE.le4; omega
theorem encT_drop (t R : List Int) : ((encT t ++ R).take (t.length + 4)).drop 4 = t := by
  have h : (encT t ++ R).take (t.length + 4) = encT t := by rw [List.take_append_of_le_length (by rw [encT_len]; omega), List.take_of_length_le (by rw [encT_len]; omega)]
  rw [h]; simp [encT]
theorem encT_rest (t R : List Int) : (encT t ++ R).drop (t.length + 4) = R := by
  rw [List.drop_append_of_le_length (by rw [encT_len]; omega), List.drop_eq_nil_of_le (by rw [encT_len]; omega)]; rfl
end Go.Proofs.YtlnfaejdmdhcaaaDoor.QR
/- Texts are read plainly, one behind the other: Decode, the walk. -/
namespace Go.Proofs.YtlnfaejdmdhcaaaDoor.QR
open Go.RowKit Go.Proofs.YtlnfaejdmdhcaaaDoorW.PrintWords Go.Proofs.YtlnfaejdmdhcaaaDoorW.PrintLast Go.Proofs.YtlnfaejdmdhcaaaDoorW.PrintMore
set_option linter.unusedVariables false
set_option linter.unusedSimpArgs false
/-- What a decoder that reads plainly holds: how many values, what is left to read. -/
def Dc (w : World) (gd ty nv : Nat) (tl : Int) (D : List Int) : Prop := ∃ A c, w.heap[gd]? = some (.cells #[.int .i64 (nv : Int), .slice A D.length c, .int .i64 tl] ty (0, 0)) ∧ D.length ≤ c ∧ Cu w A D
set_option maxHeartbeats 8000000 in
set_option maxRecDepth 100000 in
theorem dec_is (gd bk m cb nv : Nat) (tl : Int) (ts : List (List Int)) (vs : List Value) (w : World) (hb : w.heap[bk]? = some (.cells vs.toArray 68 (0, 0))) (hne : gd ≠ bk) (hsl : ∀ u ∈ vs, Sl u) (hD : Dc w gd 66 nv tl (encs ts))
    (hmv : m ≤ vs.length) (hmb : m ≤ cb) (hmt : m ≤ ts.length) (hmn : m ≤ nv) (hm : m ≤ 1000000) (hnv : nv ≤ 1000000) (hlen : (encs ts).length ≤ 1000000) (hbo : bytesOk (encs ts) = true) :
    Calls Tryd.prog 36 #[.pointer (some ⟨gd, 0, none⟩), .slice (some ⟨bk, 0, none⟩) m cb] w fun e w' => e = .returned (.tuple #[.int .i64 (m : Int), .nilIface]) ∧ ∃ us, w'.heap[bk]? = some (.cells us.toArray 68 (0, 0)) ∧ us.length = vs.length ∧ (∀ u ∈ us, Sl u) ∧ Tx w' us ts m ∧ Fr w w' bk gd := by
  have QM := Aside0.mk (fun w => min_is m nv (by omega) (by omega) w)
  rw [Nat.min_eq_left hmn] at QM
  have hd0 : w.cell? ⟨gd, 0, none⟩ = some (.int .i64 (nv : Int)) := by obtain ⟨A, c, h1, _⟩ := hD; exact blk_cell h1 0
  have hmi : (m : Int) ≤ 1000000 := by omega
  have mixed : Tryd.prog.follows .mixedOrders = true := by kernel_rfl
  have Qb := Aside0.mk hb
  have Qs := Aside0.mk hsl
  have QD := Aside0.mk hD
  have Qh := Aside0.mk (show m ≤ vs.length ∧ m ≤ cb ∧ m ≤ ts.length ∧ m ≤ nv ∧ nv ≤ 1000000 ∧ (encs ts).length ≤ 1000000 ∧ bytesOk (encs ts) = true ∧ gd ≠ bk from ⟨hmv, hmb, hmt, hmn, hnv, hlen, hbo, hne⟩)
  clear hb hne hsl hD hmv hmb hmt hmn hm hnv hlen hbo
  go_enter Tryd.func36, Tryd.ntmps36
  go_wp2_with (go_at_call 38; refine (QM.out _).mono ?_; rintro e w' ⟨rfl, rfl⟩)
  go_loopg [7] m (fun kq v7 w' => ∃ (i : Nat) (us : List Value), v7 = .int .i64 (i : Int) ∧ Aside0 (i + kq = m) ∧ Aside0 (w'.heap[bk]? = some (.cells us.toArray 68 (0, 0)) ∧ us.length = vs.length ∧ (∀ u ∈ us, Sl u)) ∧ Aside0 (Dc w' gd 66 nv tl (encs (ts.drop i))) ∧ Aside0 (Tx w' us ts i) ∧ Aside0 (Fr w w' bk gd))
  case atStart => exact ⟨0, vs, rfl, ⟨by omega⟩, ⟨Qb.out, rfl, Qs.out⟩, QD, ⟨fun j t h => absurd h (Nat.not_lt_zero _)⟩, ⟨Fr.refl _ _ _⟩⟩
  case round =>
    obtain ⟨i, us, rfl, HA, HB, HD, HT, HF⟩ := hrel
    clear Qb Qs QD hd0 QM
    rcases Nat.eq_zero_or_pos gk with hq0 | hq0
    · have him : ((i : Int) < (m : Int)) = False := by have := HA.out; simp; omega
      have hd0 : wr.cell? ⟨gd, 0, none⟩ = some (.int .i64 (nv : Int)) := by obtain ⟨A, c, h1, _⟩ := HD.out; exact blk_cell h1 0
      have fd0 : wr.frozen? ⟨gd, 0, none⟩ = false := by obtain ⟨A, c, h1, _⟩ := HD.out; exact blk_frozen h1 0
      have hnm : (m : Int) ≤ (nv : Int) := by have := Qh.out; omega
      have hnv : (nv : Int) ≤ 1000000 := by have := Qh.out; omega
      go_wp2
      refine bodyPost_ret (v := .tuple #[.int .i64 (m : Int), .nilIface]) (by simp [results, Tryd.results36, go_sem]) rfl ?_
      have hbk : (wr.setCell ⟨gd, 0, none⟩ (.int .i64 ((nv : Int) - (m : Int)))).heap[bk]? = wr.heap[bk]? := Below.heap_setCell wr _ _ _ (Ne.symm Qh.out.2.2.2.2.2.2.2)
      obtain ⟨b1, b2, b3⟩ := HB.out
      obtain rfl : i = m := by have := HA.out; omega
      refine ⟨rfl, us, hbk.trans b1, b2, b3, HT.out.keep (fun A t h => h.keep (fun ad hA hl => Below.heap_setCell wr _ _ _ ?_)), HF.out.set gd 0 _ (.inr rfl)⟩
      obtain ⟨A2, c2, h2, _⟩ := HD.out
      exact h.ne h2 (by intro u hu x e; subst e; simp at hu) ad hA hl
    · have hi : i < ts.length := by have := HA.out; have := Qh.out; omega
      obtain ⟨t, ht⟩ : ∃ t, ts[i]? = some t := ⟨_, List.getElem?_eq_getElem hi⟩
      have hdr : ts.drop i = t :: ts.drop (i + 1) := by rw [List.drop_eq_getElem_cons hi]; congr 1; rw [List.getElem?_eq_getElem hi] at ht; exact Option.some.inj ht
      obtain ⟨R, hR⟩ : ∃ R, R = encs (ts.drop (i + 1)) := ⟨_, rfl⟩
      obtain ⟨A, c, h1, h2, h3⟩ := HD.out
      have hE : encs (ts.drop i) = encT t ++ R := by rw [hdr, hR]; rfl
      rw [hE] at h1 h2 h3
      have hl1 : (encT t ++ R).length = t.length + 4 + R.length := by rw [List.length_append, encT_len]
      obtain ⟨ad, rfl, _⟩ := h3.2.2 (by omega)
      obtain ⟨L, hL⟩ : ∃ L, L = t.length := ⟨_, rfl⟩
      have hLb : L + 4 + R.length ≤ 1000000 := by have e := encs_drop_len ts i; have := Qh.out; rw [hE, hl1] at e; omega
      rw [← hL] at hl1
      obtain ⟨dl, hdl⟩ : ∃ dl, dl = (encT t ++ R).length := ⟨_, rfl⟩
      rw [← hdl] at h1 h2 hl1
      have QC := Aside0.mk h3
      have Qw := Aside0.mk h1
      have hr := encT_le t R
      have hle := le4_len L (by omega)
      rw [← hL] at hr
      have q0 := Kd.at_int h3 0 (by omega) (by omega)
      have q1 := Kd.at_int h3 1 (by omega) (by omega)
      have q2 := Kd.at_int h3 2 (by omega) (by omega)
      have q3 := Kd.at_int h3 3 (by omega) (by omega)
      obtain ⟨_, e0, q0⟩ := q0; cases e0
      obtain ⟨_, e1, q1⟩ := q1; cases e1
      obtain ⟨_, e2, q2⟩ := q2; cases e2
      obtain ⟨_, e3, q3⟩ := q3; cases e3
      rw [hr.1] at q0; rw [hr.2.1] at q1; rw [hr.2.2.1] at q2; rw [hr.2.2.2] at q3
      have HU := QE.u32_is ad 4 c _ _ _ _ wr.drew (by omega) (by omega) (by omega) (by omega) (by omega) (q0 : wr.drew.cell? (ad.add 0) = _) (q1 : wr.drew.cell? (ad.add 1) = _) (q2 : wr.drew.cell? (ad.add 2) = _) (q3 : wr.drew.cell? (ad.add 3) = _)
      rw [hle] at HU
      have HU := Aside0.mk HU
      have k1 := blk_cell h1 1
      have z1 := blk_frozen h1 1
      simp only [List.getElem?_toArray, List.getElem?_cons_succ, List.getElem?_cons_zero] at k1
      have hlt : (i : Int) < (m : Int) := by have := HA.out; omega
      have hlt2 : i < m := by omega
      have Qi := Aside0.mk hlt2
      have hd4 : decide ((dl : Int) < 4) = false := decide_eq_false (by omega)
      have hc4 : (4 : Int) ≤ (c : Int) := by omega
      have hc4' : 4 ≤ c := by omega
      have Qt := Aside0.mk (show ts[i]? = some t ∧ R = encs (ts.drop (i + 1)) ∧ L = t.length ∧ dl = (encT t ++ R).length ∧ dl = L + 4 + R.length ∧ L + 4 + R.length ≤ 1000000 ∧ dl ≤ c from ⟨ht, hR, hL, hdl, hl1, hLb, h2⟩)
      have hL6 : (L : Int) ≤ 1000000 := by omega
      clear hi ht hdr hR h2 hE hl1 hL hLb hdl hr hle q0 q1 q2 q3 h1 h3 hq0 HD
      go_upto_region 7 with (fail)
      refine wp_region_still_tail 7 (by kernel_rfl) (by kernel_rfl) ?_
      simp only [List.take_succ_cons, List.take_zero, List.drop_succ_cons, List.drop_zero]
      change wpStill _ _ (World.drew wr) _ _ _
      repeat still_step
      refine wpStill_nil ?_
      change wpList _ _ _ _ _ (World.drew wr)
      have Qgd := Aside0.mk (show gd < wr.drew.heap.size from blk_lt Qw.out)
      clear k1 z1 hlt hlt2 hd4 hc4 hc4'
      go_upto_region 8 with (go_at_call 40; refine HU.out.mono ?_; rintro e w5 ⟨rfl, hb5⟩; have QB5 := Aside0.mk hb5; clear hb5)
      have hb5 : Below wr.heap.size wr w5 := ⟨QB5.out.os, QB5.out.tape, QB5.out.output, QB5.out.size, QB5.out.block⟩
      have hbk : bk < wr.heap.size := blk_lt HB.out.1
      have HB5 := Aside0.mk (show w5.heap[bk]? = some (.cells us.toArray 68 (0, 0)) ∧ us.length = vs.length ∧ (∀ u ∈ us, Sl u) from ⟨(hb5.block bk hbk).trans HB.out.1, HB.out.2⟩)
      have HD5 := Aside0.mk (show w5.heap[gd]? = some (.cells #[.int .i64 (nv : Int), .slice (some ad) dl c, .int .i64 tl] 66 (0, 0)) from (hb5.block gd Qgd.out).trans Qw.out)
      have HC5 := Aside0.mk (show Cu w5 (some ad) (encT t ++ R) from Kd.C_below QC.out hb5)
      have HT5 := Aside0.mk (show Tx w5 us ts i from HT.out.keep (fun A t h => Kd.C_below h hb5))
      have HF5 := Aside0.mk (show Fr w w5 bk gd from HF.out.step hb5)
      have hgb : gd ≠ bk := Qh.out.2.2.2.2.2.2.2
      have hbg : bk ≠ gd := Ne.symm hgb
      have k1 := blk_cell HD5.out 1
      simp only [List.getElem?_toArray, List.getElem?_cons_succ, List.getElem?_cons_zero] at k1
      have z1 := blk_frozen HD5.out 1
      have hiu : i < us.length := by have := HB.out.2.1; have := Qh.out; have := Qi.out; omega
      have kb : w5.cell? ⟨bk, i, none⟩ = some (us[i]'hiu) := (blk_cell HB5.out.1 i).trans (by simp [hiu])
      have zb := blk_frozen HB5.out.1 i
      generalize us[i]'hiu = ui at kb
      have g1 : ¬ ((L : Int) < 0) := by omega
      have g2 : decide ((L : Int) < 0) = false := decide_eq_false g1
      have g3 : ((dl : Int) < (L : Int) + 4) = False := by have := Qt.out; simp; omega
      have g4 : decide ((dl : Int) < (L : Int) + 4) = false := decide_eq_false (by have := Qt.out; omega)
      have g5 : IntKind.i32.wrap ((L : Int) + 4) = (L : Int) + 4 := IntWalk.i32_in _ (by omega)
      have g6 : IntKind.i64.wrap ((L : Int) + 4) = (L : Int) + 4 := IntWalk.i64_in _ (by omega)
      have g7 : (0 : Int) ≤ (L : Int) + 4 := by omega
      have g8 : (L : Int) + 4 ≤ (c : Int) := by have := Qt.out; omega
      have g9 : ((L : Int) + 4).toNat = L + 4 := by omega
      have g10 : (4 : Int) ≤ (L : Int) + 4 := by omega
      have g11 : (i : Int) < (m : Int) := by have := Qi.out; omega
      have g12 : L + 4 ≤ dl := by have := Qt.out; omega
      have g13 : L + 4 ≤ c := by have := Qt.out; omega
      have g14 : i < m := by omega
      clear hb5 hbk QB5 HB QC Qw HT HF hiu HU Qgd
      go_upto_region 12 with (fail)
      go_upto_region 13 with (fail)
      obtain ⟨TA, hTA⟩ : ∃ TA : Option Addr, TA = (if L = 0 then some ad else some ⟨ad.block, ad.off + 4, none⟩) := ⟨_, rfl⟩
      have HTc : Cu w5 TA t := by
        have h := Kd.C_drop (c := L + 4) (m := 4) (Kd.C_take HC5.out (m := L + 4) (by have := Qt.out; omega)) (by rw [List.length_take]; have := Qt.out; omega) (by rw [List.length_take]; have := Qt.out; omega)
        have e1 : ((encT t ++ R).take (L + 4)).drop 4 = t := by rw [Qt.out.2.2.1]; exact encT_drop t R
        rw [e1] at h
        have e2 : (if L + 4 = 4 then (some ad : Option Addr) else (some ad).map (·.add (4 * (Kd.int .u8).sz))) = TA := by
          rw [hTA]
          have e3 : ad.add (4 * (Kd.int .u8).sz) = ⟨ad.block, ad.off + 4, none⟩ := rfl
          by_cases h0 : L = 0
          · rw [if_pos (by omega), if_pos h0]
          · rw [if_neg (by omega), if_neg h0]; rfl
        rw [e2] at h
        exact h
      have nb5 : ∀ u ∈ us.toArray, ∀ x, u ≠ .int .u8 x := sl_nb HB5.out.2.2
      obtain ⟨w6, hw6⟩ : ∃ w6, w6 = w5.setCell ⟨bk, i, none⟩ (.slice TA L L) := ⟨_, rfl⟩
      have hset : ∀ k, k ≠ bk → w6.heap[k]? = w5.heap[k]? := fun k hk => by rw [hw6]; exact Below.heap_setCell w5 _ _ k hk
      have hkp : ∀ A (l : List Int), Cu w5 A l → Cu w6 A l := fun A l h => h.keep (fun ad hA hl => hset _ (h.ne HB5.out.1 nb5 ad hA hl))
      have hiu : i < us.length := by have := HB5.out.2.1; have := Qh.out; have := Qi.out; omega
      have HB6 := Aside0.mk (show w6.heap[bk]? = some (.cells (us.set i (.slice TA L L)).toArray 68 (0, 0)) ∧ (us.set i (.slice TA L L)).length = vs.length ∧ (∀ u ∈ us.set i (.slice TA L L), Sl u) by
        refine ⟨?_, by rw [List.length_set]; exact HB5.out.2.1, fun u hu => ?_⟩
        · rw [hw6]
          have := blk_set HB5.out.1 i (.slice TA L L)
          simpa using this
        · rcases List.mem_or_eq_of_mem_set hu with hu | rfl
          · exact HB5.out.2.2 u hu
          · exact ⟨_, _, _, rfl⟩)
      have HD6 := Aside0.mk (show w6.heap[gd]? = some (.cells #[.int .i64 (nv : Int), .slice (some ad) dl c, .int .i64 tl] 66 (0, 0)) from (hset gd hgb).trans HD5.out)
      have HC6 := Aside0.mk (hkp _ _ HC5.out)
      have HT6 := Aside0.mk (show Tx w6 (us.set i (.slice TA L L)) ts (i + 1) by
        intro j t' hj ht'
        rcases Nat.lt_or_ge j i with h1 | h1
        · obtain ⟨A, c', e1, e2, e3⟩ := HT5.out j t' h1 ht'
          exact ⟨A, c', by rw [List.getElem?_set, if_neg (by omega)]; exact e1, e2, hkp _ _ e3⟩
        · obtain rfl : j = i := by omega
          have e := Qt.out.1
          rw [ht'] at e
          cases e
          exact ⟨TA, L, by rw [List.getElem?_set, if_pos rfl, if_pos hiu, ← Qt.out.2.2.1], by rw [← Qt.out.2.2.1]; exact Nat.le_refl _, hkp _ _ HTc⟩)
      have HF6 := Aside0.mk (show Fr w w6 bk gd by rw [hw6]; exact HF5.out.set bk i _ (.inl rfl))
      rw [← hTA, ← hw6]
      have k1' : w6.cell? ⟨gd, 1, none⟩ = some (.slice (some ad) dl c) := (blk_cell HD6.out 1).trans rfl
      have z1' := blk_frozen HD6.out 1
      clear hset hkp nb5 HTc hTA hw6 HB5 HD5 HC5 HT5 HF5 k1 z1 kb zb hiu
      obtain ⟨k1, rfl⟩ : ∃ k1, gk = k1 + 1 := ⟨gk - 1, by have := HA.out; have := Qi.out; omega⟩
      have fin : ∀ (A'' : Option Addr) (c'' : Nat), R.length ≤ c'' → Cu w6 A'' R → ∃ (i1 : Nat) (us1 : List Value), (.int .i64 ((i : Int) + 1) : Value) = .int .i64 (i1 : Int) ∧ Aside0 (i1 + k1 = m) ∧ Aside0 ((w6.setCell ⟨gd, 1, none⟩ (.slice A'' (dl - (L + 4)) c'')).heap[bk]? = some (.cells us1.toArray 68 (0, 0)) ∧ us1.length = vs.length ∧ (∀ u ∈ us1, Sl u)) ∧ Aside0 (Dc (w6.setCell ⟨gd, 1, none⟩ (.slice A'' (dl - (L + 4)) c'')) gd 66 nv tl (encs (ts.drop i1))) ∧ Aside0 (Tx (w6.setCell ⟨gd, 1, none⟩ (.slice A'' (dl - (L + 4)) c'')) us1 ts i1) ∧ Aside0 (Fr w (w6.setCell ⟨gd, 1, none⟩ (.slice A'' (dl - (L + 4)) c'')) bk gd) := by
        intro A'' c'' hc'' hA''
        have hset : ∀ k, k ≠ gd → (w6.setCell ⟨gd, 1, none⟩ (.slice A'' (dl - (L + 4)) c'')).heap[k]? = w6.heap[k]? := fun k hk => Below.heap_setCell w6 _ _ k hk
        have hkp : ∀ A (l : List Int), Cu w6 A l → Cu (w6.setCell ⟨gd, 1, none⟩ (.slice A'' (dl - (L + 4)) c'')) A l := fun A l h => h.keep (fun ad hA hl => hset _ (h.ne HD6.out (by intro u hu x e; subst e; simp at hu) ad hA hl))
        refine ⟨i + 1, us.set i (.slice TA L L), rfl, ⟨by have := HA.out; omega⟩, ⟨(hset bk hbg).trans HB6.out.1, HB6.out.2⟩, ⟨⟨A'', c'', ?_, ?_, ?_⟩⟩, ⟨HT6.out.keep hkp⟩, ⟨HF6.out.set gd 1 _ (.inr rfl)⟩⟩
        · have := blk_set HD6.out 1 (.slice A'' (dl - (L + 4)) c'')
          rw [← Qt.out.2.1, show R.length = dl - (L + 4) by have := Qt.out; omega]
          simpa using this
        · rw [← Qt.out.2.1]; exact hc''
        · rw [← Qt.out.2.1]; exact hkp _ _ hA''
      have hRC := Kd.C_drop (c := c) (m := L + 4) HC6.out (by have := Qt.out; omega) (by have := Qt.out; omega)
      rw [show (encT t ++ R).drop (L + 4) = R by rw [Qt.out.2.2.1]; exact encT_rest t R] at hRC
      have Qfin := Aside0.mk fin
      have QRC := Aside0.mk hRC
      clear fin hRC
      by_cases hc : c = L + 4
      · have hcb : c - (L + 4) = 0 := by omega
        go_wp2
        go_roundg k1
        case rel =>
          have h := QRC.out
          rw [if_pos hc] at h
          have e := Qfin.out (some ad) 0 (by have := Qt.out; omega) h
          exact e
        · omega
      · go_wp2
        go_roundg k1
        case rel =>
          have h := QRC.out
          rw [if_neg hc, show (Option.map (fun x : Addr => x.add ((L + 4) * (Kd.int .u8).sz)) (some ad)) = some ⟨ad.block, ad.off + (L + 4), none⟩ by show some (ad.add ((L + 4) * 1)) = _; simp [Addr.add]] at h
          have e := Qfin.out _ (c - (L + 4)) (by have := Qt.out; omega) h
          exact e
        · omega
end Go.Proofs.YtlnfaejdmdhcaaaDoor.QR
/- Texts of one length are read plainly: Decode, the walk. -/
namespace Go.Proofs.YtlnfaejdmdhcaaaDoor.QR
open Go.RowKit Go.Proofs.YtlnfaejdmdhcaaaDoorW.PrintWords Go.Proofs.YtlnfaejdmdhcaaaDoorW.PrintLast Go.Proofs.YtlnfaejdmdhcaaaDoorW.PrintMore
set_option linter.unusedVariables false
set_option linter.unusedSimpArgs false
def flat : List (List Int) → List Int
  | [] => []
  | t :: r => t ++ flat r
theorem flat_append : ∀ a b : List (List Int), flat (a ++ b) = flat a ++ flat b
  | [], _ => rfl
  | t :: r, b => by rw [List.cons_append]; simp only [flat]; rw [flat_append r b, List.append_assoc]
theorem flat_len (tl : Nat) : ∀ ts : List (List Int), (∀ t ∈ ts, t.length = tl) → (flat ts).length = ts.length * tl
  | [], _ => by simp [flat]
  | t :: r, h => by
    simp only [flat]
    rw [List.length_append, h t (List.mem_cons_self ..), flat_len tl r (fun u hu => h u (List.mem_cons_of_mem _ hu)), List.length_cons, Nat.add_mul, Nat.one_mul, Nat.add_comm]
set_option maxHeartbeats 8000000 in
set_option maxRecDepth 100000 in
theorem decf_is (gd bk m cb nv tl : Nat) (ts : List (List Int)) (vs : List Value) (w : World) (hb : w.heap[bk]? = some (.cells vs.toArray 59 (0, 0))) (hne : gd ≠ bk) (hsl : ∀ u ∈ vs, Sl u) (hD : Dc w gd 56 nv (tl : Int) (flat ts))
    (hmv : m ≤ vs.length) (hmb : m ≤ cb) (hmt : m ≤ ts.length) (hmn : m ≤ nv) (hm : m ≤ 1000000) (hnv : nv ≤ 1000000) (hlen : (flat ts).length ≤ 1000000) (htl : tl ≤ 1000) (hts : ∀ t ∈ ts, t.length = tl) (h0 : 0 < tl) :
    Calls Tryd.prog 30 #[.pointer (some ⟨gd, 0, none⟩), .slice (some ⟨bk, 0, none⟩) m cb] w fun e w' => e = .returned (.tuple #[.int .i64 (m : Int), .nilIface]) ∧ ∃ us, w'.heap[bk]? = some (.cells us.toArray 59 (0, 0)) ∧ us.length = vs.length ∧ (∀ u ∈ us, Sl u) ∧ Tx w' us ts m ∧ Fr w w' bk gd := by
  have QM := Aside0.mk (fun w => min_is m nv (by omega) (by omega) w)
  rw [Nat.min_eq_left hmn] at QM
  obtain ⟨A0, c0, h1, h2, h3⟩ := id hD
  have hfl := flat_len tl ts hts
  have hmul : m * tl ≤ ts.length * tl := Nat.mul_le_mul_right _ hmt
  obtain ⟨nb, hnb⟩ : ∃ nb, nb = m * tl := ⟨_, rfl⟩
  have hnbi : (m : Int) * (tl : Int) = (nb : Int) := by rw [hnb]; exact (Int.natCast_mul m tl).symm
  obtain ⟨dl, hdl⟩ : ∃ dl, dl = (flat ts).length := ⟨_, rfl⟩
  rw [← hdl] at h1
  have d0 := (blk_cell h1 0).trans rfl
  have d1 := (blk_cell h1 1).trans rfl
  have d2 := (blk_cell h1 2).trans rfl
  have hmi : (m : Int) ≤ 1000000 := by omega
  have hnbl : (nb : Int) ≤ 1000000 := by omega
  have g1 : nb ≤ dl := by omega
  have g1b : ¬ dl < nb := by omega
  have g1c : decide (dl < nb) = false := decide_eq_false (by omega)
  have g2 : decide ((2147483647 : Int) < (nb : Int)) = false := decide_eq_false (by omega)
  have hmb1 : (m : Int) ≤ (cb : Int) := by omega
  have mixed : Tryd.prog.follows .mixedOrders = true := by kernel_rfl
  have Qb := Aside0.mk hb
  have Qs := Aside0.mk hsl
  have QD := Aside0.mk hD
  have Qh := Aside0.mk (show m ≤ vs.length ∧ m ≤ cb ∧ m ≤ ts.length ∧ m ≤ nv ∧ nv ≤ 1000000 ∧ (flat ts).length ≤ 1000000 ∧ tl ≤ 1000 ∧ 0 < tl ∧ (∀ t ∈ ts, t.length = tl) ∧ gd ≠ bk from ⟨hmv, hmb, hmt, hmn, hnv, hlen, htl, h0, hts, hne⟩)
  clear hb hne hsl hD hmv hmt hmn hm hnv hlen htl hts h0 h1 h2 h3 hfl hmul hnb hdl
  go_enter Tryd.func30, Tryd.ntmps30
  go_upto_region 5 with (go_at_call 38; refine (QM.out _).mono ?_; rintro e w' ⟨rfl, rfl⟩)
  clear g1 g1b g1c g2 d0 d1 d2 hnbi hnbl QM
  go_wp2_with fail
  go_loopg [41] m (fun kq v41 w' => ∃ (i : Nat) (us : List Value), v41 = .int .i64 (i : Int) ∧ Aside0 (i + kq = m) ∧ Aside0 (w'.heap[bk]? = some (.cells us.toArray 59 (0, 0)) ∧ us.length = vs.length ∧ (∀ u ∈ us, Sl u)) ∧ Aside0 (Dc w' gd 56 nv (tl : Int) (flat (ts.drop i))) ∧ Aside0 (Tx w' us ts i) ∧ Aside0 (Fr w w' bk gd))
  case atStart => exact ⟨0, vs, rfl, ⟨by omega⟩, ⟨Qb.out, rfl, Qs.out⟩, QD, ⟨fun j t h => absurd h (Nat.not_lt_zero _)⟩, ⟨Fr.refl _ _ _⟩⟩
  case round =>
    obtain ⟨i, us, rfl, HA, HB, HD, HT, HF⟩ := hrel
    clear Qb Qs QD
    rcases Nat.eq_zero_or_pos gk with hq0 | hq0
    · have him : ((i : Int) < (m : Int)) = False := by have := HA.out; simp; omega
      have hd0 : wr.cell? ⟨gd, 0, none⟩ = some (.int .i64 (nv : Int)) := by obtain ⟨A, c, h1, _⟩ := HD.out; exact blk_cell h1 0
      have fd0 : wr.frozen? ⟨gd, 0, none⟩ = false := by obtain ⟨A, c, h1, _⟩ := HD.out; exact blk_frozen h1 0
      have hnm : (m : Int) ≤ (nv : Int) := by have := Qh.out; omega
      have hnv : (nv : Int) ≤ 1000000 := by have := Qh.out; omega
      go_wp2
      refine bodyPost_ret (v := .tuple #[.int .i64 (m : Int), .nilIface]) (by simp [results, Tryd.results30, go_sem]) rfl ?_
      have hbk : (wr.setCell ⟨gd, 0, none⟩ (.int .i64 ((nv : Int) - (m : Int)))).heap[bk]? = wr.heap[bk]? := Below.heap_setCell wr _ _ _ (Ne.symm Qh.out.2.2.2.2.2.2.2.2.2)
      obtain ⟨b1, b2, b3⟩ := HB.out
      obtain rfl : i = m := by have := HA.out; omega
      refine ⟨rfl, us, hbk.trans b1, b2, b3, HT.out.keep (fun A t h => h.keep (fun ad hA hl => Below.heap_setCell wr _ _ _ ?_)), HF.out.set gd 0 _ (.inr rfl)⟩
      obtain ⟨A2, c2, h2, _⟩ := HD.out
      exact h.ne h2 (by intro u hu x e; subst e; simp at hu) ad hA hl
    · have hi : i < ts.length := by have := HA.out; have := Qh.out; omega
      obtain ⟨t, ht⟩ : ∃ t, ts[i]? = some t := ⟨_, List.getElem?_eq_getElem hi⟩
      have htl : t.length = tl := Qh.out.2.2.2.2.2.2.2.2.1 t (List.mem_of_getElem? ht)
      have hdr : ts.drop i = t :: ts.drop (i + 1) := by rw [List.drop_eq_getElem_cons hi]; congr 1; rw [List.getElem?_eq_getElem hi] at ht; exact Option.some.inj ht
      obtain ⟨R, hR⟩ : ∃ R, R = flat (ts.drop (i + 1)) := ⟨_, rfl⟩
      obtain ⟨A, c, h1, h2, h3⟩ := HD.out
      have hE : flat (ts.drop i) = t ++ R := by rw [hdr, hR]; rfl
      rw [hE] at h1 h2 h3
      have hl1 : (t ++ R).length = tl + R.length := by rw [List.length_append, htl]
      have h0 : 0 < tl := Qh.out.2.2.2.2.2.2.2.1
      obtain ⟨ad, rfl, _⟩ := h3.2.2 (by omega)
      obtain ⟨dl, hdl⟩ : ∃ dl, dl = (t ++ R).length := ⟨_, rfl⟩
      rw [← hdl] at h1 h2 hl1
      have QC := Aside0.mk h3
      have Qw := Aside0.mk h1
      have k1 : wr.cell? ⟨gd, 1, none⟩ = some (.slice (some ad) dl c) := (blk_cell h1 1).trans rfl
      have k2 : wr.cell? ⟨gd, 2, none⟩ = some (.int .i64 (tl : Int)) := (blk_cell h1 2).trans rfl
      have z1 := blk_frozen h1 1
      have hlt : (i : Int) < (m : Int) := by have := HA.out; omega
      have hlt2 : i < m := by omega
      have Qi := Aside0.mk hlt2
      have Qt := Aside0.mk (show ts[i]? = some t ∧ R = flat (ts.drop (i + 1)) ∧ t.length = tl ∧ dl = (t ++ R).length ∧ dl = tl + R.length ∧ dl ≤ c ∧ 0 < tl from ⟨ht, hR, htl, hdl, hl1, h2, h0⟩)
      have htl6 : (tl : Int) ≤ 1000 := by have := Qh.out; omega
      have hc4 : (tl : Int) ≤ (c : Int) := by omega
      have hc4' : tl ≤ c := by omega
      have hgb : gd ≠ bk := Qh.out.2.2.2.2.2.2.2.2.2
      have hbg : bk ≠ gd := Ne.symm hgb
      have hiu : i < us.length := by have := HB.out.2.1; have := Qh.out; omega
      have kb : wr.cell? ⟨bk, i, none⟩ = some (us[i]'hiu) := (blk_cell HB.out.1 i).trans (by simp [hiu])
      have zb := blk_frozen HB.out.1 i
      generalize us[i]'hiu = ui at kb
      clear hi ht hdr hR h2 hE hl1 hdl h1 h3 hq0 HD htl hiu
      go_upto_region 8 with (fail)
      refine wp_region_still_tail 14 (by kernel_rfl) (by kernel_rfl) ?_
      simp only [List.take_succ_cons, List.take_zero, List.drop_succ_cons, List.drop_zero]
      change wpStill _ _ (World.drew wr) _ _ _
      repeat still_step
      refine wpStill_nil ?_
      change wpList _ _ _ _ _ (World.drew wr)
      go_upto_region 9 with (fail)
      have HTc : Cu wr (some ad) t := by
        have h := Kd.C_take QC.out (m := tl) (by have := Qt.out; omega)
        rw [show (t ++ R).take tl = t by rw [← Qt.out.2.2.1, List.take_append_of_le_length (Nat.le_refl _), List.take_of_length_le (Nat.le_refl _)]] at h
        exact h
      have nb5 : ∀ u ∈ us.toArray, ∀ x, u ≠ .int .u8 x := sl_nb HB.out.2.2
      obtain ⟨w6, hw6⟩ : ∃ w6, w6 = (wr.setCell ⟨bk, i, none⟩ (.slice (some ad) tl c)).drew := ⟨_, rfl⟩
      have hset : ∀ k, k ≠ bk → w6.heap[k]? = wr.heap[k]? := fun k hk => by rw [hw6]; exact Below.heap_setCell wr.drew _ _ k hk
      have hkp : ∀ A (l : List Int), Cu wr A l → Cu w6 A l := fun A l h => h.keep (fun ad hA hl => hset _ (h.ne HB.out.1 nb5 ad hA hl))
      have hiu : i < us.length := by have := HB.out.2.1; have := Qh.out; have := Qi.out; omega
      have HB6 := Aside0.mk (show w6.heap[bk]? = some (.cells (us.set i (.slice (some ad) tl c)).toArray 59 (0, 0)) ∧ (us.set i (.slice (some ad) tl c)).length = vs.length ∧ (∀ u ∈ us.set i (.slice (some ad) tl c), Sl u) by
        refine ⟨?_, by rw [List.length_set]; exact HB.out.2.1, fun u hu => ?_⟩
        · rw [hw6]
          show (wr.setCell ⟨bk, i, none⟩ (.slice (some ad) tl c)).heap[bk]? = _
          have := blk_set HB.out.1 i (.slice (some ad) tl c)
          simpa using this
        · rcases List.mem_or_eq_of_mem_set hu with hu | rfl
          · exact HB.out.2.2 u hu
          · exact ⟨_, _, _, rfl⟩)
      have HD6 := Aside0.mk (show w6.heap[gd]? = some (.cells #[.int .i64 (nv : Int), .slice (some ad) dl c, .int .i64 (tl : Int)] 56 (0, 0)) from (hset gd hgb).trans Qw.out)
      have HC6 := Aside0.mk (hkp _ _ QC.out)
      have HT6 := Aside0.mk (show Tx w6 (us.set i (.slice (some ad) tl c)) ts (i + 1) by
        intro j t' hj ht'
        rcases Nat.lt_or_ge j i with h1 | h1
        · obtain ⟨A, c', e1, e2, e3⟩ := HT.out j t' h1 ht'
          exact ⟨A, c', by rw [List.getElem?_set, if_neg (by omega)]; exact e1, e2, hkp _ _ e3⟩
        · obtain rfl : j = i := by omega
          have e := Qt.out.1
          rw [ht'] at e
          cases e
          exact ⟨some ad, c, by rw [List.getElem?_set, if_pos rfl, if_pos hiu, Qt.out.2.2.1], by rw [Qt.out.2.2.1]; exact hc4', hkp _ _ HTc⟩)
      have HF6 := Aside0.mk (show Fr w w6 bk gd by rw [hw6]; exact (HF.out.step ((Below.refl _ _).drew)).set bk i _ (.inl rfl))
      rw [← hw6]
      have j1 : w6.cell? ⟨gd, 1, none⟩ = some (.slice (some ad) dl c) := (blk_cell HD6.out 1).trans rfl
      have j2 : w6.cell? ⟨gd, 2, none⟩ = some (.int .i64 (tl : Int)) := (blk_cell HD6.out 2).trans rfl
      have y1 := blk_frozen HD6.out 1
      have g1 : (tl : Int) ≤ (dl : Int) := by have := Qt.out; omega
      have g2 : tl ≤ dl := by omega
      clear hset hkp nb5 HTc hw6 HB QC Qw HT HF k1 k2 z1 kb zb hiu
      obtain ⟨k1, rfl⟩ : ∃ k1, gk = k1 + 1 := ⟨gk - 1, by have := HA.out; have := Qi.out; omega⟩
      have fin : ∀ (A'' : Option Addr) (c'' : Nat), R.length ≤ c'' → Cu w6 A'' R → ∀ (i2 : Int), i2 = (i : Int) + 1 → ∃ (i1 : Nat) (us1 : List Value), (.int .i64 i2 : Value) = .int .i64 (i1 : Int) ∧ Aside0 (i1 + k1 = m) ∧ Aside0 (((w6.setCell ⟨gd, 1, none⟩ (.slice A'' (dl - tl) c'')).drew).heap[bk]? = some (.cells us1.toArray 59 (0, 0)) ∧ us1.length = vs.length ∧ (∀ u ∈ us1, Sl u)) ∧ Aside0 (Dc ((w6.setCell ⟨gd, 1, none⟩ (.slice A'' (dl - tl) c'')).drew) gd 56 nv (tl : Int) (flat (ts.drop i1))) ∧ Aside0 (Tx ((w6.setCell ⟨gd, 1, none⟩ (.slice A'' (dl - tl) c'')).drew) us1 ts i1) ∧ Aside0 (Fr w ((w6.setCell ⟨gd, 1, none⟩ (.slice A'' (dl - tl) c'')).drew) bk gd) := by
        intro A'' c'' hc'' hA'' i2 hi2
        have hset : ∀ k, k ≠ gd → ((w6.setCell ⟨gd, 1, none⟩ (.slice A'' (dl - tl) c'')).drew).heap[k]? = w6.heap[k]? := fun k hk => Below.heap_setCell w6.drew _ _ k hk
        have hkp : ∀ A (l : List Int), Cu w6 A l → Cu ((w6.setCell ⟨gd, 1, none⟩ (.slice A'' (dl - tl) c'')).drew) A l := fun A l h => h.keep (fun ad hA hl => hset _ (h.ne HD6.out (by intro u hu x e; subst e; simp at hu) ad hA hl))
        refine ⟨i + 1, us.set i (.slice (some ad) tl c), by rw [hi2]; rfl, ⟨by have := HA.out; omega⟩, ⟨(hset bk hbg).trans HB6.out.1, HB6.out.2⟩, ⟨⟨A'', c'', ?_, ?_, ?_⟩⟩, ⟨HT6.out.keep hkp⟩, ⟨(HF6.out.step ((Below.refl _ _).drew)).set gd 1 _ (.inr rfl)⟩⟩
        · show (w6.setCell ⟨gd, 1, none⟩ (.slice A'' (dl - tl) c'')).heap[gd]? = _
          have := blk_set HD6.out 1 (.slice A'' (dl - tl) c'')
          rw [← Qt.out.2.1, show R.length = dl - tl by have := Qt.out; omega]
          simpa using this
        · rw [← Qt.out.2.1]; exact hc''
        · rw [← Qt.out.2.1]; exact hkp _ _ hA''
      have hRC := Kd.C_drop (c := c) (m := tl) HC6.out (by have := Qt.out; omega) (by have := Qt.out; omega)
      rw [show (t ++ R).drop tl = R by rw [← Qt.out.2.2.1, List.drop_append_of_le_length (Nat.le_refl _), List.drop_eq_nil_of_le (Nat.le_refl _)]; rfl] at hRC
      have Qfin := Aside0.mk fin
      have QRC := Aside0.mk hRC
      clear fin hRC
      by_cases hc : c = tl
      · have hcb : c - tl = 0 := by omega
        refine wp_region_still_tail 15 (by kernel_rfl) (by kernel_rfl) ?_
        simp only [List.take_succ_cons, List.take_zero, List.drop_succ_cons, List.drop_zero]
        change wpStill _ _ (World.drew w6) _ _ _
        repeat still_step
        refine wpStill_nil ?_
        change wpList _ _ _ _ _ (World.drew w6)
        go_wp2
        go_roundg k1
        case rel =>
          have h := QRC.out
          rw [if_pos hc] at h
          have e := Qfin.out (some ad) 0 (by have := Qt.out; omega) h _ rfl
          exact e
        · omega
      · refine wp_region_still_tail 15 (by kernel_rfl) (by kernel_rfl) ?_
        simp only [List.take_succ_cons, List.take_zero, List.drop_succ_cons, List.drop_zero]
        change wpStill _ _ (World.drew w6) _ _ _
        repeat still_step
        refine wpStill_nil ?_
        change wpList _ _ _ _ _ (World.drew w6)
        go_wp2
        go_roundg k1
        case rel =>
          have h := QRC.out
          rw [if_neg hc, show (Option.map (fun x : Addr => x.add (tl * (Kd.int .u8).sz)) (some ad)) = some (ad.add tl) by show some (ad.add (tl * 1)) = _; rw [Nat.mul_one]] at h
          have e := Qfin.out _ (c - tl) (by have := Qt.out; omega) h _ rfl
          exact e
        · omega
end Go.Proofs.YtlnfaejdmdhcaaaDoor.QR
/- Texts are read plainly and spread over the set bits: DecodeSpaced, of both kinds. -/
namespace Go.Proofs.YtlnfaejdmdhcaaaDoor.QR
open Go.RowKit Go.Proofs.YtlnfaejdmdhcaaaDoorW.PrintWords Go.Proofs.YtlnfaejdmdhcaaaDoorW.PrintLast Go.Proofs.YtlnfaejdmdhcaaaDoorW.PrintMore
set_option linter.unusedVariables false
set_option linter.unusedSimpArgs false
theorem Vw.fr {w wv w' : World} {bk et : Nat} {us : List Value} (h : Vw w wv w' bk et us) (gd : Nat) : Fr w w' bk gd :=
  ⟨h.bel.os.trans h.os, h.bel.tape.trans h.tape, h.bel.output.trans h.output, h.keep.1, fun k h1 h2 _ => h.keep.2 k h1 h2 (by simp)⟩
/-- At a set bit stands a slice that holds the text of its number. -/
def Sp (w : World) (us : List Value) (ts : List (List Int)) (b : Nat → Bool) (f n : Nat) : Prop := ∀ i t, i < n → b (f + i) = true → ts[rk b f i]? = some t → ∃ A c, us[i]? = some (.slice A t.length c) ∧ t.length ≤ c ∧ Cu w A t
/-- What Decode leaves in a row. -/
def Dd (w : World) (bk gd et : Nat) (vs : List Value) (ts : List (List Int)) (m : Nat) (e : Ending) (w' : World) : Prop := e = .returned (.tuple #[.int .i64 (m : Int), .nilIface]) ∧ ∃ us, w'.heap[bk]? = some (.cells us.toArray et (0, 0)) ∧ us.length = vs.length ∧ (∀ u ∈ us, Sl u) ∧ Tx w' us ts m ∧ Fr w w' bk gd
theorem Cu.fr {w w' : World} {bk gd : Nat} (h : Fr w w' bk gd) {A : Option Addr} {l : List Int} (hC : Cu w A l) {cs cs' : Array Value} {ty ty' : TypeId} {fz fz' : Nat × Nat} (h1 : w.heap[bk]? = some (.cells cs ty fz)) (n1 : ∀ u ∈ cs, ∀ x, u ≠ .int .u8 x) (h2 : w.heap[gd]? = some (.cells cs' ty' fz')) (n2 : ∀ u ∈ cs', ∀ x, u ≠ .int .u8 x) : Cu w' A l := by
  refine hC.keep (fun ad hA hl => h.far ad.block ?_ (hC.ne h1 n1 ad hA hl) (hC.ne h2 n2 ad hA hl))
  obtain ⟨ad2, h3, h4⟩ := Kd.at_int hC 0 (Int.le_refl _) (by omega)
  rw [hA] at h3
  cases h3
  unfold World.cell? at h4
  rw [add_block] at h4
  split at h4
  · rename_i e
    exact (Array.getElem?_eq_some_iff.1 e).1
  · cases h4
set_option maxHeartbeats 8000000 in
set_option maxRecDepth 100000 in
theorem dsp_is (gd bk n cb nv dty : Nat) (tl : Int) (D : List Int) (ts : List (List Int)) (vs : List Value) (A : Option Addr) (l : List Int) (cap f : Nat) (w : World) (hb : w.heap[bk]? = some (.cells vs.toArray 68 (0, 0))) (hsl : ∀ u ∈ vs, Sl u) (hD : Dc w gd dty nv tl D)
    (hdec : Calls Tryd.prog 36 #[.pointer (some ⟨gd, 0, none⟩), .slice (some ⟨bk, 0, none⟩) (rk (bt1 l) f n) cb] w fun e w' => Dd w bk gd 68 vs ts (rk (bt1 l) f n) e w')
    (hnv : n ≤ vs.length) (hnc : n ≤ cb) (hcv : cb ≤ vs.length) (hC : Cu w A l) (hcap : l.length ≤ cap) (hbo : bytesOk l = true) (hll : l.length ≤ 1000000) (hfl : f + n ≤ 8 * l.length) (hfl2 : f + n ≤ 1000000) :
    Calls Tryd.prog 26 #[.pointer (some ⟨gd, 0, none⟩), .slice (some ⟨bk, 0, none⟩) n cb, .int .i64 ((n : Int) - (rk (bt1 l) f n : Int)), .slice A l.length cap, .int .i64 (f : Int)] w fun e w' => e = .returned (.tuple #[.int .i64 (n : Int), .nilIface]) ∧ ∃ us, w'.heap[bk]? = some (.cells us.toArray 68 (0, 0)) ∧ us.length = vs.length ∧ (∀ u ∈ us, Sl u) ∧ Sp w' us ts (bt1 l) f n ∧ Fr w w' bk gd := by
  have hKn := rk_le (bt1 l) f n
  have Qse := Aside0.mk (fun (us : List Value) (w1 : World) hb1 (hv1 : us.length = vs.length) hsl1 hC1 => se_is bk n cb A l cap f us w1 hb1 (by omega) hnc (by omega) hsl1 hC1 hcap hbo hll hfl hfl2)
  obtain ⟨K0, hK0⟩ : ∃ K0, K0 = rk (bt1 l) f n := ⟨_, rfl⟩
  rw [← hK0] at hdec hKn Qse ⊢
  have QK0 := Aside0.mk hK0
  have Qd := Aside0.mk hdec
  have Qb := Aside0.mk hb
  have Qs := Aside0.mk hsl
  have QD := Aside0.mk hD
  have QC := Aside0.mk hC
  have hsub : (n : Int) - ((n : Int) - (K0 : Int)) = (K0 : Int) := by omega
  have hni : (n : Int) ≤ 1000000 := by omega
  have hk1 : (K0 : Int) ≤ (cb : Int) := by omega
  have hk2 : K0 ≤ cb := by omega
  have Qn := Aside0.mk (show n ≤ vs.length by omega)
  clear hb hsl hD hdec hnv hnc hcv hC hcap hbo hll hfl hfl2 hK0
  go_enter Tryd.func26, Tryd.ntmps26
  go_upto_region 2 with (fail)
  try rw [hsub]
  clear hsub
  go_upto_region 3 with (go_at_call 36; refine Qd.out.mono ?_; rintro e w1 ⟨rfl, us, h1, h2, h3, h4, h5⟩; have H1 := Aside0.mk (And.intro h1 (And.intro h2 (And.intro h3 (And.intro h4 h5)))); clear h1 h2 h3 h4 h5)
  have hC1 : Cu w1 A l := by
    obtain ⟨A2, c2, g2, _⟩ := QD.out
    exact Cu.fr H1.out.2.2.2.2 QC.out Qb.out (sl_nb Qs.out) g2 (by intro u hu x e; subst e; simp at hu)
  have QX := Aside0.mk (Qse.out us w1 H1.out.1 H1.out.2.1 H1.out.2.2.1 hC1)
  clear hC1 Qse
  go_wp2_with (go_at_call 37; refine QX.out.mono ?_; rintro e w2 ⟨rfl, wv, us2, h1, h2, h3⟩; have H2 := Aside0.mk (And.intro h1 (And.intro h2 h3)); clear h1 h2 h3)
  refine bodyPost_ret (v := .tuple #[.int .i64 (n : Int), .nilIface]) (by simp [results, Tryd.results26, go_sem]) rfl ?_
  obtain ⟨v1, v2, v3⟩ := H2.out
  obtain ⟨u1, u2, u3, u4, u5⟩ := H1.out
  refine ⟨rfl, us2, v1.now, v2.1.trans u2, v3, ?_, u5.trans (v1.fr gd)⟩
  intro i t hi hbit ht
  have hlt := rk_lt (bt1 l) f i hbit n hi
  obtain ⟨A', c', e1, e2, e3⟩ := u4 (rk (bt1 l) f i) t (by rw [QK0.out]; exact hlt) ht
  refine ⟨A', c', by rw [v2.2 i hi hbit]; exact e1, e2, e3.keep (fun ad hA hl => ?_)⟩
  have hnb := e3.ne u1 (sl_nb u3) ad hA hl
  refine v1.keep.2 ad.block ?_ hnb (by simp)
  obtain ⟨ad2, h3, h4⟩ := Kd.at_int e3 0 (Int.le_refl _) (by omega)
  rw [hA] at h3
  cases h3
  unfold World.cell? at h4
  rw [add_block] at h4
  split at h4
  · rename_i e
    exact (Array.getElem?_eq_some_iff.1 e).1
  · cases h4
set_option maxHeartbeats 8000000 in
set_option maxRecDepth 100000 in
theorem dspf_is (gd bk n cb nv dty : Nat) (tl : Int) (D : List Int) (ts : List (List Int)) (vs : List Value) (A : Option Addr) (l : List Int) (cap f : Nat) (w : World) (hb : w.heap[bk]? = some (.cells vs.toArray 59 (0, 0))) (hsl : ∀ u ∈ vs, Sl u) (hD : Dc w gd dty nv tl D)
    (hdec : Calls Tryd.prog 30 #[.pointer (some ⟨gd, 0, none⟩), .slice (some ⟨bk, 0, none⟩) (rk (bt1 l) f n) cb] w fun e w' => Dd w bk gd 59 vs ts (rk (bt1 l) f n) e w')
    (hnv : n ≤ vs.length) (hnc : n ≤ cb) (hcv : cb ≤ vs.length) (hC : Cu w A l) (hcap : l.length ≤ cap) (hbo : bytesOk l = true) (hll : l.length ≤ 1000000) (hfl : f + n ≤ 8 * l.length) (hfl2 : f + n ≤ 1000000) :
    Calls Tryd.prog 19 #[.pointer (some ⟨gd, 0, none⟩), .slice (some ⟨bk, 0, none⟩) n cb, .int .i64 ((n : Int) - (rk (bt1 l) f n : Int)), .slice A l.length cap, .int .i64 (f : Int)] w fun e w' => e = .returned (.tuple #[.int .i64 (n : Int), .nilIface]) ∧ ∃ us, w'.heap[bk]? = some (.cells us.toArray 59 (0, 0)) ∧ us.length = vs.length ∧ (∀ u ∈ us, Sl u) ∧ Sp w' us ts (bt1 l) f n ∧ Fr w w' bk gd := by
  have hKn := rk_le (bt1 l) f n
  have Qse := Aside0.mk (fun (us : List Value) (w1 : World) hb1 (hv1 : us.length = vs.length) hsl1 hC1 => ses_is bk n cb A l cap f us w1 hb1 (by omega) hnc (by omega) hsl1 hC1 hcap hbo hll hfl hfl2)
  obtain ⟨K0, hK0⟩ : ∃ K0, K0 = rk (bt1 l) f n := ⟨_, rfl⟩
  rw [← hK0] at hdec hKn Qse ⊢
  have QK0 := Aside0.mk hK0
  have Qd := Aside0.mk hdec
  have Qb := Aside0.mk hb
  have Qs := Aside0.mk hsl
  have QD := Aside0.mk hD
  have QC := Aside0.mk hC
  have hsub : (n : Int) - ((n : Int) - (K0 : Int)) = (K0 : Int) := by omega
  have hni : (n : Int) ≤ 1000000 := by omega
  have hk1 : (K0 : Int) ≤ (cb : Int) := by omega
  have hk2 : K0 ≤ cb := by omega
  have Qn := Aside0.mk (show n ≤ vs.length by omega)
  clear hb hsl hD hdec hnv hnc hcv hC hcap hbo hll hfl hfl2 hK0
  go_enter Tryd.func19, Tryd.ntmps19
  go_upto_region 2 with (fail)
  try rw [hsub]
  clear hsub
  go_upto_region 3 with (go_at_call 30; refine Qd.out.mono ?_; rintro e w1 ⟨rfl, us, h1, h2, h3, h4, h5⟩; have H1 := Aside0.mk (And.intro h1 (And.intro h2 (And.intro h3 (And.intro h4 h5)))); clear h1 h2 h3 h4 h5)
  have hC1 : Cu w1 A l := by
    obtain ⟨A2, c2, g2, _⟩ := QD.out
    exact Cu.fr H1.out.2.2.2.2 QC.out Qb.out (sl_nb Qs.out) g2 (by intro u hu x e; subst e; simp at hu)
  have QX := Aside0.mk (Qse.out us w1 H1.out.1 H1.out.2.1 H1.out.2.2.1 hC1)
  clear hC1 Qse
  go_wp2_with (go_at_call 32; refine QX.out.mono ?_; rintro e w2 ⟨rfl, wv, us2, h1, h2, h3⟩; have H2 := Aside0.mk (And.intro h1 (And.intro h2 h3)); clear h1 h2 h3)
  refine bodyPost_ret (v := .tuple #[.int .i64 (n : Int), .nilIface]) (by simp [results, Tryd.results19, go_sem]) rfl ?_
  obtain ⟨v1, v2, v3⟩ := H2.out
  obtain ⟨u1, u2, u3, u4, u5⟩ := H1.out
  refine ⟨rfl, us2, v1.now, v2.1.trans u2, v3, ?_, u5.trans (v1.fr gd)⟩
  intro i t hi hbit ht
  have hlt := rk_lt (bt1 l) f i hbit n hi
  obtain ⟨A', c', e1, e2, e3⟩ := u4 (rk (bt1 l) f i) t (by rw [QK0.out]; exact hlt) ht
  refine ⟨A', c', by rw [v2.2 i hi hbit]; exact e1, e2, e3.keep (fun ad hA hl => ?_)⟩
  have hnb := e3.ne u1 (sl_nb u3) ad hA hl
  refine v1.keep.2 ad.block ?_ hnb (by simp)
  obtain ⟨ad2, h3, h4⟩ := Kd.at_int e3 0 (Int.le_refl _) (by omega)
  rw [hA] at h3
  cases h3
  unfold World.cell? at h4
  rw [add_block] at h4
  split at h4
  · rename_i e
    exact (Array.getElem?_eq_some_iff.1 e).1
  · cases h4
end Go.Proofs.YtlnfaejdmdhcaaaDoor.QR
/- BitIsSet. -/
namespace Go.Proofs.YtlnfaejdmdhcaaaDoor.QR
open Go.RowKit Go.Proofs.YtlnfaejdmdhcaaaDoorW.PrintWords Go.Proofs.YtlnfaejdmdhcaaaDoorW.PrintLast Go.Proofs.YtlnfaejdmdhcaaaDoorW.PrintMore
set_option linter.unusedVariables false
set_option linter.unusedSimpArgs false
/-- The masks of single bits stand in the first package-level variable. -/
def Bm (w : World) : Prop := 0 < w.heap.size ∧ ∀ k, k < 8 → w.cell? ⟨0, k, none⟩ = some (.int .u8 ((2 ^ k : Nat) : Int))
theorem Bm.below {w w' : World} (h : Bm w) {B : Nat} (hB : Below B w w') (h0 : 0 < B) : Bm w' := by
  refine ⟨Nat.lt_of_lt_of_le h.1 hB.size, fun k hk => ?_⟩
  have := h.2 k hk
  unfold World.cell? at this ⊢
  rw [show (⟨0, k, none⟩ : Addr).block = 0 from rfl] at this ⊢
  rw [hB.block 0 h0]
  exact this
theorem and_bit (x m : Nat) (hx : x < 256) (hm : m < 8) : (Go.bits .and .u8 (x : Int) ((2 ^ m : Nat) : Int) != 0) = decide ((x : Int) / 2 ^ m % 2 = 1) := by
  have h2 : (2 ^ m : Nat) < 256 := Nat.lt_of_lt_of_le (Nat.pow_lt_pow_right (by decide) hm) (by decide)
  have h0 : 0 < (2 ^ m : Nat) := Nat.pow_pos (by decide)
  unfold Go.bits
  show (IntKind.u8.wrap (((BitVec.ofInt 8 (x : Int)) &&& (BitVec.ofInt 8 ((2 ^ m : Nat) : Int))).toNat : Int) != 0) = _
  have e1 : BitVec.ofInt 8 (x : Int) = BitVec.ofNat 8 x := BitVec.ofInt_natCast ..
  have e2 : BitVec.ofInt 8 ((2 ^ m : Nat) : Int) = BitVec.ofNat 8 (2 ^ m) := BitVec.ofInt_natCast ..
  rw [e1, e2, BitVec.toNat_and, BitVec.toNat_ofNat, BitVec.toNat_ofNat, Nat.mod_eq_of_lt (show x < 2 ^ 8 from hx), Nat.mod_eq_of_lt (show 2 ^ m < 2 ^ 8 from h2)]
  have e3 : x.testBit m = decide (x / 2 ^ m % 2 = 1) := Nat.testBit_eq_decide_div_mod_eq
  have e4 : x &&& 2 ^ m = if x.testBit m then 2 ^ m else 0 := by
    apply Nat.eq_of_testBit_eq
    intro i
    rw [Nat.testBit_and, Nat.testBit_two_pow]
    by_cases hi : m = i
    · subst hi
      by_cases h : x.testBit m = true
      · rw [if_pos h, Nat.testBit_two_pow]; simp [h]
      · rw [if_neg h]; simp at h; simp [h]
    · by_cases h : x.testBit m = true
      · rw [if_pos h, Nat.testBit_two_pow]; simp [hi]
      · rw [if_neg h]; simp [hi]
  have e5 : decide ((x : Int) / 2 ^ m % 2 = 1) = decide (x / 2 ^ m % 2 = 1) := by
    have : ((x : Int) / 2 ^ m % 2) = ((x / 2 ^ m % 2 : Nat) : Int) := by rw [Int.natCast_emod, Int.natCast_ediv, Int.natCast_pow]; rfl
    rw [this]
    congr 1
    apply propext
    constructor <;> intro h <;> omega
  rw [e4, e3, e5]
  by_cases h : x / 2 ^ m % 2 = 1
  · simp only [h, decide_true, if_true]
    generalize (2 ^ m : Nat) = p at h0 h2
    rw [show IntKind.u8.wrap (p : Int) = (p : Int) by simp [IntKind.wrap, IntKind.bits, IntKind.signed]; omega]
    simp; omega
  · simp only [h, decide_false]
    rfl
set_option maxHeartbeats 8000000 in
set_option maxRecDepth 100000 in
theorem bis_is (A : Option Addr) (l : List Int) (cap k : Nat) (w : World) (hC : Cu w A l) (hk : k < 8 * l.length) (hll : l.length ≤ 1000000) (hbo : bytesOk l = true) (hM : Bm w) :
    Calls Tryd.prog 29 #[.slice A l.length cap, .int .i64 (k : Int)] w fun e w' => e = .returned (.bool (bt1 l k)) ∧ Below w.heap.size w w' := by
  obtain ⟨q, hq⟩ : ∃ q, q = k / 8 := ⟨_, rfl⟩
  obtain ⟨m, hm⟩ : ∃ m, m = k % 8 := ⟨_, rfl⟩
  obtain ⟨r, hr⟩ : ∃ r, r = k % 256 := ⟨_, rfl⟩
  have hw1 : IntKind.u64.wrap (k : Int) = (k : Int) := wraps_u64 _ (by omega) (by omega)
  have hw2 : IntKind.u8.wrap (k : Int) = (r : Int) := by rw [hr]; simp [IntKind.wrap, IntKind.bits, IntKind.signed]
  have hw3 : IntKind.u64.wrap (q : Int) = (q : Int) := wraps_u64 _ (by omega) (by omega)
  have hw4 : IntKind.u8.wrap (m : Int) = (m : Int) := by simp [IntKind.wrap, IntKind.bits, IntKind.signed]; omega
  have hd : Int.tdiv (k : Int) 8 = (q : Int) := by rw [hq]; rfl
  have hmo : Int.tmod (r : Int) 8 = (m : Int) := by rw [hm, show k % 8 = r % 8 by omega]; rfl
  obtain ⟨ad, e, c1⟩ := Kd.at_int hC (q : Int) (by omega) (by omega)
  subst e
  rw [Int.toNat_natCast] at c1
  have c2 := hM.2 m (by omega)
  obtain ⟨B, hB⟩ : ∃ B, B = rd l (q : Int) := ⟨_, rfl⟩
  obtain ⟨P, hP⟩ : ∃ P : Int, P = ((2 ^ m : Nat) : Int) := ⟨_, rfl⟩
  rw [← hB] at c1
  rw [← hP] at c2
  have b1 : (q : Int) < (l.length : Int) := by omega
  have b2 : (m : Int) < 8 := by omega
  have b3 : q < l.length := by omega
  have b4 : m < 8 := by omega
  have hres : (Go.bits .and .u8 B P != 0) = bt1 l k := by
    have hby := bytes_ok hbo (q : Int)
    rw [← hB] at hby
    unfold bt1
    rw [← hq, ← hm, ← hB, hP]
    have h2 : (2 ^ m : Nat) < 256 := by have : m < 8 := by omega
                                        exact Nat.lt_of_lt_of_le (Nat.pow_lt_pow_right (by decide) this) (by decide)
    obtain ⟨b, hb⟩ : ∃ b : Nat, B = (b : Int) := ⟨B.toNat, by omega⟩
    rw [hb]
    exact and_bit b m (by omega) (by omega)
  have Qr := Aside0.mk hres
  clear hC hk hll hbo hM hq hm hr hB hP hres
  go_enter Tryd.func29, Tryd.ntmps29
  go_wp2_with fail
  have mixed : Tryd.prog.follows .mixedOrders = true := by kernel_rfl
  refine wp_region_still_lit mixed (by kernel_rfl) ?_
  change wpStill _ _ (World.drew w) _ _ _
  repeat still_step
  refine wpStill_nil ?_
  go_wp2
  go_ret
  exact ⟨by rw [← Qr.out]; rfl, (Below.refl _ w).drew⟩
end Go.Proofs.YtlnfaejdmdhcaaaDoor.QR
