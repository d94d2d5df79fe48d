/- concatBitmaps. -/
import Derived.Test.YtoceclgljmdkeaaDoorA11
import Derived.Defers
import Derived.Recover
import Derived.Laws.Panics
namespace Go.Proofs.YtoceclgljmdkeaaDoor.QR
open Go.RowKit Go.Proofs.YtoceclgljmdkeaaDoorW.PrintWords Go.Proofs.YtoceclgljmdkeaaDoorW.PrintLast Go.Proofs.YtoceclgljmdkeaaDoorW.PrintMore
set_option linter.unusedVariables false
set_option linter.unusedSimpArgs false
theorem idle21 (p q : Nat) (w : World) (hp : w.cell? ⟨p, 0, none⟩ = some (.bool true)) :
    CallsD Tryd.prog 21 #[.pointer (some ⟨p, 0, none⟩), .pointer (some ⟨q, 0, none⟩)] .returning w fun e u' w' => e = .returned (.tuple #[]) ∧ u' = .returning ∧ w' = w := by
  refine callsD_of_wpS Tryd.func21 rfl fun c₀ cs hu => ?_
  refine wpS_of_wp ?_
  go_wp2
  cases c₀
  simp_all [bodyPostS, results, Tryd.results21]
set_option maxHeartbeats 8000000 in
set_option maxRecDepth 100000 in
theorem cbm_is {l : List S28} {rs : List Nat} (A0 : Option Addr) (c0 : Nat) (base : Nat) (w : World) (hR : ReadsOf encD 0 w A0 l.length rs) (hc : l.length ≤ c0) (hP : PDs w base rs l) (hl : l.length ≤ 20) (hg : ∀ p ∈ l, GP p) (hG : Gm w) :
    Calls Tryd.prog 15 #[.slice A0 l.length c0, .int .i64 0, .iface 46 (.agg #[])] w fun e w' => ∃ (b : Nat) (A : Option Addr) (u : Nat), e = .returned (.tuple #[.pointer (some ⟨b, 0, none⟩), .nilIface]) ∧ w'.heap[b]? = some (.cells (rbC A u u ((sumL l l.length + 7) / 8)) 62 (0, 0)) ∧ (sumL l l.length + 7) / 8 ≤ u ∧ (A = none → u = 0) ∧ (0 < (sumL l l.length + 7) / 8 → ∃ gd us, A = some ⟨gd, 0, none⟩ ∧ w'.heap[gd]? = some (.cells us.toArray 5 (0, 0)) ∧ KN (List.replicate u (.int .u8 0)) us ((sumL l l.length + 7) / 8) 0 (sumL l l.length) (fun k => (wantL l).getD k false)) ∧ Below w.heap.size w w' := by
  obtain ⟨N, hN⟩ : ∃ N, N = l.length := ⟨_, rfl⟩
  have hall : ∀ i, i < N → ∃ p r, l[i]? = some p ∧ rs[i]? = some r ∧ rs.getD i 0 = r ∧ PD w base r p ∧ GP p := fun i hi => by
    have h1 : l[i]? = some l[i] := List.getElem?_eq_getElem (by omega)
    have h2 : rs[i]? = some (rs[i]'(by have := hR.1; omega)) := List.getElem?_eq_getElem _
    refine ⟨_, _, h1, h2, by rw [List.getD_eq_getElem?_getD, h2]; rfl, ?_, hg _ (List.getElem_mem _)⟩
    have h3 := hP.2 i _ h2
    unfold PFnJoinBits.rd_T28 at h3
    rw [Int.toNat_natCast, List.getD_eq_getElem?_getD, h1] at h3
    exact h3
  have hsum : ∀ i, i ≤ N → sumL l i ≤ 10000 := fun i hi => by
    have := sumL_le l hl (fun p hp => (hg p hp).2.2.2.1) i (by omega)
    omega
  have hmono : ∀ i, i ≤ N → sumL l i ≤ sumL l N := fun i hi => sumL_mono l i N hi (by omega)
  rw [← hN] at hR hc hl ⊢
  have Qa := Aside0.mk (And.intro hall (And.intro hsum (And.intro hmono (And.intro hR hG))))
  clear hall hsum hmono hR hG hP hg hN
  go_enter_defers Tryd.func15, Tryd.ntmps15
  go_wp2
  go_loopg [8, 21] N (fun kq v8 v21 w' => ∃ (i : Nat), v8 = .int .i64 (sumL l i : Int) ∧ v21 = .int .i64 (i : Int) ∧ Aside0 (i + kq = N) ∧ Aside0 (Below w.heap.size w w'))
  case atStart => exact ⟨0, rfl, rfl, ⟨by omega⟩, ⟨Below.refl _ _⟩⟩
  case round =>
    obtain ⟨i, rfl, rfl, HA, HB⟩ := hrel
    rcases Nat.eq_zero_or_pos gk with h0 | h0
    · obtain rfl : i = N := by have := HA.out; omega
      have QB := Aside0.mk (nrb_is wr)
      go_wp2_with (go_at_call 20; (with_reducible refine Calls.mono QB.out ?_); rintro e w2 ⟨b, rfl, j1, j2, j3⟩; have Q2 := Aside0.mk (And.intro j1 (And.intro j2 (HB.out.trans (j3.mono HB.out.size)))); clear j1 j2 j3)
      have v12 : ((w2.alloc (Obj.cells #[.pointer (some ⟨b, 0, none⟩)] 38)).alloc (Obj.cells #[.bool false] 4)).heap[w2.heap.size]? = some (.cells #[.pointer (some ⟨b, 0, none⟩)] 38 (0, 0)) := blk_alloc (blk_new w2 _) _
      have v13 : ((w2.alloc (Obj.cells #[.pointer (some ⟨b, 0, none⟩)] 38)).alloc (Obj.cells #[.bool false] 4)).heap[w2.heap.size + 1]? = some (.cells #[.bool false] 4 (0, 0)) := by
        have := blk_new (w2.alloc (Obj.cells #[.pointer (some ⟨b, 0, none⟩)] 38)) (Obj.cells #[.bool false] 4)
        rw [World.size_alloc] at this
        exact this
      have vb : ((w2.alloc (Obj.cells #[.pointer (some ⟨b, 0, none⟩)] 38)).alloc (Obj.cells #[.bool false] 4)).heap[b]? = some (.cells (rbC none 0 0 0) 62 (0, 0)) := blk_alloc (blk_alloc Q2.out.2.1 _) _
      have vB : Below w.heap.size w ((w2.alloc (Obj.cells #[.pointer (some ⟨b, 0, none⟩)] 38)).alloc (Obj.cells #[.bool false] 4)) := below_alloc (below_alloc Q2.out.2.2 _) _
      obtain ⟨p12, hp12⟩ : ∃ p12, p12 = w2.heap.size := ⟨_, rfl⟩
      obtain ⟨p13, hp13⟩ : ∃ p13, p13 = w2.heap.size + 1 := ⟨_, rfl⟩
      rw [← hp12] at v12
      rw [← hp13] at v13
      have hbl := blk_lt Q2.out.2.1
      have hw2 := Q2.out.2.2.size
      have hbw := Nat.le_trans HB.out.size Q2.out.1
      have Qp := Aside0.mk (And.intro (show b ≠ p12 by omega) (And.intro (show b ≠ p13 by omega) (And.intro (show p12 ≠ p13 by omega) (And.intro (show w.heap.size ≤ p12 by omega) (And.intro (show w.heap.size ≤ p13 by omega) hbw)))))
      rw [← hp13, ← hp12]
      generalize (w2.alloc (Obj.cells #[.pointer (some ⟨b, 0, none⟩)] 38)).alloc (Obj.cells #[.bool false] 4) = V at v12 v13 vb vB ⊢
      clear hp12 hp13 hbl hw2 hbw QB Q2 HB HA
      obtain ⟨S, hS⟩ : ∃ S, S = sumL l i := ⟨_, rfl⟩
      have hS1 := Qa.out.2.1 i (Nat.le_refl i)
      rw [← hS] at hS1 ⊢
      obtain ⟨L, hL⟩ : ∃ L, L = (S + 7) / 8 := ⟨_, rfl⟩
      have QBF := Aside0.mk (fun W => bfb_is S (by omega) W)
      rw [← hL] at QBF
      have w12 : V.drew.heap[p12]? = _ := v12
      have w13 : V.drew.heap[p13]? = _ := v13
      have wb : V.drew.heap[b]? = _ := vb
      have hL1300 : L < 1300 := by omega
      have QSL := Aside0.mk (And.intro hS hL)
      clear hS hL
      have cc12 : V.drew.cell? ⟨p12, 0, none⟩ = some (.pointer (some ⟨b, 0, none⟩)) := blk_cell w12 0
      have Qb := Aside0.mk vB.drew
      clear v12 v13 vb vB
      refine wp_noP ?_
      go_region_held3 (fun w' => w'.cell? ⟨p12, 0, none⟩ = some (.pointer (some ⟨b, 0, none⟩))) (assumption) (first | (go_at_call 24; (with_reducible refine Calls.mono (QBF.out _) ?_); rintro e w4 ⟨rfl, rfl⟩) | (go_at_call 23; (with_reducible refine Calls.mono (rza_is L b hL1300 _ wb) ?_); rintro e w5 ⟨A, u, rfl, j1, j2, j3, j4, j5⟩; have k12 := (j5.far p12 (blk_lt w12) Qp.out.1.symm Qp.out.1.symm).trans w12; have kc12 := blk_cell k12 0; rw [show (#[Value.pointer (some ⟨b, 0, none⟩)] : Array Value)[0]? = some (.pointer (some ⟨b, 0, none⟩)) from rfl] at kc12))
      rename_i hH
      have s13 : w5.heap[p13]? = _ := (j5.far p13 (blk_lt w13) Qp.out.2.1.symm Qp.out.2.1.symm).trans w13
      have hB5 : Below w.heap.size w w5 := Qb.out.trans (j5.below Qb.out.size Qp.out.2.2.2.2.2 Qp.out.2.2.2.2.2)
      have J0 : SJ w w5 b p12 p13 A u L (fun k => (wantL l).getD k false) (sumL l 0) := ⟨hB5, j1, k12, s13, j2, j3, fun hp => by
        obtain ⟨gd, e, m1, m2, m3⟩ := j4 hp
        have q12 := blk_lt w12
        have q13 := blk_lt w13
        exact ⟨gd, _, e, m3, kn_start (okN_zero u L j2) 0 _, Nat.le_trans Qb.out.size m1, m2.symm, by omega, by omega⟩⟩
      have QJ := Aside0.mk J0
      have kb := rb_cells j1
      obtain ⟨b1, b2', b4, bz⟩ := kb
      have QBy := Aside0.mk (bytes_is A u u L b w5 b1 b2' j2 j3)
      have k12' := blk_cell k12 0
      clear hH s13 hB5 J0 j1 j2 j3 j4 j5 k12 kc12 cc12 wb w12 w13 b1 b2' b4 bz QBF Qb
      refine noP_normal ?_
      go_wp2_with (go_at_call 14; (with_reducible refine Calls.mono QBy.out ?_); rintro e w6 ⟨rfl, j⟩; have QJ6 := Aside0.mk (QJ.out.below j); clear j)
      clear QJ QBy
      go_loopg [15, 46] i (fun kq v15 v46 w' => ∃ (t : Nat), v15 = .int .i64 (sumL l t : Int) ∧ v46 = .int .i64 (t : Int) ∧ Aside0 (t + kq = i) ∧ Aside0 (SJ w w' b p12 p13 A u L (fun k => (wantL l).getD k false) (sumL l t)))
      case atStart => exact ⟨0, rfl, rfl, ⟨by omega⟩, ⟨QJ6.out⟩⟩
      case round =>
        obtain ⟨t, rfl, rfl, HA, HJ⟩ := hrel
        clear QJ6 k12'
        have k12 := blk_cell HJ.out.2.2.1 0
        have hst := Qa.out.2.1 t (by have := HA.out; omega)
        rcases Nat.eq_zero_or_pos gk with h0 | h0
        · obtain rfl : t = i := by have := HA.out; omega
          have k13 := blk_cell HJ.out.2.2.2.1 0
          have z13 := blk_frozen HJ.out.2.2.2.1 0
          have hne1 : ¬ p12 = p13 := Qp.out.2.2.1
          have hne2 : ¬ p13 = p12 := fun h => hne1 h.symm
          go_wp2
          refine leaves_cons (f := 21) (args := #[.pointer (some ⟨p13, 0, none⟩), .pointer (some ⟨p12, 0, none⟩)]) (by simp) (by simp [go_sem]) ?_
          refine (idle21 p13 p12 _ (by simp [go_sem, k13])).mono ?_
          rintro e u' w'' ⟨rfl, rfl, rfl⟩
          refine ⟨_, by simp [results, Tryd.results15, go_sem]; rfl, ?_⟩
          obtain ⟨s1, s2, s3, s4, s5, s6, s7⟩ := HJ.out
          have hL := QSL.out.2
          rw [QSL.out.1] at hL
          rw [← hL]
          refine ⟨b, A, u, rfl, (Below.heap_setCell _ ⟨p13, 0, none⟩ _ b Qp.out.2.1).trans s2, s5, s6, fun hp => ?_, s1.setCell (p := ⟨p13, 0, none⟩) Qp.out.2.2.2.2.1 _⟩
          obtain ⟨gd, us, e, n1, n2, n3, n4, n5, n6⟩ := s7 hp
          exact ⟨gd, us, e, (Below.heap_setCell _ ⟨p13, 0, none⟩ _ gd n6.symm).trans n1, n2⟩
        · have hi : (t : Int) < (i : Int) := by have := HA.out; omega
          have hiN : t < i := by omega
          obtain ⟨k1, rfl⟩ : ∃ k1, gk = k1 + 1 := ⟨gk - 1, by omega⟩
          obtain ⟨p, r, e1, e2, e3, e4, e5⟩ := Qa.out.1 t hiN
          obtain ⟨ad, rfl, hcell⟩ := (Qa.out.2.2.2.1.below HJ.out.1).2.2 (by omega)
          have k0 := hcell t hiN
          rw [e3] at k0
          unfold encD at k0
          obtain ⟨f, hf⟩ : ∃ f : Nat, p.f3 = (f : Int) := ⟨p.f3.toNat, by have := e5.2.2.1; omega⟩
          obtain ⟨o, ho⟩ : ∃ o : Nat, p.f2 = (o : Int) := ⟨p.f2.toNat, by have := e5.1; omega⟩
          have hf5 : f ≤ 500 := by have h9 := e5.2.2.2.1; rw [hf] at h9; exact Int.ofNat_le.1 h9
          have ho5 : o ≤ 500 := by have h9 := e5.2.1; rw [ho] at h9; exact Int.ofNat_le.1 h9
          have hs := sumL_succ l e1
          rw [hf, Int.toNat_natCast] at hs
          have hT : sumL l (t + 1) ≤ 8 * L := by
            have h8 := Qa.out.2.2.1 (t + 1) (by omega)
            have h7 := QSL.out.1
            have h6 := QSL.out.2
            omega
          have Qs := Aside0.mk hs
          have hG := Qa.out.2.2.2.2
          obtain ⟨dx, gb, pv, d1, d2, d3, d4, d5⟩ := e4
          have d4' := blk_cell ((HJ.out.1.block gb (blk_lt d4)).trans d4) 0
          rw [hf, ho] at d2
          have QDL := Aside0.mk (fun W (hb : Below w.heap.size w W) => dlen_is _ _ _ _ _ W ((hb.block r (blk_lt d2)).trans d2))
          have QDO := Aside0.mk (fun W (hb : Below w.heap.size w W) => doff_is _ _ _ _ _ W ((hb.block r (blk_lt d2)).trans d2))
          have QDB := Aside0.mk (dbuf_is _ _ _ _ _ wr ((HJ.out.1.block r (blk_lt d2)).trans d2))
          rcases d5 with ⟨h00, rfl⟩ | ⟨h00, g, B, cB, rfl, g1, g2, g3⟩
          · have QS := Aside0.mk (fun W (h : SJ w W b p12 p13 A u L (fun k => (wantL l).getD k false) (sumL l t)) => step_set e1 e5 hT (by omega) h h00 hG)
            rw [hf] at QS
            have kb := rb_cells HJ.out.2.1
            obtain ⟨b1, b2', b4, bz⟩ := kb
            have QBy := Aside0.mk (bytes_is A u u L b wr b1 b2' HJ.out.2.2.2.2.1 HJ.out.2.2.2.2.2.1)
            clear hcell e1 e2 e3 e5 hs d1 d2 d3 d4 hf ho hT hG b1 b2' b4 bz
            go_wp2_with (first | (go_at_call 81; (with_reducible refine Calls.mono QDB.out ?_); rintro e w3 ⟨rfl, rfl⟩) | (go_at_call 14; (with_reducible refine Calls.mono QBy.out ?_); rintro e w4 ⟨rfl, j⟩; have Q4 := Aside0.mk (HJ.out.below j); have Q4b := Aside0.mk Q4.out.1; clear j) | (go_at_call 25; (with_reducible refine Calls.mono (QS.out _ Q4.out) ?_); rintro e w5 ⟨rfl, j⟩; have Q5 := Aside0.mk j; have Q5b := Aside0.mk j.1; clear j) | (go_at_call 82; (with_reducible refine Calls.mono (QDL.out _ Q5b.out) ?_); rintro e w6 ⟨rfl, rfl⟩) | (go_at_call 82; (with_reducible refine Calls.mono (QDL.out _ Q4b.out) ?_); rintro e w6 ⟨rfl, rfl⟩))
            go_roundg k1
            case rel => exact ⟨t + 1, by rw [Qs.out]; rfl, rfl, ⟨by have := HA.out; omega⟩, ⟨Q5.out⟩⟩
            · omega
          · have QS := Aside0.mk (fun W (h : SJ w W b p12 p13 A u L (fun k => (wantL l).getD k false) (sumL l t)) => step_copy e1 e5 hT (by omega) h h00 hG g3)
            rw [hf, ho] at QS
            have kb := (HJ.out.1.block g (blk_lt g2)).trans g2
            have QBy := Aside0.mk (bytes_is B p.f1.length cB p.f1.length g wr (blk_cell kb 1) (blk_cell kb 2) g3.1 g3.2.1)
            clear hcell e1 e2 e3 e5 hs d1 d2 d3 d4 hf ho hT hG kb g1 g2 g3
            go_wp2_with (first | (go_at_call 81; (with_reducible refine Calls.mono QDB.out ?_); rintro e w3 ⟨rfl, rfl⟩) | (go_at_call 14; (with_reducible refine Calls.mono QBy.out ?_); rintro e w4 ⟨rfl, j⟩; have Q4 := Aside0.mk (HJ.out.below j); have Q4b := Aside0.mk Q4.out.1; clear j) | (go_at_call 83; (with_reducible refine Calls.mono (QDO.out _ Q4b.out) ?_); rintro e w6 ⟨rfl, rfl⟩) | (go_at_call 26; (with_reducible refine Calls.mono (QS.out _ Q4.out) ?_); rintro e w5 ⟨rfl, j⟩; have Q5 := Aside0.mk j; have Q5b := Aside0.mk j.1; clear j) | (go_at_call 82; (with_reducible refine Calls.mono (QDL.out _ Q5b.out) ?_); rintro e w6 ⟨rfl, rfl⟩) | (go_at_call 82; (with_reducible refine Calls.mono (QDL.out _ Q4b.out) ?_); rintro e w6 ⟨rfl, rfl⟩))
            go_roundg k1
            case rel => exact ⟨t + 1, by rw [Qs.out]; rfl, rfl, ⟨by have := HA.out; omega⟩, ⟨Q5.out⟩⟩
            · omega
    · have hi : (i : Int) < (N : Int) := by have := HA.out; omega
      have hiN : i < N := by omega
      obtain ⟨k1, rfl⟩ : ∃ k1, gk = k1 + 1 := ⟨gk - 1, by omega⟩
      obtain ⟨p, r, e1, e2, e3, e4, e5⟩ := Qa.out.1 i hiN
      obtain ⟨ad, rfl, hcell⟩ := (Qa.out.2.2.2.1.below HB.out).2.2 (by omega)
      have k0 := hcell i hiN
      rw [e3] at k0
      unfold encD at k0
      obtain ⟨f, hf⟩ : ∃ f : Nat, p.f3 = (f : Int) := ⟨p.f3.toNat, by have := e5.2.2.1; omega⟩
      have hf5 : f ≤ 500 := by have h9 := e5.2.2.2.1; rw [hf] at h9; exact Int.ofNat_le.1 h9
      have hs := sumL_succ l e1
      rw [hf, Int.toNat_natCast] at hs
      obtain ⟨dx, gb, pv, d1, d2, d3, d4, d5⟩ := e4.below HB.out
      rw [hf] at d2
      have QD := Aside0.mk (dlen_is _ _ _ _ _ _ d2)
      have hsi := Qa.out.2.1 i (by omega)
      have QO := Aside0.mk (fun W => ovf_is (sumL l i) f (by omega) (by omega) W)
      rw [← hs] at QO
      have Qk := Aside0.mk hcell
      clear hcell e1 e2 e3 e4 e5 hs d1 d2 d3 d4 d5 hf
      go_wp2_with (first | (go_at_call 82; (with_reducible refine Calls.mono QD.out ?_); rintro e w3 ⟨rfl, rfl⟩) | (go_at_call 18; (with_reducible refine Calls.mono (QO.out _) ?_); rintro e w4 ⟨rfl, j⟩; have Q4 := Aside0.mk j; clear j))
      go_roundg k1
      case rel => exact ⟨i + 1, rfl, rfl, ⟨by have := HA.out; omega⟩, ⟨HB.out.trans (Q4.out.mono HB.out.size)⟩⟩
      · omega
end Go.Proofs.YtoceclgljmdkeaaDoor.QR
/- impl.JoinBits. -/
namespace Go.Proofs.YtoceclgljmdkeaaDoor.QR
open Go.RowKit Go.Proofs.YtoceclgljmdkeaaDoorW.PrintWords Go.Proofs.YtoceclgljmdkeaaDoorW.PrintLast Go.Proofs.YtoceclgljmdkeaaDoorW.PrintMore
set_option linter.unusedVariables false
set_option linter.unusedSimpArgs false
/-- The bytes of some cells. -/
def bytesOf (us : List Value) (L : Nat) : List Int := (List.range L).map fun q => (byN us q : Int)
theorem bytesOf_len (us : List Value) (L : Nat) : (bytesOf us L).length = L := by unfold bytesOf; simp
theorem bytesOf_rd {us : List Value} {L q : Nat} (hq : q < L) : rd (bytesOf us L) (q : Int) = (byN us q : Int) := by
  unfold bytesOf rd
  rw [Int.toNat_natCast, List.getD_eq_getElem?_getD]
  simp [hq]
theorem bytesOf_ok {us : List Value} {L : Nat} (h : OkN us L) : bytesOk (bytesOf us L) = true := by
  unfold bytesOk bytesOf
  rw [List.all_eq_true]
  intro x hx
  obtain ⟨q, hq, rfl⟩ := List.mem_map.1 hx
  have := (h.at (List.mem_range.1 hq)).2
  simp only [Bool.and_eq_true, decide_eq_true_eq]
  omega
theorem cu_of {w : World} {gd L : Nat} {us : List Value} (hok : OkN us L) (hk : w.heap[gd]? = some (.cells us.toArray 5 (0, 0))) (hL : L < 100000) : Cu w (some ⟨gd, 0, none⟩) (bytesOf us L) := by
  refine Kd.C_of_reads (d := (0 : Int)) (enc := Value.int .u8) ⟨rfl, by rw [bytesOf_len]; omega, fun _ => ⟨_, rfl, fun j hj => ?_⟩⟩
  rw [bytesOf_len] at hj
  have h1 := blk_cell hk j
  rw [List.getElem?_toArray, (hok.at hj).1] at h1
  have h2 := bytesOf_rd (us := us) hj
  unfold rd at h2
  rw [Int.toNat_natCast] at h2
  rw [h2]
  have ea : Addr.add ⟨gd, 0, none⟩ j = ⟨gd, j, none⟩ := by simp [Addr.add]; omega
  rw [ea]
  exact h1
theorem cu_nil (w : World) (A : Option Addr) : Cu w A [] := Kd.C_of_reads (d := (0 : Int)) (enc := Value.int .u8) ⟨rfl, by simp, fun h => absurd h (Nat.lt_irrefl _)⟩
set_option maxHeartbeats 8000000 in
set_option maxRecDepth 100000 in
theorem cb11_is {l : List S28} {rs : List Nat} (A0 : Option Addr) (c0 : Nat) (base : Nat) (w : World) (hR : ReadsOf encD 0 w A0 l.length rs) (hc : l.length ≤ c0) (hP : PDs w base rs l) (hl : l.length ≤ 20) (hg : ∀ p ∈ l, GP p) (hG : Gm w) :
    Calls Tryd.prog 11 #[.slice A0 l.length c0, .int .i64 0, .iface 46 (.agg #[])] w fun e w' => ∃ (b : Nat) (A : Option Addr) (u : Nat) (r : List Int), e = .returned (.tuple #[.pointer (some ⟨b, 0, none⟩), .nilIface]) ∧ w'.heap[b]? = some (.cells (rbC A u u r.length) 62 (0, 0)) ∧ r.length ≤ u ∧ (A = none → u = 0) ∧ r.length = (sumL l l.length + 7) / 8 ∧ bytesOk r = true ∧ Cu w' A r ∧ (∀ k, k < sumL l l.length → bt1 r k = (wantL l).getD k false) ∧ Below w.heap.size w w' := by
  have QB := Aside0.mk (cbm_is A0 c0 base w hR hc hP hl hg hG)
  have hsum : sumL l l.length ≤ 10000 := by
    have := sumL_le l hl (fun p hp => (hg p hp).2.2.2.1) l.length (Nat.le_refl _)
    omega
  have Qs := Aside0.mk hsum
  generalize l.length = N at QB Qs ⊢
  clear hR hc hP hl hg hG hsum
  go_enter Tryd.func11, Tryd.ntmps11
  go_wp2_with (go_at_call 15; (with_reducible refine Calls.mono QB.out ?_); rintro e w1 ⟨b, A, u, rfl, j⟩; have Q1 := Aside0.mk j; clear j)
  refine bodyPost_ret (v := .tuple #[.pointer (some ⟨b, 0, none⟩), .nilIface]) (by simp [results, Tryd.results11, go_sem]) rfl ?_
  obtain ⟨j1, j2, j3, j4, j5⟩ := Q1.out
  have hs := Qs.out
  by_cases hp : 0 < (sumL l N + 7) / 8
  · obtain ⟨gd, us, rfl, k1, k2⟩ := j4 hp
    refine ⟨b, _, u, bytesOf us ((sumL l N + 7) / 8), rfl, by rw [bytesOf_len]; exact j1, by rw [bytesOf_len]; exact j2, j3, bytesOf_len _ _, bytesOf_ok k2.1, cu_of k2.1 k1 (by omega), fun k hk => ?_, j5⟩
    rw [← by_bit (us := us) (bytesOf_ok k2.1) (fun q hq => by rw [bytesOf_len] at hq; rw [bytesOf_rd hq, Int.toNat_natCast]) (by rw [bytesOf_len]; omega)]
    have := k2.2.2 k (by omega)
    rw [if_neg (by omega)] at this
    exact this
  · have h0 : (sumL l N + 7) / 8 = 0 := by omega
    rw [h0] at j1 j2
    exact ⟨b, A, u, [], rfl, j1, j2, j3, h0.symm, rfl, cu_nil _ _, fun k hk => by omega, j5⟩
theorem idle10 (p q : Nat) (w : World) :
    CallsD Tryd.prog 10 #[.pointer (some ⟨p, 0, none⟩), .pointer (some ⟨q, 0, none⟩)] .returning w fun e u' w' => e = .returned (.tuple #[]) ∧ u' = .returning ∧ w' = w := by
  refine callsD_of_wpS Tryd.func10 rfl fun c₀ cs hu => ?_
  apply wpS_seq
  apply wpS_region
  simp [wpOpsS, go_sem, recoverD, hu, Tryd.ntmps10, Exit.thenS]
  refine wpS_cond (t := false) (by simp [Act.eval, Array.replicate]) ?_
  simp only [Bool.false_eq_true, if_false]
  refine wpS_of_wp (wp_skip ?_)
  cases c₀
  simp_all [bodyPostS, results, Tryd.results10]
set_option maxHeartbeats 8000000 in
set_option maxRecDepth 100000 in
theorem jb_is {l : List S28} (A0 : Option Addr) (c0 : Nat) (w : World) (hC : Kd.C k28 w A0 l.length l) (hc : l.length ≤ c0) (hl : l.length ≤ 20) (hg : ∀ p ∈ l, GP p) (hG : Gm w) :
    Calls Tryd.prog 5 #[.slice A0 l.length c0] w fun e w' => ∃ (A : Option Addr) (c : Nat) (r : List Int), e = .returned (.tuple #[.slice A r.length c, .bool true]) ∧ r.length ≤ c ∧ r.length = (sumL l l.length + 7) / 8 ∧ bytesOk r = true ∧ Cu w' A r ∧ (∀ k, k < sumL l l.length → bt1 r k = (wantL l).getD k false) ∧ Below w.heap.size w w' := by
  have QP := Aside0.mk (fun W (hb : Below w.heap.size w W) => po_is A0 c0 W (Kd.C_below hC hb) hc (by omega) (fun p hp => ⟨(hg p hp).2.2.2.2.2.2, (hg p hp).2.2.2.2.2.1⟩))
  have QN := Aside0.mk (show ∀ (A : Option Addr) (c base : Nat) (W : World) (rs : List Nat), ReadsOf encD 0 W A l.length rs → l.length ≤ c → PDs W base rs l → Below w.heap.size w W → _ from fun A c base W rs h1 h2 h3 h4 => cb11_is A c base W h1 h2 h3 hl hg (hG.below h4 hG.1))
  have hl2 := hl
  have hsum : sumL l l.length ≤ 10000 := by
    have := sumL_le l hl (fun p hp => (hg p hp).2.2.2.1) l.length (Nat.le_refl _)
    omega
  have Qsl := Aside0.mk hsum
  clear hsum
  generalize l.length = N at QP QN Qsl hc hl ⊢
  clear hC hg hG hl2
  go_enter_defers Tryd.func5, Tryd.ntmps5
  have E0 : ((w.alloc (.cells #[.slice none 0 0] 24)).alloc (.cells #[.bool false] 4)).heap[w.heap.size]? = some (.cells #[.slice none 0 0] 24 (0, 0)) := blk_alloc (blk_new w _) _
  have E1 : ((w.alloc (.cells #[.slice none 0 0] 24)).alloc (.cells #[.bool false] 4)).heap[w.heap.size + 1]? = some (.cells #[.bool false] 4 (0, 0)) := by have := blk_new (w.alloc (.cells #[.slice none 0 0] 24)) (.cells #[.bool false] 4); rw [World.size_alloc] at this; exact this
  have EB : Below w.heap.size w ((w.alloc (.cells #[.slice none 0 0] 24)).alloc (.cells #[.bool false] 4)) := below_alloc (below_alloc (Below.refl _ _) _) _
  have QE := Aside0.mk (And.intro E0 (And.intro E1 EB))
  clear E0 E1 EB
  go_wp2_with (first | (go_at_call 12; (with_reducible refine Calls.mono (QP.out _ QE.out.2.2) ?_); rintro e w1 ⟨v, rs, rfl, j1, j2, j3, j4⟩; obtain ⟨Av, cv, rfl⟩ := Kd.R_slice j2; have j5 := (Kd.R_reads' j2).2.1; have j6 := Kd.reads_of_C (d := 0) (Kd.R_reads' j2).2.2; rw [j1] at j5 j6; have b1 := QE.out.2.2.trans (j4.mono QE.out.2.2.size); have QN1 := Aside0.mk (QN.out Av cv _ w1 rs j6 j5 j3 b1); rw [j1]; have Q1 := Aside0.mk (And.intro j4 b1); clear j1 j2 j3 j4 j5 j6 b1) | (go_at_call 11; (with_reducible refine Calls.mono QN1.out ?_); rintro e w2 ⟨b, A, u, r, rfl, m1, m2, m3, m4, m5, m6, m7, m8⟩; have QB2 := Aside0.mk (bytes_is A u u r.length b w2 (blk_cell m1 1) (blk_cell m1 2) m2 m3); have Q2 := Aside0.mk (And.intro m2 (And.intro m4 (And.intro m5 (And.intro m6 (And.intro m7 (And.intro (Q1.out.1.trans (m8.mono Q1.out.1.size)) (Q1.out.2.trans (m8.mono Q1.out.2.size)))))))); clear m1 m2 m3 m4 m5 m6 m7 m8) | (go_at_call 14; (with_reducible refine Calls.mono QB2.out ?_); rintro e w3 ⟨rfl, j⟩; have QC3 := Aside0.mk (copied_is A u w3 (Kd.C_below Q2.out.2.2.2.1 j) Q2.out.1 (by have := Q2.out.2.1; have := Qsl.out; omega)); have Q3 := Aside0.mk (And.intro (Q2.out.2.2.2.2.2.1.trans (j.mono Q2.out.2.2.2.2.2.1.size)) (Q2.out.2.2.2.2.2.2.trans (j.mono Q2.out.2.2.2.2.2.2.size))); clear j) | (go_at_call 13; (with_reducible refine Calls.mono QC3.out ?_); rintro e w4 ⟨v0, rfl, j1, j2⟩; obtain ⟨A4, c4, rfl⟩ := Kd.R_slice j1; have k1 := Q3.out.1.trans (j2.mono Q3.out.1.size); have k2 := Q3.out.2.trans (j2.mono Q3.out.2.size); have h0 := (k1.block _ (blk_lt QE.out.1)).trans QE.out.1; have h1 := (k1.block _ (blk_lt QE.out.2.1)).trans QE.out.2.1; have c0' := (blk_cell h0 0).trans rfl; have c1' := (blk_cell h1 0).trans rfl; have z0 := blk_frozen h0 0; have z1 := blk_frozen h1 0; have Q4 := Aside0.mk (And.intro j1 (And.intro k2 (And.intro h0 h1))); clear j1 j2 k1 k2 h0 h1))
  refine leaves_cons (f := 10) (args := #[.pointer (some ⟨w.heap.size, 0, none⟩), .pointer (some ⟨w.heap.size + 1, 0, none⟩)]) (by simp) (by simp [go_sem]) ?_
  refine (idle10 w.heap.size (w.heap.size + 1) _).mono ?_
  rintro e u' w'' ⟨rfl, rfl, rfl⟩
  have q1 : ((w4.setCell ⟨w.heap.size, 0, none⟩ (.slice A4 r.length c4)).setCell ⟨w.heap.size + 1, 0, none⟩ (.bool true)).cell? ⟨w.heap.size, 0, none⟩ = some (.slice A4 r.length c4) := by simp [go_sem, c0']
  have q2 : ((w4.setCell ⟨w.heap.size, 0, none⟩ (.slice A4 r.length c4)).setCell ⟨w.heap.size + 1, 0, none⟩ (.bool true)).cell? ⟨w.heap.size + 1, 0, none⟩ = some (.bool true) := by simp [go_sem, c1']
  refine ⟨_, by simp [results, Tryd.results5, go_sem, q1, q2]; rfl, ?_⟩
  have hlt := blk_lt QE.out.2.1
  have h3 := Q3.out.1.size
  have hr := Kd.R_reads' Q4.out.1
  refine ⟨A4, c4, r, rfl, hr.2.1, Q2.out.2.1, Q2.out.2.2.1, ?_, Q2.out.2.2.2.2.1, (Q4.out.2.1.setCell (p := ⟨w.heap.size, 0, none⟩) (Nat.le_refl _) _).setCell (p := ⟨w.heap.size + 1, 0, none⟩) (Nat.le_succ _) _⟩
  refine Kd.C_keep (d := (0 : Int)) (Kd.C_keep (d := (0 : Int)) hr.2.2 ((KeepBut.refl w4 w.heap.size none).set_ 0 _) ?_) ((KeepBut.refl _ (w.heap.size + 1) none).set_ 0 _) ?_
  all_goals
    intro ad ea hp
    obtain ⟨A5, c5, ev, _, _, _, h6⟩ := bytes_own Q4.out.1 Q2.out.2.2.1
    obtain ⟨g5, us5, e5, h7, _⟩ := h6 hp
    injection ev with ev1
    rw [← ev1, ea] at e5
    injection e5 with e5
    rw [e5]
    simp only
    omega
end Go.Proofs.YtoceclgljmdkeaaDoor.QR
/- What the law asks, plainly. -/
namespace Go.Proofs.YtoceclgljmdkeaaDoor.QR
open Go.RowKit Go.Proofs.YtoceclgljmdkeaaDoorW.PrintWords Go.Proofs.YtoceclgljmdkeaaDoorW.PrintLast Go.Proofs.YtoceclgljmdkeaaDoorW.PrintMore
set_option linter.unusedVariables false
set_option linter.unusedSimpArgs false
theorem i64w (x : Int) : wrap64 x = (x + 9223372036854775808) % 18446744073709551616 - 9223372036854775808 := by simp [wrap64]
theorem bit_all2 : ∀ (x : Fin 256) (m : Fin 8), (Go.bits .and .u8 (shr .u8 ((x.1 : Nat) : Int) ((m.1 : Nat) : Int)) 1 == 1) = decide (((x.1 : Nat) : Int) / 2 ^ m.1 % 2 = 1) := by decide +kernel
theorem bit_is {l : List Int} {k : Nat} (hk : k < 8 * l.length) (hl : k ≤ 1000000) (hbo : bytesOk l = true) : PFnJoinBits.spec_Bit.f l (k : Int) = some (bt1 l k) := by
  have hd : Int.tdiv (k : Int) 8 = ((k / 8 : Nat) : Int) := rfl
  have hm : Int.tmod (k : Int) 8 = ((k % 8 : Nat) : Int) := rfl
  have hw : wrap64 ((k / 8 : Nat) : Int) = ((k / 8 : Nat) : Int) := by rw [i64w]; omega
  unfold PFnJoinBits.spec_Bit.f
  rw [hd, hm, hw, if_pos (by omega), if_pos (by omega), if_pos (by omega)]
  have hx := bytes_ok hbo ((k / 8 : Nat) : Int)
  have h := bit_all2 ⟨(rd l ((k / 8 : Nat) : Int)).toNat, by omega⟩ ⟨k % 8, by omega⟩
  simp only [Int.toNat_of_nonneg hx.1] at h
  rw [h]
  rfl
theorem bl_l0 {l : List Int} {n : Nat} (hn : n ≤ 8 * l.length) (hl : n ≤ 1000000) (hbo : bytesOk l = true) : ∀ (r i : Nat) (xs : List Bool), i + r = n → xs.length = n → (∀ j, j < i → xs[j]? = some (bt1 l j)) →
    ∃ k, PFnJoinBits.spec_BitList.l0 k l 0 xs (n : Int) (i : Int) = some ((List.range n).map (bt1 l), true)
  | 0, i, xs, h, hx, hv => ⟨1, by
    have hi : i = n := by omega
    subst hi
    rw [PFnJoinBits.spec_BitList.l0, if_neg (by omega)]
    have e : xs = (List.range i).map (bt1 l) := by
      apply List.ext_getElem?
      intro j
      by_cases hj : j < i
      · rw [hv j hj]; simp [hj]
      · rw [List.getElem?_eq_none (by omega), List.getElem?_eq_none (by simp; omega)]
    rw [e]⟩
  | r + 1, i, xs, h, hx, hv => by
    obtain ⟨k, hk⟩ := bl_l0 hn hl hbo r (i + 1) (xs.set i (bt1 l i)) (by omega) (by rw [List.length_set]; exact hx) (fun j hj => by
      by_cases e : j = i
      · subst e; rw [List.getElem?_set_self (by omega)]
      · rw [List.getElem?_set_ne (by omega)]; exact hv j (by omega))
    refine ⟨k + 1, ?_⟩
    have hw : wrap64 (0 + (i : Int)) = (i : Int) := by rw [i64w]; omega
    have hw2 : wrap64 ((i : Int) + 1) = ((i + 1 : Nat) : Int) := by rw [i64w]; omega
    rw [PFnJoinBits.spec_BitList.l0, if_pos (by omega), hw, bit_is (by omega) (by omega) hbo, Option.bind_some, if_pos (by omega), if_pos (by omega), Int.toNat_natCast, hw2]
    exact hk
theorem bl_is {l : List Int} {n : Nat} (hn : n ≤ 8 * l.length) (hl : n ≤ 100000) (hl2 : l.length ≤ 100000) (hbo : bytesOk l = true) : ∃ k, PFnJoinBits.spec_BitList.f k l 0 (n : Int) = some ((List.range n).map (bt1 l), true) := by
  obtain ⟨k, hk⟩ := bl_l0 hn (by omega) hbo n 0 (List.replicate n false) (by omega) (List.length_replicate ..) (fun j hj => absurd hj (by omega))
  refine ⟨k + 1, ?_⟩
  have hw : wrap64 ((wrap64 (8 * (l.length : Int))) - (n : Int)) = 8 * (l.length : Int) - n := by rw [i64w, i64w]; omega
  unfold PFnJoinBits.spec_BitList.f
  rw [if_neg (by omega), if_neg (by omega), hw, decide_eq_false (by omega), PFnJoinBits.spec_BitList.j0, if_neg (by simp), if_pos (by omega), Int.toNat_natCast, if_pos (by omega), Option.bind_some, List.length_replicate]
  exact hk
theorem sb_l0 (a : List Bool) (ha : a.length ≤ 100000) : ∀ (r i : Nat), i + r = a.length → ∃ k, PFnJoinBits.spec_SameBools.l0 k a a (a.length : Int) (i : Int) = some true
  | 0, i, h => ⟨1, by rw [PFnJoinBits.spec_SameBools.l0, if_neg (by omega)]⟩
  | r + 1, i, h => by
    obtain ⟨k, hk⟩ := sb_l0 a ha r (i + 1) (by omega)
    have hw2 : wrap64 ((i : Int) + 1) = ((i + 1 : Nat) : Int) := by rw [i64w]; omega
    refine ⟨k + 1, ?_⟩
    rw [PFnJoinBits.spec_SameBools.l0, if_pos (by omega), if_pos (by omega), if_pos (by omega), if_pos (by omega), if_neg (by simp), hw2]
    exact hk
theorem sb_is (a : List Bool) (ha : a.length ≤ 100000) : ∃ k, PFnJoinBits.spec_SameBools.f k a a = some true := by
  obtain ⟨k, hk⟩ := sb_l0 a ha a.length 0 (by omega)
  exact ⟨k, by unfold PFnJoinBits.spec_SameBools.f; rw [if_pos rfl]; exact hk⟩
theorem fits_is (l : List S28) : ∃ k r, PFnJoinBits.laws_zzFits13.f k l = some r ∧ (r = true → ∀ p ∈ l, p.f1.length ≤ 2147483647) := by
  by_cases hl : (l.length : Int) > 2147483647
  · exact ⟨0, false, by unfold PFnJoinBits.laws_zzFits13.f; rw [if_pos hl], fun h => by cases h⟩
  have key : ∀ d i : Nat, i + d = l.length → ∃ k r, PFnJoinBits.laws_zzFits13.l0 k l (l.length : Int) (i : Int) = some r ∧ (r = true → ∀ j p, i ≤ j → l[j]? = some p → p.f1.length ≤ 2147483647) := by
    intro d
    induction d with
    | zero =>
      intro i hi
      refine ⟨1, true, by rw [PFnJoinBits.laws_zzFits13.l0, if_neg (by omega)], fun _ j p hj hp => ?_⟩
      rw [List.getElem?_eq_none (by omega)] at hp
      cases hp
    | succ d ih =>
      intro i hi
      have e : PFnJoinBits.rd_T28 l (i : Int) = l[i]'(by omega) := by
        unfold PFnJoinBits.rd_T28
        rw [Int.toNat_natCast, List.getD_eq_getElem?_getD, List.getElem?_eq_getElem (by omega)]
        rfl
      by_cases h2 : ((PFnJoinBits.rd_T28 l (i : Int)).f1.length : Int) > 2147483647
      · refine ⟨1, false, ?_, fun h => by cases h⟩
        rw [PFnJoinBits.laws_zzFits13.l0, if_pos (by omega), if_pos (by omega), if_pos (by omega), PFnJoinBits.laws_zzFits14.f, if_pos h2]
        rfl
      · obtain ⟨k, r, h, hr⟩ := ih (i + 1) (by omega)
        refine ⟨k + 1, r, ?_, fun ht j p hj hp => ?_⟩
        · rw [PFnJoinBits.laws_zzFits13.l0, if_pos (by omega), if_pos (by omega), if_pos (by omega), PFnJoinBits.laws_zzFits14.f, if_neg h2, Option.bind_some, if_pos rfl, show wrap64 ((i : Int) + 1) = ((i + 1 : Nat) : Int) by rw [i64w]; omega]
          exact h
        · by_cases ej : j = i
          · subst ej
            rw [List.getElem?_eq_getElem (by omega)] at hp
            injection hp with hp
            rw [← hp, ← e]
            omega
          · exact hr ht j p (by omega) hp
  obtain ⟨k, r, h, hr⟩ := key l.length 0 (by omega)
  refine ⟨k, r, by unfold PFnJoinBits.laws_zzFits13.f; rw [if_neg hl]; exact h, fun ht p hp => ?_⟩
  obtain ⟨j, hj, rfl⟩ := List.getElem_of_mem hp
  exact hr ht j _ (by omega) (List.getElem?_eq_getElem hj)
theorem partB_take (p : S28) {j : Nat} (hj : j < p.f3.toNat) : (partB p).take (j + 1) = (partB p).take j ++ [!p.f0 || bt1 p.f1 (p.f2.toNat + j)] := by
  rw [List.take_add_one]
  congr 1
  unfold partB
  simp [hj]
theorem partB_all (p : S28) : (partB p).take p.f3.toNat = partB p := List.take_of_length_le (by rw [partB_len]; omega)
/-- The bits read are those wanted. -/
theorem want_read {l : List S28} {r : List Int} (h : ∀ k, k < sumL l l.length → bt1 r k = (wantL l).getD k false) : (List.range (wantL l).length).map (bt1 r) = wantL l := by
  rw [sumL_all] at h
  apply List.ext_getElem?
  intro j
  by_cases hj : j < (wantL l).length
  · rw [List.getElem?_map, List.getElem?_range hj, Option.map_some, h j hj, List.getD_eq_getElem?_getD, List.getElem?_eq_getElem hj]
    rfl
  · rw [List.getElem?_eq_none (by simp; omega), List.getElem?_eq_none (by omega)]
end Go.Proofs.YtoceclgljmdkeaaDoor.QR
