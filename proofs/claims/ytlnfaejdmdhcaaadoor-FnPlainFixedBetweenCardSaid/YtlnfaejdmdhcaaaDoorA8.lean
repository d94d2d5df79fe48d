/- spacedExpand: a list's elements are spread over the set bits, from behind. -/
import Derived.Test.YtlnfaejdmdhcaaaDoorA7
import Derived.Laws.IdiomCopy
import Derived.Handy
import Derived.IntWalk
namespace Go.Proofs.YtlnfaejdmdhcaaaDoor.QR
open Go.RowKit Go.Proofs.YtlnfaejdmdhcaaaDoorW.PrintWords Go.Proofs.YtlnfaejdmdhcaaaDoorW.PrintLast Go.Proofs.YtlnfaejdmdhcaaaDoorW.PrintMore
set_option linter.unusedVariables false
set_option linter.unusedSimpArgs false
/-- copy within a row of slices. -/
theorem op_copy {P : Program} {ops : Array Oper} {rest : List Oper} {o : Oper} {a : Act} {Q : Exit → Act → World → Prop} {W : World} (hgd : o.guard = none) (s x : Operand) (t t' et : TypeId)
    (ho : o.op = .call { callee := .builtin .copy, args := #[s, x], argTypes := #[t, t'] }) (ht : P.underlying t = some (.slice et)) (hinfo : (P.info? et).map (·.size) = some 1)
    (bk S K N n1 c1 c2 : Nat) (us : List Value) (hs : a.eval s = .slice (some ⟨bk, S, none⟩) n1 c1) (hx : a.eval x = .slice (some ⟨bk, K, none⟩) N c2) (hblk : W.heap[bk]? = some (.cells us.toArray et (0, 0))) (hsl : ∀ u ∈ us, Sl u)
    (h1 : S + n1 ≤ us.length) (hN : N ≤ n1) (h2 : K + N ≤ us.length)
    (h : wpList P ops Q rest (a.put o.dst (.int .i64 (N : Int))) (W.setCells bk S ((us.drop K).take N))) : wpList P ops Q (o :: rest) a W := by
  have hl : ((us.drop K).take N).length = N := by rw [List.length_take, List.length_drop]; omega
  have hr := run_copy_cells (P := P) W t t' o.type et bk S n1 c1 ⟨bk, K, none⟩ N c2 ((us.drop K).take N) ht hinfo (by rw [hl]; exact (Nat.min_eq_left hN).symm)
    (fun j u hu => by
      rw [List.getElem?_take] at hu
      split at hu
      · rw [List.getElem?_drop] at hu
        rw [show (Addr.add ⟨bk, K, none⟩ j : Addr) = ⟨bk, K + j, none⟩ by simp [Addr.add]]
        exact (blk_cell hblk (K + j)).trans (by simpa using hu)
      · cases hu)
    (fun j hj => by rw [blk_cell hblk]; simp; omega) (fun j _ => blk_frozen hblk _) (fun u hu => (hsl u (List.mem_of_mem_drop (List.mem_of_mem_take hu))).one)
  refine wpList_plain hgd fun K' hK => ?_
  unfold Oper.wp execOp
  simp only [ho, resolve, invoke, builtin, Sem.run_bind, Sem.run_pure, Result.andThen_ok, List.map_toArray, List.map_cons, List.map_nil, hs, hx, hr]
  rw [hl]
  exact hK _ _ h
set_option maxHeartbeats 8000000 in
set_option maxRecDepth 100000 in
theorem se_is (bk n cb : Nat) (A : Option Addr) (l : List Int) (cap f : Nat) (vs : List Value) (w : World) (hb : w.heap[bk]? = some (.cells vs.toArray 68 (0, 0))) (hvn : n ≤ vs.length) (hnc : n ≤ cb) (hvc : cb ≤ vs.length) (hsl : ∀ u ∈ vs, Sl u) (hC : Kd.C (Kd.int .u8) w A l.length l) (hcap : l.length ≤ cap) (hbo : bytesOk l = true) (hll : l.length ≤ 1000000) (hfl : f + n ≤ 8 * l.length) (hfl2 : f + n ≤ 1000000) :
    Calls Tryd.prog 37 #[.slice (some ⟨bk, 0, none⟩) n cb, .int .i64 ((n : Int) - (rk (bt1 l) f n : Int)), .slice A l.length cap, .int .i64 (f : Int)] w fun e w' => e = .returned (.int .i64 (n : Int)) ∧ ∃ wv us, Vw w wv w' bk 68 us ∧ Exp (bt1 l) f n vs us ∧ ∀ u ∈ us, Sl u := by
  obtain ⟨K0, hK0⟩ : ∃ K0, K0 = rk (bt1 l) f n := ⟨_, rfl⟩
  rw [← hK0]
  have hKn : K0 ≤ n := by rw [hK0]; exact rk_le _ _ _
  have hn1 : (n : Int) ≤ 1000000 := by omega
  have hsub : (n : Int) - ((n : Int) - (K0 : Int)) = (K0 : Int) := by omega
  have QR := Aside0.mk (rev_is A l cap f n w hC hcap hbo hll hfl hfl2)
  have QV := Aside0.mk (Vw.start hb)
  have Qb := Aside0.mk (show n ≤ vs.length ∧ n ≤ cb ∧ cb ≤ vs.length ∧ K0 ≤ n ∧ n ≤ 1000000 from ⟨hvn, hnc, hvc, hKn, by omega⟩)
  have Qs := Aside0.mk hsl
  have QK0 := Aside0.mk hK0
  have hlen : ((vs.length : Nat) : Int) = (vs.length : Int) := rfl
  clear hb hvn hnc hvc hsl hC hcap hbo hll hfl hfl2 hlen hK0
  go_enter Tryd.func37, Tryd.ntmps37
  go_upto_region 3 with (fail)
  by_cases hK0 : K0 = 0
  · subst hK0
    go_wp2
    go_ret
    refine ⟨rfl, w, vs, QV.out, ⟨rfl, fun i hi hb => ?_⟩, Qs.out⟩
    have := rk_lt _ f i hb n hi
    have := QK0.out
    omega
  have hK1 : ¬ ((K0 : Int) = 0) := by omega
  clear hsub
  go_wp2_with (go_at_call 39; refine QR.out.mono ?_; rintro e w1 ⟨g, r, c, rfl, h1, h2, h3, h4, h5⟩; have H1 := Aside0.mk h1; have H2 := Aside0.mk h2; have H3 := Aside0.mk h3; have H4 := Aside0.mk h4; clear h1 h2 h3 h4 h5)
  have mixed : Tryd.prog.follows .mixedOrders = true := by kernel_rfl
  have e10 : (.int .i64 (K0 : Int) : Value) = .int .i64 ((rk (bt1 l) f n : Nat) : Int) := by rw [← QK0.out]
  rw [e10]
  have QS := Aside0.mk (show RS w w1 g l f n r c ∧ r + c = n ∧ w.heap.size ≤ g from ⟨H1.out, H2.out, H4.out⟩)
  have QV1 := Aside0.mk ((QV.out).step H3.out)
  clear H1 H2 H3 H4 QR QV hK0 hK1 e10
  go_loopg [10] n (fun kq v10 w' => ∃ (r1 c1 : Nat) (wv : World) (us : List Value), v10 = .int .i64 ((rk (bt1 l) f kq : Nat) : Int) ∧ Aside0 (r1 + c1 = kq ∧ kq ≤ n ∧ w.heap.size ≤ g) ∧ Aside0 (RS wv w' g l f n r1 c1) ∧ Aside0 (Vw w wv w' bk 68 us) ∧ Aside0 (Inv (bt1 l) f n kq vs us) ∧ Aside0 (∀ u ∈ us, Sl u))
  case atStart => exact ⟨r, c, w, vs, rfl, ⟨QS.out.2.1, Nat.le_refl _, QS.out.2.2⟩, ⟨QS.out.1⟩, QV1, ⟨inv_start _ _ _ _⟩, Qs⟩
  case round =>
    obtain ⟨r1, c1, wv, us, rfl, HA, HS, HV, HI, HL⟩ := hrel
    clear QS QV1 Qs
    have HN := Aside0.mk (nr_is g l f n r1 c1 wv wr HS.out HV.out.bel)
    have hle := nr_le (bt1 l) f gk
    have hrkS := nr_rk (bt1 l) f gk
    have hrle := rk_le (bt1 l) f (nrS (bt1 l) f gk)
    rw [HA.out.1] at HN
    obtain ⟨S, hS⟩ : ∃ S, S = nrS (bt1 l) f gk := ⟨_, rfl⟩
    obtain ⟨M, hM⟩ : ∃ M, M = nrN (bt1 l) f gk := ⟨_, rfl⟩
    obtain ⟨K, hK⟩ : ∃ K, K = rk (bt1 l) f S := ⟨_, rfl⟩
    rw [← hS] at HN hle hrkS hrle
    rw [← hM] at HN hle hrkS
    rw [← hK] at hrkS hrle
    rw [hrkS]
    have hgk : gk ≤ n := HA.out.2.1
    have hSi : (S : Int) ≤ 1000000 := by omega
    have hMi : (M : Int) ≤ 1000000 := by omega
    have hKi : (K : Int) ≤ 1000000 := by omega
    have hKM : ((K + M : Nat) : Int) - (M : Int) = (K : Int) := by omega
    have QSM := Aside0.mk (show S = nrS (bt1 l) f gk ∧ M = nrN (bt1 l) f gk ∧ K = rk (bt1 l) f S ∧ S + M ≤ gk ∧ K ≤ S from ⟨hS, hM, hK, by omega, hrle⟩)
    clear hS hM hK hle hrkS hrle hgk HS
    go_wp2_with fail
    refine HN.out.mono ?_
    rintro e w2 ⟨rfl, r2, c2, ⟨h1, h2, h3⟩, h4⟩
    have H1 := Aside0.mk h1
    have HV2 := Aside0.mk (HV.out.step h2)
    have H4 := Aside0.mk h4
    clear h1 h2 h3 h4 HN HV
    by_cases hM0 : M = 0
    · subst hM0
      go_wp2
      go_ret
      exact ⟨rfl, wv, us, HV2.out.alloc _, inv_none HI.out QSM.out.2.1.symm, HL.out⟩
    have hM1 : ¬ ((M : Int) = 0) := by omega
    have hM2 : ((M : Int) == 0) = false := by simpa using hM1
    have hKM2 : (K : Int) + (M : Int) - (M : Int) = (K : Int) := by omega
    by_cases hKS : K = S
    · have hKS2 : (K : Int) = (S : Int) := by omega
      have hKS3 : ((K : Int) == (S : Int)) = true := by simpa using hKS2
      go_wp2
      go_ret
      exact ⟨rfl, wv, us, HV2.out.alloc _, inv_same HI.out (by rw [← QSM.out.1, ← QSM.out.2.2.1]; exact hKS), HL.out⟩
    have hKS2 : ¬ ((K : Int) = (S : Int)) := by omega
    have hKS3 : ((K : Int) == (S : Int)) = false := by simpa using hKS2
    go_upto_region 11 with (fail)
    obtain ⟨W3, hW3⟩ : ∃ W3, W3 = w2.alloc (.cells #[.int .i64 (S : Int), .int .i64 (M : Int)] 96) := ⟨_, rfl⟩
    have a0 : W3.cell? ⟨w2.heap.size, 0, none⟩ = some (.int .i64 (S : Int)) := by rw [hW3]; exact blk_cell (blk_new w2 _) 0
    have a1 : W3.cell? ⟨w2.heap.size, 1, none⟩ = some (.int .i64 (M : Int)) := by rw [hW3]; exact blk_cell (blk_new w2 _) 1
    have HV3 : Vw w wv W3 bk 68 us := by rw [hW3]; exact HV2.out.alloc _
    have H13 : RS wv W3 g l f n r2 c2 := by rw [hW3]; exact H1.out.below (Below.alloc (Below.refl _ _) (Nat.le_refl _) _)
    have hbkw : w2.heap.size ≠ bk := by have := HV2.out.lt; have := HV2.out.bel.size; omega
    rw [← hW3]
    have HV3 := Aside0.mk HV3
    have H13 := Aside0.mk H13
    clear hW3 H1 HV2
    have hs1 : (0 : Int) ≤ (S : Int) := Int.natCast_nonneg S
    have hs2 : (S : Int) ≤ (n : Int) := by have := QSM.out; have := HA.out; omega
    have hs3 : (n : Int) ≤ (cb : Int) := by have := Qb.out; omega
    have hs4 : (K : Int) + (M : Int) ≤ (cb : Int) := by have := QSM.out; have := HA.out; have := Qb.out; omega
    have hs5 : (K : Int) ≤ (K : Int) + (M : Int) := by omega
    have hs6 : S ≤ n := by omega
    have hs7 : n ≤ cb := by omega
    have hs8 : K + M ≤ cb := by omega
    have hs9 : ¬ cb = S := by have := QSM.out; have := HA.out; have := Qb.out; omega
    have hs10 : ¬ cb = K := by have := QSM.out; have := HA.out; have := Qb.out; omega
    have hs11 : ((K : Int) + (M : Int)).toNat = K + M := by omega
    have hs12 : K + M - K = M := by omega
    have hs13 : (0 : Int) ≤ (K : Int) + (M : Int) := by omega
    have hs14 : IntKind.i64.wrap ((K : Int) + (M : Int)) = (K : Int) + (M : Int) := IntWalk.i64_in _ (by omega)
    have hs15 : K ≤ K + M := by omega
    refine wp_region_still_tail 11 (by kernel_rfl) (by kernel_rfl) ?_
    simp only [List.take_succ_cons, List.take_zero, List.drop_succ_cons, List.drop_zero]
    change wpStill _ _ (World.drew W3) _ _ _
    repeat still_step
    refine wpStill_nil ?_
    change wpList _ _ _ _ _ (World.drew W3)
    refine op_copy rfl (.tmp 43) (.tmp 50) 84 84 68 rfl (by kernel_rfl) (by kernel_rfl) bk S K M (n - S) (cb - S) (cb - K) us rfl rfl HV3.out.now HL.out ?_ ?_ ?_ ?_
    · have := HI.out.1; have := Qb.out; omega
    · have := QSM.out; have := HA.out; omega
    · have := HI.out.1; have := Qb.out; have := QSM.out; have := HA.out; omega
    obtain ⟨seg, hseg⟩ : ∃ seg, seg = (us.drop K).take M := ⟨_, rfl⟩
    have hsl : seg.length = M := by rw [hseg, List.length_take, List.length_drop]; have := HI.out.1; have := Qb.out; have := QSM.out; have := HA.out; omega
    have HV3d : Vw w wv W3.drew bk 68 us := HV3.out.step HV3.out.bel.drew
    have HV4 := sets_below HV3d S seg (by rw [hsl]; have := HI.out.1; have := Qb.out; have := QSM.out; have := HA.out; omega)
    have H14 := rs_sets HV3d HL.out H13.out.drew S seg
    have hmv : us.take S ++ seg ++ us.drop (S + seg.length) = moved us K S M := by rw [hsl, hseg]; rfl
    rw [hmv] at HV4
    have a1' : (W3.drew.setCells bk S seg).cell? ⟨w2.heap.size, 1, none⟩ = some (.int .i64 (M : Int)) := by
      have hfar := setCells_far seg S (w := W3.drew) w2.heap.size hbkw
      have := a1
      unfold World.cell? at this ⊢
      rw [hfar]
      exact this
    rw [← hseg]
    generalize W3.drew.setCells bk S seg = W4 at *
    generalize wv.setCells bk S seg = wv4 at *
    have HV4 := Aside0.mk HV4
    have H14 := Aside0.mk H14
    clear hs1 hs2 hs3 hs4 hs5 hs6 hs7 hs8 hs9 hs10 hs11 hs12 hs13 hs14 hs15 a0 a1 hsl hmv HV3d hseg hKS hKS2 hKS3 hbkw
    go_wp2
    go_roundg S
    case rel =>
      refine ⟨r2, c2, wv4, moved us K S M, ?_, ⟨H4.out.trans QSM.out.1.symm, ?_, HA.out.2.2⟩, H14, HV4, ⟨?_⟩, ⟨moved_all HL.out _ _ _⟩⟩
      · rw [← QSM.out.2.2.1]
      · have := QSM.out; have := HA.out; omega
      · have h := inv_copy HI.out HA.out.2.1 (by have := HI.out.1; have := Qb.out; omega)
        rw [← QSM.out.1, ← QSM.out.2.1, ← QSM.out.2.2.1] at h
        exact h
    · have := QSM.out; omega
end Go.Proofs.YtlnfaejdmdhcaaaDoor.QR
/- Exchanging a stretch of a list with one below it, from behind: plainly. And one cell of a row that is written to. -/
namespace Go.Proofs.YtlnfaejdmdhcaaaDoor.QR
open Go.RowKit Go.Proofs.YtlnfaejdmdhcaaaDoorW.PrintWords Go.Proofs.YtlnfaejdmdhcaaaDoorW.PrintLast Go.Proofs.YtlnfaejdmdhcaaaDoorW.PrintMore
set_option linter.unusedVariables false
set_option linter.unusedSimpArgs false
section
variable {α : Type}
def Swp (us us' : List α) (S K M q : Nat) : Prop := us'.length = us.length ∧ (∀ j, q ≤ j → j < M → us'[S + j]? = us[K + j]?) ∧ (∀ j, j < K + q → us'[j]? = us[j]?) ∧ ∀ i, S + M ≤ i → us'[i]? = us[i]?
theorem swp_start (us : List α) (S K M : Nat) : Swp us us S K M M := ⟨rfl, fun j h1 h2 => absurd h1 (by omega), fun _ _ => rfl, fun _ _ => rfl⟩
theorem swp_step {us us' : List α} {S K M q : Nat} (h : Swp us us' S K M (q + 1)) (hq : q + 1 ≤ M) (hKS : K < S) (hl : S + M ≤ us.length) {a b : α} (ha : us'[S + q]? = some a) (hb : us'[K + q]? = some b) : Swp us ((us'.set (S + q) b).set (K + q) a) S K M q := by
  obtain ⟨h1, h2, h3, h4⟩ := h
  refine ⟨by simp [h1], fun j hj1 hj2 => ?_, fun j hj => ?_, fun i hi => ?_⟩
  · rw [List.getElem?_set, if_neg (by omega), List.getElem?_set]
    split
    · rename_i e
      obtain rfl : j = q := by omega
      rw [if_pos (by omega), ← hb]
      exact h3 _ (by omega)
    · exact h2 j (by omega) hj2
  · rw [List.getElem?_set, if_neg (by omega), List.getElem?_set, if_neg (by omega)]
    exact h3 j (by omega)
  · rw [List.getElem?_set, if_neg (by omega), List.getElem?_set, if_neg (by omega)]
    exact h4 i hi
theorem swp_all {P : α → Prop} {us : List α} (h : ∀ u ∈ us, P u) {d s : Nat} {a b : α} (ha : us[d]? = some a) (hb : us[s]? = some b) : ∀ u ∈ (us.set d b).set s a, P u := by
  intro u hu
  rcases List.mem_or_eq_of_mem_set hu with hu | rfl
  · rcases List.mem_or_eq_of_mem_set hu with hu | rfl
    · exact h u hu
    · exact h _ (List.mem_of_getElem? hb)
  · exact h _ (List.mem_of_getElem? ha)
theorem swp_end {b : Nat → Bool} {f n R : Nat} {vs us us' : List α} (h : Inv b f n R vs us) (hs : Swp us us' (nrS b f R) (rk b f (nrS b f R)) (nrN b f R) 0) : Inv b f n (nrS b f R) vs us' :=
  inv_step h hs.1 (fun k hk => hs.2.1 k (Nat.zero_le _) hk) (fun j hj => hs.2.2.1 j hj) hs.2.2.2
end
theorem set_below {w wv w' : World} {bk et : Nat} {us : List Value} (h : Vw w wv w' bk et us) (o : Nat) (v : Value) (hl : o < us.length) : Vw w (wv.setCell ⟨bk, o, none⟩ v) (w'.setCell ⟨bk, o, none⟩ v) bk et (us.set o v) := by
  have := sets_below h o [v] hl
  rw [show us.take o ++ [v] ++ us.drop (o + [v].length) = us.set o v by rw [List.set_eq_take_append_cons_drop, if_pos hl]; simp] at this
  exact this
theorem rs_set1 {w wv w' : World} {bk et : Nat} {us : List Value} (h : Vw w wv w' bk et us) (hs : ∀ u ∈ us, Sl u) {g : Nat} {l : List Int} {f L r c : Nat} (hR : RS wv w' g l f L r c) (o : Nat) (v : Value) : RS (wv.setCell ⟨bk, o, none⟩ v) (w'.setCell ⟨bk, o, none⟩ v) g l f L r c := rs_sets h hs hR o [v]
end Go.Proofs.YtlnfaejdmdhcaaaDoor.QR
