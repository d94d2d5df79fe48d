/- Decimals are read from a row of bytes: GetAt, GetData. -/
import Derived.Test.YtlnbkmkdapeicaaDoorF5a
namespace Go.Proofs.YtlnbkmkdapeicaaDoor.QR
open Go.RowKit Go.Proofs.YtlnbkmkdapeicaaDoorW.PrintWords Go.Proofs.YtlnbkmkdapeicaaDoorW.PrintLast Go.Proofs.YtlnbkmkdapeicaaDoorW.PrintMore
set_option linter.unusedVariables false
set_option linter.unusedSimpArgs false
/-- The decimal of number i in a row of bytes. -/
def w16 (l : List Int) (i : Nat) : Dc := (le8f (fun j => rd l ((16 * i + j : Nat) : Int)) 0, IntKind.i64.wrap (le8f (fun j => rd l ((16 * i + j : Nat) : Int)) 8))
set_option maxHeartbeats 8000000 in
set_option maxRecDepth 100000 in
theorem ga_is (A : Option Addr) (l : List Int) (c i : Nat) (w : World) (hC : Cu w A l) (hc : l.length ≤ c) (hl : l.length ≤ 1000000) (hbo : bytesOk l = true) (hi : 16 * i + 16 ≤ l.length) :
    Calls Tryd.prog 69 #[.slice A l.length c, .int .i64 (i : Int)] w fun e w' => e = .returned (.agg #[.int .u64 (w16 l i).1, .int .i64 (w16 l i).2]) ∧ Below w.heap.size w w' := by
  obtain ⟨ad, rfl, _⟩ := hC.2.2 (by omega)
  have QS := Aside0.mk (fun w => so_is w)
  have QC := Aside0.mk (And.intro hC (And.intro hi hbo))
  obtain ⟨N, hN⟩ : ∃ N, N = l.length := ⟨_, rfl⟩
  rw [← hN] at hc hl hi ⊢
  obtain ⟨m, hm⟩ : ∃ m, m = 16 * i := ⟨_, rfl⟩
  have Qm := Aside0.mk (And.intro hm hN)
  have h1 : ((i : Int) * 16) = (m : Int) := by omega
  have h3 : IntKind.i64.wrap (m : Int) = (m : Int) := IntWalk.i64_in _ (by omega)
  have h3b : IntKind.i64.wrap ((m : Int) + 16) = (m : Int) + 16 := IntWalk.i64_in _ (by omega)
  have hii : (i : Int) ≤ 1000000 := by omega
  have h4 : (m : Int) + 16 ≤ (c : Int) := by omega
  have h4n : m + 16 ≤ c := by omega
  have h5 : (m : Int) ≤ (m : Int) + 16 := by omega
  have h6 : ¬ (c - m = 0) := by omega
  have h6b : ¬ c = m := by omega
  have h7 : ((m : Int) + 16).toNat = m + 16 := by omega
  have h8 : m + 16 - m = 16 := by omega
  have h9 : (0 : Int) ≤ (m : Int) + 16 := by omega
  have h10 : m ≤ m + 16 := by omega
  have h11 : m ≤ c := by omega
  have hcm : 16 ≤ c - m := by omega
  clear hC hN hc hl hbo hi hm
  have QG := Aside0.mk (fun w1 (hb : Below w.heap.size w w1) => show Calls Tryd.prog 74 #[.slice (some (ad.add m)) 16 (c - m)] w1 fun e w' => e = .returned (.agg #[.int .u64 (w16 l i).1, .int .i64 (w16 l i).2]) ∧ Below w1.heap.size w1 w' from by
    have hC1 : Cu w1 (some ad) l := Kd.C_below QC.out.1 hb
    refine g1_is (ad.add m) 16 (c - m) (fun j => rd l ((16 * i + j : Nat) : Int)) w1 rfl hcm (fun j => bytes_ok QC.out.2.2 _) ?_
    intro j hj
    obtain ⟨ad2, e, h⟩ := Kd.at_int hC1 ((16 * i + j : Nat) : Int) (by omega) (by have := QC.out.2.1; omega)
    cases e
    rw [add_add, Qm.out.1]
    exact h)
  generalize w16 l i = x at QG ⊢
  obtain ⟨lo, hi'⟩ := x
  simp only at QG ⊢
  clear QC Qm hcm
  go_enter Tryd.func69, Tryd.ntmps69
  go_upto_region 1 with (fail)
  obtain ⟨W1, hW1⟩ : ∃ W1, W1 = w.alloc (.cells #[.int .u64 0, .int .i64 0] 50) := ⟨_, rfl⟩
  have gn : W1.heap[w.heap.size]? = some (.cells #[.int .u64 0, .int .i64 0] 50 (0, 0)) := by rw [hW1]; exact blk_new w _
  have Q0 := Aside0.mk (show Below w.heap.size w W1 by rw [hW1]; exact b2 w _)
  rw [← hW1]
  have Qn := Aside0.mk gn
  clear hW1 gn
  go_wp2_with (first | (go_at_call 24; refine (QS.out _).mono ?_; rintro e w1 ⟨rfl, hb⟩; have Q1 := Aside0.mk hb; clear hb) | (go_at_call 74; go_must (refine (QG.out _ (Q0.out.trans (Q1.out.mono Q0.out.size))).mono ?_); rintro e w5 ⟨rfl, hb⟩; have hb1 := Q1.out.trans (hb.mono Q1.out.size); have g5 := (hb1.block _ (blk_lt Qn.out)).trans Qn.out; have k0 := blk_cell g5 0; have k1 := blk_cell g5 1; have z0 := blk_frozen g5 0; have z1 := blk_frozen g5 1; have Q5 := Aside0.mk (Q0.out.trans (hb1.mono Q0.out.size)); clear hb hb1 g5))
  refine bodyPost_ret (v := .agg #[.int .u64 lo, .int .i64 hi']) (by simp [results, Tryd.results69, go_sem, k0, k1]) rfl ?_
  exact ⟨rfl, (Q5.out.setCell (Nat.le_refl _) _).setCell (Nat.le_refl _) _⟩
/-- The first m decimals of a row of bytes. -/
def elsI (l : List Int) (m : Nat) : List Dc := (List.range m).map fun i => w16 l i
theorem elsI_len (l : List Int) (m : Nat) : (elsI l m).length = m := by simp [elsI]
/-- The cells of decimals: two each. -/
def cI : List Dc → List Value
  | [] => []
  | x :: xs => .int .u64 x.1 :: .int .i64 x.2 :: cI xs
theorem cI_len : ∀ (xs : List Dc), (cI xs).length = 2 * xs.length
  | [] => rfl
  | x :: xs => by unfold cI; rw [List.length_cons, List.length_cons, cI_len xs, List.length_cons]; omega
theorem cI_get0 : ∀ {xs : List Dc} {i : Nat} {x : Dc}, xs[i]? = some x → (cI xs)[i * 2]? = some (.int .u64 x.1)
  | [], i, x, h => by simp at h
  | y :: ys, 0, x, h => by
    simp at h; subst h; rfl
  | y :: ys, i + 1, x, h => by
    rw [show (i + 1) * 2 = i * 2 + 1 + 1 by omega]
    unfold cI
    rw [List.getElem?_cons_succ, List.getElem?_cons_succ]
    exact cI_get0 (by simpa using h)
theorem cI_get1 : ∀ {xs : List Dc} {i : Nat} {x : Dc}, xs[i]? = some x → (cI xs)[i * 2 + 1]? = some (.int .i64 x.2)
  | [], i, x, h => by simp at h
  | y :: ys, 0, x, h => by
    simp at h; subst h; rfl
  | y :: ys, i + 1, x, h => by
    rw [show (i + 1) * 2 + 1 = i * 2 + 1 + 1 + 1 by omega]
    unfold cI
    rw [List.getElem?_cons_succ, List.getElem?_cons_succ]
    exact cI_get1 (by simpa using h)
theorem cI_set : ∀ {xs : List Dc} {i : Nat} (x : Dc), i < xs.length → ((cI xs).set (i * 2) (.int .u64 x.1)).set (i * 2 + 1) (.int .i64 x.2) = cI (xs.set i x)
  | [], i, x, h => by simp at h
  | y :: ys, 0, x, h => rfl
  | y :: ys, i + 1, x, h => by
    rw [show (i + 1) * 2 + 1 = i * 2 + 1 + 1 + 1 by omega, show (i + 1) * 2 = i * 2 + 1 + 1 by omega, List.set_cons_succ]
    unfold cI
    rw [List.set_cons_succ, List.set_cons_succ, List.set_cons_succ, List.set_cons_succ, cI_set x (by simpa using h)]
def rowAt (l : List Int) (m i : Nat) : List Dc := elsI l i ++ List.replicate (m - i) (0, 0)
theorem rowAt_len {l : List Int} {m i : Nat} (h : i ≤ m) : (rowAt l m i).length = m := by unfold rowAt; rw [List.length_append, elsI_len, List.length_replicate]; omega
theorem rowAt_zero (l : List Int) (m : Nat) : rowAt l m 0 = List.replicate m (0, 0) := by simp [rowAt, elsI]
theorem rowAt_end (l : List Int) (m : Nat) : rowAt l m m = elsI l m := by simp [rowAt]
theorem rowAt_get {l : List Int} {m i : Nat} (h : i < m) : (rowAt l m i)[i]? = some (0, 0) := by
  unfold rowAt
  rw [List.getElem?_append_right (by rw [elsI_len]; exact Nat.le_refl _), elsI_len, Nat.sub_self, List.getElem?_replicate, if_pos (by omega)]
theorem rowAt_set {l : List Int} {m i : Nat} (h : i < m) : (rowAt l m i).set i (w16 l i) = rowAt l m (i + 1) := by
  unfold rowAt
  rw [List.set_append_right _ _ (by rw [elsI_len]; exact Nat.le_refl _), elsI_len, Nat.sub_self, show m - i = (m - (i + 1)) + 1 by omega, List.replicate_succ, List.set_cons_zero]
  simp [elsI, List.range_succ]
theorem infoE : (Tryd.prog.info? 50).map (fun i => (i.zero, i.size, i.bytes)) = some (some (.agg #[.int .u64 0, .int .i64 0]), 2, 16) := by kernel_rfl
theorem cI_zero_get : ∀ (n k : Nat), k < 2 * n → (cI (List.replicate n (0, 0)))[k]? = some (if k % 2 = 0 then .int .u64 0 else .int .i64 0)
  | 0, k, h => by omega
  | n + 1, k, h => by
    rw [List.replicate_succ]
    unfold cI
    rcases k with _ | k
    · rfl
    rcases k with _ | k
    · rfl
    rw [List.getElem?_cons_succ, List.getElem?_cons_succ, cI_zero_get n k (by omega), show (k + 1 + 1) % 2 = k % 2 by omega]
theorem made_is (n : Nat) : madeCells #[(.int .u64 0 : Value), .int .i64 0] (n * 2) = (cI (List.replicate n (0, 0))).toArray := by
  rw [← Array.toList_inj]
  apply List.ext_getElem?
  intro k
  show _ = (cI (List.replicate n (0, 0)))[k]?
  by_cases h : k < 2 * n
  · rw [cI_zero_get n k h]
    have h2 : k < n * 2 := by omega
    rcases Nat.mod_two_eq_zero_or_one k with e | e <;> simp [madeCells, h2, e]
  · rw [List.getElem?_eq_none (by simp [madeCells]; omega), List.getElem?_eq_none (by rw [cI_len, List.length_replicate]; omega)]
theorem make_is (n : Nat) (hn : n ≤ 1000000) (w : World) : (Instr.makeSlice 149 (.int .i64 (n : Int)) (.int .i64 (n : Int))).run Tryd.prog w = .ok (.slice (some ⟨w.heap.size, 0, none⟩) n n) (w.alloc (.cells (cI (List.replicate n (0, 0))).toArray 50)) := by
  obtain ⟨i, hi, hzz⟩ := Option.map_eq_some_iff.1 infoE
  simp only [Prod.mk.injEq] at hzz
  obtain ⟨hz, hs, hb⟩ := hzz
  have hr := run_make (P := Tryd.prog) w 149 50 i _ Tryd.underlying149 hi hz .i64 .i64 n n (by omega) (Int.le_refl _) (by rw [hb]; omega) (by omega)
  rw [Int.toNat_natCast, hs] at hr
  rw [hr, ← made_is]
  rfl
set_option maxHeartbeats 8000000 in
set_option maxRecDepth 100000 in
theorem gd_is (A : Option Addr) (l : List Int) (c m : Nat) (w : World) (hC : Cu w A l) (hc : l.length ≤ c) (hl : l.length ≤ 1000000) (hbo : bytesOk l = true) (hm : l.length = 16 * m) :
    Calls Tryd.prog 65 #[.slice A l.length c] w fun e w' => ∃ g, e = .returned (.slice (some ⟨g, 0, none⟩) m m) ∧ w.heap.size ≤ g ∧ w'.heap[g]? = some (.cells (cI (elsI l m)).toArray 50 (0, 0)) ∧ Below w.heap.size w w' := by
  have hmk := make_is m (by omega)
  have QS := Aside0.mk (fun w => so_is w)
  have QC := Aside0.mk hC
  have Qh := Aside0.mk (show l.length ≤ c ∧ bytesOk l = true ∧ l.length = 16 * m ∧ l.length ≤ 1000000 from ⟨hc, hbo, hm, hl⟩)
  obtain ⟨n, hn⟩ : ∃ n, n = l.length := ⟨_, rfl⟩
  rw [← hn] at hc hl hm ⊢
  have Qn := Aside0.mk hn
  have hq : Int.tdiv (n : Int) 16 = (m : Int) := by rw [Int.tdiv_eq_ediv_of_nonneg (by omega)]; omega
  have hmi : (m : Int) ≤ 1000000 := by omega
  clear hC hbo hn hc hm hl
  go_enter Tryd.func65, Tryd.ntmps65
  go_upto_region 2 with (go_at_call 24; refine (QS.out _).mono ?_; rintro e w0 ⟨rfl, hb⟩; have Q0 := Aside0.mk hb; clear hb)
  obtain ⟨W1, hW1⟩ : ∃ W1, W1 = w0.alloc (.cells (cI (List.replicate m (0, 0))).toArray 50) := ⟨_, rfl⟩
  obtain ⟨g, hg⟩ : ∃ g, g = w0.heap.size := ⟨_, rfl⟩
  have g1 : W1.heap[g]? = some (.cells (cI (rowAt l m 0)).toArray 50 (0, 0)) := by rw [hW1, hg, rowAt_zero]; exact blk_new w0 _
  have hb1 : Below w.heap.size w W1 := by rw [hW1]; exact Q0.out.alloc Q0.out.size _
  rw [← hW1, ← hg]
  have Qg := Aside0.mk (show w.heap.size ≤ g by rw [hg]; exact Q0.out.size)
  clear hW1 hmk hq QS hg Q0
  have G1 := Aside0.mk g1
  have B1 := Aside0.mk hb1
  clear g1 hb1
  go_wp2_with fail
  go_loopg [12] m (fun kq v12 w' => ∃ i : Nat, v12 = .int .i64 (i : Int) ∧ Aside0 (i + kq = m) ∧ Aside0 (w'.heap[g]? = some (.cells (cI (rowAt l m i)).toArray 50 (0, 0))) ∧ Aside0 (Below w.heap.size w w'))
  case atStart => exact ⟨0, rfl, ⟨by omega⟩, G1, B1⟩
  case round =>
    obtain ⟨i, rfl, HA, HG, HB⟩ := hrel
    clear G1 B1
    rcases Nat.eq_zero_or_pos gk with h0 | h0
    · have hi : ((i : Int) < (m : Int)) = False := by have := HA.out; simp; omega
      go_wp2
      go_ret
      obtain rfl : i = m := by have := HA.out; omega
      exact ⟨g, rfl, Qg.out, by rw [← rowAt_end]; exact HG.out, HB.out⟩
    · have hi : (i : Int) < (m : Int) := by have := HA.out; omega
      have hi2 : i < m := by omega
      have QI := Aside0.mk hi2
      obtain ⟨k1, rfl⟩ : ∃ k1, gk = k1 + 1 := ⟨gk - 1, by omega⟩
      have QV := Aside0.mk (ga_is A l c i wr (Kd.C_below QC.out HB.out) Qh.out.1 Qh.out.2.2.2 Qh.out.2.1 (by
        have := Qh.out.2.2.1
        have h2 : 16 * (i + 1) ≤ 16 * m := Nat.mul_le_mul_left _ hi2
        omega))
      rw [← Qn.out] at QV
      obtain ⟨v, hv⟩ : ∃ v, v = w16 l i := ⟨_, rfl⟩
      rw [← hv] at QV
      have Qv := Aside0.mk hv
      clear h0 hv
      obtain ⟨lo, hh⟩ := v
      simp only at QV
      go_wp2_with (go_at_call 69; refine QV.out.mono ?_; rintro e w2 ⟨rfl, hb⟩; have g2 := (hb.block g (blk_lt HG.out)).trans HG.out; have G2 := Aside0.mk g2; have B2 := Aside0.mk (HB.out.trans (hb.mono HB.out.size)); have kb2 := (blk_cell g2 (i * 2)).trans ((List.getElem?_toArray ..).trans (cI_get0 (rowAt_get QI.out))); have kb3 := (blk_cell g2 (i * 2 + 1)).trans ((List.getElem?_toArray ..).trans (cI_get1 (rowAt_get QI.out))); have zb2 := blk_frozen g2 (i * 2); have zb3 := blk_frozen g2 (i * 2 + 1); clear hb g2)
      go_roundg k1
      case rel =>
        refine ⟨i + 1, rfl, ⟨by have := HA.out; omega⟩, ⟨?_⟩, ⟨(B2.out.setCell Qg.out _).setCell Qg.out _⟩⟩
        have h := blk_set (blk_set G2.out (i * 2) (.int .u64 lo)) (i * 2 + 1) (.int .i64 hh)
        rw [← rowAt_set QI.out, ← Qv.out, ← cI_set _ (by rw [rowAt_len (Nat.le_of_lt QI.out)]; exact QI.out)]
        simpa using h
      · omega
end Go.Proofs.YtlnbkmkdapeicaaDoor.QR
