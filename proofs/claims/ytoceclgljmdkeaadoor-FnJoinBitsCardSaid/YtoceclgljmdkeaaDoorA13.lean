/- The law's first call: one part. -/
import Derived.Test.YtoceclgljmdkeaaDoorA12
import Derived.Test.YtoceclgljmdkeaaDoorRows
import Derived.ProofKit
import Derived.OpenShut
import Derived.LaidMore
import Derived.LaidSub
import Derived.Lib.LaidTab
import Derived.MakeChecks
namespace Go.Proofs.YtoceclgljmdkeaaDoor.QR
open Go.RowKit Go.Proofs.YtoceclgljmdkeaaDoorW.PrintWords Go.Proofs.YtoceclgljmdkeaaDoorW.PrintLast Go.Proofs.YtoceclgljmdkeaaDoorW.PrintMore
set_option linter.unusedVariables false
set_option linter.unusedSimpArgs false
theorem u8_C {W : World} {g et : Nat} {x : Int} (hg : W.heap[g]? = some (.cells #[.int .u8 x] et (0, 0))) : Cu W (some ⟨g, 0, none⟩) [x] := by
  refine Kd.C_of_reads (d := (0 : Int)) (enc := Value.int .u8) ⟨rfl, by simp, fun _ => ⟨_, rfl, fun j hj => ?_⟩⟩
  obtain rfl : j = 0 := by simp at hj; exact hj
  rw [show ((⟨g, 0, none⟩ : Addr).add 0) = ⟨g, 0, none⟩ by simp [Addr.add]]
  exact (blk_cell hg 0).trans rfl
/-- The law's own part. -/
def oneP : S28 := ⟨true, [2], 1, 1⟩
theorem one_C {W : World} {s g : Nat} (hs : W.heap[s]? = some (.cells #[.int .u8 2] 5 (0, 0))) (hg : W.heap[g]? = some (.cells #[.bool true, .slice (some ⟨s, 0, none⟩) 1 1, .int .i64 1, .int .i64 1] 28 (0, 0))) : Kd.C k28 W (some ⟨g, 0, none⟩) [oneP].length [oneP] := by
  refine ⟨rfl, by decide, fun _ => ⟨_, rfl, fun j p hj => ?_⟩⟩
  have h : j = 0 := by
    rcases j with _ | j
    · rfl
    · simp at hj
  subst h
  simp at hj
  subst hj
  refine ⟨_, rfl, PFnJoinBits.k28_mk W oneP (A1 := some ⟨s, 0, none⟩) (c1 := 1) (by decide) (u8_C hs), fun i u hu => ?_⟩
  rw [show (Addr.add ⟨g, 0, none⟩ (0 * PFnJoinBits.k28.sz + i)) = ⟨g, i, none⟩ by simp [Addr.add]; omega]
  rw [blk_cell hg i, List.getElem?_toArray]
  exact hu
theorem one_GP : ∀ p ∈ [oneP], GP p := fun p hp => by
  rw [List.mem_singleton.1 hp]
  exact ⟨by decide, by decide, by decide, by decide, fun _ => by decide, by decide, by decide⟩
theorem and_one : ∀ x : Fin 256, ((x.1 : Nat) : Int) / 2 ^ (0 % 8) % 2 = 1 → Go.bits .and .u8 ((x.1 : Nat) : Int) 1 = 1 := by decide +kernel
abbrev o1c : Obj := .cells #[.int .u8 2] 5
abbrev o2c (s : Nat) : Obj := .cells #[.bool true, .slice (some ⟨s, 0, none⟩) 1 1, .int .i64 1, .int .i64 1] 28
theorem one_is (w : World) (hG : Gm w) : Calls Tryd.prog 5 #[.slice (some ⟨w.heap.size + 1, 0, none⟩) 1 1] ((w.alloc o1c).alloc (o2c w.heap.size)) fun e w' => ∃ (ad : Addr) (c : Nat) (x : Int), e = .returned (.tuple #[.slice (some ad) 1 c, .bool true]) ∧ w'.cell? ad = some (.int .u8 x) ∧ Go.bits .and .u8 x 1 = 1 ∧ Below w.heap.size w w' := by
  have h0 : ((w.alloc o1c).alloc (o2c w.heap.size)).heap[w.heap.size]? = some o1c := blk_alloc (blk_new w _) _
  have h1 : ((w.alloc o1c).alloc (o2c w.heap.size)).heap[w.heap.size + 1]? = some (o2c w.heap.size) := by have := blk_new (w.alloc o1c) (o2c w.heap.size); rw [World.size_alloc] at this; exact this
  have hb : Below w.heap.size w ((w.alloc o1c).alloc (o2c w.heap.size)) := below_alloc (below_alloc (Below.refl _ _) _) _
  refine (jb_is (some ⟨w.heap.size + 1, 0, none⟩) 1 _ (one_C h0 h1) (by decide) (by decide) one_GP (hG.below hb hG.1)).mono ?_
  rintro e w' ⟨A, c, r, rfl, k1, k2, k3, k4, k5, k6⟩
  have hl : r.length = 1 := k2
  obtain ⟨ad, ea, c11⟩ := Kd.at_int k4 0 (by decide) (by rw [hl]; decide)
  have hx := bytes_ok k3 0
  have hbit : bt1 r 0 = true := k5 0 (by decide)
  unfold bt1 at hbit
  have h := and_one ⟨(rd r 0).toNat, by omega⟩
  simp only [Int.toNat_of_nonneg hx.1] at h
  refine ⟨ad, c, rd r 0, by rw [ea, hl], ?_, h (of_decide_eq_true hbit), hb.trans (k6.mono hb.size)⟩
  have h2 := c11
  rw [show ad.add (0 : Int).toNat = ad by simp [Addr.add]] at h2
  exact h2
end Go.Proofs.YtoceclgljmdkeaaDoor.QR
/- The law: the bits that are wanted, of one part. -/
namespace Go.Proofs.YtoceclgljmdkeaaDoor.QR
open Go.RowKit Go.Proofs.YtoceclgljmdkeaaDoorW.PrintWords Go.Proofs.YtoceclgljmdkeaaDoorW.PrintLast Go.Proofs.YtoceclgljmdkeaaDoorW.PrintMore
set_option linter.unusedVariables false
set_option linter.unusedSimpArgs false
theorem bitc_is {w : World} {A : Option Addr} {c : Nat} {l : List Int} (hC : Cu w A l) (hc : l.length ≤ c) (hb : bytesOk l = true) {k : Nat} (hk : k < 8 * l.length) (hk2 : k ≤ 1000000) : Calls Tryd.prog 6 #[.slice A l.length c, .int .i64 (k : Int)] w fun e w' => e = .returned (.bool (bt1 l k)) ∧ Below w.heap.size w w' := by
  refine (PFnJoinBits.spec_Bit.calls A c l (k : Int) _ w hC hc (bit_is hk hk2 hb)).mono ?_
  rintro e w' ⟨rfl, hd⟩
  exact ⟨rfl, hd.below⟩
theorem cell_keep {w w1 : World} {p : Addr} {v : Value} (h : w.cell? p = some v) (hb : Below w.heap.size w w1) : w1.cell? p = some v := by
  have hlt : p.block < w.heap.size := by
    unfold World.cell? at h
    split at h
    · rename_i e
      exact (Array.getElem?_eq_some_iff.1 e).1
    · cases h
  unfold World.cell? at h ⊢
  rw [hb.block p.block hlt]
  exact h
/-- impl.JoinBits, and how its bits read. -/
theorem jbL_is {l : List S28} (A0 : Option Addr) (c0 : Nat) (w : World) (hC : Kd.C k28 w A0 l.length l) (hc : l.length ≤ c0) (hl : l.length ≤ 20) (hg : ∀ p ∈ l, GP p) (hG : Gm w) :
    Calls Tryd.prog 5 #[.slice A0 l.length c0] w fun e w' => ∃ (A : Option Addr) (c : Nat) (r : List Int), e = .returned (.tuple #[.slice A r.length c, .bool true]) ∧ Below w.heap.size w w' ∧ Calls Tryd.prog 7 #[.slice A r.length c, .int .i64 0, .int .i64 ((wantL l).length : Int)] w' fun e w'' => ∃ (A7 : Option Addr) (c7 : Nat), e = .returned (.tuple #[.slice A7 (wantL l).length c7, .bool true]) ∧ (wantL l).length ≤ c7 ∧ Kd.C Kd.bool w'' A7 (wantL l).length (wantL l) ∧ Below w'.heap.size w' w'' := by
  have hwl : (wantL l).length ≤ 10000 := by
    rw [← sumL_all]
    have := sumL_le l hl (fun p hp => (hg p hp).2.2.2.1) l.length (Nat.le_refl _)
    omega
  refine (jb_is A0 c0 w hC hc hl hg hG).mono ?_
  rintro e w' ⟨A, c, r, rfl, k1, k2, k3, k4, k5, k6⟩
  refine ⟨A, c, r, rfl, k6, ?_⟩
  rw [sumL_all] at k2
  obtain ⟨kb, hkb⟩ := bl_is (l := r) (n := (wantL l).length) (by omega) (by omega) (by omega) k3
  rw [want_read k5] at hkb
  refine (PFnJoinBits.spec_BitList.calls kb A c r 0 _ _ _ w' k4 k1 hkb).mono ?_
  rintro e w'' ⟨v, rfl, hv, hb⟩
  obtain ⟨A7, c7, rfl⟩ := Kd.R_slice hv
  exact ⟨A7, c7, rfl, (Kd.R_reads' hv).2.1, (Kd.R_reads' hv).2.2, hb⟩
/-- A part's record is no row of bits. -/
theorem not_own {w : World} {g b : Nat} {cs : Array Value} {ok : Nat → Prop} {v : Value} {xs : List Bool} (hR : Kd.R Kd.bool 4 w b ok v xs) (h : w.heap[g]? = some (.cells cs 28 (0, 0))) : some g ≠ v.ownBlock := by
  intro e
  obtain ⟨cells, hc⟩ := own_typed (Kd.own_of_R hR) g e.symm
  rw [h] at hc
  have h2 := Option.some.inj hc
  have h3 : (28 : TypeId) = 4 := by injection h2
  exact absurd h3 (by decide)
set_option maxHeartbeats 8000000 in
set_option maxRecDepth 100000 in
theorem law_is (A0 : Option Addr) (c0 : Nat) (l : List S28) (w : World) (hC : Kd.C k28 w A0 l.length l) (hc : l.length ≤ c0) (hbo : ∀ p ∈ l, bytesOk p.f1 = true) (hG : Gm w) :
    Calls Tryd.prog 3 #[.slice A0 l.length c0] w fun e w' => e = .returned (.bool true) ∧ Below w.heap.size w w' := by
  obtain ⟨k1, r1, hf1, hg1⟩ := fits_is l
  have QZ := Aside0.mk (PFnJoinBits.laws_zzFits13.calls k1 A0 c0 l r1 w hC hc hf1)
  obtain ⟨N, hN⟩ : ∃ N, N = l.length := ⟨_, rfl⟩
  have QN := Aside0.mk hN
  have Q0 := Aside0.mk (And.intro hC (And.intro hc (And.intro hbo (And.intro hG hg1))))
  rw [← hN] at QZ hc ⊢
  clear hC hbo hG hg1 hf1 hN
  cases r1
  · go_enter Tryd.func3, Tryd.ntmps3
    go_wp2_with (go_at_call 4; (with_reducible refine Calls.mono QZ.out ?_); rintro e w1 ⟨rfl, hb⟩; have B1 := Aside0.mk hb; clear hb)
    go_ret
    exact ⟨rfl, B1.out⟩
  go_enter Tryd.func3, Tryd.ntmps3
  go_upto_region 4 with (first | (go_at_call 4; (with_reducible refine Calls.mono QZ.out ?_); rintro e w1 ⟨rfl, hb⟩; have B1 := Aside0.mk hb; have QI := Aside0.mk (one_is w1 (Q0.out.2.2.2.1.below hb Q0.out.2.2.2.1.1)); clear hb) | (go_at_call 5; (with_reducible refine Calls.mono QI.out ?_); rintro e w2 ⟨ad, c, x, rfl, h1, h2, h3⟩; have h2b := beq_iff_eq.2 h2; have B2 := Aside0.mk (B1.out.trans (h3.mono B1.out.size)); clear h3))
  go_upto_region 6 with (fail)
  clear h1 h2 h2b QI QZ B1
  by_cases hN0 : N = 0
  · obtain ⟨rfl⟩ := hN0
    go_wp2
    go_ret
    exact ⟨rfl, B2.out⟩
  by_cases hN20 : 20 < N
  · have h20 : decide ((20 : Int) < (N : Int)) = true := decide_eq_true (by omega)
    have h20b : (20 : Int) < (N : Int) := by omega
    go_wp2
    go_ret
    exact ⟨rfl, B2.out⟩
  have h20 : decide ((20 : Int) < (N : Int)) = false := decide_eq_false (by omega)
  have h00 : ((N : Int) == 0) = false := by simp; omega
  have h20b : ¬ (20 : Int) < (N : Int) := by omega
  go_wp2
  go_loopg [6, 48] N (fun kq v6 v48 w' => ∃ (i : Nat), v48 = .int .i64 (i : Int) ∧ Aside0 (i + kq = N) ∧ Aside0 (∀ j p, j < i → l[j]? = some p → GP p) ∧ Aside0 (Kd.R Kd.bool 4 w' w.heap.size (fun _ => True) v6 (wantL (l.take i)) ∧ Below w.heap.size w w'))
  case atStart => exact ⟨0, rfl, ⟨by omega⟩, ⟨fun j p hj => absurd hj (by omega)⟩, ⟨Kd.R_nil _ _ _ _ _, B2.out⟩⟩
  case round =>
    obtain ⟨i, rfl, HA, HG, HR⟩ := hrel
    rcases Nat.eq_zero_or_pos gk with h0 | h0
    · obtain rfl : i = N := by have := HA.out; omega
      have eW : l.take i = l := by rw [QN.out, List.take_length]
      have hg : ∀ p ∈ l, GP p := fun p hp => by
        obtain ⟨j, hj, rfl⟩ := List.getElem_of_mem hp
        exact HG.out j _ (by have := QN.out; omega) (List.getElem?_eq_getElem hj)
      have QJ := Aside0.mk (jbL_is A0 c0 wr (Kd.C_below Q0.out.1 HR.out.2) Q0.out.2.1 (by have := QN.out; omega) hg (Q0.out.2.2.2.1.below HR.out.2 Q0.out.2.2.2.1.1))
      rw [← QN.out] at QJ
      have hwl : (wantL l).length ≤ 10000 := by
        rw [← sumL_all]
        have := sumL_le l (by have := QN.out; omega) (fun p hp => (hg p hp).2.2.2.1) l.length (Nat.le_refl _)
        have := QN.out
        omega
      rw [eW] at HR
      obtain ⟨A6, c6, rfl⟩ := Kd.R_slice HR.out.1
      obtain ⟨W, hW⟩ : ∃ W, W = wantL l := ⟨_, rfl⟩
      rw [← hW] at QJ HR hwl ⊢
      obtain ⟨ks, hks⟩ := sb_is W (by omega)
      have QS := Aside0.mk hks
      clear eW hg hW hks
      go_wp2_with (first | (go_at_call 5; (with_reducible refine Calls.mono QJ.out ?_); rintro e w3 ⟨A, c, r, rfl, j1, j2⟩; have Q3 := Aside0.mk (And.intro (HR.out.2.trans (j1.mono HR.out.2.size)) (And.intro j1 j2)); clear j1 j2) | (go_at_call 7; (with_reducible refine Calls.mono Q3.out.2.2 ?_); rintro e w4 ⟨A7, c7, rfl, j1, j2, j3⟩; have QS8 := Aside0.mk (PFnJoinBits.spec_SameBools.calls ks A7 c7 W A6 c6 W true w4 j2 j1 (Kd.R_reads' (Kd.R_below (Kd.R_below HR.out.1 Q3.out.2.1) j3)).2.2 (Kd.R_reads' HR.out.1).2.1 QS.out); have Q4 := Aside0.mk (Q3.out.1.trans (j3.mono Q3.out.1.size)); clear j1 j2 j3) | (go_at_call 8; (with_reducible refine Calls.mono QS8.out ?_); rintro e w5 ⟨rfl, j⟩; have Q5 := Aside0.mk (Q4.out.trans (j.below.mono Q4.out.size)); clear j))
      go_ret
      exact ⟨rfl, Q5.out⟩
    · have hi : (i : Int) < (N : Int) := by have := HA.out; omega
      have hiN : i < N := by omega
      obtain ⟨k1, rfl⟩ : ∃ k1, gk = k1 + 1 := ⟨gk - 1, by omega⟩
      obtain ⟨ad, A1, c1, rfl, p0, p1, p2, p3, p4, p5⟩ := PFnJoinBits.at_T28 Q0.out.1 (i : Int) (by omega) (by have := QN.out; omega)
      rw [Int.toNat_natCast] at p0 p1 p2 p3
      obtain ⟨p, hp⟩ : ∃ p, p = PFnJoinBits.rd_T28 l (i : Int) := ⟨_, rfl⟩
      rw [← hp] at p0 p1 p2 p3 p4 p5
      have hpl : l[i]? = some p := by
        rw [hp]
        unfold PFnJoinBits.rd_T28
        rw [Int.toNat_natCast, List.getD_eq_getElem?_getD, List.getElem?_eq_getElem (by have := QN.out; omega)]
        rfl
      have hpm : p ∈ l := List.mem_of_getElem? hpl
      have Qp := Aside0.mk (And.intro hpl (And.intro (Q0.out.2.2.1 p hpm) (Q0.out.2.2.2.2 trivial p hpm)))
      have Q5 := Aside0.mk (And.intro p4 p5)
      have hl1 : p.f1.length ≤ 2147483647 := Qp.out.2.2
      obtain ⟨b0, hb0⟩ : ∃ b0, b0 = p.f0 := ⟨_, rfl⟩
      rw [← hb0] at p0
      have Qb0 := Aside0.mk hb0
      replace p0 := cell_keep p0 HR.out.2
      replace p1 := cell_keep p1 HR.out.2
      replace p2 := cell_keep p2 HR.out.2
      replace p3 := cell_keep p3 HR.out.2
      clear hp p4 p5 hpl hpm hb0
      by_cases t1 : p.f2 < 0
      · have t1' := decide_eq_true t1
        go_wp2
        go_ret
        exact ⟨rfl, (below_alloc HR.out.2 _)⟩
      have t1' := decide_eq_false t1
      by_cases t2 : p.f3 < 0
      · have t2' := decide_eq_true t2
        go_wp2
        go_ret
        exact ⟨rfl, (below_alloc HR.out.2 _)⟩
      have t2' := decide_eq_false t2
      by_cases t3 : 500 < p.f2
      · have t3' := decide_eq_true t3
        go_wp2
        go_ret
        exact ⟨rfl, (below_alloc HR.out.2 _)⟩
      have t3' := decide_eq_false t3
      by_cases t4 : 500 < p.f3
      · have t4' := decide_eq_true t4
        go_wp2
        go_ret
        exact ⟨rfl, (below_alloc HR.out.2 _)⟩
      have t4' := decide_eq_false t4
      obtain ⟨f, hf⟩ : ∃ f : Nat, p.f3 = (f : Int) := ⟨p.f3.toNat, by omega⟩
      obtain ⟨o, ho⟩ : ∃ o : Nat, p.f2 = (o : Int) := ⟨p.f2.toNat, by omega⟩
      have Qfo := Aside0.mk (And.intro hf ho)
      rw [hf] at t2 t2' t4 t4' p3
      rw [ho] at t1 t1' t3 t3' p2
      clear hf ho
      have hf5 : f ≤ 500 := by omega
      have ho5 : o ≤ 500 := by omega
      obtain ⟨L, hL⟩ : ∃ L, L = p.f1.length := ⟨_, rfl⟩
      have QL := Aside0.mk hL
      rw [← hL] at p1 hl1
      clear hL
      cases b0
      · go_wp2
        have QV := Aside0.mk (show Below w.heap.size w (wr.alloc (.cells #[.bool false, .slice A1 L c1, .int .i64 (o : Int), .int .i64 (f : Int)] 28)) from below_alloc HR.out.2 _)
        go_loopg [6, 9] f (fun kq v6 v9 w' => ∃ (j : Nat), v9 = .int .i64 (j : Int) ∧ Aside0 (j + kq = f) ∧ Aside0 (Kd.R Kd.bool 4 w' w.heap.size (fun _ => True) v6 (wantL (l.take i) ++ (partB p).take j) ∧ Below w.heap.size w w' ∧ w'.heap[wr.heap.size]? = some (.cells #[.bool false, .slice A1 L c1, .int .i64 (o : Int), .int .i64 (f : Int)] 28 (0, 0))))
        case atStart => exact ⟨0, rfl, ⟨by omega⟩, ⟨by rw [List.take_zero, List.append_nil]; exact Kd.R_below HR.out.1 (below_alloc (Below.refl _ _) _), QV.out, blk_new wr _⟩⟩
        case round =>
          obtain ⟨j, rfl, HA2, HR2⟩ := hrel
          have q0 := (blk_cell HR2.out.2.2 0).trans rfl
          have q1 := (blk_cell HR2.out.2.2 1).trans rfl
          have q2 := (blk_cell HR2.out.2.2 2).trans rfl
          have q3 := (blk_cell HR2.out.2.2 3).trans rfl
          clear p0 p1 p2 p3 t1' t2' t3' t4'
          rcases Nat.eq_zero_or_pos gk with h0 | h0
          · obtain rfl : j = f := by have := HA2.out; omega
            go_wp2
            go_roundg k1
            case rel => exact ⟨i + 1, rfl, ⟨by have := HA.out; omega⟩, ⟨fun m p' hm hp' => by
              by_cases em : m = i
              · subst em
                rw [Qp.out.1] at hp'
                injection hp' with hp'
                subst hp'
                refine ⟨by rw [Qfo.out.2]; omega, by rw [Qfo.out.2]; omega, by rw [Qfo.out.1]; omega, by rw [Qfo.out.1]; omega, fun hb => (by rw [← Qb0.out] at hb; cases hb), Qp.out.2.1, by have := Qp.out.2.2; omega⟩
              · exact HG.out m p' (by omega) hp'⟩, ⟨by
                rw [want_take l Qp.out.1]
                have h := HR2.out.1
                rw [show j = p.f3.toNat by rw [Qfo.out.1, Int.toNat_natCast], partB_all] at h
                exact h, HR2.out.2.1⟩⟩
            · omega
          · have hjf : (j : Int) < (f : Int) := by have := HA2.out; omega
            have hjN : j < f := by omega
            obtain ⟨k2, rfl⟩ : ∃ k2, gk = k2 + 1 := ⟨gk - 1, by omega⟩
            have hsm : ((wantL (l.take i) ++ (partB p).take j).length + 1) * 1 ≤ 140737488355328 := by
              rw [List.length_append, List.length_take]
              have h5 : (wantL (l.take i)).length ≤ 10000 := by
                have h6 : ∀ m, m ≤ i → (wantL (l.take m)).length ≤ 500 * m := by
                  intro m
                  induction m with
                  | zero => intro _; simp [wantL]
                  | succ m ih =>
                    intro hm
                    have h8 : l[m]? = some (l[m]'(by have := QN.out; omega)) := List.getElem?_eq_getElem _
                    rw [want_take l h8, List.length_append, partB_len]
                    have h9 := (HG.out m _ (by omega) h8).2.2.2.1
                    have := ih (by omega)
                    omega
                have := h6 i (Nat.le_refl _)
                omega
              omega
            have hbt := partB_take p (j := j) (by rw [Qfo.out.1, Int.toNat_natCast]; exact hjN)
            rw [← Qb0.out] at hbt
            rw [Bool.not_false, Bool.true_or] at hbt
            have Qbt := Aside0.mk hbt
            have Qsm := Aside0.mk hsm
            clear hbt hsm
            go_wp2_with ((with_reducible refine gate_builtin (b := .append) (xs := #[.tmp 93, .tmp 106]) rfl ?_); at_builtin; refine Kd.R_append Kd.bool (w0 := w) w.heap.size rfl (.tmp 93) (.tmp 106) 29 4 (.bool false) 1 rfl Tryd.underlying29 PFnJoinBits.info4 rfl (by decide) (by omega) _ _ true [.bool true] (fun _ => True) (fun _ => False) rfl rfl rfl (fun _ h => h.elim) (fun _ _ => trivial) HR2.out.1 HR2.out.2.1 HR2.out.2.1.size Qsm.out ?_; intro v6 w6 ho hb hg hat; have Q6 := Aside0.mk (And.intro ho (And.intro hb (blk_grown HR2.out.2.2 hg (not_own HR2.out.1 HR2.out.2.2)))); clear ho hb hg hat)
            go_roundg k2
            case rel => exact ⟨j + 1, rfl, ⟨by have := HA2.out; omega⟩, ⟨by rw [Qbt.out, ← List.append_assoc]; exact Q6.out.1, Q6.out.2.1, Q6.out.2.2⟩⟩
            · omega
      · by_cases t5 : 8 * (L : Int) < (o : Int) + (f : Int)
        · have t5' := decide_eq_true t5
          go_wp2
          go_ret
          exact ⟨rfl, (below_alloc HR.out.2 _)⟩
        have t5' := decide_eq_false t5
        go_wp2
        have QV := Aside0.mk (show Below w.heap.size w (wr.alloc (.cells #[.bool true, .slice A1 L c1, .int .i64 (o : Int), .int .i64 (f : Int)] 28)) from below_alloc HR.out.2 _)
        go_loopg [6, 9] f (fun kq v6 v9 w' => ∃ (j : Nat), v9 = .int .i64 (j : Int) ∧ Aside0 (j + kq = f) ∧ Aside0 (Kd.R Kd.bool 4 w' w.heap.size (fun _ => True) v6 (wantL (l.take i) ++ (partB p).take j) ∧ Below w.heap.size w w' ∧ w'.heap[wr.heap.size]? = some (.cells #[.bool true, .slice A1 L c1, .int .i64 (o : Int), .int .i64 (f : Int)] 28 (0, 0))))
        case atStart => exact ⟨0, rfl, ⟨by omega⟩, ⟨by rw [List.take_zero, List.append_nil]; exact Kd.R_below HR.out.1 (below_alloc (Below.refl _ _) _), QV.out, blk_new wr _⟩⟩
        case round =>
          obtain ⟨j, rfl, HA2, HR2⟩ := hrel
          have q0 := (blk_cell HR2.out.2.2 0).trans rfl
          have q1 := (blk_cell HR2.out.2.2 1).trans rfl
          have q2 := (blk_cell HR2.out.2.2 2).trans rfl
          have q3 := (blk_cell HR2.out.2.2 3).trans rfl
          clear p0 p1 p2 p3 t1' t2' t3' t4'
          rcases Nat.eq_zero_or_pos gk with h0 | h0
          · obtain rfl : j = f := by have := HA2.out; omega
            go_wp2
            go_roundg k1
            case rel => exact ⟨i + 1, rfl, ⟨by have := HA.out; omega⟩, ⟨fun m p' hm hp' => by
              by_cases em : m = i
              · subst em
                rw [Qp.out.1] at hp'
                injection hp' with hp'
                subst hp'
                refine ⟨by rw [Qfo.out.2]; omega, by rw [Qfo.out.2]; omega, by rw [Qfo.out.1]; omega, by rw [Qfo.out.1]; omega, fun hb => by rw [Qfo.out.1, Qfo.out.2, ← QL.out]; omega, Qp.out.2.1, by have := Qp.out.2.2; omega⟩
              · exact HG.out m p' (by omega) hp'⟩, ⟨by
                rw [want_take l Qp.out.1]
                have h := HR2.out.1
                rw [show j = p.f3.toNat by rw [Qfo.out.1, Int.toNat_natCast], partB_all] at h
                exact h, HR2.out.2.1⟩⟩
            · omega
          · have hjf : (j : Int) < (f : Int) := by have := HA2.out; omega
            have hjN : j < f := by omega
            obtain ⟨k2, rfl⟩ : ∃ k2, gk = k2 + 1 := ⟨gk - 1, by omega⟩
            have hsm : ((wantL (l.take i) ++ (partB p).take j).length + 1) * 1 ≤ 140737488355328 := by
              rw [List.length_append, List.length_take]
              have h5 : (wantL (l.take i)).length ≤ 10000 := by
                have h6 : ∀ m, m ≤ i → (wantL (l.take m)).length ≤ 500 * m := by
                  intro m
                  induction m with
                  | zero => intro _; simp [wantL]
                  | succ m ih =>
                    intro hm
                    have h8 : l[m]? = some (l[m]'(by have := QN.out; omega)) := List.getElem?_eq_getElem _
                    rw [want_take l h8, List.length_append, partB_len]
                    have h9 := (HG.out m _ (by omega) h8).2.2.2.1
                    have := ih (by omega)
                    omega
                have := h6 i (Nat.le_refl _)
                omega
              omega
            have hbt := partB_take p (j := j) (by rw [Qfo.out.1, Int.toNat_natCast]; exact hjN)
            rw [← Qb0.out] at hbt
            rw [Bool.not_true, Bool.false_or, Qfo.out.2, Int.toNat_natCast] at hbt
            have QB6 := Aside0.mk (bitc_is (w := wr) (A := A1) (c := c1) (Kd.C_below Q5.out.2 HR2.out.2.1) Q5.out.1 Qp.out.2.1 (k := o + j) (by have := QL.out; omega) (by omega))
            rw [← QL.out, show ((o + j : Nat) : Int) = (o : Int) + (j : Int) from Int.natCast_add o j] at QB6
            generalize bt1 p.f1 (o + j) = z at hbt QB6
            have Qbt := Aside0.mk hbt
            have Qsm := Aside0.mk hsm
            clear hbt hsm
            go_wp2_with (first | (go_at_call 6; (with_reducible refine Calls.mono QB6.out ?_); rintro e w5 ⟨rfl, hb⟩; have QX := Aside0.mk (And.intro (Kd.R_below HR2.out.1 hb) (And.intro (HR2.out.2.1.trans (hb.mono HR2.out.2.1.size)) ((hb.block _ (blk_lt HR2.out.2.2)).trans HR2.out.2.2))); clear hb) | ((with_reducible refine gate_builtin (b := .append) (xs := #[.tmp 93, .tmp 106]) rfl ?_); at_builtin; refine Kd.R_append Kd.bool (w0 := w) w.heap.size rfl (.tmp 93) (.tmp 106) 29 4 (.bool false) 1 rfl Tryd.underlying29 PFnJoinBits.info4 rfl (by decide) (by omega) _ _ z [.bool z] (fun _ => True) (fun _ => False) rfl rfl rfl (fun _ h => h.elim) (fun _ _ => trivial) QX.out.1 QX.out.2.1 QX.out.2.1.size Qsm.out ?_; intro v6 w6 ho hb hg hat; have Q6 := Aside0.mk (And.intro ho (And.intro hb (blk_grown QX.out.2.2 hg (not_own QX.out.1 QX.out.2.2)))); clear ho hb hg hat))
            go_roundg k2
            case rel => exact ⟨j + 1, rfl, ⟨by have := HA2.out; omega⟩, ⟨by rw [Qbt.out, ← List.append_assoc]; exact Q6.out.1, Q6.out.2.1, Q6.out.2.2⟩⟩
            · omega
end Go.Proofs.YtoceclgljmdkeaaDoor.QR
/- What the law's argument and the listed variables read as: a row of parts; the three tables. -/
namespace Go.Proofs.YtoceclgljmdkeaaDoor.QR
open Go.ChangeShapes Go.WideShapes Go.ChangeAt Go.RowKit Go.Proofs.YtoceclgljmdkeaaDoorW.PrintWords Go.Proofs.YtoceclgljmdkeaaDoorW.PrintLast Go.Proofs.YtoceclgljmdkeaaDoorW.PrintMore
set_option linter.unusedVariables false
set_option linter.unusedSimpArgs false
theorem cells_at {w : World} {base : Nat} {a : Addr} {n : Nat} {cs : List Value} (h : w.cells? base a n = some cs) : cs.length = n ∧ ∀ i u, cs[i]? = some u → w.cell? (a.add i) = some u := by
  unfold World.cells? at h
  split at h
  · refine ⟨by simpa using mapM_some_length h, fun i u hu => ?_⟩
    have hi : i < (List.range n).length := by
      have h1 := mapM_some_length h
      have h2 := (List.getElem?_eq_some_iff.1 hu).1
      omega
    have := mapM_some_get h i i (by rw [List.getElem?_range (by simpa using hi)])
    rw [this]
    exact hu
  · cases h
section
variable {H : Type} {enc : TypeId × Value → H} {W : World} {base : Nat} {sp : Nat → Bool} {held : Bool}
/-- A row of bytes that came in. -/
theorem bytes_of (fuel : Nat) (v : Value) (cs : List Value) (x : DataW H × List MemPlace) (a0 : Option Addr) (len0 cap0 : Nat) (hv : cs = [.slice a0 len0 cap0]) (h : DataW.trod enc Tryd.prog W base sp held fuel 24 cs = some x) : ∃ l : List Int, l.length = len0 ∧ len0 ≤ cap0 ∧ Cu W a0 l ∧ bytesOk l = true := by
  subst hv
  rcases open_ints Tryd.underlying24 Tryd.underlying5 (by kernel_rfl) h with ⟨hcs, _⟩ | ⟨y, l, c, zs, hcs, _, hl, hm, hz, _, hcell, hwz⟩
  · simp at hcs
    obtain ⟨rfl, rfl, rfl⟩ := hcs
    exact ⟨[], rfl, Nat.le_refl _, ⟨rfl, by simp, fun h => absurd h (Nat.lt_irrefl _)⟩, rfl⟩
  · simp at hcs
    obtain ⟨rfl, rfl, rfl⟩ := hcs
    have hzl : len0 ≤ zs.length := by have h2 : zs.length = if sp y.block = true then cap0 else len0 := by simpa using hz
                                      rw [h2]; split <;> omega
    have htl : (zs.take len0).length = len0 := by rw [List.length_take]; omega
    refine ⟨zs.take len0, htl, hl, ?_, ?_⟩
    · refine Kd.C_of_reads (d := (0 : Int)) (enc := Value.int .u8) ⟨rfl, by rw [htl]; exact Nat.le_trans hl (by simpa [maxLen] using hm), fun _ => ⟨y, rfl, fun j hj => ?_⟩⟩
      rw [htl] at hj
      have hc := hcell j (by omega)
      rw [hc]
      congr 2
      rw [List.getD_eq_getElem?_getD, List.getD_eq_getElem?_getD, List.getElem?_take, if_pos hj]
    · unfold bytesOk
      rw [List.all_eq_true]
      intro z hzm
      have := hwz z (List.mem_of_mem_take hzm)
      simp [Lit.wf, IntKind.min, IntKind.max, IntKind.bits, IntKind.signed] at this
      simp only [Bool.and_eq_true, decide_eq_true_eq]
      omega
set_option maxRecDepth 100000 in
/-- A row of parts that came in. -/
theorem parts_of (n : Nat) (cs : List Value) (x : DataW H × List MemPlace) (h : DataW.trod enc Tryd.prog W base sp held n 22 cs = some x) : ∃ A len cap, ∃ xs : List S28, cs = [.slice A len cap] ∧ len ≤ cap ∧ xs.length = len ∧ Kd.C k28 W A len xs ∧ ∀ p ∈ xs, bytesOk p.f1 = true := by
  rcases DataW.trod_slice Tryd.underlying22 h with ⟨hcs, _⟩ | ⟨a, len, cap, elems, rest, m, hn, hcs, _, _, hl, hcm, hlen, hel, _, _⟩
  · exact ⟨none, 0, 0, [], hcs, Nat.le_refl _, rfl, ⟨rfl, by omega, fun h => absurd h (Nat.lt_irrefl _)⟩, fun p hp => by cases hp⟩
  · have hc4 : Tryd.prog.cellsOf 28 = 4 := by kernel_rfl
    have hml : len ≤ 9223372036854775807 := Nat.le_trans hl (by simpa [maxLen] using hcm)
    have key : ∀ i, i < len → ∃ y : S28, bytesOk y.f1 = true ∧ ∃ c : List Value, c.length = 4 ∧ k28.K W y c ∧ ∀ j u, c[j]? = some u → W.cell? (a.add (i * 4 + j)) = some u := by
      intro i hi
      have hE := hel i hi
      rw [hc4] at hE
      rw [List.getElem?_eq_getElem (show i < elems.length by omega)] at hE
      obtain ⟨c, hc, hy⟩ := Option.bind_eq_some_iff.1 hE
      obtain ⟨hcl, hcc⟩ := cells_at hc
      obtain ⟨ys, m2, hm2, hx2, hcl2, hyl, hf⟩ := DataW.trod_struct Tryd.underlying28 hy
      have f0 := hf 0 _ rfl
      have f1 := hf 1 _ rfl
      have f2 := hf 2 _ rfl
      have f3 := hf 3 _ rfl
      have hy4 : ys.length = 4 := hyl
      rw [List.getElem?_eq_getElem (show 0 < ys.length by omega)] at f0
      rw [List.getElem?_eq_getElem (show 1 < ys.length by omega)] at f1
      rw [List.getElem?_eq_getElem (show 2 < ys.length by omega)] at f2
      rw [List.getElem?_eq_getElem (show 3 < ys.length by omega)] at f3
      obtain ⟨b, e0, _⟩ := DataW.trod_bool Tryd.underlying4 f0
      obtain ⟨s, e2, _⟩ := DataW.trod_int Tryd.underlying3 f2
      obtain ⟨t, e3, _⟩ := DataW.trod_int Tryd.underlying3 f3
      have k4 : Tryd.prog.cellsOf 4 = 1 := by kernel_rfl
      have k24 : Tryd.prog.cellsOf 24 = 1 := by kernel_rfl
      have k3 : Tryd.prog.cellsOf 3 = 1 := by kernel_rfl
      have hcs1 : ∃ b1 l1 c1, List.take (Tryd.prog.cellsOf 24) (List.drop 1 c) = [.slice b1 l1 c1] := by
        rcases DataW.trod_slice Tryd.underlying24 f1 with ⟨hcs, _⟩ | ⟨a2, len2, cap2, _, _, _, _, hcs, _⟩
        · exact ⟨none, 0, 0, hcs⟩
        · exact ⟨some a2, len2, cap2, hcs⟩
      obtain ⟨b1, l1, c1, e1⟩ := hcs1
      obtain ⟨l, hl1, hl2, hl3, hl4⟩ := bytes_of m2 (.slice b1 l1 c1) _ _ b1 l1 c1 e1 f1
      replace e0 : List.take (Tryd.prog.cellsOf 4) (List.drop 0 c) = [.bool b] := e0
      replace e2 : List.take (Tryd.prog.cellsOf 3) (List.drop 2 c) = [.int .i64 s] := e2
      replace e3 : List.take (Tryd.prog.cellsOf 3) (List.drop 3 c) = [.int .i64 t] := e3
      rw [k4] at e0
      rw [k24] at e1
      rw [k3] at e2 e3
      match c, hcl with
      | [d0, d1, d2, d3], _ =>
        simp only [List.drop_succ_cons, List.drop_zero, List.take_succ_cons, List.take_zero, List.cons.injEq, and_true] at e0 e1 e2 e3
        refine ⟨⟨b, l, s, t⟩, hl4, [d0, d1, d2, d3], rfl, ?_, fun j u hu => by rw [← add_add]; exact hcc j u hu⟩
        rw [e0, e1, e2, e3, ← hl1]
        exact PFnJoinBits.k28_mk W ⟨b, l, s, t⟩ (by show l.length ≤ c1; omega) hl3
    have : ∃ xs : List S28, xs.length = len ∧ ∀ i y, xs[i]? = some y → bytesOk y.f1 = true ∧ ∃ c : List Value, c.length = 4 ∧ k28.K W y c ∧ ∀ j u, c[j]? = some u → W.cell? (a.add (i * 4 + j)) = some u := by
      refine ⟨(List.range len).map (fun i => if hi : i < len then (key i hi).choose else PFnJoinBits.z28), by simp, fun i y hy => ?_⟩
      rw [List.getElem?_map] at hy
      obtain ⟨q, hq, rfl⟩ := Option.map_eq_some_iff.1 hy
      obtain ⟨hql, hqe⟩ := List.getElem?_eq_some_iff.1 hq
      simp only [List.length_range] at hql
      simp only [List.getElem_range] at hqe
      subst hqe
      rw [dif_pos hql]
      exact (key i hql).choose_spec
    obtain ⟨xs, hxl, hxs⟩ := this
    refine ⟨some a, len, cap, xs, hcs, hl, hxl, ⟨hxl, hml, fun _ => ⟨a, rfl, fun j p hj => ?_⟩⟩, fun p hp => ?_⟩
    · obtain ⟨_, c, h1, h2, h3⟩ := hxs j p hj
      exact ⟨c, h1, h2, h3⟩
    · obtain ⟨j, hj, rfl⟩ := List.mem_iff_getElem.1 hp
      exact (hxs j _ (List.getElem?_eq_getElem hj)).1
end
theorem gBitMask : Tryd.prog.globalNamed "given.example/pub-arrowroot/pub/arrow/arrow/bitutil.BitMask" = some 3 := by kernel_rfl
theorem gPrecedingBitmask : Tryd.prog.globalNamed "given.example/pub-arrowroot/pub/arrow/arrow/bitutil.PrecedingBitmask" = some 0 := by kernel_rfl
theorem gTrailingBitmask : Tryd.prog.globalNamed "given.example/pub-arrowroot/pub/arrow/arrow/bitutil.TrailingBitmask" = some 1 := by kernel_rfl
theorem gm_of {W : World} (h : laidMetH Tryd.prog [("given.example/pub-arrowroot/pub/arrow/arrow/bitutil.BitMask", Rows.laid_given_example_pub_arrowroot_pub_arrow_arrow_bitutil_BitMask), ("given.example/pub-arrowroot/pub/arrow/arrow/bitutil.PrecedingBitmask", Rows.laid_given_example_pub_arrowroot_pub_arrow_arrow_bitutil_PrecedingBitmask), ("given.example/pub-arrowroot/pub/arrow/arrow/bitutil.TrailingBitmask", Rows.laid_given_example_pub_arrowroot_pub_arrow_arrow_bitutil_TrailingBitmask)] W) : Gm W := by
  have h_BitMask : laidMetH Tryd.prog [("given.example/pub-arrowroot/pub/arrow/arrow/bitutil.BitMask", Rows.laid_given_example_pub_arrowroot_pub_arrow_arrow_bitutil_BitMask)] W := laidMetH.filter (fun x => x.1 == "given.example/pub-arrowroot/pub/arrow/arrow/bitutil.BitMask") h
  have h_PrecedingBitmask : laidMetH Tryd.prog [("given.example/pub-arrowroot/pub/arrow/arrow/bitutil.PrecedingBitmask", Rows.laid_given_example_pub_arrowroot_pub_arrow_arrow_bitutil_PrecedingBitmask)] W := laidMetH.filter (fun x => x.1 == "given.example/pub-arrowroot/pub/arrow/arrow/bitutil.PrecedingBitmask") h
  have h_TrailingBitmask : laidMetH Tryd.prog [("given.example/pub-arrowroot/pub/arrow/arrow/bitutil.TrailingBitmask", Rows.laid_given_example_pub_arrowroot_pub_arrow_arrow_bitutil_TrailingBitmask)] W := laidMetH.filter (fun x => x.1 == "given.example/pub-arrowroot/pub/arrow/arrow/bitutil.TrailingBitmask") h
  rw [MakeChecks.laidMetH_plain _ _ _ (by kernel_rfl)] at h_BitMask h_PrecedingBitmask h_TrailingBitmask
  have t_BitMask := Lib.tabIs_of_head (k := .u8) (zs := [1, 2, 4, 8, 16, 32, 64, 128]) gBitMask (show (Tryd.prog.globals[3]?).map (·.type) = some 87 by kernel_rfl) Tryd.underlying87 Tryd.underlying5 (by kernel_rfl) (by kernel_rfl) h_BitMask
  have c_BitMask := fun i (hi : i < 8) => t_BitMask.cell gBitMask i hi
  have t_PrecedingBitmask := Lib.tabIs_of_head (k := .u8) (zs := [0, 1, 3, 7, 15, 31, 63, 127]) gPrecedingBitmask (show (Tryd.prog.globals[0]?).map (·.type) = some 87 by kernel_rfl) Tryd.underlying87 Tryd.underlying5 (by kernel_rfl) (by kernel_rfl) h_PrecedingBitmask
  have c_PrecedingBitmask := fun i (hi : i < 8) => t_PrecedingBitmask.cell gPrecedingBitmask i hi
  have t_TrailingBitmask := Lib.tabIs_of_head (k := .u8) (zs := [255, 254, 252, 248, 240, 224, 192, 128]) gTrailingBitmask (show (Tryd.prog.globals[1]?).map (·.type) = some 87 by kernel_rfl) Tryd.underlying87 Tryd.underlying5 (by kernel_rfl) (by kernel_rfl) h_TrailingBitmask
  have c_TrailingBitmask := fun i (hi : i < 8) => t_TrailingBitmask.cell gTrailingBitmask i hi
  have h8 : ∀ k, k < 8 → k = 0 ∨ k = 1 ∨ k = 2 ∨ k = 3 ∨ k = 4 ∨ k = 5 ∨ k = 6 ∨ k = 7 := fun k hk => by omega
  have h3 := World.block_lt_of_cell? W _ (c_BitMask 0 (by omega))
  refine ⟨h3, fun k hk => ?_, fun k hk => ?_, fun k hk => ?_⟩
  · rcases h8 k hk with rfl | rfl | rfl | rfl | rfl | rfl | rfl | rfl <;> exact c_BitMask _ (by omega)
  · rcases h8 k hk with rfl | rfl | rfl | rfl | rfl | rfl | rfl | rfl <;> exact c_PrecedingBitmask _ (by omega)
  · rcases h8 k hk with rfl | rfl | rfl | rfl | rfl | rfl | rfl | rfl <;> exact c_TrailingBitmask _ (by omega)
end Go.Proofs.YtoceclgljmdkeaaDoor.QR
