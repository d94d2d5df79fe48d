/- The law. -/
import Derived.Test.YtjipnopadpedoaaDoorH16
import Derived.Test.YtjipnopadpedoaaDoorH9
import Derived.Test.YtjipnopadpedoaaDoorWNEv
namespace Go.Proofs.YtjipnopadpedoaaDoor.QR
open Go.RowKit Go.Proofs.YtjipnopadpedoaaDoorW.PrintWords Go.Proofs.YtjipnopadpedoaaDoorW.PrintLast Go.Proofs.YtjipnopadpedoaaDoorW.PrintMore
open Go.Proofs.YtjipnopadpedoaaDoor.PFnLevelStructs (S25 z25 k25 rd_T25 at_T25 k25_heap)
set_option linter.unusedVariables false
set_option linter.unusedSimpArgs false
/-- A row is null, or a struct of one list. -/
def OKr (v : S25) : Prop := (v.f0 = false → v.f3.length = 1) ∧ (v.f0 = true → v.f3.length = 0)
theorem flat_le (l : List S25) (i : Nat) (hb : ndL 5 l ≤ 2000000) : ((l.take i).flatMap S25.f3).length ≤ 2000000 := by
  have h1 := ndL_len 4 ((l.take i).flatMap S25.f3)
  have h2 : ndL 4 ((l.take i).flatMap S25.f3) ≤ ndL 5 (l.take i) := ndL_flat 4 (l.take i)
  have h3 := ndL_take 5 l i
  omega
theorem ap_app {W w0 : World} {u v v1 : Value} {xs : List Int} (h : AP u v) (hv : RI w0 W v xs) (hat : v1.ownBlock = u.ownBlock ∨ ∃ b, v1.ownBlock = some b ∧ W.heap.size ≤ b) : AP v1 v := by
  rcases hat with e | ⟨b, e, hl⟩
  · unfold AP
    rw [e]
    exact h
  · exact own_apart' (n := W.heap.size) (fun k hk => by rw [e] at hk; cases hk; exact hl) (Kd.R_lt hv)
theorem ap_app2 {W w0 : World} {u v v1 : Value} {xs : List Int} (h : AP u v) (hu : RI w0 W u xs) (hat : v1.ownBlock = v.ownBlock ∨ ∃ b, v1.ownBlock = some b ∧ W.heap.size ≤ b) : AP u v1 := (ap_app h.symm hu hat).symm
/-- What is told: so many, so many of them not there, and the bits. -/
def RES (w : World) (v : Value) (N an : Nat) (bs : List Bool) (L : Nat) : Prop := ∃ (A : Option Addr) (c : Nat) (r : List Int), v = .slice A r.length c ∧ r.length ≤ c ∧ r.length = L ∧ bytesOk r = true ∧ Cu w A r ∧ ∀ k, k < an + N → bt1 r k = if k < an then true else bs.getD (k - an) false
theorem RES.below {w w1 : World} {v : Value} {N an L : Nat} {bs : List Bool} (h : RES w v N an bs L) (hb : Below w.heap.size w w1) : RES w1 v N an bs L := by
  obtain ⟨A, c, r, h1, h2, h3, h4, h5, h6⟩ := h
  exact ⟨A, c, r, h1, h2, h3, h4, Kd.C_below h5 hb, h6⟩
theorem RES.set3 {w : World} {v : Value} {N an L g : Nat} {bs : List Bool} (h : RES w v N an bs L) (hg : w.heap[g]? = some (.cells #[.int .i64 0, .int .i64 0, .slice none 0 0] 35 (0, 0))) (x y z : Value) : RES (((w.setCell ⟨g, 0, none⟩ x).setCell ⟨g, 1, none⟩ y).setCell ⟨g, 2, none⟩ z) v N an bs L := by
  obtain ⟨A, c, r, h1, h2, h3, h4, h5, h6⟩ := h
  refine ⟨A, c, r, h1, h2, h3, h4, h5.keep (fun ad hA hl => ?_), h6⟩
  have hn := h5.ne hg (fun u hu x => by
    simp at hu
    rcases hu with rfl | rfl <;> simp) ad hA hl
  rw [Below.heap_setCell _ _ _ _ hn, Below.heap_setCell _ _ _ _ hn, Below.heap_setCell _ _ _ _ hn]
def law.T23 : Bool × List (List Nat × List Nat) := (true, [([], []), ([], []), ([], []), ([], []), ([3], [3]), ([], []), ([4, 5], [4, 5]), ([0, 1, 2, 6, 6], [0, 1, 2, 6]), ([7], [7]), ([8], [8]), ([8], [8]), ([], []), ([11, 9, 7, 0, 1, 2, 3, 4, 5, 6, 7, 8, 9, 11], [9, 11]), ([10, 12, 0, 1, 2, 3, 4, 5, 6, 7, 8, 9, 10, 11, 12], [10])])
def law.B23 : List Nat := [0, 0, 0, 0, 8, 0, 56, 127, 255, 511, 511, 0, 3071, 8191]
theorem law.tab23 : rtab .any (opsOf Tryd.f3 23) = law.T23 := by kernel_rfl
theorem law.bits23 : waitsOk law.T23.2 law.B23 = true := by kernel_rfl
set_option maxHeartbeats 16000000 in
set_option maxRecDepth 100000 in
theorem law_is (A0 : Option Addr) (c0 : Nat) (l : List S25) (lv ah : Int) (w : World) (hC : Kd.C k25 w A0 l.length l) (hc : l.length ≤ c0) (hG : Gm w) (hb : ndL 5 l ≤ 2000000) :
    Calls Tryd.prog 3 #[.slice A0 l.length c0, .int .i64 lv, .int .i64 ah] w fun e w' => e = .returned (.bool true) ∧ Below w.heap.size w w' := by
  have hlen : l.length ≤ 2000000 := Nat.le_trans (ndL_len 5 l) hb
  have hbf : ndL 4 (l.flatMap S25.f3) ≤ 4000000 := by have : ndL 4 (l.flatMap S25.f3) ≤ ndL 5 l := ndL_flat 4 l; omega
  obtain ⟨kf, rf, hf, hfr⟩ := rf_is (l.flatMap S25.f3) lv hbf
  have Q0 := Aside0.mk (And.intro hC (And.intro hc (And.intro hG (And.intro hb hf))))
  obtain ⟨N, hN⟩ : ∃ N, N = l.length := ⟨_, rfl⟩
  have QN := Aside0.mk hN
  rw [← hN] at hlen ⊢
  clear hC hc hG hb hf hbf hN
  have m0 : ¬ (2147483647 : Int) < (N : Int) := by omega
  have m0d := decide_eq_false m0
  go_enter Tryd.func3, Tryd.ntmps3
  go_wp2
  go_loopg [7, 24] N (fun kq v7 v24 w' => ∃ (i : Nat), v24 = .int .i64 (i : Int) ∧ Aside0 (i + kq = N) ∧ Aside0 (∀ j, j < i → OKr (l.getD j z25)) ∧ Aside0 (Kd.N k25 25 w' w.heap.size (fun _ => True) v7 ((l.take i).flatMap S25.f3) ∧ Below w.heap.size w w'))
  case atStart => exact ⟨0, rfl, ⟨by omega⟩, ⟨fun j hj => absurd hj (by omega)⟩, ⟨Kd.N_nil _ _ _ _ _, Below.refl _ _⟩⟩
  case round =>
    obtain ⟨i, rfl, HA, HG, HR⟩ := hrel
    rcases Nat.eq_zero_or_pos gk with h0 | h0
    · obtain rfl : i = N := by have := HA.out; omega
      have eT : l.take i = l := List.take_of_length_le (by have := QN.out; omega)
      rw [eT] at HR
      obtain ⟨Al, cl, rfl⟩ := Kd.N_slice HR.out.1
      have hr7 := Kd.N_reads' HR.out.1
      have QRF := Aside0.mk (PFnLevelStructs.laws_rowsFit.calls kf Al cl (l.flatMap S25.f3) lv rf wr hr7.2.2 hr7.2.1 Q0.out.2.2.2.2)
      clear eT hr7
      generalize (l.flatMap S25.f3).length = nl at *
      by_cases g1 : lv < 1
      · have g1d := decide_eq_true g1
        go_wp2
        go_ret
        exact ⟨rfl, HR.out.2⟩
      have g1d := decide_eq_false g1
      cases rf
      · go_wp2_with (go_at_call 4; (with_reducible refine Calls.mono QRF.out ?_); rintro e w1 ⟨rfl, hb⟩; have B1 := Aside0.mk (HR.out.2.trans (hb.mono HR.out.2.size)); clear hb)
        go_ret
        exact ⟨rfl, B1.out⟩
      obtain ⟨p1, p2⟩ := hfr rfl
      clear hfr
      obtain ⟨ls, rfl⟩ : ∃ ls : Nat, lv = (ls : Int) := ⟨lv.toNat, by omega⟩
      by_cases g2 : 500 < (i : Int)
      · have g2d := decide_eq_true g2
        go_wp2_with (go_at_call 4; (with_reducible refine Calls.mono QRF.out ?_); rintro e w1 ⟨rfl, hb⟩; have B1 := Aside0.mk (HR.out.2.trans (hb.mono HR.out.2.size)); clear hb)
        go_ret
        exact ⟨rfl, B1.out⟩
      have g2d := decide_eq_false g2
      by_cases g3 : ah < 0
      · have g3d := decide_eq_true g3
        go_wp2_with (go_at_call 4; (with_reducible refine Calls.mono QRF.out ?_); rintro e w1 ⟨rfl, hb⟩; have B1 := Aside0.mk (HR.out.2.trans (hb.mono HR.out.2.size)); clear hb)
        go_ret
        exact ⟨rfl, B1.out⟩
      have g3d := decide_eq_false g3
      by_cases g4 : 100 < ah
      · have g4d := decide_eq_true g4
        go_wp2_with (go_at_call 4; (with_reducible refine Calls.mono QRF.out ?_); rintro e w1 ⟨rfl, hb⟩; have B1 := Aside0.mk (HR.out.2.trans (hb.mono HR.out.2.size)); clear hb)
        go_ret
        exact ⟨rfl, B1.out⟩
      have g4d := decide_eq_false g4
      obtain ⟨an, rfl⟩ : ∃ an : Nat, ah = (an : Int) := ⟨ah.toNat, by omega⟩
      have Qls := Aside0.mk (show ls ≤ 4 ∧ an ≤ 100 ∧ i ≤ 500 from ⟨by omega, by omega, by omega⟩)
      go_upto_region 14 with (go_at_call 4; (with_reducible refine Calls.mono QRF.out ?_); rintro e w1 ⟨rfl, hb⟩; have B1 := Aside0.mk (HR.out.2.trans (hb.mono HR.out.2.size)); clear hb)
      clear g1 g1d g2 g2d g3 g3d g4 g4d p1 p2 QRF HR
      go_wp2
      go_loopg [10, 11, 75] i (fun kq v10 v11 v75 w' => ∃ (j : Nat), v75 = .int .i64 (j : Int) ∧ Aside0 (j + kq = i) ∧ Aside0 (RI w w' v10 (dsN (entL ls (l.take j))) ∧ RI w w' v11 (rsN (entL ls (l.take j))) ∧ AP v10 v11 ∧ Below w.heap.size w w'))
      case atStart => exact ⟨0, rfl, ⟨by omega⟩, ⟨Kd.R_nil _ _ _ _ _, Kd.R_nil _ _ _ _ _, .inl rfl, B1.out⟩⟩
      case round =>
        obtain ⟨j, rfl, HA2, H2⟩ := hrel
        rcases Nat.eq_zero_or_pos gk with h02 | h02
        · obtain rfl : j = i := by have := HA2.out; omega
          have eT2 : l.take j = l := List.take_of_length_le (by have := QN.out; omega)
          rw [eT2] at H2
          obtain ⟨E, hE⟩ : ∃ E, E = entL ls l := ⟨_, rfl⟩
          have QE := Aside0.mk hE
          rw [← hE] at H2
          obtain ⟨A1, d1, rfl⟩ := Kd.R_slice H2.out.1
          obtain ⟨A2, d2, rfl⟩ := Kd.R_slice H2.out.2.1
          have hok : ∀ v ∈ l, v.f0 = false → v.f3.length = 1 := fun v hv => by
            obtain ⟨k, hk, rfl⟩ := List.getElem_of_mem hv
            have := (HG.out k (by have := QN.out; omega)).1
            rw [List.getD_eq_getElem?_getD, List.getElem?_eq_getElem hk] at this
            exact this
          have hst : stB (dsN E) (rsN E) (dsN E).length = presB l := by rw [stB_all, hE, entL_st ls l hok]
          have hpl : (presB l).length = j := by unfold presB; rw [List.length_map]; exact QN.out.symm
          have hEl : E.length ≤ 2000000 := by
            have h1 := entL_le ls l
            have h2 := ndL_le (show ls + 1 ≤ 5 by have := Qls.out; omega) l
            have h3 := Q0.out.2.2.2.1
            rw [hE]
            omega
          have hE0 : j = 0 → (dsN E).length = 0 := fun h0 => by
            have hl0 : l = [] := List.eq_nil_of_length_eq_zero (by have := QN.out; omega)
            rw [hE, hl0]
            rfl
          obtain ⟨kr, Bts, hr1, hr2, hr3, hr4⟩ := room_is j an (by have := Qls.out; omega) (by have := Qls.out; omega)
          have Q7c := Aside0.mk (fun W => PFnLevelStructs.laws_roomFor.calls kr (j : Int) (an : Int) _ _ _ _ W hr1)
          have Q6 := Aside0.mk (fun (W : World) (hW : Below wr.heap.size wr W) (Ab : Option Addr) (cb : Nat) (hB : Cu W Ab Bts) => ls_is (D := dsN E) (R := rsN E) (bits := Bts) A1 A2 Ab d1 d2 cb j an W ((Kd.R_reads' (Kd.R_below H2.out.1 hW)).2.2) ((Kd.R_reads' (Kd.R_below H2.out.2.1 hW)).2.2) (by rw [dsN_len, rsN_len]) (by rw [dsN_len]; omega) (dsN_nn E) (rsN_nn E) hB hr3 (by rw [hr2]; omega) (by rw [hr2]; have := Qls.out; omega) (by rw [hr2]; omega) (by have := Qls.out; omega) hE0 (by have := Qls.out; omega) (Q0.out.2.2.1.below (H2.out.2.2.2.trans (hW.mono H2.out.2.2.2.size)) Q0.out.2.2.1.1) (by rw [hst]; exact hpl))
          rw [hst] at Q6
          have hkt : ∀ r : List Int, r.length = Bts.length → bytesOk r = true → (∀ k, k < an + j → bt1 r k = if k < an then true else (presB l).getD (k - an) false) → ∃ kt, PFnLevelStructs.laws_toldRight.f kt (j : Int) (nulls (presB l) : Int) r l (an : Int) = some true := fun r h1 h2 h3 => by
            have hh := tr_is l (by have := Qls.out; have := QN.out; omega) an (by have := Qls.out; omega) r (by have := QN.out; rw [h1, hr2]; omega) (by rw [h1, hr2]; have := Qls.out; omega) h2 (by rw [← QN.out]; exact h3)
            rw [← QN.out] at hh
            exact hh
          have Qkt := Aside0.mk hkt
          have Qhr4 := Aside0.mk (And.intro hr2 hr4)
          obtain ⟨nn, hnn⟩ : ∃ nn, nn = nulls (presB l) := ⟨_, rfl⟩
          rw [← hnn] at Q6 Qkt
          have Qb1 := Aside0.mk (show ∀ k, k < an → bt1 Bts k = true from fun k hk => by rw [hr4 k (by omega), decide_eq_true hk])
          clear eT2 hE hok hst hpl hEl hE0 hr1 hr2 hr3 hr4 hkt hnn
          go_upto_region 23 with fail
          refine wp_as (fun V => V.heap[wr.heap.size]? = some (.cells #[.int .i64 1, .int .i64 1, .int .i64 0, .int .i64 0] 32 (0, 0)) ∧ Below wr.heap.size wr V) ⟨blk_new wr _, b2 wr _⟩ ?_
          rintro V ⟨v1, v2⟩
          have Q6c := Aside0.mk (show ∀ (W : World) (Ab : Option Addr) (cb : Nat), Below V.heap.size V W → Kd.R (Kd.int .u8) 5 W V.heap.size (fun _ => True) (.slice Ab Bts.length cb) Bts → Calls Tryd.prog 6 #[.slice A1 (dsN E).length d1, .slice A2 (rsN E).length d2, .agg #[.int .i64 1, .int .i64 1, .int .i64 0, .int .i64 0], .agg #[.int .i64 (j : Int), .bool true, .slice Ab Bts.length cb, .int .i64 (an : Int)]] W fun e w' => ∃ v3, e = .returned (.tuple #[.agg #[.int .i64 (j : Int), .int .i64 (nn : Int), v3], .bool true]) ∧ RES w' v3 j an (presB l) Bts.length ∧ Below W.heap.size W w' from fun W Ab cb hW hR => by
            refine Calls.mono (Q6.out W (v2.trans (hW.mono v2.size)) Ab cb (Kd.R_reads' hR).2.2) ?_
            rintro e w' ⟨A', c', r, rfl, x1, x2, x3, x4, x5, x6⟩
            refine ⟨_, rfl, ⟨A', c', r, rfl, x1, x2, x3, x4, fun k hk => ?_⟩, x6⟩
            rw [x5 k hk]
            by_cases hka : k < an
            · rw [if_pos hka, if_pos hka]
              exact Qb1.out k hka
            · rw [if_neg hka, if_neg hka])
          have QBw := Aside0.mk (H2.out.2.2.2.trans (v2.mono H2.out.2.2.2.size))
          obtain ⟨p, hp⟩ : ∃ p, p = wr.heap.size := ⟨_, rfl⟩
          rw [← hp] at v1 ⊢
          have Qp := Aside0.mk v1
          have HB0 := Aside0.mk (show Below V.heap.size V V.drew from (Below.refl _ _).drew)
          clear v1 v2 hp Q6 H2
          refine start_ (n := 14) (S := fun w' => True) (ds := []) #[false, false, false, false, false, false, false, false, false, false, false, false, false, false] (by kernel_rfl) rfl rfl trivial (fun hHeld => ?_)
          refine with_tabW law.tab23 law.bits23 (fun HT_ HW_ => ?_)
          refine pure_ (i := 0) (N := some 103) (v := ?_) (a' := ?_) #[true, false, false, false, false, false, false, false, false, false, false, false, false, false] rfl rfl (any_of HT_.out (by kernel_rfl)) (fun _ _ _ h => h) (Or.inl ⟨by rfl, ?_⟩) ?_ ?_
          rotate_left
          · intro w'
            go_simp
            with_reducible rfl
          rotate_left
          · simp only [Act.put, List.setIfInBounds_toArray, List.set_cons_zero, List.set_cons_succ, i64_w, i32_w]
            rfl
          refine pure_ (i := 1) (N := some 104) (v := ?_) (a' := ?_) #[true, true, false, false, false, false, false, false, false, false, false, false, false, false] rfl rfl (any_of HT_.out (by kernel_rfl)) (fun _ _ _ h => h) (Or.inl ⟨by rfl, ?_⟩) ?_ ?_
          rotate_left
          · intro w'
            go_simp
            with_reducible rfl
          rotate_left
          · simp only [Act.put, List.setIfInBounds_toArray, List.set_cons_zero, List.set_cons_succ, i64_w, i32_w]
            rfl
          refine pure_ (i := 3) (N := some 106) (v := ?_) (a' := ?_) #[true, true, false, true, false, false, false, false, false, false, false, false, false, false] rfl rfl (any_of HT_.out (by kernel_rfl)) (fun _ _ _ h => h) (Or.inl ⟨by rfl, ?_⟩) ?_ ?_
          rotate_left
          · intro w'
            go_simp
            with_reducible rfl
          rotate_left
          · simp only [Act.put, List.setIfInBounds_toArray, List.set_cons_zero, List.set_cons_succ, i64_w, i32_w]
            rfl
          refine pure_ (i := 4) (N := some 107) (v := ?_) (a' := ?_) #[true, true, false, true, true, false, false, false, false, false, false, false, false, false] rfl rfl (any_of HT_.out (by kernel_rfl)) (fun _ _ _ h => h) (Or.inl ⟨by rfl, ?_⟩) ?_ ?_
          rotate_left
          · intro w'
            go_simp
            with_reducible rfl
          rotate_left
          · simp only [Act.put, List.setIfInBounds_toArray, List.set_cons_zero, List.set_cons_succ, i64_w, i32_w]
            rfl
          refine pure_ (i := 5) (N := some 108) (v := ?_) (a' := ?_) #[true, true, false, true, true, true, false, false, false, false, false, false, false, false] rfl rfl (any_of HT_.out (by kernel_rfl)) (fun _ _ _ h => h) (Or.inl ⟨by rfl, ?_⟩) ?_ ?_
          rotate_left
          · intro w'
            go_simp
            with_reducible rfl
          rotate_left
          · simp only [Act.put, List.setIfInBounds_toArray, List.set_cons_zero, List.set_cons_succ, i64_w, i32_w]
            rfl
          refine inv_at [2, 6, 7, 8, 9, 10, 11, 12, 13] (fun a0_ b a w' => ∃ (vb : Value) (vt : Value) (gA : Nat) (m6_ : Value) (m7_ : Value) (m8_ : Value) (m9_ : Value) (m11_ : Value), a = putSel a0_ b [(2, 105, .agg #[.int .i64 1, .int .i64 1, .int .i64 0, .int .i64 0]), (6, 109, m6_), (7, 110, m7_), (8, 102, m8_), (9, 111, m9_), (10, 112, .bool true), (11, 17, m11_), (13, 18, .bool true)] ∧ (Below V.heap.size V w') ∧ (b 6 = true → b 7 = false → Kd.R (Kd.int .u8) 5 w' V.heap.size (fun _ => True) vb Bts) ∧ (b 7 = true → RES w' vt j an (presB l) Bts.length) ∧ (b 11 = true → b 12 = false → w'.heap[gA]? = some (.cells #[.int .i64 0, .int .i64 0, .slice none 0 0] 35 (0, 0)) ∧ V.heap.size ≤ gA) ∧ (b 12 = true → w'.heap[gA]? = some (.cells #[.int .i64 (j : Int), .int .i64 (nn : Int), vt] 35 (0, 0)) ∧ V.heap.size ≤ gA) ∧ (b 6 = true → (m6_ : Value) = .agg #[.int .i64 (j : Int), .bool true, vb, .int .i64 (an : Int)]) ∧ (b 7 = true → (m7_ : Value) = .tuple #[.agg #[.int .i64 (j : Int), .int .i64 (nn : Int), vt], .bool true]) ∧ (b 8 = true → (m8_ : Value) = .tuple #[.agg #[.int .i64 (j : Int), .int .i64 (nn : Int), vt], .bool true]) ∧ (b 9 = true → (m9_ : Value) = .agg #[.int .i64 (j : Int), .int .i64 (nn : Int), vt]) ∧ (b 11 = true → (m11_ : Value) = .pointer (some ⟨gA, 0, none⟩))) HT_.out HW_.out (by kernel_rfl) (by kernel_rfl) ?_ ?_ ?_
          · exact ⟨.bool false, .bool false, 0, .bool false, .bool false, .bool false, .bool false, .bool false, by simp only [putSel, Bool.false_eq_true, if_false], HB0.out, fun h_ => absurd h_ (by decide), fun h_ => absurd h_ (by decide), fun h_ => absurd h_ (by decide), fun h_ => absurd h_ (by decide), fun h_ => absurd h_ (by decide), fun h_ => absurd h_ (by decide), fun h_ => absurd h_ (by decide), fun h_ => absurd h_ (by decide), fun h_ => absurd h_ (by decide)⟩
          · skip
            refine steps_cons ?_ ?_
            · rintro b a w' ⟨vb, vt, gA, m6_, m7_, m8_, m9_, m11_, ha, Q_HB, Q_FB, Q_FT, Q_FA, Q_FS, Q_X6_, Q_X7_, Q_X8_, Q_X9_, Q_X11_⟩ hb_ hon hoff
              refine ⟨_, rfl, fun K hK => ?_⟩
              have e16 : a.tmps[16]? = some (.pointer (some ⟨p, 0, none⟩)) := by rw [ha]; exact (putSel_off rfl).trans rfl
              replace ha := Aside0.mk ha
              have HB := Aside0.mk Q_HB
              have hg_ := (HB.out.block p (blk_lt Qp.out)).trans Qp.out
              have hs0_ : w'.cell? ⟨p, 0, none⟩ = some (.int .i64 1) := blk_cell hg_ 0
              have hs1_ : w'.cell? ⟨p, 1, none⟩ = some (.int .i64 1) := blk_cell hg_ 1
              have hs2_ : w'.cell? ⟨p, 2, none⟩ = some (.int .i64 0) := blk_cell hg_ 2
              have hs3_ : w'.cell? ⟨p, 3, none⟩ = some (.int .i64 0) := blk_cell hg_ 3
              refine value_ (w1 := w') (v := .agg #[.int .i64 1, .int .i64 1, .int .i64 0, .int .i64 0]) (by rfl) rfl ?_ ?_
              · go_simp
                (try simp only [i64_w])
                try rfl
              refine hK.out _ _ ⟨vb, vt, gA, m6_, m7_, m8_, m9_, m11_, (by rw [ha.out]; exact putSel_upk 0 hb_ rfl rfl rfl), Q_HB, Q_FB, fun h0_ => absurd ((hoff 7 (by kernel_rfl)).symm.trans h0_) (by decide), Q_FA, fun h0_ => absurd ((hoff 12 (by kernel_rfl)).symm.trans h0_) (by decide), Q_X6_, fun h0_ => absurd ((hoff 7 (by kernel_rfl)).symm.trans h0_) (by decide), fun h0_ => absurd ((hoff 8 (by kernel_rfl)).symm.trans h0_) (by decide), fun h0_ => absurd ((hoff 9 (by kernel_rfl)).symm.trans h0_) (by decide), Q_X11_⟩
            refine steps_cons ?_ ?_
            · rintro b a w' ⟨vb, vt, gA, m6_, m7_, m8_, m9_, m11_, ha, Q_HB, Q_FB, Q_FT, Q_FA, Q_FS, Q_X6_, Q_X7_, Q_X8_, Q_X9_, Q_X11_⟩ hb_ hon hoff
              refine ⟨_, rfl, fun K hK => ?_⟩
              have e107 : a.tmps[107]? = some (.int .i64 (j : Int)) := by rw [ha]; exact (putSel_off rfl).trans rfl
              have e108 : a.tmps[108]? = some (.int .i64 (an : Int)) := by rw [ha]; exact (putSel_off rfl).trans rfl
              replace ha := Aside0.mk ha
              have HB := Aside0.mk Q_HB
              refine goes_ Tryd.func7 (by kernel_rfl) rfl #[.int .i64 (j : Int), .int .i64 (an : Int)] (by rfl) rfl rfl (by simp only [List.map_toArray, List.map_cons, List.map_nil, eval_of e107, eval_of e108]) ?_
              refine Calls.mono (Q7c.out w') ?_
              rintro e w7 ⟨v2, rfl, s1, s2⟩
              refine ⟨_, rfl, ?_⟩
              refine hK.out _ _ ⟨v2, vt, gA, (.agg #[.int .i64 (j : Int), .bool true, v2, .int .i64 (an : Int)]), m7_, m8_, m9_, m11_, (by rw [ha.out]; exact putSel_upk 1 hb_ rfl rfl rfl), HB.out.trans (s2.mono HB.out.size), fun _ _ => Kd.R_lower s1 HB.out.size, fun h0_ => absurd ((hoff 7 (by kernel_rfl)).symm.trans h0_) (by decide), fun h0_ h1_ => ⟨(s2.block _ (blk_lt (Q_FA h0_ h1_).1)).trans (Q_FA h0_ h1_).1, (Q_FA h0_ h1_).2⟩, fun h0_ => absurd ((hoff 12 (by kernel_rfl)).symm.trans h0_) (by decide), fun _ => rfl, fun h0_ => absurd ((hoff 7 (by kernel_rfl)).symm.trans h0_) (by decide), fun h0_ => absurd ((hoff 8 (by kernel_rfl)).symm.trans h0_) (by decide), fun h0_ => absurd ((hoff 9 (by kernel_rfl)).symm.trans h0_) (by decide), Q_X11_⟩
            refine steps_cons ?_ ?_
            · rintro b a w' ⟨vb, vt, gA, m6_, m7_, m8_, m9_, m11_, ha, Q_HB, Q_FB, Q_FT, Q_FA, Q_FS, Q_X6_, Q_X7_, Q_X8_, Q_X9_, Q_X11_⟩ hb_ hon hoff
              refine ⟨_, rfl, fun K hK => ?_⟩
              have e103 : a.tmps[103]? = some (.slice A1 (dsN E).length d1) := by rw [ha]; exact (putSel_off rfl).trans rfl
              have e104 : a.tmps[104]? = some (.slice A2 (rsN E).length d2) := by rw [ha]; exact (putSel_off rfl).trans rfl
              have e105 : a.tmps[105]? = some (.agg #[.int .i64 1, .int .i64 1, .int .i64 0, .int .i64 0]) := by rw [ha]; exact putSel_on (e := (2, 105, .agg #[.int .i64 1, .int .i64 1, .int .i64 0, .int .i64 0])) 0 rfl rfl (hon 2 (by kernel_rfl)) rfl
              have e109 : a.tmps[109]? = some (m6_) := by rw [ha]; exact putSel_on (e := (6, 109, m6_)) 1 rfl rfl (hon 6 (by kernel_rfl)) rfl
              rw [Q_X6_ (hon 6 (by kernel_rfl))] at e109
              replace ha := Aside0.mk ha
              have HB := Aside0.mk Q_HB
              have FB := Aside0.mk (Q_FB (hon 6 (by kernel_rfl)) hb_)
              obtain ⟨Ab, cb, hx_⟩ := Kd.R_slice FB.out
              rw [hx_] at e109
              have hR_ := FB.out
              rw [hx_] at hR_
              refine goes_ Tryd.func6 (by kernel_rfl) rfl #[.slice A1 (dsN E).length d1, .slice A2 (rsN E).length d2, .agg #[.int .i64 1, .int .i64 1, .int .i64 0, .int .i64 0], .agg #[.int .i64 (j : Int), .bool true, .slice Ab Bts.length cb, .int .i64 (an : Int)]] (by rfl) rfl rfl (by simp only [List.map_toArray, List.map_cons, List.map_nil, eval_of e103, eval_of e104, eval_of e105, eval_of e109]) ?_
              refine Calls.mono (Q6c.out w' Ab cb HB.out hR_) ?_
              rintro e w8 ⟨v3, rfl, s1, s2⟩
              refine ⟨_, rfl, ?_⟩
              refine hK.out _ _ ⟨vb, v3, gA, m6_, (.tuple #[.agg #[.int .i64 (j : Int), .int .i64 (nn : Int), v3], .bool true]), m8_, m9_, m11_, (by rw [ha.out]; exact putSel_upk 2 hb_ rfl rfl rfl), HB.out.trans (s2.mono HB.out.size), fun _ h1_ => absurd ((up_self b 7).symm.trans h1_) (by decide), fun _ => s1, fun h0_ h1_ => ⟨(s2.block _ (blk_lt (Q_FA h0_ h1_).1)).trans (Q_FA h0_ h1_).1, (Q_FA h0_ h1_).2⟩, fun h0_ => absurd ((hoff 12 (by kernel_rfl)).symm.trans h0_) (by decide), Q_X6_, fun _ => rfl, fun h0_ => absurd ((hoff 8 (by kernel_rfl)).symm.trans h0_) (by decide), fun h0_ => absurd ((hoff 9 (by kernel_rfl)).symm.trans h0_) (by decide), Q_X11_⟩
            refine steps_cons ?_ ?_
            · rintro b a w' ⟨vb, vt, gA, m6_, m7_, m8_, m9_, m11_, ha, Q_HB, Q_FB, Q_FT, Q_FA, Q_FS, Q_X6_, Q_X7_, Q_X8_, Q_X9_, Q_X11_⟩ hb_ hon hoff
              refine ⟨_, rfl, fun K hK => ?_⟩
              have e110 : a.tmps[110]? = some (m7_) := by rw [ha]; exact putSel_on (e := (7, 110, m7_)) 2 rfl rfl (hon 7 (by kernel_rfl)) rfl
              rw [Q_X7_ (hon 7 (by kernel_rfl))] at e110
              replace ha := Aside0.mk ha
              have HB := Aside0.mk Q_HB
              have FT := Aside0.mk (Q_FT (hon 7 (by kernel_rfl)))
              refine value_ (w1 := w') (v := .tuple #[.agg #[.int .i64 (j : Int), .int .i64 (nn : Int), vt], .bool true]) (by rfl) rfl ?_ ?_
              · go_simp
                (try simp only [i64_w])
                try rfl
              refine hK.out _ _ ⟨vb, vt, gA, m6_, m7_, (.tuple #[.agg #[.int .i64 (j : Int), .int .i64 (nn : Int), vt], .bool true]), m9_, m11_, (by rw [ha.out]; exact putSel_upk 3 hb_ rfl rfl rfl), Q_HB, fun _ h1_ => absurd ((hon 7 (by kernel_rfl)).symm.trans h1_) (by decide), Q_FT, Q_FA, fun h0_ => absurd ((hoff 12 (by kernel_rfl)).symm.trans h0_) (by decide), Q_X6_, Q_X7_, fun _ => rfl, fun h0_ => absurd ((hoff 9 (by kernel_rfl)).symm.trans h0_) (by decide), Q_X11_⟩
            refine steps_cons ?_ ?_
            · rintro b a w' ⟨vb, vt, gA, m6_, m7_, m8_, m9_, m11_, ha, Q_HB, Q_FB, Q_FT, Q_FA, Q_FS, Q_X6_, Q_X7_, Q_X8_, Q_X9_, Q_X11_⟩ hb_ hon hoff
              refine ⟨_, rfl, fun K hK => ?_⟩
              have e102 : a.tmps[102]? = some (m8_) := by rw [ha]; exact putSel_on (e := (8, 102, m8_)) 3 rfl rfl (hon 8 (by kernel_rfl)) rfl
              rw [Q_X8_ (hon 8 (by kernel_rfl))] at e102
              replace ha := Aside0.mk ha
              have HB := Aside0.mk Q_HB
              have FT := Aside0.mk (Q_FT (hon 7 (by kernel_rfl)))
              refine value_ (w1 := w') (v := .agg #[.int .i64 (j : Int), .int .i64 (nn : Int), vt]) (by rfl) rfl ?_ ?_
              · go_simp
                (try simp only [i64_w])
                try rfl
              refine hK.out _ _ ⟨vb, vt, gA, m6_, m7_, m8_, (.agg #[.int .i64 (j : Int), .int .i64 (nn : Int), vt]), m11_, (by rw [ha.out]; exact putSel_upk 4 hb_ rfl rfl rfl), Q_HB, fun _ h1_ => absurd ((hon 7 (by kernel_rfl)).symm.trans h1_) (by decide), Q_FT, Q_FA, fun h0_ => absurd ((hoff 12 (by kernel_rfl)).symm.trans h0_) (by decide), Q_X6_, Q_X7_, Q_X8_, fun _ => rfl, Q_X11_⟩
            refine steps_cons ?_ ?_
            · rintro b a w' ⟨vb, vt, gA, m6_, m7_, m8_, m9_, m11_, ha, Q_HB, Q_FB, Q_FT, Q_FA, Q_FS, Q_X6_, Q_X7_, Q_X8_, Q_X9_, Q_X11_⟩ hb_ hon hoff
              refine ⟨_, rfl, fun K hK => ?_⟩
              have e102 : a.tmps[102]? = some (m8_) := by rw [ha]; exact putSel_on (e := (8, 102, m8_)) 3 rfl rfl (hon 8 (by kernel_rfl)) rfl
              rw [Q_X8_ (hon 8 (by kernel_rfl))] at e102
              replace ha := Aside0.mk ha
              have HB := Aside0.mk Q_HB
              have FT := Aside0.mk (Q_FT (hon 7 (by kernel_rfl)))
              refine value_ (w1 := w') (v := .bool true) (by rfl) rfl ?_ ?_
              · go_simp
                (try simp only [i64_w])
                try rfl
              refine hK.out _ _ ⟨vb, vt, gA, m6_, m7_, m8_, m9_, m11_, (by rw [ha.out]; exact putSel_upk 5 hb_ rfl rfl rfl), Q_HB, fun _ h1_ => absurd ((hon 7 (by kernel_rfl)).symm.trans h1_) (by decide), Q_FT, Q_FA, Q_FS, Q_X6_, Q_X7_, Q_X8_, Q_X9_, Q_X11_⟩
            refine steps_cons ?_ ?_
            · rintro b a w' ⟨vb, vt, gA, m6_, m7_, m8_, m9_, m11_, ha, Q_HB, Q_FB, Q_FT, Q_FA, Q_FS, Q_X6_, Q_X7_, Q_X8_, Q_X9_, Q_X11_⟩ hb_ hon hoff
              refine ⟨_, rfl, fun K hK => ?_⟩
              replace ha := Aside0.mk ha
              have HB := Aside0.mk Q_HB
              refine value_ (w1 := w'.alloc (.cells #[.int .i64 0, .int .i64 0, .slice none 0 0] 35)) (v := .pointer (some ⟨w'.heap.size, 0, none⟩)) (by rfl) rfl ?_ ?_
              · go_simp
                try rfl
              refine hK.out _ _ ⟨vb, vt, w'.heap.size, m6_, m7_, m8_, m9_, (.pointer (some ⟨w'.heap.size, 0, none⟩)), (by rw [ha.out]; exact putSel_upk 6 hb_ rfl rfl rfl), below_alloc HB.out _, fun h0_ h1_ => Kd.R_alloc (Q_FB h0_ h1_) _, fun h0_ => RES.below (Q_FT h0_) (b2 _ _), fun _ _ => ⟨blk_new _ _, HB.out.size⟩, fun h0_ => absurd ((hoff 12 (by kernel_rfl)).symm.trans h0_) (by decide), Q_X6_, Q_X7_, Q_X8_, Q_X9_, fun _ => rfl⟩
            refine steps_cons ?_ ?_
            · rintro b a w' ⟨vb, vt, gA, m6_, m7_, m8_, m9_, m11_, ha, Q_HB, Q_FB, Q_FT, Q_FA, Q_FS, Q_X6_, Q_X7_, Q_X8_, Q_X9_, Q_X11_⟩ hb_ hon hoff
              refine ⟨_, rfl, fun K hK => ?_⟩
              have e17 : a.tmps[17]? = some (m11_) := by rw [ha]; exact putSel_on (e := (11, 17, m11_)) 6 rfl rfl (hon 11 (by kernel_rfl)) rfl
              rw [Q_X11_ (hon 11 (by kernel_rfl))] at e17
              have e111 : a.tmps[111]? = some (m9_) := by rw [ha]; exact putSel_on (e := (9, 111, m9_)) 4 rfl rfl (hon 9 (by kernel_rfl)) rfl
              rw [Q_X9_ (hon 9 (by kernel_rfl))] at e111
              replace ha := Aside0.mk ha
              have HB := Aside0.mk Q_HB
              have FT := Aside0.mk (Q_FT (hon 7 (by kernel_rfl)))
              have FA := Aside0.mk (Q_FA (hon 11 (by kernel_rfl)) hb_)
              obtain ⟨A_, c_, r_, hx_, hr_⟩ := FT.out
              have hb_0 : w'.cell? ⟨gA, 0, none⟩ = some (.int .i64 0) := blk_cell FA.out.1 0
              have hb_1 : w'.cell? ⟨gA, 1, none⟩ = some (.int .i64 0) := blk_cell FA.out.1 1
              have hb_2 : w'.cell? ⟨gA, 2, none⟩ = some (.slice none 0 0) := blk_cell FA.out.1 2
              have hz_ : ∀ k, w'.frozen? ⟨gA, k, none⟩ = false := fun k => blk_frozen FA.out.1 k
              refine skip_ (w1 := ((w'.setCell ⟨gA, 0, none⟩ (.int .i64 (j : Int))).setCell ⟨gA, 1, none⟩ (.int .i64 (nn : Int))).setCell ⟨gA, 2, none⟩ vt) (by rfl) rfl ?_ ?_
              · rw [hx_] at e111 ⊢
                go_simp
                try rfl
              refine hK.out _ _ ⟨vb, vt, gA, m6_, m7_, m8_, m9_, m11_, (by rw [ha.out]; exact putSel_none (v := undef) rfl), ((HB.out.setCell (p := ⟨gA, 0, none⟩) FA.out.2 _).setCell (p := ⟨gA, 1, none⟩) FA.out.2 _).setCell (p := ⟨gA, 2, none⟩) FA.out.2 _, fun _ h1_ => absurd ((hon 7 (by kernel_rfl)).symm.trans h1_) (by decide), fun _ => RES.set3 FT.out FA.out.1 _ _ _, fun _ h1_ => absurd ((up_self b 12).symm.trans h1_) (by decide), fun _ => ⟨blk_set (blk_set (blk_set FA.out.1 0 _) 1 _) 2 _, FA.out.2⟩, Q_X6_, Q_X7_, Q_X8_, Q_X9_, Q_X11_⟩
            refine steps_cons ?_ ?_
            · rintro b a w' ⟨vb, vt, gA, m6_, m7_, m8_, m9_, m11_, ha, Q_HB, Q_FB, Q_FT, Q_FA, Q_FS, Q_X6_, Q_X7_, Q_X8_, Q_X9_, Q_X11_⟩ hb_ hon hoff
              refine ⟨_, rfl, fun K hK => ?_⟩
              have e112 : a.tmps[112]? = some (.bool true) := by rw [ha]; exact putSel_on (e := (10, 112, .bool true)) 5 rfl rfl (hon 10 (by kernel_rfl)) rfl
              replace ha := Aside0.mk ha
              have HB := Aside0.mk Q_HB
              have FT := Aside0.mk (Q_FT (hon 7 (by kernel_rfl)))
              have FS := Aside0.mk (Q_FS (hon 12 (by kernel_rfl)))
              refine value_ (w1 := w') (v := .bool true) (by rfl) rfl ?_ ?_
              · go_simp
                (try simp only [i64_w])
                try rfl
              refine hK.out _ _ ⟨vb, vt, gA, m6_, m7_, m8_, m9_, m11_, (by rw [ha.out]; exact putSel_upk 7 hb_ rfl rfl rfl), Q_HB, fun _ h1_ => absurd ((hon 7 (by kernel_rfl)).symm.trans h1_) (by decide), Q_FT, fun _ h1_ => absurd ((hon 12 (by kernel_rfl)).symm.trans h1_) (by decide), Q_FS, Q_X6_, Q_X7_, Q_X8_, Q_X9_, Q_X11_⟩
            exact steps_nil
          · rintro b a w' hall ⟨vb, vt, gA, m6_, m7_, m8_, m9_, m11_, ha, Q_HB, Q_FB, Q_FT, Q_FA, Q_FS, Q_X6_, Q_X7_, Q_X8_, Q_X9_, Q_X11_⟩
            have hb2_ := hall 2 (by kernel_rfl)
            have hb6_ := hall 6 (by kernel_rfl)
            have hb7_ := hall 7 (by kernel_rfl)
            have hb8_ := hall 8 (by kernel_rfl)
            have hb9_ := hall 9 (by kernel_rfl)
            have hb10_ := hall 10 (by kernel_rfl)
            have hb11_ := hall 11 (by kernel_rfl)
            have hb12_ := hall 12 (by kernel_rfl)
            have hb13_ := hall 13 (by kernel_rfl)
            subst ha
            obtain rfl := Q_X6_ hb6_
            obtain rfl := Q_X7_ hb7_
            obtain rfl := Q_X8_ hb8_
            obtain rfl := Q_X9_ hb9_
            obtain rfl := Q_X11_ hb11_
            simp only [putSel, hb2_, hb6_, hb7_, hb8_, hb9_, hb10_, hb11_, hb12_, hb13_, if_true, Act.put, List.setIfInBounds_toArray, List.set_cons_zero, List.set_cons_succ]
            have HB := Aside0.mk Q_HB
            clear Q_HB
            clear Q_FB
            have FT := Aside0.mk (Q_FT hb7_)
            clear Q_FT
            clear Q_FA
            have FS := Aside0.mk (Q_FS hb12_)
            clear Q_FS
            clear hall hb2_ hb6_ hb7_ hb8_ hb9_ hb10_ hb11_ hb12_ hb13_
            clear Q_X6_ Q_X7_ Q_X8_ Q_X9_ Q_X11_ Q6c Q7c Qp HT_ HW_ HB0
            obtain ⟨A', c', r, rfl, x1, x2, x3, x4, x5⟩ := FT.out
            obtain ⟨kt, hk⟩ := Qkt.out r x2 x3 x5
            have QT := Aside0.mk (PFnLevelStructs.laws_toldRight.calls kt (j : Int) (nn : Int) A' c' r A0 c0 l (an : Int) true w' x4 x1 (Kd.C_below Q0.out.1 (QBw.out.trans (HB.out.mono QBw.out.size))) Q0.out.2.1 hk)
            rw [← QN.out] at QT
            have z0 : w'.cell? ⟨gA, 0, none⟩ = some (.int .i64 (j : Int)) := blk_cell FS.out.1 0
            have z1 : w'.cell? ⟨gA, 1, none⟩ = some (.int .i64 (nn : Int)) := blk_cell FS.out.1 1
            have z2 : w'.cell? ⟨gA, 2, none⟩ = some (.slice A' r.length c') := blk_cell FS.out.1 2
            clear hk x1 x2 x3 x4 x5 FT
            go_wp2_with (go_at_call 8; (with_reducible refine Calls.mono QT.out ?_); rintro e w8 ⟨rfl, hb⟩; have B8 := Aside0.mk ((QBw.out.trans (HB.out.mono QBw.out.size)).trans (hb.mono (Nat.le_trans QBw.out.size HB.out.size))); clear hb)
            go_ret
            exact ⟨rfl, B8.out⟩
        · have hjn : j < i := by have := HA2.out; omega
          have hjI : (j : Int) < (i : Int) := by omega
          obtain ⟨k2, rfl⟩ : ∃ k2, gk = k2 + 1 := ⟨gk - 1, by omega⟩
          obtain ⟨ad, A4, c4, hA, a0, a1, a2, a3, a4, a5⟩ := at_T25 Q0.out.1 (j : Int) (by omega) (by have := QN.out; omega)
          rw [Int.toNat_natCast, rdT] at *
          subst hA
          replace a0 := cell_keep a0 H2.out.2.2.2
          replace a1 := cell_keep a1 H2.out.2.2.2
          replace a2 := cell_keep a2 H2.out.2.2.2
          replace a3 := cell_keep a3 H2.out.2.2.2
          have Qt := Aside0.mk (entL_take (ls := ls) (l := l) (i := j) (by have := QN.out; omega))
          have Qok := Aside0.mk (HG.out j hjn)
          have Qsz := Aside0.mk (show (dsN (entL ls (l.take j))).length ≤ 2000000 ∧ (rsN (entL ls (l.take j))).length ≤ 2000000 ∧ (ent ls (l.getD j z25)).length ≤ 2000000 from by
            have h1 := entL_le ls (l.take (j + 1))
            have h2 := ndL_take (ls + 1) l (j + 1)
            have h3 := ndL_le (show ls + 1 ≤ 5 by have := Qls.out; omega) l
            have h4 := Q0.out.2.2.2.1
            rw [Qt.out, List.length_append] at h1
            rw [dsN_len, rsN_len]
            omega)
          generalize l.getD j z25 = q at *
          obtain ⟨q0, q1, q2, q3⟩ := q
          simp only at a0 a1 a2 a3 a4 a5
          have Bbx := Aside0.mk (b2 wr (.cells #[.bool q0, .int .u64 q1, .string q2, .slice A4 q3.length c4] 25))
          have Q5 := Aside0.mk a5
          clear a5
          cases q0
          · obtain ⟨E, hE⟩ : ∃ E, E = shL ls 1 q3 q3.length := ⟨_, rfl⟩
            have Qe := Aside0.mk (show ent ls ⟨false, q1, q2, q3⟩ = E from hE.symm ▸ rfl)
            have QE := Aside0.mk hE
            have hEl : E.length ≤ 2000000 := by have := Qsz.out.2.2; rw [Qe.out] at this; exact this
            obtain ⟨n3, hn3⟩ : ∃ n3, n3 = q3.length := ⟨_, rfl⟩
            have Qn3 := Aside0.mk hn3
            rw [← hn3] at a3 a4 Bbx
            clear hE hn3
            go_upto_region 19 with fail
            refine wp_as (fun V => RI w V u10 (dsN (entL ls (l.take j))) ∧ RI w V u11 (rsN (entL ls (l.take j))) ∧ AP u10 u11 ∧ Below w.heap.size w V ∧ V.cell? ⟨wr.heap.size, 3, none⟩ = some (.slice A4 n3 c4)) ⟨Kd.R_below H2.out.1 Bbx.out, Kd.R_below H2.out.2.1 Bbx.out, H2.out.2.2.1, H2.out.2.2.2.trans (Bbx.out.mono H2.out.2.2.2.size), (blk_cell (blk_new wr _) 3).trans rfl⟩ ?_
            rintro V ⟨v1, v2, v3, v4, v5⟩
            have H3 := Aside0.mk (And.intro v1 (And.intro v2 (And.intro v3 v4)))
            have QSh := Aside0.mk (shred_is q3 A4 c4 ls 1 V (Kd.C_below (Qn3.out ▸ Q5.out) v4) (by have := Qn3.out; omega) (by have := Qls.out; omega) (by rw [← QE.out]; omega))
            rw [← Qn3.out] at QSh
            have QE2 := Aside0.mk (show E = shL ls 1 q3 n3 by rw [Qn3.out]; exact QE.out)
            rw [← QE2.out] at QSh
            clear v1 v2 v3 v4 H2 Bbx a0 a1 a2 a3
            rw [show ((1 : Nat) : Int) = 1 from rfl] at QSh
            go_wp2_with (first | (go_at_call 5; (with_reducible refine Calls.mono QSh.out ?_); rintro e w5 ⟨vD, vR, rfl, s1, s2, s3⟩; obtain ⟨AD, cD, rfl⟩ := Kd.R_slice s1; obtain ⟨AR, cR, rfl⟩ := Kd.R_slice s2; have H4 := Aside0.mk (And.intro (Kd.R_below H3.out.1 s3) (And.intro (Kd.R_below H3.out.2.1 s3) (And.intro H3.out.2.2.1 (H3.out.2.2.2.trans (s3.mono H3.out.2.2.2.size))))); have S1 := Aside0.mk s1; have S2 := Aside0.mk s2; have Sne := Aside0.mk (show ∀ k, u10.ownBlock = some k → some k ≠ (Value.slice AR (rsN E).length cR).ownBlock from fun k hk he => by have h1 := Kd.R_lt H3.out.1 k hk; have h2 := Kd.R_base s2 k he.symm; omega); clear s1 s2 s3) | ((with_reducible refine gate_builtin (b := .append) (xs := #[.tmp 94, .tmp 95]) rfl ?_); at_builtin; refine Kd.R_append_rows (Kd.int .i16) (w0 := w) w.heap.size rfl (.tmp 94) (.tmp 95) 27 28 (.int .i16 0) 2 rfl Tryd.underlying27 info28 rfl (by decide) (by omega) _ _ (dsN E) AD _ cD (fun _ => True) (fun _ => False) rfl rfl (H4.out.1) ((Kd.R_reads' S1.out).2.2) (fun _ _ h => h) (fun _ h => h.elim) (fun _ _ => trivial) (H4.out.2.2.2) (Below.size (H4.out.2.2.2)) (by have := Qsz.out; rw [dsN_len E]; omega) ?_; intro y1 w6 ho hb hg hat; have Qa := Aside0.mk (And.intro ho (And.intro hb (And.intro (Kd.R_grown2 H4.out.2.1 rfl hg H4.out.2.2.1.symm.ne) (And.intro (ap_app H4.out.2.2.1 H4.out.2.1 hat) (Kd.R_grown2 S2.out rfl hg Sne.out))))); clear ho hb hg hat) | ((with_reducible refine gate_builtin (b := .append) (xs := #[.tmp 97, .tmp 98]) rfl ?_); at_builtin; refine Kd.R_append_rows (Kd.int .i16) (w0 := w) w.heap.size rfl (.tmp 97) (.tmp 98) 27 28 (.int .i16 0) 2 rfl Tryd.underlying27 info28 rfl (by decide) (by omega) _ _ (rsN E) AR _ cR (fun _ => True) (fun _ => False) rfl rfl (Qa.out.2.2.1) ((Kd.R_reads' Qa.out.2.2.2.2).2.2) (fun _ _ h => h) (fun _ h => h.elim) (fun _ _ => trivial) (Qa.out.2.1) (Below.size (Qa.out.2.1)) (by have := Qsz.out; rw [rsN_len E]; omega) ?_; intro y2 w7 ho hb hg hat; have Qb := Aside0.mk (And.intro (Kd.R_grown2 Qa.out.1 rfl hg Qa.out.2.2.2.1.ne) (And.intro ho (And.intro (ap_app2 Qa.out.2.2.2.1 Qa.out.1 hat) hb))); clear ho hb hg hat))
            go_roundg k2
            case rel => exact ⟨j + 1, rfl, ⟨by have := HA2.out; omega⟩, ⟨by rw [Qt.out, Qe.out, dsN_append, rsN_append]; exact Qb.out⟩⟩
            · omega
          · have Qe := Aside0.mk (show ent ls ⟨true, q1, q2, q3⟩ = [(0, 0)] from rfl)
            clear Q5
            generalize q3.length = n3 at *
            go_upto_region 18 with fail
            refine wp_as (fun V => RI w V u10 (dsN (entL ls (l.take j))) ∧ RI w V u11 (rsN (entL ls (l.take j))) ∧ AP u10 u11 ∧ Below w.heap.size w V) ⟨Kd.R_below H2.out.1 Bbx.out, Kd.R_below H2.out.2.1 Bbx.out, H2.out.2.2.1, H2.out.2.2.2.trans (Bbx.out.mono H2.out.2.2.2.size)⟩ ?_
            rintro V hV
            have H3 := Aside0.mk hV
            clear hV H2 Bbx a0 a1 a2 a3
            go_wp2_with (first | ((with_reducible refine gate_builtin (b := .append) (xs := #[.tmp 81, .tmp 82]) rfl ?_); at_builtin; refine Kd.R_append (Kd.int .i16) (w0 := w) w.heap.size rfl (.tmp 81) (.tmp 82) 27 28 (.int .i16 0) 2 rfl Tryd.underlying27 info28 rfl (by decide) (by omega) _ _ 0 [.int .i16 0] (fun _ => True) (fun _ => False) rfl rfl rfl (fun _ h => h.elim) (fun _ _ => trivial) (H3.out.1) (H3.out.2.2.2) (Below.size (H3.out.2.2.2)) (by have := Qsz.out; omega) ?_; intro y1 w5 ho hb hg hat; have Qa := Aside0.mk (And.intro ho (And.intro hb (And.intro (Kd.R_grown2 H3.out.2.1 rfl hg H3.out.2.2.1.symm.ne) (ap_app H3.out.2.2.1 H3.out.2.1 hat)))); clear ho hb hg hat) | ((with_reducible refine gate_builtin (b := .append) (xs := #[.tmp 84, .tmp 85]) rfl ?_); at_builtin; refine Kd.R_append (Kd.int .i16) (w0 := w) w.heap.size rfl (.tmp 84) (.tmp 85) 27 28 (.int .i16 0) 2 rfl Tryd.underlying27 info28 rfl (by decide) (by omega) _ _ 0 [.int .i16 0] (fun _ => True) (fun _ => False) rfl rfl rfl (fun _ h => h.elim) (fun _ _ => trivial) (Qa.out.2.2.1) (Qa.out.2.1) (Below.size (Qa.out.2.1)) (by have := Qsz.out; omega) ?_; intro y2 w6 ho hb hg hat; have Qb := Aside0.mk (And.intro (Kd.R_grown2 Qa.out.1 rfl hg Qa.out.2.2.2.ne) (And.intro ho (And.intro (ap_app2 Qa.out.2.2.2 Qa.out.1 hat) hb))); clear ho hb hg hat))
            go_roundg k2
            case rel => exact ⟨j + 1, rfl, ⟨by have := HA2.out; omega⟩, ⟨by rw [Qt.out, Qe.out, dsN_append, rsN_append]; exact Qb.out⟩⟩
            · omega
    · have hin : i < N := by have := HA.out; omega
      have hiI : (i : Int) < (N : Int) := by omega
      obtain ⟨k1, rfl⟩ : ∃ k1, gk = k1 + 1 := ⟨gk - 1, by omega⟩
      obtain ⟨ad, A4, c4, hA, a0, a1, a2, a3, a4, a5⟩ := at_T25 Q0.out.1 (i : Int) (by omega) (by have := QN.out; omega)
      rw [Int.toNat_natCast, rdT] at *
      subst hA
      replace a0 := cell_keep a0 HR.out.2
      replace a1 := cell_keep a1 HR.out.2
      replace a2 := cell_keep a2 HR.out.2
      replace a3 := cell_keep a3 HR.out.2
      have Qt := Aside0.mk (take_getD (l := l) (i := i) (by have := QN.out; omega))
      have Qg := Aside0.mk (show OKr (l.getD i z25) → ∀ j, j < i + 1 → OKr (l.getD j z25) from fun h j hj => by
        by_cases e : j = i
        · rw [e]; exact h
        · exact HG.out j (by omega))
      generalize l.getD i z25 = q at *
      obtain ⟨q0, q1, q2, q3⟩ := q
      simp only at a0 a1 a2 a3 a4 a5
      obtain ⟨n3, hn3⟩ : ∃ n3, n3 = q3.length := ⟨_, rfl⟩
      rw [← hn3] at a3 a4 a5
      have Qn3 := Aside0.mk hn3
      have Q5 := Aside0.mk a5
      clear hn3 a5
      have hz0 := Nat.lt_or_ge n3 1
      by_cases hq : q0 = true
      · subst hq
        by_cases hz : n3 = 0
        · have hzI : ¬ (0 : Int) < (n3 : Int) := by omega
          have hzd := decide_eq_false hzI
          have n1 : ((n3 : Int) != 1) = true := by simp; omega
          have n1' : ¬ (n3 : Int) = 1 := by omega
          have hn31 : n3 ≤ 1 := by omega
          have n1n : ¬ n3 = 1 := by omega
          have n0n : ¬ 0 < n3 := by omega
          have Qz := Aside0.mk (show OKr ⟨true, q1, q2, q3⟩ from ⟨fun h => (by cases h), fun _ => (by have := Qn3.out; simp only; omega)⟩)
          clear hz hz0
          go_wp2_with ((with_reducible refine gate_builtin (b := .append) (xs := #[.tmp 47, .tmp 49]) rfl ?_); at_builtin; refine Kd.N_append_rows k25 (w0 := w) w.heap.size rfl (.tmp 47) (.tmp 49) 22 25 (.agg #[(.bool false), (.int .u64 0), (.string ⟨#[]⟩), (.slice none 0 0)]) 56 rfl Tryd.underlying22 PFnLevelStructs.info25 rfl (by decide) (by omega) _ _ q3 A4 n3 c4 (fun _ => True) (fun k => k < w.heap.size) rfl rfl (Kd.N_alloc HR.out.1 _) (Kd.F_alloc (Kd.F_below (Kd.C_F k25_heap Q5.out) HR.out.2) _) (fun k hk => ⟨trivial, fun he => by have := Kd.N_base HR.out.1 k he.symm; omega⟩) (fun _ _ => trivial) (below_alloc HR.out.2 _) (Nat.le_trans HR.out.2.size (b2 wr _).size) (by have := flat_le l i Q0.out.2.2.2.1; omega) ?_; intro v7 w7 ho hb hg hat; have Q7 := Aside0.mk (And.intro ho hb); clear ho hb hg hat)
          go_roundg k1
          case rel => exact ⟨i + 1, rfl, ⟨by have := HA.out; omega⟩, ⟨Qg.out Qz.out⟩, ⟨by rw [Qt.out, List.flatMap_append]; have h := Q7.out.1; simpa using h, Q7.out.2⟩⟩
          · omega
        · have hzI : (0 : Int) < (n3 : Int) := by omega
          have hzd := decide_eq_true hzI
          have n0n : 0 < n3 := by omega
          clear hz hz0
          by_cases h1 : n3 = 1
          · have n1 : ((n3 : Int) != 1) = false := by simp; omega
            have n1' : (n3 : Int) = 1 := by omega
            have Qx := Aside0.mk h1
            clear h1 n1'
            go_wp2
            go_ret
            exact ⟨rfl, below_alloc HR.out.2 _⟩
          · have n1 : ((n3 : Int) != 1) = true := by simp; omega
            have n1' : ¬ (n3 : Int) = 1 := by omega
            go_wp2
            go_ret
            exact ⟨rfl, below_alloc HR.out.2 _⟩
      · have hq' : q0 = false := by cases q0 <;> simp_all
        subst hq'
        clear hq
        by_cases h1 : n3 = 1
        · have hn31 : n3 ≤ 1 := by omega
          have Qz := Aside0.mk (show OKr ⟨false, q1, q2, q3⟩ from ⟨fun _ => (by have := Qn3.out; simp only; omega), fun h => (by cases h)⟩)
          have n1 : ((n3 : Int) != 1) = false := by simp; omega
          have n1d : decide ((n3 : Int) = 1) = true := by simp; omega
          clear h1 hz0
          go_wp2_with ((with_reducible refine gate_builtin (b := .append) (xs := #[.tmp 47, .tmp 49]) rfl ?_); at_builtin; refine Kd.N_append_rows k25 (w0 := w) w.heap.size rfl (.tmp 47) (.tmp 49) 22 25 (.agg #[(.bool false), (.int .u64 0), (.string ⟨#[]⟩), (.slice none 0 0)]) 56 rfl Tryd.underlying22 PFnLevelStructs.info25 rfl (by decide) (by omega) _ _ q3 A4 n3 c4 (fun _ => True) (fun k => k < w.heap.size) rfl rfl (Kd.N_alloc HR.out.1 _) (Kd.F_alloc (Kd.F_below (Kd.C_F k25_heap Q5.out) HR.out.2) _) (fun k hk => ⟨trivial, fun he => by have := Kd.N_base HR.out.1 k he.symm; omega⟩) (fun _ _ => trivial) (below_alloc HR.out.2 _) (Nat.le_trans HR.out.2.size (b2 wr _).size) (by have := flat_le l i Q0.out.2.2.2.1; omega) ?_; intro v7 w7 ho hb hg hat; have Q7 := Aside0.mk (And.intro ho hb); clear ho hb hg hat)
          go_roundg k1
          case rel => exact ⟨i + 1, rfl, ⟨by have := HA.out; omega⟩, ⟨Qg.out Qz.out⟩, ⟨by rw [Qt.out, List.flatMap_append]; have h := Q7.out.1; simpa using h, Q7.out.2⟩⟩
          · omega
        · have n1 : ((n3 : Int) != 1) = true := by simp; omega
          have n1' : ¬ (n3 : Int) = 1 := by omega
          have n1n : ¬ n3 = 1 := by omega
          clear h1 hz0
          go_wp2
          go_ret
          exact ⟨rfl, below_alloc HR.out.2 _⟩
end Go.Proofs.YtjipnopadpedoaaDoor.QR
