/- put: levels are appended. -/
import Derived.Test.YtjipnopadpedoaaDoorH10
import Derived.Test.YtjipnopadpedoaaDoorWRepsOne
namespace Go.Proofs.YtjipnopadpedoaaDoor.QR
open Go.RowKit Go.Proofs.YtjipnopadpedoaaDoorW.PrintWords Go.Proofs.YtjipnopadpedoaaDoorW.PrintLast Go.Proofs.YtjipnopadpedoaaDoorW.PrintMore
set_option linter.unusedVariables false
set_option linter.unusedSimpArgs false
theorem info28 : (Tryd.prog.info? 28).map (fun i => (i.zero, i.size, i.bytes)) = some (some (.int .i16 0), 1, 2) := by kernel_rfl
def put.T9 : Bool × List (List Nat × List Nat) := (true, [([], []), ([], []), ([], []), ([2], [2]), ([3], [3]), ([4], [4]), ([], []), ([6], [6]), ([7], [7]), ([5, 8], [5, 8]), ([], []), ([10], [10]), ([11], [11]), ([12], [12]), ([], []), ([14], [14]), ([15], [15]), ([13, 16, 9], [13, 16]), ([0, 0, 2, 3, 4, 5, 6, 7, 8, 9, 13, 17], [0]), ([18, 0, 2, 3, 4, 5, 6, 7, 8, 9, 13, 17], [18]), ([19, 9, 17, 0, 2, 3, 4, 5, 6, 7, 8, 9, 13, 17], [9, 19]), ([1, 0, 1, 2, 3, 4, 5, 6, 7, 8, 9, 10, 11, 12, 13, 14, 15, 16, 17, 18, 19, 20], [1]), ([21, 0, 1, 2, 3, 4, 5, 6, 7, 8, 9, 10, 11, 12, 13, 14, 15, 16, 17, 18, 19, 20], [21]), ([22, 17, 20, 0, 1, 2, 3, 4, 5, 6, 7, 8, 9, 10, 11, 12, 13, 14, 15, 16, 17, 18, 19, 20], [17, 22])])
def put.B9 : List Nat := [0, 0, 0, 4, 12, 28, 0, 64, 192, 508, 0, 1024, 3072, 7168, 0, 16384, 49152, 131068, 262141, 524285, 1048573, 2097151, 4194303, 8388607]
theorem put.tab9 : rtab .any (opsOf Tryd.f11 9) = put.T9 := by kernel_rfl
theorem put.bits9 : waitsOk put.T9.2 put.B9 = true := by kernel_rfl
def put.T11 : Bool × List (List Nat × List Nat) := (true, [([], []), ([], []), ([], []), ([2], [2]), ([3], [3]), ([4], [4]), ([], []), ([6], [6]), ([7], [7]), ([8], [8]), ([5, 9], [5, 9]), ([], []), ([11], [11]), ([12], [12]), ([13], [13]), ([], []), ([15], [15]), ([16], [16]), ([14, 17, 10], [14, 17]), ([0, 0, 2, 3, 4, 5, 6, 7, 8, 9, 10, 14, 18], [0]), ([19, 0, 2, 3, 4, 5, 6, 7, 8, 9, 10, 14, 18], [19]), ([20, 10, 18, 0, 2, 3, 4, 5, 6, 7, 8, 9, 10, 14, 18], [10, 20]), ([1, 0, 1, 2, 3, 4, 5, 6, 7, 8, 9, 10, 11, 12, 13, 14, 15, 16, 17, 18, 19, 20, 21], [1]), ([22, 0, 1, 2, 3, 4, 5, 6, 7, 8, 9, 10, 11, 12, 13, 14, 15, 16, 17, 18, 19, 20, 21], [22]), ([23, 18, 21, 0, 1, 2, 3, 4, 5, 6, 7, 8, 9, 10, 11, 12, 13, 14, 15, 16, 17, 18, 19, 20, 21], [18, 23])])
def put.B11 : List Nat := [0, 0, 0, 4, 12, 28, 0, 64, 192, 448, 1020, 0, 2048, 6144, 14336, 0, 32768, 98304, 262140, 524285, 1048573, 2097149, 4194303, 8388607, 16777215]
theorem put.tab11 : rtab .any (opsOf Tryd.f11 11) = put.T11 := by kernel_rfl
theorem put.bits11 : waitsOk put.T11.2 put.B11 = true := by kernel_rfl
def put.T13 : Bool × List (List Nat × List Nat) := (true, [([], []), ([], []), ([], []), ([2], [2]), ([3], [3]), ([4], [4]), ([], []), ([6], [6]), ([7], [7]), ([8], [8]), ([5, 9], [5, 9]), ([], []), ([11], [11]), ([12], [12]), ([13], [13]), ([], []), ([15], [15]), ([16], [16]), ([14, 17, 10], [14, 17]), ([0, 0, 2, 3, 4, 5, 6, 7, 8, 9, 10, 14, 18], [0]), ([19, 0, 2, 3, 4, 5, 6, 7, 8, 9, 10, 14, 18], [19]), ([20, 10, 18, 0, 2, 3, 4, 5, 6, 7, 8, 9, 10, 14, 18], [10, 20]), ([1, 0, 1, 2, 3, 4, 5, 6, 7, 8, 9, 10, 11, 12, 13, 14, 15, 16, 17, 18, 19, 20, 21], [1]), ([22, 0, 1, 2, 3, 4, 5, 6, 7, 8, 9, 10, 11, 12, 13, 14, 15, 16, 17, 18, 19, 20, 21], [22]), ([23, 18, 21, 0, 1, 2, 3, 4, 5, 6, 7, 8, 9, 10, 11, 12, 13, 14, 15, 16, 17, 18, 19, 20, 21], [18, 23])])
def put.B13 : List Nat := [0, 0, 0, 4, 12, 28, 0, 64, 192, 448, 1020, 0, 2048, 6144, 14336, 0, 32768, 98304, 262140, 524285, 1048573, 2097149, 4194303, 8388607, 16777215]
theorem put.tab13 : rtab .any (opsOf Tryd.f11 13) = put.T13 := by kernel_rfl
theorem put.bits13 : waitsOk put.T13.2 put.B13 = true := by kernel_rfl
set_option maxHeartbeats 8000000 in
set_option maxRecDepth 100000 in
theorem put0_is (w0 : World) (g : Nat) (D R : List Int) (f1 : Int) (f2 : ByteArray) (A3 : Option Addr) (c3 n3 : Nat) (ls lv df rp : Nat) (w : World) (h : SR w0 w g D R) (hdf : df < 1000) (hrp : rp < 1000) (hD : D.length ≤ 4000000) (hR : R.length ≤ 4000000) :
    Calls Tryd.prog 11 #[.pointer (some ⟨g, 0, none⟩), .agg #[.bool true, .int .u64 f1, .string f2, .slice A3 n3 c3], .int .i64 (ls : Int), .int .i64 (lv : Int), .int .i64 (df : Int), .int .i64 (rp : Int)] w fun e w' => e = .returned (.tuple #[]) ∧ SR w0 w' g (D ++ [(df : Int)]) (R ++ [(rp : Int)]) := by
  obtain ⟨vD, vR, hp⟩ := h
  have wd : IntKind.i16.wrap (df : Int) = (df : Int) := by simp [IntKind.wrap, IntKind.bits, IntKind.signed]; omega
  have wr : IntKind.i16.wrap (rp : Int) = (rp : Int) := by simp [IntKind.wrap, IntKind.bits, IntKind.signed]; omega
  have Qp := Aside0.mk hp
  clear hp
  go_enter Tryd.func11, Tryd.ntmps11
  go_upto_region 9 with fail
  refine wp_as (fun V => PW w0 V g vD D vR R vD vR) (Qp.out.step (b2 w _)) ?_
  rintro V hp
  have HP := Aside0.mk (show PW w0 V.drew g vD D vR R vD vR from hp.step (Below.refl _ _).drew)
  clear hp
  refine start_ (n := 24) (S := fun w' => True) (ds := []) #[false, false, false, false, false, false, false, false, false, false, false, false, false, false, false, false, false, false, false, false, false, false, false, false] (by kernel_rfl) rfl rfl trivial (fun hHeld => ?_)
  refine with_tabW put.tab9 put.bits9 (fun HT_ HW_ => ?_)
  refine pure_ (i := 0) (N := some 39) (v := ?_) (a' := ?_) #[true, false, false, false, false, false, false, false, false, false, false, false, false, false, false, false, false, false, false, false, false, false, false, false] rfl rfl (any_of HT_.out (by kernel_rfl)) (fun _ _ _ h => h) (Or.inl ⟨by rfl, ?_⟩) ?_ ?_
  rotate_left
  · intro w'
    go_simp
    with_reducible rfl
  rotate_left
  · simp only [Act.put, List.setIfInBounds_toArray, List.set_cons_zero, List.set_cons_succ, i64_w, i32_w]
    rfl
  refine pure_ (i := 1) (N := some 40) (v := ?_) (a' := ?_) #[true, true, false, false, false, false, false, false, false, false, false, false, false, false, false, false, false, false, false, false, false, false, false, false] rfl rfl (any_of HT_.out (by kernel_rfl)) (fun _ _ _ h => h) (Or.inl ⟨by rfl, ?_⟩) ?_ ?_
  rotate_left
  · intro w'
    go_simp
    with_reducible rfl
  rotate_left
  · simp only [Act.put, List.setIfInBounds_toArray, List.set_cons_zero, List.set_cons_succ, i64_w, i32_w]
    rfl
  refine pure_ (i := 2) (N := some 41) (v := ?_) (a' := ?_) #[true, true, true, false, false, false, false, false, false, false, false, false, false, false, false, false, false, false, false, false, false, false, false, false] rfl rfl (any_of HT_.out (by kernel_rfl)) (fun _ _ _ h => h) (Or.inl ⟨by rfl, ?_⟩) ?_ ?_
  rotate_left
  · intro w'
    go_simp
    with_reducible rfl
  rotate_left
  · simp only [Act.put, List.setIfInBounds_toArray, List.set_cons_zero, List.set_cons_succ, i64_w, i32_w]
    rfl
  refine pure_ (i := 3) (N := some 42) (v := ?_) (a' := ?_) #[true, true, true, true, false, false, false, false, false, false, false, false, false, false, false, false, false, false, false, false, false, false, false, false] rfl rfl (any_of HT_.out (by kernel_rfl)) (fun _ _ _ h => h) (Or.inl ⟨by rfl, ?_⟩) ?_ ?_
  rotate_left
  · intro w'
    go_simp
    with_reducible rfl
  rotate_left
  · simp only [Act.put, List.setIfInBounds_toArray, List.set_cons_zero, List.set_cons_succ, i64_w, i32_w]
    rfl
  refine pure_ (i := 4) (N := some 43) (v := ?_) (a' := ?_) #[true, true, true, true, true, false, false, false, false, false, false, false, false, false, false, false, false, false, false, false, false, false, false, false] rfl rfl (any_of HT_.out (by kernel_rfl)) (fun _ _ _ h => h) (Or.inl ⟨by rfl, ?_⟩) ?_ ?_
  rotate_left
  · intro w'
    go_simp
    with_reducible rfl
  rotate_left
  · simp only [Act.put, List.setIfInBounds_toArray, List.set_cons_zero, List.set_cons_succ, i64_w, i32_w]
    rfl
  refine pure_ (i := 6) (N := some 45) (v := ?_) (a' := ?_) #[true, true, true, true, true, false, true, false, false, false, false, false, false, false, false, false, false, false, false, false, false, false, false, false] rfl rfl (any_of HT_.out (by kernel_rfl)) (fun _ _ _ h => h) (Or.inl ⟨by rfl, ?_⟩) ?_ ?_
  rotate_left
  · intro w'
    go_simp
    with_reducible rfl
  rotate_left
  · simp only [Act.put, List.setIfInBounds_toArray, List.set_cons_zero, List.set_cons_succ, i64_w, i32_w]
    rfl
  refine pure_ (i := 7) (N := some 46) (v := ?_) (a' := ?_) #[true, true, true, true, true, false, true, true, false, false, false, false, false, false, false, false, false, false, false, false, false, false, false, false] rfl rfl (any_of HT_.out (by kernel_rfl)) (fun _ _ _ h => h) (Or.inl ⟨by rfl, ?_⟩) ?_ ?_
  rotate_left
  · intro w'
    go_simp
    with_reducible rfl
  rotate_left
  · simp only [Act.put, List.setIfInBounds_toArray, List.set_cons_zero, List.set_cons_succ, i64_w, i32_w]
    rfl
  refine pure_ (i := 10) (N := some 49) (v := ?_) (a' := ?_) #[true, true, true, true, true, false, true, true, false, false, true, false, false, false, false, false, false, false, false, false, false, false, false, false] rfl rfl (any_of HT_.out (by kernel_rfl)) (fun _ _ _ h => h) (Or.inl ⟨by rfl, ?_⟩) ?_ ?_
  rotate_left
  · intro w'
    go_simp
    with_reducible rfl
  rotate_left
  · simp only [Act.put, List.setIfInBounds_toArray, List.set_cons_zero, List.set_cons_succ, i64_w, i32_w]
    rfl
  refine pure_ (i := 11) (N := some 50) (v := ?_) (a' := ?_) #[true, true, true, true, true, false, true, true, false, false, true, true, false, false, false, false, false, false, false, false, false, false, false, false] rfl rfl (any_of HT_.out (by kernel_rfl)) (fun _ _ _ h => h) (Or.inl ⟨by rfl, ?_⟩) ?_ ?_
  rotate_left
  · intro w'
    go_simp
    with_reducible rfl
  rotate_left
  · simp only [Act.put, List.setIfInBounds_toArray, List.set_cons_zero, List.set_cons_succ, i64_w, i32_w]
    rfl
  refine pure_ (i := 12) (N := some 51) (v := ?_) (a' := ?_) #[true, true, true, true, true, false, true, true, false, false, true, true, true, false, false, false, false, false, false, false, false, false, false, false] rfl rfl (any_of HT_.out (by kernel_rfl)) (fun _ _ _ h => h) (Or.inl ⟨by rfl, ?_⟩) ?_ ?_
  rotate_left
  · intro w'
    go_simp
    with_reducible rfl
  rotate_left
  · simp only [Act.put, List.setIfInBounds_toArray, List.set_cons_zero, List.set_cons_succ, i64_w, i32_w]
    rfl
  refine pure_ (i := 14) (N := some 53) (v := ?_) (a' := ?_) #[true, true, true, true, true, false, true, true, false, false, true, true, true, false, true, false, false, false, false, false, false, false, false, false] rfl rfl (any_of HT_.out (by kernel_rfl)) (fun _ _ _ h => h) (Or.inl ⟨by rfl, ?_⟩) ?_ ?_
  rotate_left
  · intro w'
    go_simp
    with_reducible rfl
  rotate_left
  · simp only [Act.put, List.setIfInBounds_toArray, List.set_cons_zero, List.set_cons_succ, i64_w, i32_w]
    rfl
  refine pure_ (i := 15) (N := some 54) (v := ?_) (a' := ?_) #[true, true, true, true, true, false, true, true, false, false, true, true, true, false, true, true, false, false, false, false, false, false, false, false] rfl rfl (any_of HT_.out (by kernel_rfl)) (fun _ _ _ h => h) (Or.inl ⟨by rfl, ?_⟩) ?_ ?_
  rotate_left
  · intro w'
    go_simp
    with_reducible rfl
  rotate_left
  · simp only [Act.put, List.setIfInBounds_toArray, List.set_cons_zero, List.set_cons_succ, i64_w, i32_w]
    rfl
  refine inv_at [5, 8, 9, 13, 16, 17, 18, 19, 20, 21, 22, 23] (fun a0_ b a w' => ∃ (cD : Value) (eD : List Int) (cR : Value) (eR : List Int) (kD : Value) (kR : Value) (xa : Value) (xb : Value), a = putSel a0_ b [(5, 44, vD), (8, 47, xa), (9, 48, cD), (13, 52, vR), (16, 55, xb), (17, 56, cR), (18, 57, .pointer (some ⟨g, 0, none⟩)), (19, 58, .pointer (some ⟨g, 0, none⟩)), (21, 59, .pointer (some ⟨g, 0, none⟩)), (22, 60, .pointer (some ⟨g, 1, none⟩))] ∧ (PW w0 w' g cD eD cR eR kD kR) ∧ (b 9 = false → cD = vD ∧ eD = D) ∧ (b 9 = true → eD = D ++ [(df : Int)]) ∧ (b 17 = false → cR = vR ∧ eR = R) ∧ (b 17 = true → eR = R ++ [(rp : Int)]) ∧ (b 20 = false → kD = vD) ∧ (b 20 = true → kD = cD) ∧ (b 23 = false → kR = vR) ∧ (b 23 = true → kR = cR) ∧ (b 8 = true → b 9 = false → LX w0 w' xa (df : Int) cR) ∧ (b 16 = true → b 17 = false → LX w0 w' xb (rp : Int) cD)) HT_.out HW_.out (by kernel_rfl) (by kernel_rfl) ?_ ?_ ?_
  · exact ⟨vD, D, vR, R, vD, vR, .bool false, .bool false, by simp only [putSel, Bool.false_eq_true, if_false], HP.out, fun _ => ⟨rfl, rfl⟩, fun h_ => absurd h_ (by decide), fun _ => ⟨rfl, rfl⟩, fun h_ => absurd h_ (by decide), fun _ => rfl, fun h_ => absurd h_ (by decide), fun _ => rfl, fun h_ => absurd h_ (by decide), fun h_ => absurd h_ (by decide), fun h_ => absurd h_ (by decide)⟩
  · skip
    refine steps_cons ?_ ?_
    · rintro b a w' ⟨cD, eD, cR, eR, kD, kR, xa, xb, ha, Q_PWf, Q_FD, Q_GD, Q_FR, Q_GR, Q_KD0, Q_KD1, Q_KR0, Q_KR1, Q_LA, Q_LB⟩ hb_ hon hoff
      refine ⟨_, rfl, fun K hK => ?_⟩
      have e43 : a.tmps[43]? = some (.pointer (some ⟨g, 0, none⟩)) := by rw [ha]; exact (putSel_off rfl).trans rfl
      replace ha := Aside0.mk ha
      have PWf := Aside0.mk Q_PWf
      have FD := Aside0.mk (Q_FD (hoff 9 (by kernel_rfl)))
      have FR := Aside0.mk (Q_FR (hoff 17 (by kernel_rfl)))
      have KD0 := Aside0.mk (Q_KD0 (hoff 20 (by kernel_rfl)))
      have KR0 := Aside0.mk (Q_KR0 (hoff 23 (by kernel_rfl)))
      have hs_ : w'.cell? ⟨g, 0, none⟩ = some vD := by have h_ := PWf.out.c0; rw [KD0.out] at h_; exact h_
      refine value_ (w1 := w') (v := vD) (by rfl) rfl ?_ ?_
      · go_simp
        (try simp only [i64_w])
        try rfl
      refine hK.out _ _ ⟨cD, eD, cR, eR, kD, kR, xa, xb, (by rw [ha.out]; exact putSel_upk 0 hb_ rfl rfl rfl), Q_PWf, Q_FD, fun h0_ => absurd ((hoff 9 (by kernel_rfl)).symm.trans h0_) (by decide), Q_FR, fun h0_ => absurd ((hoff 17 (by kernel_rfl)).symm.trans h0_) (by decide), Q_KD0, fun h0_ => absurd ((hoff 20 (by kernel_rfl)).symm.trans h0_) (by decide), Q_KR0, fun h0_ => absurd ((hoff 23 (by kernel_rfl)).symm.trans h0_) (by decide), Q_LA, Q_LB⟩
    refine steps_cons ?_ ?_
    · rintro b a w' ⟨cD, eD, cR, eR, kD, kR, xa, xb, ha, Q_PWf, Q_FD, Q_GD, Q_FR, Q_GR, Q_KD0, Q_KD1, Q_KR0, Q_KR1, Q_LA, Q_LB⟩ hb_ hon hoff
      refine ⟨_, rfl, fun K hK => ?_⟩
      have e46 : a.tmps[46]? = some (.int .i16 (df : Int)) := by rw [ha]; exact (putSel_off rfl).trans rfl
      replace ha := Aside0.mk ha
      have PWf := Aside0.mk Q_PWf
      have FD := Aside0.mk (Q_FD (hoff 9 (by kernel_rfl)))
      have FR := Aside0.mk (Q_FR (hoff 17 (by kernel_rfl)))
      have KD0 := Aside0.mk (Q_KD0 (hoff 20 (by kernel_rfl)))
      have KR0 := Aside0.mk (Q_KR0 (hoff 23 (by kernel_rfl)))
      refine Kd.R_lit_step (Kd.int .i16) (w0 := w0) w0.heap.size 28 (by rfl) (N := 47) rfl (xs := [(df : Int)]) (inner := [.int .i16 (df : Int)]) (ok := fun _ => True) (okp := fun _ => True) ?hr ?hp (fun _ hk => hk) trivial PWf.out.bl PWf.out.bl.size (by simp) ?_
      (case hr => first | (go_simp; done) | (go_simp; rfl))
      (case hp => exact Reps.one rfl (Reps.none _ _))
      intro x1 w1 ho hb hg hat
      refine hK.out _ _ ⟨cD, eD, cR, eR, kD, kR, x1, xb, (by rw [ha.out]; exact putSel_upk 1 hb_ rfl rfl rfl), PWf.out.grow0 hb hg, Q_FD, fun h0_ => absurd ((hoff 9 (by kernel_rfl)).symm.trans h0_) (by decide), Q_FR, fun h0_ => absurd ((hoff 17 (by kernel_rfl)).symm.trans h0_) (by decide), Q_KD0, fun h0_ => absurd ((hoff 20 (by kernel_rfl)).symm.trans h0_) (by decide), Q_KR0, fun h0_ => absurd ((hoff 23 (by kernel_rfl)).symm.trans h0_) (by decide), fun _ _ => LX.new ho hat PWf.out.rr, fun h0_ h1_ => (Q_LB h0_ h1_).grow0 hg⟩
    refine steps_cons ?_ ?_
    · rintro b a w' ⟨cD, eD, cR, eR, kD, kR, xa, xb, ha, Q_PWf, Q_FD, Q_GD, Q_FR, Q_GR, Q_KD0, Q_KD1, Q_KR0, Q_KR1, Q_LA, Q_LB⟩ hb_ hon hoff
      refine ⟨_, rfl, fun K hK => ?_⟩
      have e44 : a.tmps[44]? = some (vD) := by rw [ha]; exact putSel_on (e := (5, 44, vD)) 0 rfl rfl (hon 5 (by kernel_rfl)) rfl
      have e47 : a.tmps[47]? = some (xa) := by rw [ha]; exact putSel_on (e := (8, 47, xa)) 1 rfl rfl (hon 8 (by kernel_rfl)) rfl
      replace ha := Aside0.mk ha
      have PWf := Aside0.mk Q_PWf
      have FD := Aside0.mk (Q_FD hb_)
      have FR := Aside0.mk (Q_FR (hoff 17 (by kernel_rfl)))
      have KD0 := Aside0.mk (Q_KD0 (hoff 20 (by kernel_rfl)))
      have KR0 := Aside0.mk (Q_KR0 (hoff 23 (by kernel_rfl)))
      have LA := Aside0.mk (Q_LA (hon 8 (by kernel_rfl)) hb_)
      obtain ⟨hc_, hd_⟩ := FD.out
      obtain ⟨Aa, ca, hx_⟩ := Kd.R_slice LA.out.1
      rw [← hc_] at e44
      rw [hx_] at e47
      have hL_ := LA.out.1
      rw [hx_] at hL_
      have hC_ := (Kd.R_reads' hL_).2.2
      refine Kd.R_append_rows_step (Kd.int .i16) (w0 := w0) w0.heap.size (by rfl) (.tmp 44) (.tmp 47) 27 28 (.int .i16 0) 2 rfl Tryd.underlying27 info28 rfl (by decide) (by omega) cD eD [(df : Int)] Aa _ ca (fun _ => True) (fun _ => False) (eval_of e44) (eval_of e47) PWf.out.rd hC_ (fun _ _ h => h) (fun _ h => h.elim) (fun _ _ => trivial) PWf.out.bl PWf.out.bl.size (by rw [hd_]; simp only [List.length_cons, List.length_nil]; omega) ?_
      intro y1 w1 ho hb hg hat
      refine hK.out _ _ ⟨y1, (eD ++ [(df : Int)]), cR, eR, kD, kR, xa, xb, (by rw [ha.out]; exact putSel_upk 2 hb_ rfl rfl rfl), PWf.out.appD ho hb hg hat, fun h0_ => absurd ((up_self b 9).symm.trans h0_) (by decide), fun _ => by rw [hd_], Q_FR, fun h0_ => absurd ((hoff 17 (by kernel_rfl)).symm.trans h0_) (by decide), Q_KD0, fun h0_ => absurd ((hoff 20 (by kernel_rfl)).symm.trans h0_) (by decide), Q_KR0, fun h0_ => absurd ((hoff 23 (by kernel_rfl)).symm.trans h0_) (by decide), fun _ h1_ => absurd ((up_self b 9).symm.trans h1_) (by decide), fun h0_ h1_ => (Q_LB h0_ h1_).app hg hat⟩
    refine steps_cons ?_ ?_
    · rintro b a w' ⟨cD, eD, cR, eR, kD, kR, xa, xb, ha, Q_PWf, Q_FD, Q_GD, Q_FR, Q_GR, Q_KD0, Q_KD1, Q_KR0, Q_KR1, Q_LA, Q_LB⟩ hb_ hon hoff
      refine ⟨_, rfl, fun K hK => ?_⟩
      have e51 : a.tmps[51]? = some (.pointer (some ⟨g, 1, none⟩)) := by rw [ha]; exact (putSel_off rfl).trans rfl
      replace ha := Aside0.mk ha
      have PWf := Aside0.mk Q_PWf
      have FR := Aside0.mk (Q_FR (hoff 17 (by kernel_rfl)))
      have KD0 := Aside0.mk (Q_KD0 (hoff 20 (by kernel_rfl)))
      have KR0 := Aside0.mk (Q_KR0 (hoff 23 (by kernel_rfl)))
      have hs_ : w'.cell? ⟨g, 1, none⟩ = some vR := by have h_ := PWf.out.c1; rw [KR0.out] at h_; exact h_
      refine value_ (w1 := w') (v := vR) (by rfl) rfl ?_ ?_
      · go_simp
        (try simp only [i64_w])
        try rfl
      refine hK.out _ _ ⟨cD, eD, cR, eR, kD, kR, xa, xb, (by rw [ha.out]; exact putSel_upk 3 hb_ rfl rfl rfl), Q_PWf, Q_FD, Q_GD, Q_FR, fun h0_ => absurd ((hoff 17 (by kernel_rfl)).symm.trans h0_) (by decide), Q_KD0, fun h0_ => absurd ((hoff 20 (by kernel_rfl)).symm.trans h0_) (by decide), Q_KR0, fun h0_ => absurd ((hoff 23 (by kernel_rfl)).symm.trans h0_) (by decide), Q_LA, Q_LB⟩
    refine steps_cons ?_ ?_
    · rintro b a w' ⟨cD, eD, cR, eR, kD, kR, xa, xb, ha, Q_PWf, Q_FD, Q_GD, Q_FR, Q_GR, Q_KD0, Q_KD1, Q_KR0, Q_KR1, Q_LA, Q_LB⟩ hb_ hon hoff
      refine ⟨_, rfl, fun K hK => ?_⟩
      have e54 : a.tmps[54]? = some (.int .i16 (rp : Int)) := by rw [ha]; exact (putSel_off rfl).trans rfl
      replace ha := Aside0.mk ha
      have PWf := Aside0.mk Q_PWf
      have FR := Aside0.mk (Q_FR (hoff 17 (by kernel_rfl)))
      have KD0 := Aside0.mk (Q_KD0 (hoff 20 (by kernel_rfl)))
      have KR0 := Aside0.mk (Q_KR0 (hoff 23 (by kernel_rfl)))
      refine Kd.R_lit_step (Kd.int .i16) (w0 := w0) w0.heap.size 28 (by rfl) (N := 55) rfl (xs := [(rp : Int)]) (inner := [.int .i16 (rp : Int)]) (ok := fun _ => True) (okp := fun _ => True) ?hr ?hp (fun _ hk => hk) trivial PWf.out.bl PWf.out.bl.size (by simp) ?_
      (case hr => first | (go_simp; done) | (go_simp; rfl))
      (case hp => exact Reps.one rfl (Reps.none _ _))
      intro x1 w1 ho hb hg hat
      refine hK.out _ _ ⟨cD, eD, cR, eR, kD, kR, xa, x1, (by rw [ha.out]; exact putSel_upk 4 hb_ rfl rfl rfl), PWf.out.grow0 hb hg, Q_FD, Q_GD, Q_FR, fun h0_ => absurd ((hoff 17 (by kernel_rfl)).symm.trans h0_) (by decide), Q_KD0, fun h0_ => absurd ((hoff 20 (by kernel_rfl)).symm.trans h0_) (by decide), Q_KR0, fun h0_ => absurd ((hoff 23 (by kernel_rfl)).symm.trans h0_) (by decide), fun h0_ h1_ => (Q_LA h0_ h1_).grow0 hg, fun _ _ => LX.new ho hat PWf.out.rd⟩
    refine steps_cons ?_ ?_
    · rintro b a w' ⟨cD, eD, cR, eR, kD, kR, xa, xb, ha, Q_PWf, Q_FD, Q_GD, Q_FR, Q_GR, Q_KD0, Q_KD1, Q_KR0, Q_KR1, Q_LA, Q_LB⟩ hb_ hon hoff
      refine ⟨_, rfl, fun K hK => ?_⟩
      have e52 : a.tmps[52]? = some (vR) := by rw [ha]; exact putSel_on (e := (13, 52, vR)) 3 rfl rfl (hon 13 (by kernel_rfl)) rfl
      have e55 : a.tmps[55]? = some (xb) := by rw [ha]; exact putSel_on (e := (16, 55, xb)) 4 rfl rfl (hon 16 (by kernel_rfl)) rfl
      replace ha := Aside0.mk ha
      have PWf := Aside0.mk Q_PWf
      have GD := Aside0.mk (Q_GD (hon 9 (by kernel_rfl)))
      have FR := Aside0.mk (Q_FR hb_)
      have KD0 := Aside0.mk (Q_KD0 (hoff 20 (by kernel_rfl)))
      have KR0 := Aside0.mk (Q_KR0 (hoff 23 (by kernel_rfl)))
      have LB := Aside0.mk (Q_LB (hon 16 (by kernel_rfl)) hb_)
      obtain ⟨hc_, hd_⟩ := FR.out
      obtain ⟨Aa, ca, hx_⟩ := Kd.R_slice LB.out.1
      rw [← hc_] at e52
      rw [hx_] at e55
      have hL_ := LB.out.1
      rw [hx_] at hL_
      have hC_ := (Kd.R_reads' hL_).2.2
      refine Kd.R_append_rows_step (Kd.int .i16) (w0 := w0) w0.heap.size (by rfl) (.tmp 52) (.tmp 55) 27 28 (.int .i16 0) 2 rfl Tryd.underlying27 info28 rfl (by decide) (by omega) cR eR [(rp : Int)] Aa _ ca (fun _ => True) (fun _ => False) (eval_of e52) (eval_of e55) PWf.out.rr hC_ (fun _ _ h => h) (fun _ h => h.elim) (fun _ _ => trivial) PWf.out.bl PWf.out.bl.size (by rw [hd_]; simp only [List.length_cons, List.length_nil]; omega) ?_
      intro y1 w1 ho hb hg hat
      refine hK.out _ _ ⟨cD, eD, y1, (eR ++ [(rp : Int)]), kD, kR, xa, xb, (by rw [ha.out]; exact putSel_upk 5 hb_ rfl rfl rfl), PWf.out.appR ho hb hg hat, fun h0_ => absurd ((hon 9 (by kernel_rfl)).symm.trans h0_) (by decide), Q_GD, fun h0_ => absurd ((up_self b 17).symm.trans h0_) (by decide), fun _ => by rw [hd_], Q_KD0, fun h0_ => absurd ((hoff 20 (by kernel_rfl)).symm.trans h0_) (by decide), Q_KR0, fun h0_ => absurd ((hoff 23 (by kernel_rfl)).symm.trans h0_) (by decide), fun _ h1_ => absurd ((hon 9 (by kernel_rfl)).symm.trans h1_) (by decide), fun _ h1_ => absurd ((up_self b 17).symm.trans h1_) (by decide)⟩
    refine steps_cons ?_ ?_
    · rintro b a w' ⟨cD, eD, cR, eR, kD, kR, xa, xb, ha, Q_PWf, Q_FD, Q_GD, Q_FR, Q_GR, Q_KD0, Q_KD1, Q_KR0, Q_KR1, Q_LA, Q_LB⟩ hb_ hon hoff
      refine ⟨_, rfl, fun K hK => ?_⟩
      have e39 : a.tmps[39]? = some (.pointer (some ⟨g, 0, none⟩)) := by rw [ha]; exact (putSel_off rfl).trans rfl
      replace ha := Aside0.mk ha
      have PWf := Aside0.mk Q_PWf
      have GD := Aside0.mk (Q_GD (hon 9 (by kernel_rfl)))
      have GR := Aside0.mk (Q_GR (hon 17 (by kernel_rfl)))
      have KD0 := Aside0.mk (Q_KD0 (hoff 20 (by kernel_rfl)))
      have KR0 := Aside0.mk (Q_KR0 (hoff 23 (by kernel_rfl)))
      refine value_ (w1 := w') (v := .pointer (some ⟨g, 0, none⟩)) (by rfl) rfl ?_ ?_
      · go_simp
        (try simp only [i64_w])
        try rfl
      refine hK.out _ _ ⟨cD, eD, cR, eR, kD, kR, xa, xb, (by rw [ha.out]; exact putSel_upk 6 hb_ rfl rfl rfl), Q_PWf, fun h0_ => absurd ((hon 9 (by kernel_rfl)).symm.trans h0_) (by decide), Q_GD, fun h0_ => absurd ((hon 17 (by kernel_rfl)).symm.trans h0_) (by decide), Q_GR, Q_KD0, fun h0_ => absurd ((hoff 20 (by kernel_rfl)).symm.trans h0_) (by decide), Q_KR0, fun h0_ => absurd ((hoff 23 (by kernel_rfl)).symm.trans h0_) (by decide), fun _ h1_ => absurd ((hon 9 (by kernel_rfl)).symm.trans h1_) (by decide), fun _ h1_ => absurd ((hon 17 (by kernel_rfl)).symm.trans h1_) (by decide)⟩
    refine steps_cons ?_ ?_
    · rintro b a w' ⟨cD, eD, cR, eR, kD, kR, xa, xb, ha, Q_PWf, Q_FD, Q_GD, Q_FR, Q_GR, Q_KD0, Q_KD1, Q_KR0, Q_KR1, Q_LA, Q_LB⟩ hb_ hon hoff
      refine ⟨_, rfl, fun K hK => ?_⟩
      have e57 : a.tmps[57]? = some (.pointer (some ⟨g, 0, none⟩)) := by rw [ha]; exact putSel_on (e := (18, 57, .pointer (some ⟨g, 0, none⟩))) 6 rfl rfl (hon 18 (by kernel_rfl)) rfl
      replace ha := Aside0.mk ha
      have PWf := Aside0.mk Q_PWf
      have GD := Aside0.mk (Q_GD (hon 9 (by kernel_rfl)))
      have GR := Aside0.mk (Q_GR (hon 17 (by kernel_rfl)))
      have KD0 := Aside0.mk (Q_KD0 (hoff 20 (by kernel_rfl)))
      have KR0 := Aside0.mk (Q_KR0 (hoff 23 (by kernel_rfl)))
      refine value_ (w1 := w') (v := .pointer (some ⟨g, 0, none⟩)) (by rfl) rfl ?_ ?_
      · go_simp
        (try simp only [i64_w])
        try rfl
      refine hK.out _ _ ⟨cD, eD, cR, eR, kD, kR, xa, xb, (by rw [ha.out]; exact putSel_upk 7 hb_ rfl rfl rfl), Q_PWf, fun h0_ => absurd ((hon 9 (by kernel_rfl)).symm.trans h0_) (by decide), Q_GD, fun h0_ => absurd ((hon 17 (by kernel_rfl)).symm.trans h0_) (by decide), Q_GR, Q_KD0, fun h0_ => absurd ((hoff 20 (by kernel_rfl)).symm.trans h0_) (by decide), Q_KR0, fun h0_ => absurd ((hoff 23 (by kernel_rfl)).symm.trans h0_) (by decide), fun _ h1_ => absurd ((hon 9 (by kernel_rfl)).symm.trans h1_) (by decide), fun _ h1_ => absurd ((hon 17 (by kernel_rfl)).symm.trans h1_) (by decide)⟩
    refine steps_cons ?_ ?_
    · rintro b a w' ⟨cD, eD, cR, eR, kD, kR, xa, xb, ha, Q_PWf, Q_FD, Q_GD, Q_FR, Q_GR, Q_KD0, Q_KD1, Q_KR0, Q_KR1, Q_LA, Q_LB⟩ hb_ hon hoff
      refine ⟨_, rfl, fun K hK => ?_⟩
      have e58 : a.tmps[58]? = some (.pointer (some ⟨g, 0, none⟩)) := by rw [ha]; exact putSel_on (e := (19, 58, .pointer (some ⟨g, 0, none⟩))) 7 rfl rfl (hon 19 (by kernel_rfl)) rfl
      have e48 : a.tmps[48]? = some (cD) := by rw [ha]; exact putSel_on (e := (9, 48, cD)) 2 rfl rfl (hon 9 (by kernel_rfl)) rfl
      replace ha := Aside0.mk ha
      have PWf := Aside0.mk Q_PWf
      have GD := Aside0.mk (Q_GD (hon 9 (by kernel_rfl)))
      have GR := Aside0.mk (Q_GR (hon 17 (by kernel_rfl)))
      have KD0 := Aside0.mk (Q_KD0 hb_)
      have KR0 := Aside0.mk (Q_KR0 (hoff 23 (by kernel_rfl)))
      obtain ⟨As_, cs_, hx_⟩ := Kd.R_slice PWf.out.rd
      refine skip_ (w1 := w'.setCell ⟨g, 0, none⟩ cD) (by rfl) rfl ?_ ?_
      · have c0_ := PWf.out.c0
        have z0_ := PWf.out.fz 0
        rw [hx_] at e48 ⊢
        go_simp
      refine hK.out _ _ ⟨cD, eD, cR, eR, cD, kR, xa, xb, (by rw [ha.out]; exact putSel_none (v := undef) rfl), PWf.out.setD cD, fun h0_ => absurd ((hon 9 (by kernel_rfl)).symm.trans h0_) (by decide), Q_GD, fun h0_ => absurd ((hon 17 (by kernel_rfl)).symm.trans h0_) (by decide), Q_GR, fun h0_ => absurd ((up_self b 20).symm.trans h0_) (by decide), fun _ => rfl, Q_KR0, fun h0_ => absurd ((hoff 23 (by kernel_rfl)).symm.trans h0_) (by decide), fun _ h1_ => absurd ((hon 9 (by kernel_rfl)).symm.trans h1_) (by decide), fun _ h1_ => absurd ((hon 17 (by kernel_rfl)).symm.trans h1_) (by decide)⟩
    refine steps_cons ?_ ?_
    · rintro b a w' ⟨cD, eD, cR, eR, kD, kR, xa, xb, ha, Q_PWf, Q_FD, Q_GD, Q_FR, Q_GR, Q_KD0, Q_KD1, Q_KR0, Q_KR1, Q_LA, Q_LB⟩ hb_ hon hoff
      refine ⟨_, rfl, fun K hK => ?_⟩
      have e40 : a.tmps[40]? = some (.pointer (some ⟨g, 0, none⟩)) := by rw [ha]; exact (putSel_off rfl).trans rfl
      replace ha := Aside0.mk ha
      have PWf := Aside0.mk Q_PWf
      have GD := Aside0.mk (Q_GD (hon 9 (by kernel_rfl)))
      have GR := Aside0.mk (Q_GR (hon 17 (by kernel_rfl)))
      have KD1 := Aside0.mk (Q_KD1 (hon 20 (by kernel_rfl)))
      have KR0 := Aside0.mk (Q_KR0 (hoff 23 (by kernel_rfl)))
      refine value_ (w1 := w') (v := .pointer (some ⟨g, 0, none⟩)) (by rfl) rfl ?_ ?_
      · go_simp
        (try simp only [i64_w])
        try rfl
      refine hK.out _ _ ⟨cD, eD, cR, eR, kD, kR, xa, xb, (by rw [ha.out]; exact putSel_upk 8 hb_ rfl rfl rfl), Q_PWf, fun h0_ => absurd ((hon 9 (by kernel_rfl)).symm.trans h0_) (by decide), Q_GD, fun h0_ => absurd ((hon 17 (by kernel_rfl)).symm.trans h0_) (by decide), Q_GR, fun h0_ => absurd ((hon 20 (by kernel_rfl)).symm.trans h0_) (by decide), Q_KD1, Q_KR0, fun h0_ => absurd ((hoff 23 (by kernel_rfl)).symm.trans h0_) (by decide), fun _ h1_ => absurd ((hon 9 (by kernel_rfl)).symm.trans h1_) (by decide), fun _ h1_ => absurd ((hon 17 (by kernel_rfl)).symm.trans h1_) (by decide)⟩
    refine steps_cons ?_ ?_
    · rintro b a w' ⟨cD, eD, cR, eR, kD, kR, xa, xb, ha, Q_PWf, Q_FD, Q_GD, Q_FR, Q_GR, Q_KD0, Q_KD1, Q_KR0, Q_KR1, Q_LA, Q_LB⟩ hb_ hon hoff
      refine ⟨_, rfl, fun K hK => ?_⟩
      have e59 : a.tmps[59]? = some (.pointer (some ⟨g, 0, none⟩)) := by rw [ha]; exact putSel_on (e := (21, 59, .pointer (some ⟨g, 0, none⟩))) 8 rfl rfl (hon 21 (by kernel_rfl)) rfl
      replace ha := Aside0.mk ha
      have PWf := Aside0.mk Q_PWf
      have GD := Aside0.mk (Q_GD (hon 9 (by kernel_rfl)))
      have GR := Aside0.mk (Q_GR (hon 17 (by kernel_rfl)))
      have KD1 := Aside0.mk (Q_KD1 (hon 20 (by kernel_rfl)))
      have KR0 := Aside0.mk (Q_KR0 (hoff 23 (by kernel_rfl)))
      refine value_ (w1 := w') (v := .pointer (some ⟨g, 1, none⟩)) (by rfl) rfl ?_ ?_
      · go_simp
        (try simp only [i64_w])
        try rfl
      refine hK.out _ _ ⟨cD, eD, cR, eR, kD, kR, xa, xb, (by rw [ha.out]; exact putSel_upk 9 hb_ rfl rfl rfl), Q_PWf, fun h0_ => absurd ((hon 9 (by kernel_rfl)).symm.trans h0_) (by decide), Q_GD, fun h0_ => absurd ((hon 17 (by kernel_rfl)).symm.trans h0_) (by decide), Q_GR, fun h0_ => absurd ((hon 20 (by kernel_rfl)).symm.trans h0_) (by decide), Q_KD1, Q_KR0, fun h0_ => absurd ((hoff 23 (by kernel_rfl)).symm.trans h0_) (by decide), fun _ h1_ => absurd ((hon 9 (by kernel_rfl)).symm.trans h1_) (by decide), fun _ h1_ => absurd ((hon 17 (by kernel_rfl)).symm.trans h1_) (by decide)⟩
    refine steps_cons ?_ ?_
    · rintro b a w' ⟨cD, eD, cR, eR, kD, kR, xa, xb, ha, Q_PWf, Q_FD, Q_GD, Q_FR, Q_GR, Q_KD0, Q_KD1, Q_KR0, Q_KR1, Q_LA, Q_LB⟩ hb_ hon hoff
      refine ⟨_, rfl, fun K hK => ?_⟩
      have e60 : a.tmps[60]? = some (.pointer (some ⟨g, 1, none⟩)) := by rw [ha]; exact putSel_on (e := (22, 60, .pointer (some ⟨g, 1, none⟩))) 9 rfl rfl (hon 22 (by kernel_rfl)) rfl
      have e56 : a.tmps[56]? = some (cR) := by rw [ha]; exact putSel_on (e := (17, 56, cR)) 5 rfl rfl (hon 17 (by kernel_rfl)) rfl
      replace ha := Aside0.mk ha
      have PWf := Aside0.mk Q_PWf
      have GD := Aside0.mk (Q_GD (hon 9 (by kernel_rfl)))
      have GR := Aside0.mk (Q_GR (hon 17 (by kernel_rfl)))
      have KD1 := Aside0.mk (Q_KD1 (hon 20 (by kernel_rfl)))
      have KR0 := Aside0.mk (Q_KR0 hb_)
      obtain ⟨As_, cs_, hx_⟩ := Kd.R_slice PWf.out.rr
      refine skip_ (w1 := w'.setCell ⟨g, 1, none⟩ cR) (by rfl) rfl ?_ ?_
      · have c0_ := PWf.out.c1
        have z0_ := PWf.out.fz 1
        rw [hx_] at e56 ⊢
        go_simp
      refine hK.out _ _ ⟨cD, eD, cR, eR, kD, cR, xa, xb, (by rw [ha.out]; exact putSel_none (v := undef) rfl), PWf.out.setR cR, fun h0_ => absurd ((hon 9 (by kernel_rfl)).symm.trans h0_) (by decide), Q_GD, fun h0_ => absurd ((hon 17 (by kernel_rfl)).symm.trans h0_) (by decide), Q_GR, fun h0_ => absurd ((hon 20 (by kernel_rfl)).symm.trans h0_) (by decide), Q_KD1, fun h0_ => absurd ((up_self b 23).symm.trans h0_) (by decide), fun _ => rfl, fun _ h1_ => absurd ((hon 9 (by kernel_rfl)).symm.trans h1_) (by decide), fun _ h1_ => absurd ((hon 17 (by kernel_rfl)).symm.trans h1_) (by decide)⟩
    exact steps_nil
  · rintro b a w' hall ⟨cD, eD, cR, eR, kD, kR, xa, xb, ha, Q_PWf, Q_FD, Q_GD, Q_FR, Q_GR, Q_KD0, Q_KD1, Q_KR0, Q_KR1, Q_LA, Q_LB⟩
    have hb5_ := hall 5 (by kernel_rfl)
    have hb8_ := hall 8 (by kernel_rfl)
    have hb9_ := hall 9 (by kernel_rfl)
    have hb13_ := hall 13 (by kernel_rfl)
    have hb16_ := hall 16 (by kernel_rfl)
    have hb17_ := hall 17 (by kernel_rfl)
    have hb18_ := hall 18 (by kernel_rfl)
    have hb19_ := hall 19 (by kernel_rfl)
    have hb20_ := hall 20 (by kernel_rfl)
    have hb21_ := hall 21 (by kernel_rfl)
    have hb22_ := hall 22 (by kernel_rfl)
    have hb23_ := hall 23 (by kernel_rfl)
    subst ha
    simp only [putSel, hb5_, hb8_, hb9_, hb13_, hb16_, hb17_, hb18_, hb19_, hb20_, hb21_, hb22_, hb23_, if_true, Act.put, List.setIfInBounds_toArray, List.set_cons_zero, List.set_cons_succ]
    have PWf := Aside0.mk Q_PWf
    clear Q_PWf
    clear Q_FD
    have GD := Aside0.mk (Q_GD hb9_)
    clear Q_GD
    clear Q_FR
    have GR := Aside0.mk (Q_GR hb17_)
    clear Q_GR
    clear Q_KD0
    have KD1 := Aside0.mk (Q_KD1 hb20_)
    clear Q_KD1
    clear Q_KR0
    have KR1 := Aside0.mk (Q_KR1 hb23_)
    clear Q_KR1
    clear Q_LA
    clear Q_LB
    clear hall hb5_ hb8_ hb9_ hb13_ hb16_ hb17_ hb18_ hb19_ hb20_ hb21_ hb22_ hb23_
    go_end0
    have h_ := PWf.out
    rw [GD.out, GR.out, KD1.out, KR1.out] at h_
    exact ⟨rfl, _, _, h_⟩
set_option maxHeartbeats 8000000 in
set_option maxRecDepth 100000 in
theorem put1_is (w0 : World) (g : Nat) (D R : List Int) (f1 : Int) (f2 : ByteArray) (A3 : Option Addr) (c3 n3 : Nat) (ls lv df rp : Nat) (w : World) (h : SR w0 w g D R) (hdf : df < 1000) (hrp : rp < 1000) (hD : D.length ≤ 4000000) (hR : R.length ≤ 4000000) :
    Calls Tryd.prog 11 #[.pointer (some ⟨g, 0, none⟩), .agg #[.bool false, .int .u64 f1, .string f2, .slice A3 n3 c3], .int .i64 (ls : Int), .int .i64 (ls : Int), .int .i64 (df : Int), .int .i64 (rp : Int)] w fun e w' => e = .returned (.tuple #[]) ∧ SR w0 w' g (D ++ [((df + 1 : Nat) : Int)]) (R ++ [(rp : Int)]) := by
  obtain ⟨vD, vR, hp⟩ := h
  have wd : IntKind.i16.wrap (df : Int) = (df : Int) := by simp [IntKind.wrap, IntKind.bits, IntKind.signed]; omega
  have wd1 : IntKind.i64.wrap ((df : Int) + 1) = ((df + 1 : Nat) : Int) := by rw [IntWalk.i64_in _ (by omega)]; rfl
  have wd2 : IntKind.i16.wrap ((df + 1 : Nat) : Int) = ((df + 1 : Nat) : Int) := by simp [IntKind.wrap, IntKind.bits, IntKind.signed]; omega
  have wd3 : IntKind.i16.wrap ((df : Int) + 1) = ((df + 1 : Nat) : Int) := wd2
  have wr : IntKind.i16.wrap (rp : Int) = (rp : Int) := by simp [IntKind.wrap, IntKind.bits, IntKind.signed]; omega
  have Qp := Aside0.mk hp
  clear hp
  go_enter Tryd.func11, Tryd.ntmps11
  go_upto_region 11 with fail
  refine wp_as (fun V => PW w0 V g vD D vR R vD vR) (Qp.out.step (b2 w _)) ?_
  rintro V hp
  have HP := Aside0.mk (show PW w0 V.drew g vD D vR R vD vR from hp.step (Below.refl _ _).drew)
  clear hp
  refine start_ (n := 25) (S := fun w' => True) (ds := []) #[false, false, false, false, false, false, false, false, false, false, false, false, false, false, false, false, false, false, false, false, false, false, false, false, false] (by kernel_rfl) rfl rfl trivial (fun hHeld => ?_)
  refine with_tabW put.tab11 put.bits11 (fun HT_ HW_ => ?_)
  refine pure_ (i := 0) (N := some 65) (v := ?_) (a' := ?_) #[true, false, false, false, false, false, false, false, false, false, false, false, false, false, false, false, false, false, false, false, false, false, false, false, false] rfl rfl (any_of HT_.out (by kernel_rfl)) (fun _ _ _ h => h) (Or.inl ⟨by rfl, ?_⟩) ?_ ?_
  rotate_left
  · intro w'
    go_simp
    with_reducible rfl
  rotate_left
  · simp only [Act.put, List.setIfInBounds_toArray, List.set_cons_zero, List.set_cons_succ, i64_w, i32_w]
    rfl
  refine pure_ (i := 1) (N := some 66) (v := ?_) (a' := ?_) #[true, true, false, false, false, false, false, false, false, false, false, false, false, false, false, false, false, false, false, false, false, false, false, false, false] rfl rfl (any_of HT_.out (by kernel_rfl)) (fun _ _ _ h => h) (Or.inl ⟨by rfl, ?_⟩) ?_ ?_
  rotate_left
  · intro w'
    go_simp
    with_reducible rfl
  rotate_left
  · simp only [Act.put, List.setIfInBounds_toArray, List.set_cons_zero, List.set_cons_succ, i64_w, i32_w]
    rfl
  refine pure_ (i := 2) (N := some 67) (v := ?_) (a' := ?_) #[true, true, true, false, false, false, false, false, false, false, false, false, false, false, false, false, false, false, false, false, false, false, false, false, false] rfl rfl (any_of HT_.out (by kernel_rfl)) (fun _ _ _ h => h) (Or.inl ⟨by rfl, ?_⟩) ?_ ?_
  rotate_left
  · intro w'
    go_simp
    with_reducible rfl
  rotate_left
  · simp only [Act.put, List.setIfInBounds_toArray, List.set_cons_zero, List.set_cons_succ, i64_w, i32_w]
    rfl
  refine pure_ (i := 3) (N := some 68) (v := ?_) (a' := ?_) #[true, true, true, true, false, false, false, false, false, false, false, false, false, false, false, false, false, false, false, false, false, false, false, false, false] rfl rfl (any_of HT_.out (by kernel_rfl)) (fun _ _ _ h => h) (Or.inl ⟨by rfl, ?_⟩) ?_ ?_
  rotate_left
  · intro w'
    go_simp
    with_reducible rfl
  rotate_left
  · simp only [Act.put, List.setIfInBounds_toArray, List.set_cons_zero, List.set_cons_succ, i64_w, i32_w]
    rfl
  refine pure_ (i := 4) (N := some 69) (v := ?_) (a' := ?_) #[true, true, true, true, true, false, false, false, false, false, false, false, false, false, false, false, false, false, false, false, false, false, false, false, false] rfl rfl (any_of HT_.out (by kernel_rfl)) (fun _ _ _ h => h) (Or.inl ⟨by rfl, ?_⟩) ?_ ?_
  rotate_left
  · intro w'
    go_simp
    with_reducible rfl
  rotate_left
  · simp only [Act.put, List.setIfInBounds_toArray, List.set_cons_zero, List.set_cons_succ, i64_w, i32_w]
    rfl
  refine pure_ (i := 6) (N := some 71) (v := ?_) (a' := ?_) #[true, true, true, true, true, false, true, false, false, false, false, false, false, false, false, false, false, false, false, false, false, false, false, false, false] rfl rfl (any_of HT_.out (by kernel_rfl)) (fun _ _ _ h => h) (Or.inl ⟨by rfl, ?_⟩) ?_ ?_
  rotate_left
  · intro w'
    go_simp
    with_reducible rfl
  rotate_left
  · simp only [Act.put, List.setIfInBounds_toArray, List.set_cons_zero, List.set_cons_succ, i64_w, i32_w]
    rfl
  refine pure_ (i := 7) (N := some 72) (v := ?_) (a' := ?_) #[true, true, true, true, true, false, true, true, false, false, false, false, false, false, false, false, false, false, false, false, false, false, false, false, false] rfl rfl (any_of HT_.out (by kernel_rfl)) (fun _ _ _ h => h) (Or.inl ⟨by rfl, ?_⟩) ?_ ?_
  rotate_left
  · intro w'
    go_simp
    with_reducible rfl
  rotate_left
  · simp only [Act.put, List.setIfInBounds_toArray, List.set_cons_zero, List.set_cons_succ, i64_w, i32_w]
    rfl
  refine pure_ (i := 8) (N := some 73) (v := ?_) (a' := ?_) #[true, true, true, true, true, false, true, true, true, false, false, false, false, false, false, false, false, false, false, false, false, false, false, false, false] rfl rfl (any_of HT_.out (by kernel_rfl)) (fun _ _ _ h => h) (Or.inl ⟨by rfl, ?_⟩) ?_ ?_
  rotate_left
  · intro w'
    go_simp
    with_reducible rfl
  rotate_left
  · simp only [Act.put, List.setIfInBounds_toArray, List.set_cons_zero, List.set_cons_succ, i64_w, i32_w]
    rfl
  refine pure_ (i := 11) (N := some 76) (v := ?_) (a' := ?_) #[true, true, true, true, true, false, true, true, true, false, false, true, false, false, false, false, false, false, false, false, false, false, false, false, false] rfl rfl (any_of HT_.out (by kernel_rfl)) (fun _ _ _ h => h) (Or.inl ⟨by rfl, ?_⟩) ?_ ?_
  rotate_left
  · intro w'
    go_simp
    with_reducible rfl
  rotate_left
  · simp only [Act.put, List.setIfInBounds_toArray, List.set_cons_zero, List.set_cons_succ, i64_w, i32_w]
    rfl
  refine pure_ (i := 12) (N := some 77) (v := ?_) (a' := ?_) #[true, true, true, true, true, false, true, true, true, false, false, true, true, false, false, false, false, false, false, false, false, false, false, false, false] rfl rfl (any_of HT_.out (by kernel_rfl)) (fun _ _ _ h => h) (Or.inl ⟨by rfl, ?_⟩) ?_ ?_
  rotate_left
  · intro w'
    go_simp
    with_reducible rfl
  rotate_left
  · simp only [Act.put, List.setIfInBounds_toArray, List.set_cons_zero, List.set_cons_succ, i64_w, i32_w]
    rfl
  refine pure_ (i := 13) (N := some 78) (v := ?_) (a' := ?_) #[true, true, true, true, true, false, true, true, true, false, false, true, true, true, false, false, false, false, false, false, false, false, false, false, false] rfl rfl (any_of HT_.out (by kernel_rfl)) (fun _ _ _ h => h) (Or.inl ⟨by rfl, ?_⟩) ?_ ?_
  rotate_left
  · intro w'
    go_simp
    with_reducible rfl
  rotate_left
  · simp only [Act.put, List.setIfInBounds_toArray, List.set_cons_zero, List.set_cons_succ, i64_w, i32_w]
    rfl
  refine pure_ (i := 15) (N := some 80) (v := ?_) (a' := ?_) #[true, true, true, true, true, false, true, true, true, false, false, true, true, true, false, true, false, false, false, false, false, false, false, false, false] rfl rfl (any_of HT_.out (by kernel_rfl)) (fun _ _ _ h => h) (Or.inl ⟨by rfl, ?_⟩) ?_ ?_
  rotate_left
  · intro w'
    go_simp
    with_reducible rfl
  rotate_left
  · simp only [Act.put, List.setIfInBounds_toArray, List.set_cons_zero, List.set_cons_succ, i64_w, i32_w]
    rfl
  refine pure_ (i := 16) (N := some 81) (v := ?_) (a' := ?_) #[true, true, true, true, true, false, true, true, true, false, false, true, true, true, false, true, true, false, false, false, false, false, false, false, false] rfl rfl (any_of HT_.out (by kernel_rfl)) (fun _ _ _ h => h) (Or.inl ⟨by rfl, ?_⟩) ?_ ?_
  rotate_left
  · intro w'
    go_simp
    with_reducible rfl
  rotate_left
  · simp only [Act.put, List.setIfInBounds_toArray, List.set_cons_zero, List.set_cons_succ, i64_w, i32_w]
    rfl
  refine inv_at [5, 9, 10, 14, 17, 18, 19, 20, 21, 22, 23, 24] (fun a0_ b a w' => ∃ (cD : Value) (eD : List Int) (cR : Value) (eR : List Int) (kD : Value) (kR : Value) (xa : Value) (xb : Value), a = putSel a0_ b [(5, 70, vD), (9, 74, xa), (10, 75, cD), (14, 79, vR), (17, 82, xb), (18, 83, cR), (19, 84, .pointer (some ⟨g, 0, none⟩)), (20, 85, .pointer (some ⟨g, 0, none⟩)), (22, 86, .pointer (some ⟨g, 0, none⟩)), (23, 87, .pointer (some ⟨g, 1, none⟩))] ∧ (PW w0 w' g cD eD cR eR kD kR) ∧ (b 10 = false → cD = vD ∧ eD = D) ∧ (b 10 = true → eD = D ++ [((df + 1 : Nat) : Int)]) ∧ (b 18 = false → cR = vR ∧ eR = R) ∧ (b 18 = true → eR = R ++ [(rp : Int)]) ∧ (b 21 = false → kD = vD) ∧ (b 21 = true → kD = cD) ∧ (b 24 = false → kR = vR) ∧ (b 24 = true → kR = cR) ∧ (b 9 = true → b 10 = false → LX w0 w' xa ((df + 1 : Nat) : Int) cR) ∧ (b 17 = true → b 18 = false → LX w0 w' xb (rp : Int) cD)) HT_.out HW_.out (by kernel_rfl) (by kernel_rfl) ?_ ?_ ?_
  · exact ⟨vD, D, vR, R, vD, vR, .bool false, .bool false, by simp only [putSel, Bool.false_eq_true, if_false], HP.out, fun _ => ⟨rfl, rfl⟩, fun h_ => absurd h_ (by decide), fun _ => ⟨rfl, rfl⟩, fun h_ => absurd h_ (by decide), fun _ => rfl, fun h_ => absurd h_ (by decide), fun _ => rfl, fun h_ => absurd h_ (by decide), fun h_ => absurd h_ (by decide), fun h_ => absurd h_ (by decide)⟩
  · skip
    refine steps_cons ?_ ?_
    · rintro b a w' ⟨cD, eD, cR, eR, kD, kR, xa, xb, ha, Q_PWf, Q_FD, Q_GD, Q_FR, Q_GR, Q_KD0, Q_KD1, Q_KR0, Q_KR1, Q_LA, Q_LB⟩ hb_ hon hoff
      refine ⟨_, rfl, fun K hK => ?_⟩
      have e69 : a.tmps[69]? = some (.pointer (some ⟨g, 0, none⟩)) := by rw [ha]; exact (putSel_off rfl).trans rfl
      replace ha := Aside0.mk ha
      have PWf := Aside0.mk Q_PWf
      have FD := Aside0.mk (Q_FD (hoff 10 (by kernel_rfl)))
      have FR := Aside0.mk (Q_FR (hoff 18 (by kernel_rfl)))
      have KD0 := Aside0.mk (Q_KD0 (hoff 21 (by kernel_rfl)))
      have KR0 := Aside0.mk (Q_KR0 (hoff 24 (by kernel_rfl)))
      have hs_ : w'.cell? ⟨g, 0, none⟩ = some vD := by have h_ := PWf.out.c0; rw [KD0.out] at h_; exact h_
      refine value_ (w1 := w') (v := vD) (by rfl) rfl ?_ ?_
      · go_simp
        (try simp only [i64_w])
        try rfl
      refine hK.out _ _ ⟨cD, eD, cR, eR, kD, kR, xa, xb, (by rw [ha.out]; exact putSel_upk 0 hb_ rfl rfl rfl), Q_PWf, Q_FD, fun h0_ => absurd ((hoff 10 (by kernel_rfl)).symm.trans h0_) (by decide), Q_FR, fun h0_ => absurd ((hoff 18 (by kernel_rfl)).symm.trans h0_) (by decide), Q_KD0, fun h0_ => absurd ((hoff 21 (by kernel_rfl)).symm.trans h0_) (by decide), Q_KR0, fun h0_ => absurd ((hoff 24 (by kernel_rfl)).symm.trans h0_) (by decide), Q_LA, Q_LB⟩
    refine steps_cons ?_ ?_
    · rintro b a w' ⟨cD, eD, cR, eR, kD, kR, xa, xb, ha, Q_PWf, Q_FD, Q_GD, Q_FR, Q_GR, Q_KD0, Q_KD1, Q_KR0, Q_KR1, Q_LA, Q_LB⟩ hb_ hon hoff
      refine ⟨_, rfl, fun K hK => ?_⟩
      have e73 : a.tmps[73]? = some (.int .i16 ((df + 1 : Nat) : Int)) := by rw [ha]; exact (putSel_off rfl).trans rfl
      replace ha := Aside0.mk ha
      have PWf := Aside0.mk Q_PWf
      have FD := Aside0.mk (Q_FD (hoff 10 (by kernel_rfl)))
      have FR := Aside0.mk (Q_FR (hoff 18 (by kernel_rfl)))
      have KD0 := Aside0.mk (Q_KD0 (hoff 21 (by kernel_rfl)))
      have KR0 := Aside0.mk (Q_KR0 (hoff 24 (by kernel_rfl)))
      refine Kd.R_lit_step (Kd.int .i16) (w0 := w0) w0.heap.size 28 (by rfl) (N := 74) rfl (xs := [((df + 1 : Nat) : Int)]) (inner := [.int .i16 ((df + 1 : Nat) : Int)]) (ok := fun _ => True) (okp := fun _ => True) ?hr ?hp (fun _ hk => hk) trivial PWf.out.bl PWf.out.bl.size (by simp) ?_
      (case hr => first | (go_simp; done) | (go_simp; rfl))
      (case hp => exact Reps.one rfl (Reps.none _ _))
      intro x1 w1 ho hb hg hat
      refine hK.out _ _ ⟨cD, eD, cR, eR, kD, kR, x1, xb, (by rw [ha.out]; exact putSel_upk 1 hb_ rfl rfl rfl), PWf.out.grow0 hb hg, Q_FD, fun h0_ => absurd ((hoff 10 (by kernel_rfl)).symm.trans h0_) (by decide), Q_FR, fun h0_ => absurd ((hoff 18 (by kernel_rfl)).symm.trans h0_) (by decide), Q_KD0, fun h0_ => absurd ((hoff 21 (by kernel_rfl)).symm.trans h0_) (by decide), Q_KR0, fun h0_ => absurd ((hoff 24 (by kernel_rfl)).symm.trans h0_) (by decide), fun _ _ => LX.new ho hat PWf.out.rr, fun h0_ h1_ => (Q_LB h0_ h1_).grow0 hg⟩
    refine steps_cons ?_ ?_
    · rintro b a w' ⟨cD, eD, cR, eR, kD, kR, xa, xb, ha, Q_PWf, Q_FD, Q_GD, Q_FR, Q_GR, Q_KD0, Q_KD1, Q_KR0, Q_KR1, Q_LA, Q_LB⟩ hb_ hon hoff
      refine ⟨_, rfl, fun K hK => ?_⟩
      have e70 : a.tmps[70]? = some (vD) := by rw [ha]; exact putSel_on (e := (5, 70, vD)) 0 rfl rfl (hon 5 (by kernel_rfl)) rfl
      have e74 : a.tmps[74]? = some (xa) := by rw [ha]; exact putSel_on (e := (9, 74, xa)) 1 rfl rfl (hon 9 (by kernel_rfl)) rfl
      replace ha := Aside0.mk ha
      have PWf := Aside0.mk Q_PWf
      have FD := Aside0.mk (Q_FD hb_)
      have FR := Aside0.mk (Q_FR (hoff 18 (by kernel_rfl)))
      have KD0 := Aside0.mk (Q_KD0 (hoff 21 (by kernel_rfl)))
      have KR0 := Aside0.mk (Q_KR0 (hoff 24 (by kernel_rfl)))
      have LA := Aside0.mk (Q_LA (hon 9 (by kernel_rfl)) hb_)
      obtain ⟨hc_, hd_⟩ := FD.out
      obtain ⟨Aa, ca, hx_⟩ := Kd.R_slice LA.out.1
      rw [← hc_] at e70
      rw [hx_] at e74
      have hL_ := LA.out.1
      rw [hx_] at hL_
      have hC_ := (Kd.R_reads' hL_).2.2
      refine Kd.R_append_rows_step (Kd.int .i16) (w0 := w0) w0.heap.size (by rfl) (.tmp 70) (.tmp 74) 27 28 (.int .i16 0) 2 rfl Tryd.underlying27 info28 rfl (by decide) (by omega) cD eD [((df + 1 : Nat) : Int)] Aa _ ca (fun _ => True) (fun _ => False) (eval_of e70) (eval_of e74) PWf.out.rd hC_ (fun _ _ h => h) (fun _ h => h.elim) (fun _ _ => trivial) PWf.out.bl PWf.out.bl.size (by rw [hd_]; simp only [List.length_cons, List.length_nil]; omega) ?_
      intro y1 w1 ho hb hg hat
      refine hK.out _ _ ⟨y1, (eD ++ [((df + 1 : Nat) : Int)]), cR, eR, kD, kR, xa, xb, (by rw [ha.out]; exact putSel_upk 2 hb_ rfl rfl rfl), PWf.out.appD ho hb hg hat, fun h0_ => absurd ((up_self b 10).symm.trans h0_) (by decide), fun _ => by rw [hd_], Q_FR, fun h0_ => absurd ((hoff 18 (by kernel_rfl)).symm.trans h0_) (by decide), Q_KD0, fun h0_ => absurd ((hoff 21 (by kernel_rfl)).symm.trans h0_) (by decide), Q_KR0, fun h0_ => absurd ((hoff 24 (by kernel_rfl)).symm.trans h0_) (by decide), fun _ h1_ => absurd ((up_self b 10).symm.trans h1_) (by decide), fun h0_ h1_ => (Q_LB h0_ h1_).app hg hat⟩
    refine steps_cons ?_ ?_
    · rintro b a w' ⟨cD, eD, cR, eR, kD, kR, xa, xb, ha, Q_PWf, Q_FD, Q_GD, Q_FR, Q_GR, Q_KD0, Q_KD1, Q_KR0, Q_KR1, Q_LA, Q_LB⟩ hb_ hon hoff
      refine ⟨_, rfl, fun K hK => ?_⟩
      have e78 : a.tmps[78]? = some (.pointer (some ⟨g, 1, none⟩)) := by rw [ha]; exact (putSel_off rfl).trans rfl
      replace ha := Aside0.mk ha
      have PWf := Aside0.mk Q_PWf
      have FR := Aside0.mk (Q_FR (hoff 18 (by kernel_rfl)))
      have KD0 := Aside0.mk (Q_KD0 (hoff 21 (by kernel_rfl)))
      have KR0 := Aside0.mk (Q_KR0 (hoff 24 (by kernel_rfl)))
      have hs_ : w'.cell? ⟨g, 1, none⟩ = some vR := by have h_ := PWf.out.c1; rw [KR0.out] at h_; exact h_
      refine value_ (w1 := w') (v := vR) (by rfl) rfl ?_ ?_
      · go_simp
        (try simp only [i64_w])
        try rfl
      refine hK.out _ _ ⟨cD, eD, cR, eR, kD, kR, xa, xb, (by rw [ha.out]; exact putSel_upk 3 hb_ rfl rfl rfl), Q_PWf, Q_FD, Q_GD, Q_FR, fun h0_ => absurd ((hoff 18 (by kernel_rfl)).symm.trans h0_) (by decide), Q_KD0, fun h0_ => absurd ((hoff 21 (by kernel_rfl)).symm.trans h0_) (by decide), Q_KR0, fun h0_ => absurd ((hoff 24 (by kernel_rfl)).symm.trans h0_) (by decide), Q_LA, Q_LB⟩
    refine steps_cons ?_ ?_
    · rintro b a w' ⟨cD, eD, cR, eR, kD, kR, xa, xb, ha, Q_PWf, Q_FD, Q_GD, Q_FR, Q_GR, Q_KD0, Q_KD1, Q_KR0, Q_KR1, Q_LA, Q_LB⟩ hb_ hon hoff
      refine ⟨_, rfl, fun K hK => ?_⟩
      have e81 : a.tmps[81]? = some (.int .i16 (rp : Int)) := by rw [ha]; exact (putSel_off rfl).trans rfl
      replace ha := Aside0.mk ha
      have PWf := Aside0.mk Q_PWf
      have FR := Aside0.mk (Q_FR (hoff 18 (by kernel_rfl)))
      have KD0 := Aside0.mk (Q_KD0 (hoff 21 (by kernel_rfl)))
      have KR0 := Aside0.mk (Q_KR0 (hoff 24 (by kernel_rfl)))
      refine Kd.R_lit_step (Kd.int .i16) (w0 := w0) w0.heap.size 28 (by rfl) (N := 82) rfl (xs := [(rp : Int)]) (inner := [.int .i16 (rp : Int)]) (ok := fun _ => True) (okp := fun _ => True) ?hr ?hp (fun _ hk => hk) trivial PWf.out.bl PWf.out.bl.size (by simp) ?_
      (case hr => first | (go_simp; done) | (go_simp; rfl))
      (case hp => exact Reps.one rfl (Reps.none _ _))
      intro x1 w1 ho hb hg hat
      refine hK.out _ _ ⟨cD, eD, cR, eR, kD, kR, xa, x1, (by rw [ha.out]; exact putSel_upk 4 hb_ rfl rfl rfl), PWf.out.grow0 hb hg, Q_FD, Q_GD, Q_FR, fun h0_ => absurd ((hoff 18 (by kernel_rfl)).symm.trans h0_) (by decide), Q_KD0, fun h0_ => absurd ((hoff 21 (by kernel_rfl)).symm.trans h0_) (by decide), Q_KR0, fun h0_ => absurd ((hoff 24 (by kernel_rfl)).symm.trans h0_) (by decide), fun h0_ h1_ => (Q_LA h0_ h1_).grow0 hg, fun _ _ => LX.new ho hat PWf.out.rd⟩
    refine steps_cons ?_ ?_
    · rintro b a w' ⟨cD, eD, cR, eR, kD, kR, xa, xb, ha, Q_PWf, Q_FD, Q_GD, Q_FR, Q_GR, Q_KD0, Q_KD1, Q_KR0, Q_KR1, Q_LA, Q_LB⟩ hb_ hon hoff
      refine ⟨_, rfl, fun K hK => ?_⟩
      have e79 : a.tmps[79]? = some (vR) := by rw [ha]; exact putSel_on (e := (14, 79, vR)) 3 rfl rfl (hon 14 (by kernel_rfl)) rfl
      have e82 : a.tmps[82]? = some (xb) := by rw [ha]; exact putSel_on (e := (17, 82, xb)) 4 rfl rfl (hon 17 (by kernel_rfl)) rfl
      replace ha := Aside0.mk ha
      have PWf := Aside0.mk Q_PWf
      have GD := Aside0.mk (Q_GD (hon 10 (by kernel_rfl)))
      have FR := Aside0.mk (Q_FR hb_)
      have KD0 := Aside0.mk (Q_KD0 (hoff 21 (by kernel_rfl)))
      have KR0 := Aside0.mk (Q_KR0 (hoff 24 (by kernel_rfl)))
      have LB := Aside0.mk (Q_LB (hon 17 (by kernel_rfl)) hb_)
      obtain ⟨hc_, hd_⟩ := FR.out
      obtain ⟨Aa, ca, hx_⟩ := Kd.R_slice LB.out.1
      rw [← hc_] at e79
      rw [hx_] at e82
      have hL_ := LB.out.1
      rw [hx_] at hL_
      have hC_ := (Kd.R_reads' hL_).2.2
      refine Kd.R_append_rows_step (Kd.int .i16) (w0 := w0) w0.heap.size (by rfl) (.tmp 79) (.tmp 82) 27 28 (.int .i16 0) 2 rfl Tryd.underlying27 info28 rfl (by decide) (by omega) cR eR [(rp : Int)] Aa _ ca (fun _ => True) (fun _ => False) (eval_of e79) (eval_of e82) PWf.out.rr hC_ (fun _ _ h => h) (fun _ h => h.elim) (fun _ _ => trivial) PWf.out.bl PWf.out.bl.size (by rw [hd_]; simp only [List.length_cons, List.length_nil]; omega) ?_
      intro y1 w1 ho hb hg hat
      refine hK.out _ _ ⟨cD, eD, y1, (eR ++ [(rp : Int)]), kD, kR, xa, xb, (by rw [ha.out]; exact putSel_upk 5 hb_ rfl rfl rfl), PWf.out.appR ho hb hg hat, fun h0_ => absurd ((hon 10 (by kernel_rfl)).symm.trans h0_) (by decide), Q_GD, fun h0_ => absurd ((up_self b 18).symm.trans h0_) (by decide), fun _ => by rw [hd_], Q_KD0, fun h0_ => absurd ((hoff 21 (by kernel_rfl)).symm.trans h0_) (by decide), Q_KR0, fun h0_ => absurd ((hoff 24 (by kernel_rfl)).symm.trans h0_) (by decide), fun _ h1_ => absurd ((hon 10 (by kernel_rfl)).symm.trans h1_) (by decide), fun _ h1_ => absurd ((up_self b 18).symm.trans h1_) (by decide)⟩
    refine steps_cons ?_ ?_
    · rintro b a w' ⟨cD, eD, cR, eR, kD, kR, xa, xb, ha, Q_PWf, Q_FD, Q_GD, Q_FR, Q_GR, Q_KD0, Q_KD1, Q_KR0, Q_KR1, Q_LA, Q_LB⟩ hb_ hon hoff
      refine ⟨_, rfl, fun K hK => ?_⟩
      have e65 : a.tmps[65]? = some (.pointer (some ⟨g, 0, none⟩)) := by rw [ha]; exact (putSel_off rfl).trans rfl
      replace ha := Aside0.mk ha
      have PWf := Aside0.mk Q_PWf
      have GD := Aside0.mk (Q_GD (hon 10 (by kernel_rfl)))
      have GR := Aside0.mk (Q_GR (hon 18 (by kernel_rfl)))
      have KD0 := Aside0.mk (Q_KD0 (hoff 21 (by kernel_rfl)))
      have KR0 := Aside0.mk (Q_KR0 (hoff 24 (by kernel_rfl)))
      refine value_ (w1 := w') (v := .pointer (some ⟨g, 0, none⟩)) (by rfl) rfl ?_ ?_
      · go_simp
        (try simp only [i64_w])
        try rfl
      refine hK.out _ _ ⟨cD, eD, cR, eR, kD, kR, xa, xb, (by rw [ha.out]; exact putSel_upk 6 hb_ rfl rfl rfl), Q_PWf, fun h0_ => absurd ((hon 10 (by kernel_rfl)).symm.trans h0_) (by decide), Q_GD, fun h0_ => absurd ((hon 18 (by kernel_rfl)).symm.trans h0_) (by decide), Q_GR, Q_KD0, fun h0_ => absurd ((hoff 21 (by kernel_rfl)).symm.trans h0_) (by decide), Q_KR0, fun h0_ => absurd ((hoff 24 (by kernel_rfl)).symm.trans h0_) (by decide), fun _ h1_ => absurd ((hon 10 (by kernel_rfl)).symm.trans h1_) (by decide), fun _ h1_ => absurd ((hon 18 (by kernel_rfl)).symm.trans h1_) (by decide)⟩
    refine steps_cons ?_ ?_
    · rintro b a w' ⟨cD, eD, cR, eR, kD, kR, xa, xb, ha, Q_PWf, Q_FD, Q_GD, Q_FR, Q_GR, Q_KD0, Q_KD1, Q_KR0, Q_KR1, Q_LA, Q_LB⟩ hb_ hon hoff
      refine ⟨_, rfl, fun K hK => ?_⟩
      have e84 : a.tmps[84]? = some (.pointer (some ⟨g, 0, none⟩)) := by rw [ha]; exact putSel_on (e := (19, 84, .pointer (some ⟨g, 0, none⟩))) 6 rfl rfl (hon 19 (by kernel_rfl)) rfl
      replace ha := Aside0.mk ha
      have PWf := Aside0.mk Q_PWf
      have GD := Aside0.mk (Q_GD (hon 10 (by kernel_rfl)))
      have GR := Aside0.mk (Q_GR (hon 18 (by kernel_rfl)))
      have KD0 := Aside0.mk (Q_KD0 (hoff 21 (by kernel_rfl)))
      have KR0 := Aside0.mk (Q_KR0 (hoff 24 (by kernel_rfl)))
      refine value_ (w1 := w') (v := .pointer (some ⟨g, 0, none⟩)) (by rfl) rfl ?_ ?_
      · go_simp
        (try simp only [i64_w])
        try rfl
      refine hK.out _ _ ⟨cD, eD, cR, eR, kD, kR, xa, xb, (by rw [ha.out]; exact putSel_upk 7 hb_ rfl rfl rfl), Q_PWf, fun h0_ => absurd ((hon 10 (by kernel_rfl)).symm.trans h0_) (by decide), Q_GD, fun h0_ => absurd ((hon 18 (by kernel_rfl)).symm.trans h0_) (by decide), Q_GR, Q_KD0, fun h0_ => absurd ((hoff 21 (by kernel_rfl)).symm.trans h0_) (by decide), Q_KR0, fun h0_ => absurd ((hoff 24 (by kernel_rfl)).symm.trans h0_) (by decide), fun _ h1_ => absurd ((hon 10 (by kernel_rfl)).symm.trans h1_) (by decide), fun _ h1_ => absurd ((hon 18 (by kernel_rfl)).symm.trans h1_) (by decide)⟩
    refine steps_cons ?_ ?_
    · rintro b a w' ⟨cD, eD, cR, eR, kD, kR, xa, xb, ha, Q_PWf, Q_FD, Q_GD, Q_FR, Q_GR, Q_KD0, Q_KD1, Q_KR0, Q_KR1, Q_LA, Q_LB⟩ hb_ hon hoff
      refine ⟨_, rfl, fun K hK => ?_⟩
      have e85 : a.tmps[85]? = some (.pointer (some ⟨g, 0, none⟩)) := by rw [ha]; exact putSel_on (e := (20, 85, .pointer (some ⟨g, 0, none⟩))) 7 rfl rfl (hon 20 (by kernel_rfl)) rfl
      have e75 : a.tmps[75]? = some (cD) := by rw [ha]; exact putSel_on (e := (10, 75, cD)) 2 rfl rfl (hon 10 (by kernel_rfl)) rfl
      replace ha := Aside0.mk ha
      have PWf := Aside0.mk Q_PWf
      have GD := Aside0.mk (Q_GD (hon 10 (by kernel_rfl)))
      have GR := Aside0.mk (Q_GR (hon 18 (by kernel_rfl)))
      have KD0 := Aside0.mk (Q_KD0 hb_)
      have KR0 := Aside0.mk (Q_KR0 (hoff 24 (by kernel_rfl)))
      obtain ⟨As_, cs_, hx_⟩ := Kd.R_slice PWf.out.rd
      refine skip_ (w1 := w'.setCell ⟨g, 0, none⟩ cD) (by rfl) rfl ?_ ?_
      · have c0_ := PWf.out.c0
        have z0_ := PWf.out.fz 0
        rw [hx_] at e75 ⊢
        go_simp
      refine hK.out _ _ ⟨cD, eD, cR, eR, cD, kR, xa, xb, (by rw [ha.out]; exact putSel_none (v := undef) rfl), PWf.out.setD cD, fun h0_ => absurd ((hon 10 (by kernel_rfl)).symm.trans h0_) (by decide), Q_GD, fun h0_ => absurd ((hon 18 (by kernel_rfl)).symm.trans h0_) (by decide), Q_GR, fun h0_ => absurd ((up_self b 21).symm.trans h0_) (by decide), fun _ => rfl, Q_KR0, fun h0_ => absurd ((hoff 24 (by kernel_rfl)).symm.trans h0_) (by decide), fun _ h1_ => absurd ((hon 10 (by kernel_rfl)).symm.trans h1_) (by decide), fun _ h1_ => absurd ((hon 18 (by kernel_rfl)).symm.trans h1_) (by decide)⟩
    refine steps_cons ?_ ?_
    · rintro b a w' ⟨cD, eD, cR, eR, kD, kR, xa, xb, ha, Q_PWf, Q_FD, Q_GD, Q_FR, Q_GR, Q_KD0, Q_KD1, Q_KR0, Q_KR1, Q_LA, Q_LB⟩ hb_ hon hoff
      refine ⟨_, rfl, fun K hK => ?_⟩
      have e66 : a.tmps[66]? = some (.pointer (some ⟨g, 0, none⟩)) := by rw [ha]; exact (putSel_off rfl).trans rfl
      replace ha := Aside0.mk ha
      have PWf := Aside0.mk Q_PWf
      have GD := Aside0.mk (Q_GD (hon 10 (by kernel_rfl)))
      have GR := Aside0.mk (Q_GR (hon 18 (by kernel_rfl)))
      have KD1 := Aside0.mk (Q_KD1 (hon 21 (by kernel_rfl)))
      have KR0 := Aside0.mk (Q_KR0 (hoff 24 (by kernel_rfl)))
      refine value_ (w1 := w') (v := .pointer (some ⟨g, 0, none⟩)) (by rfl) rfl ?_ ?_
      · go_simp
        (try simp only [i64_w])
        try rfl
      refine hK.out _ _ ⟨cD, eD, cR, eR, kD, kR, xa, xb, (by rw [ha.out]; exact putSel_upk 8 hb_ rfl rfl rfl), Q_PWf, fun h0_ => absurd ((hon 10 (by kernel_rfl)).symm.trans h0_) (by decide), Q_GD, fun h0_ => absurd ((hon 18 (by kernel_rfl)).symm.trans h0_) (by decide), Q_GR, fun h0_ => absurd ((hon 21 (by kernel_rfl)).symm.trans h0_) (by decide), Q_KD1, Q_KR0, fun h0_ => absurd ((hoff 24 (by kernel_rfl)).symm.trans h0_) (by decide), fun _ h1_ => absurd ((hon 10 (by kernel_rfl)).symm.trans h1_) (by decide), fun _ h1_ => absurd ((hon 18 (by kernel_rfl)).symm.trans h1_) (by decide)⟩
    refine steps_cons ?_ ?_
    · rintro b a w' ⟨cD, eD, cR, eR, kD, kR, xa, xb, ha, Q_PWf, Q_FD, Q_GD, Q_FR, Q_GR, Q_KD0, Q_KD1, Q_KR0, Q_KR1, Q_LA, Q_LB⟩ hb_ hon hoff
      refine ⟨_, rfl, fun K hK => ?_⟩
      have e86 : a.tmps[86]? = some (.pointer (some ⟨g, 0, none⟩)) := by rw [ha]; exact putSel_on (e := (22, 86, .pointer (some ⟨g, 0, none⟩))) 8 rfl rfl (hon 22 (by kernel_rfl)) rfl
      replace ha := Aside0.mk ha
      have PWf := Aside0.mk Q_PWf
      have GD := Aside0.mk (Q_GD (hon 10 (by kernel_rfl)))
      have GR := Aside0.mk (Q_GR (hon 18 (by kernel_rfl)))
      have KD1 := Aside0.mk (Q_KD1 (hon 21 (by kernel_rfl)))
      have KR0 := Aside0.mk (Q_KR0 (hoff 24 (by kernel_rfl)))
      refine value_ (w1 := w') (v := .pointer (some ⟨g, 1, none⟩)) (by rfl) rfl ?_ ?_
      · go_simp
        (try simp only [i64_w])
        try rfl
      refine hK.out _ _ ⟨cD, eD, cR, eR, kD, kR, xa, xb, (by rw [ha.out]; exact putSel_upk 9 hb_ rfl rfl rfl), Q_PWf, fun h0_ => absurd ((hon 10 (by kernel_rfl)).symm.trans h0_) (by decide), Q_GD, fun h0_ => absurd ((hon 18 (by kernel_rfl)).symm.trans h0_) (by decide), Q_GR, fun h0_ => absurd ((hon 21 (by kernel_rfl)).symm.trans h0_) (by decide), Q_KD1, Q_KR0, fun h0_ => absurd ((hoff 24 (by kernel_rfl)).symm.trans h0_) (by decide), fun _ h1_ => absurd ((hon 10 (by kernel_rfl)).symm.trans h1_) (by decide), fun _ h1_ => absurd ((hon 18 (by kernel_rfl)).symm.trans h1_) (by decide)⟩
    refine steps_cons ?_ ?_
    · rintro b a w' ⟨cD, eD, cR, eR, kD, kR, xa, xb, ha, Q_PWf, Q_FD, Q_GD, Q_FR, Q_GR, Q_KD0, Q_KD1, Q_KR0, Q_KR1, Q_LA, Q_LB⟩ hb_ hon hoff
      refine ⟨_, rfl, fun K hK => ?_⟩
      have e87 : a.tmps[87]? = some (.pointer (some ⟨g, 1, none⟩)) := by rw [ha]; exact putSel_on (e := (23, 87, .pointer (some ⟨g, 1, none⟩))) 9 rfl rfl (hon 23 (by kernel_rfl)) rfl
      have e83 : a.tmps[83]? = some (cR) := by rw [ha]; exact putSel_on (e := (18, 83, cR)) 5 rfl rfl (hon 18 (by kernel_rfl)) rfl
      replace ha := Aside0.mk ha
      have PWf := Aside0.mk Q_PWf
      have GD := Aside0.mk (Q_GD (hon 10 (by kernel_rfl)))
      have GR := Aside0.mk (Q_GR (hon 18 (by kernel_rfl)))
      have KD1 := Aside0.mk (Q_KD1 (hon 21 (by kernel_rfl)))
      have KR0 := Aside0.mk (Q_KR0 hb_)
      obtain ⟨As_, cs_, hx_⟩ := Kd.R_slice PWf.out.rr
      refine skip_ (w1 := w'.setCell ⟨g, 1, none⟩ cR) (by rfl) rfl ?_ ?_
      · have c0_ := PWf.out.c1
        have z0_ := PWf.out.fz 1
        rw [hx_] at e83 ⊢
        go_simp
      refine hK.out _ _ ⟨cD, eD, cR, eR, kD, cR, xa, xb, (by rw [ha.out]; exact putSel_none (v := undef) rfl), PWf.out.setR cR, fun h0_ => absurd ((hon 10 (by kernel_rfl)).symm.trans h0_) (by decide), Q_GD, fun h0_ => absurd ((hon 18 (by kernel_rfl)).symm.trans h0_) (by decide), Q_GR, fun h0_ => absurd ((hon 21 (by kernel_rfl)).symm.trans h0_) (by decide), Q_KD1, fun h0_ => absurd ((up_self b 24).symm.trans h0_) (by decide), fun _ => rfl, fun _ h1_ => absurd ((hon 10 (by kernel_rfl)).symm.trans h1_) (by decide), fun _ h1_ => absurd ((hon 18 (by kernel_rfl)).symm.trans h1_) (by decide)⟩
    exact steps_nil
  · rintro b a w' hall ⟨cD, eD, cR, eR, kD, kR, xa, xb, ha, Q_PWf, Q_FD, Q_GD, Q_FR, Q_GR, Q_KD0, Q_KD1, Q_KR0, Q_KR1, Q_LA, Q_LB⟩
    have hb5_ := hall 5 (by kernel_rfl)
    have hb9_ := hall 9 (by kernel_rfl)
    have hb10_ := hall 10 (by kernel_rfl)
    have hb14_ := hall 14 (by kernel_rfl)
    have hb17_ := hall 17 (by kernel_rfl)
    have hb18_ := hall 18 (by kernel_rfl)
    have hb19_ := hall 19 (by kernel_rfl)
    have hb20_ := hall 20 (by kernel_rfl)
    have hb21_ := hall 21 (by kernel_rfl)
    have hb22_ := hall 22 (by kernel_rfl)
    have hb23_ := hall 23 (by kernel_rfl)
    have hb24_ := hall 24 (by kernel_rfl)
    subst ha
    simp only [putSel, hb5_, hb9_, hb10_, hb14_, hb17_, hb18_, hb19_, hb20_, hb21_, hb22_, hb23_, hb24_, if_true, Act.put, List.setIfInBounds_toArray, List.set_cons_zero, List.set_cons_succ]
    have PWf := Aside0.mk Q_PWf
    clear Q_PWf
    clear Q_FD
    have GD := Aside0.mk (Q_GD hb10_)
    clear Q_GD
    clear Q_FR
    have GR := Aside0.mk (Q_GR hb18_)
    clear Q_GR
    clear Q_KD0
    have KD1 := Aside0.mk (Q_KD1 hb21_)
    clear Q_KD1
    clear Q_KR0
    have KR1 := Aside0.mk (Q_KR1 hb24_)
    clear Q_KR1
    clear Q_LA
    clear Q_LB
    clear hall hb5_ hb9_ hb10_ hb14_ hb17_ hb18_ hb19_ hb20_ hb21_ hb22_ hb23_ hb24_
    go_end0
    have h_ := PWf.out
    rw [GD.out, GR.out, KD1.out, KR1.out] at h_
    exact ⟨rfl, _, _, h_⟩
set_option maxHeartbeats 8000000 in
set_option maxRecDepth 100000 in
theorem put2_is (w0 : World) (g : Nat) (D R : List Int) (f1 : Int) (f2 : ByteArray) (A3 : Option Addr) (c3 n3 : Nat) (ls lv df rp : Nat) (w : World) (h : SR w0 w g D R) (hdf : df < 1000) (hrp : rp < 1000) (hD : D.length ≤ 4000000) (hR : R.length ≤ 4000000) (hlv : lv < ls) :
    Calls Tryd.prog 11 #[.pointer (some ⟨g, 0, none⟩), .agg #[.bool false, .int .u64 f1, .string f2, .slice A3 0 c3], .int .i64 (ls : Int), .int .i64 (lv : Int), .int .i64 (df : Int), .int .i64 (rp : Int)] w fun e w' => e = .returned (.tuple #[]) ∧ SR w0 w' g (D ++ [((df + 1 : Nat) : Int)]) (R ++ [(rp : Int)]) := by
  obtain ⟨vD, vR, hp⟩ := h
  have wd : IntKind.i16.wrap (df : Int) = (df : Int) := by simp [IntKind.wrap, IntKind.bits, IntKind.signed]; omega
  have wd1 : IntKind.i64.wrap ((df : Int) + 1) = ((df + 1 : Nat) : Int) := by rw [IntWalk.i64_in _ (by omega)]; rfl
  have wd2 : IntKind.i16.wrap ((df + 1 : Nat) : Int) = ((df + 1 : Nat) : Int) := by simp [IntKind.wrap, IntKind.bits, IntKind.signed]; omega
  have wd3 : IntKind.i16.wrap ((df : Int) + 1) = ((df + 1 : Nat) : Int) := wd2
  have hlv1 : ((lv : Int) == (ls : Int)) = false := by simp; omega
  have hlv2 : ¬ (lv : Int) = (ls : Int) := by omega
  have hlv3 : ¬ lv = ls := by omega
  have wr : IntKind.i16.wrap (rp : Int) = (rp : Int) := by simp [IntKind.wrap, IntKind.bits, IntKind.signed]; omega
  have Qp := Aside0.mk hp
  clear hp
  go_enter Tryd.func11, Tryd.ntmps11
  go_upto_region 13 with fail
  refine wp_as (fun V => PW w0 V g vD D vR R vD vR) (Qp.out.step (b2 w _)) ?_
  rintro V hp
  have HP := Aside0.mk (show PW w0 V.drew g vD D vR R vD vR from hp.step (Below.refl _ _).drew)
  clear hp
  refine start_ (n := 25) (S := fun w' => True) (ds := []) #[false, false, false, false, false, false, false, false, false, false, false, false, false, false, false, false, false, false, false, false, false, false, false, false, false] (by kernel_rfl) rfl rfl trivial (fun hHeld => ?_)
  refine with_tabW put.tab13 put.bits13 (fun HT_ HW_ => ?_)
  refine pure_ (i := 0) (N := some 93) (v := ?_) (a' := ?_) #[true, false, false, false, false, false, false, false, false, false, false, false, false, false, false, false, false, false, false, false, false, false, false, false, false] rfl rfl (any_of HT_.out (by kernel_rfl)) (fun _ _ _ h => h) (Or.inl ⟨by rfl, ?_⟩) ?_ ?_
  rotate_left
  · intro w'
    go_simp
    with_reducible rfl
  rotate_left
  · simp only [Act.put, List.setIfInBounds_toArray, List.set_cons_zero, List.set_cons_succ, i64_w, i32_w]
    rfl
  refine pure_ (i := 1) (N := some 94) (v := ?_) (a' := ?_) #[true, true, false, false, false, false, false, false, false, false, false, false, false, false, false, false, false, false, false, false, false, false, false, false, false] rfl rfl (any_of HT_.out (by kernel_rfl)) (fun _ _ _ h => h) (Or.inl ⟨by rfl, ?_⟩) ?_ ?_
  rotate_left
  · intro w'
    go_simp
    with_reducible rfl
  rotate_left
  · simp only [Act.put, List.setIfInBounds_toArray, List.set_cons_zero, List.set_cons_succ, i64_w, i32_w]
    rfl
  refine pure_ (i := 2) (N := some 95) (v := ?_) (a' := ?_) #[true, true, true, false, false, false, false, false, false, false, false, false, false, false, false, false, false, false, false, false, false, false, false, false, false] rfl rfl (any_of HT_.out (by kernel_rfl)) (fun _ _ _ h => h) (Or.inl ⟨by rfl, ?_⟩) ?_ ?_
  rotate_left
  · intro w'
    go_simp
    with_reducible rfl
  rotate_left
  · simp only [Act.put, List.setIfInBounds_toArray, List.set_cons_zero, List.set_cons_succ, i64_w, i32_w]
    rfl
  refine pure_ (i := 3) (N := some 96) (v := ?_) (a' := ?_) #[true, true, true, true, false, false, false, false, false, false, false, false, false, false, false, false, false, false, false, false, false, false, false, false, false] rfl rfl (any_of HT_.out (by kernel_rfl)) (fun _ _ _ h => h) (Or.inl ⟨by rfl, ?_⟩) ?_ ?_
  rotate_left
  · intro w'
    go_simp
    with_reducible rfl
  rotate_left
  · simp only [Act.put, List.setIfInBounds_toArray, List.set_cons_zero, List.set_cons_succ, i64_w, i32_w]
    rfl
  refine pure_ (i := 4) (N := some 97) (v := ?_) (a' := ?_) #[true, true, true, true, true, false, false, false, false, false, false, false, false, false, false, false, false, false, false, false, false, false, false, false, false] rfl rfl (any_of HT_.out (by kernel_rfl)) (fun _ _ _ h => h) (Or.inl ⟨by rfl, ?_⟩) ?_ ?_
  rotate_left
  · intro w'
    go_simp
    with_reducible rfl
  rotate_left
  · simp only [Act.put, List.setIfInBounds_toArray, List.set_cons_zero, List.set_cons_succ, i64_w, i32_w]
    rfl
  refine pure_ (i := 6) (N := some 99) (v := ?_) (a' := ?_) #[true, true, true, true, true, false, true, false, false, false, false, false, false, false, false, false, false, false, false, false, false, false, false, false, false] rfl rfl (any_of HT_.out (by kernel_rfl)) (fun _ _ _ h => h) (Or.inl ⟨by rfl, ?_⟩) ?_ ?_
  rotate_left
  · intro w'
    go_simp
    with_reducible rfl
  rotate_left
  · simp only [Act.put, List.setIfInBounds_toArray, List.set_cons_zero, List.set_cons_succ, i64_w, i32_w]
    rfl
  refine pure_ (i := 7) (N := some 100) (v := ?_) (a' := ?_) #[true, true, true, true, true, false, true, true, false, false, false, false, false, false, false, false, false, false, false, false, false, false, false, false, false] rfl rfl (any_of HT_.out (by kernel_rfl)) (fun _ _ _ h => h) (Or.inl ⟨by rfl, ?_⟩) ?_ ?_
  rotate_left
  · intro w'
    go_simp
    with_reducible rfl
  rotate_left
  · simp only [Act.put, List.setIfInBounds_toArray, List.set_cons_zero, List.set_cons_succ, i64_w, i32_w]
    rfl
  refine pure_ (i := 8) (N := some 101) (v := ?_) (a' := ?_) #[true, true, true, true, true, false, true, true, true, false, false, false, false, false, false, false, false, false, false, false, false, false, false, false, false] rfl rfl (any_of HT_.out (by kernel_rfl)) (fun _ _ _ h => h) (Or.inl ⟨by rfl, ?_⟩) ?_ ?_
  rotate_left
  · intro w'
    go_simp
    with_reducible rfl
  rotate_left
  · simp only [Act.put, List.setIfInBounds_toArray, List.set_cons_zero, List.set_cons_succ, i64_w, i32_w]
    rfl
  refine pure_ (i := 11) (N := some 104) (v := ?_) (a' := ?_) #[true, true, true, true, true, false, true, true, true, false, false, true, false, false, false, false, false, false, false, false, false, false, false, false, false] rfl rfl (any_of HT_.out (by kernel_rfl)) (fun _ _ _ h => h) (Or.inl ⟨by rfl, ?_⟩) ?_ ?_
  rotate_left
  · intro w'
    go_simp
    with_reducible rfl
  rotate_left
  · simp only [Act.put, List.setIfInBounds_toArray, List.set_cons_zero, List.set_cons_succ, i64_w, i32_w]
    rfl
  refine pure_ (i := 12) (N := some 105) (v := ?_) (a' := ?_) #[true, true, true, true, true, false, true, true, true, false, false, true, true, false, false, false, false, false, false, false, false, false, false, false, false] rfl rfl (any_of HT_.out (by kernel_rfl)) (fun _ _ _ h => h) (Or.inl ⟨by rfl, ?_⟩) ?_ ?_
  rotate_left
  · intro w'
    go_simp
    with_reducible rfl
  rotate_left
  · simp only [Act.put, List.setIfInBounds_toArray, List.set_cons_zero, List.set_cons_succ, i64_w, i32_w]
    rfl
  refine pure_ (i := 13) (N := some 106) (v := ?_) (a' := ?_) #[true, true, true, true, true, false, true, true, true, false, false, true, true, true, false, false, false, false, false, false, false, false, false, false, false] rfl rfl (any_of HT_.out (by kernel_rfl)) (fun _ _ _ h => h) (Or.inl ⟨by rfl, ?_⟩) ?_ ?_
  rotate_left
  · intro w'
    go_simp
    with_reducible rfl
  rotate_left
  · simp only [Act.put, List.setIfInBounds_toArray, List.set_cons_zero, List.set_cons_succ, i64_w, i32_w]
    rfl
  refine pure_ (i := 15) (N := some 108) (v := ?_) (a' := ?_) #[true, true, true, true, true, false, true, true, true, false, false, true, true, true, false, true, false, false, false, false, false, false, false, false, false] rfl rfl (any_of HT_.out (by kernel_rfl)) (fun _ _ _ h => h) (Or.inl ⟨by rfl, ?_⟩) ?_ ?_
  rotate_left
  · intro w'
    go_simp
    with_reducible rfl
  rotate_left
  · simp only [Act.put, List.setIfInBounds_toArray, List.set_cons_zero, List.set_cons_succ, i64_w, i32_w]
    rfl
  refine pure_ (i := 16) (N := some 109) (v := ?_) (a' := ?_) #[true, true, true, true, true, false, true, true, true, false, false, true, true, true, false, true, true, false, false, false, false, false, false, false, false] rfl rfl (any_of HT_.out (by kernel_rfl)) (fun _ _ _ h => h) (Or.inl ⟨by rfl, ?_⟩) ?_ ?_
  rotate_left
  · intro w'
    go_simp
    with_reducible rfl
  rotate_left
  · simp only [Act.put, List.setIfInBounds_toArray, List.set_cons_zero, List.set_cons_succ, i64_w, i32_w]
    rfl
  refine inv_at [5, 9, 10, 14, 17, 18, 19, 20, 21, 22, 23, 24] (fun a0_ b a w' => ∃ (cD : Value) (eD : List Int) (cR : Value) (eR : List Int) (kD : Value) (kR : Value) (xa : Value) (xb : Value), a = putSel a0_ b [(5, 98, vD), (9, 102, xa), (10, 103, cD), (14, 107, vR), (17, 110, xb), (18, 111, cR), (19, 112, .pointer (some ⟨g, 0, none⟩)), (20, 113, .pointer (some ⟨g, 0, none⟩)), (22, 114, .pointer (some ⟨g, 0, none⟩)), (23, 115, .pointer (some ⟨g, 1, none⟩))] ∧ (PW w0 w' g cD eD cR eR kD kR) ∧ (b 10 = false → cD = vD ∧ eD = D) ∧ (b 10 = true → eD = D ++ [((df + 1 : Nat) : Int)]) ∧ (b 18 = false → cR = vR ∧ eR = R) ∧ (b 18 = true → eR = R ++ [(rp : Int)]) ∧ (b 21 = false → kD = vD) ∧ (b 21 = true → kD = cD) ∧ (b 24 = false → kR = vR) ∧ (b 24 = true → kR = cR) ∧ (b 9 = true → b 10 = false → LX w0 w' xa ((df + 1 : Nat) : Int) cR) ∧ (b 17 = true → b 18 = false → LX w0 w' xb (rp : Int) cD)) HT_.out HW_.out (by kernel_rfl) (by kernel_rfl) ?_ ?_ ?_
  · exact ⟨vD, D, vR, R, vD, vR, .bool false, .bool false, by simp only [putSel, Bool.false_eq_true, if_false], HP.out, fun _ => ⟨rfl, rfl⟩, fun h_ => absurd h_ (by decide), fun _ => ⟨rfl, rfl⟩, fun h_ => absurd h_ (by decide), fun _ => rfl, fun h_ => absurd h_ (by decide), fun _ => rfl, fun h_ => absurd h_ (by decide), fun h_ => absurd h_ (by decide), fun h_ => absurd h_ (by decide)⟩
  · skip
    refine steps_cons ?_ ?_
    · rintro b a w' ⟨cD, eD, cR, eR, kD, kR, xa, xb, ha, Q_PWf, Q_FD, Q_GD, Q_FR, Q_GR, Q_KD0, Q_KD1, Q_KR0, Q_KR1, Q_LA, Q_LB⟩ hb_ hon hoff
      refine ⟨_, rfl, fun K hK => ?_⟩
      have e97 : a.tmps[97]? = some (.pointer (some ⟨g, 0, none⟩)) := by rw [ha]; exact (putSel_off rfl).trans rfl
      replace ha := Aside0.mk ha
      have PWf := Aside0.mk Q_PWf
      have FD := Aside0.mk (Q_FD (hoff 10 (by kernel_rfl)))
      have FR := Aside0.mk (Q_FR (hoff 18 (by kernel_rfl)))
      have KD0 := Aside0.mk (Q_KD0 (hoff 21 (by kernel_rfl)))
      have KR0 := Aside0.mk (Q_KR0 (hoff 24 (by kernel_rfl)))
      have hs_ : w'.cell? ⟨g, 0, none⟩ = some vD := by have h_ := PWf.out.c0; rw [KD0.out] at h_; exact h_
      refine value_ (w1 := w') (v := vD) (by rfl) rfl ?_ ?_
      · go_simp
        (try simp only [i64_w])
        try rfl
      refine hK.out _ _ ⟨cD, eD, cR, eR, kD, kR, xa, xb, (by rw [ha.out]; exact putSel_upk 0 hb_ rfl rfl rfl), Q_PWf, Q_FD, fun h0_ => absurd ((hoff 10 (by kernel_rfl)).symm.trans h0_) (by decide), Q_FR, fun h0_ => absurd ((hoff 18 (by kernel_rfl)).symm.trans h0_) (by decide), Q_KD0, fun h0_ => absurd ((hoff 21 (by kernel_rfl)).symm.trans h0_) (by decide), Q_KR0, fun h0_ => absurd ((hoff 24 (by kernel_rfl)).symm.trans h0_) (by decide), Q_LA, Q_LB⟩
    refine steps_cons ?_ ?_
    · rintro b a w' ⟨cD, eD, cR, eR, kD, kR, xa, xb, ha, Q_PWf, Q_FD, Q_GD, Q_FR, Q_GR, Q_KD0, Q_KD1, Q_KR0, Q_KR1, Q_LA, Q_LB⟩ hb_ hon hoff
      refine ⟨_, rfl, fun K hK => ?_⟩
      have e101 : a.tmps[101]? = some (.int .i16 ((df + 1 : Nat) : Int)) := by rw [ha]; exact (putSel_off rfl).trans rfl
      replace ha := Aside0.mk ha
      have PWf := Aside0.mk Q_PWf
      have FD := Aside0.mk (Q_FD (hoff 10 (by kernel_rfl)))
      have FR := Aside0.mk (Q_FR (hoff 18 (by kernel_rfl)))
      have KD0 := Aside0.mk (Q_KD0 (hoff 21 (by kernel_rfl)))
      have KR0 := Aside0.mk (Q_KR0 (hoff 24 (by kernel_rfl)))
      refine Kd.R_lit_step (Kd.int .i16) (w0 := w0) w0.heap.size 28 (by rfl) (N := 102) rfl (xs := [((df + 1 : Nat) : Int)]) (inner := [.int .i16 ((df + 1 : Nat) : Int)]) (ok := fun _ => True) (okp := fun _ => True) ?hr ?hp (fun _ hk => hk) trivial PWf.out.bl PWf.out.bl.size (by simp) ?_
      (case hr => first | (go_simp; done) | (go_simp; rfl))
      (case hp => exact Reps.one rfl (Reps.none _ _))
      intro x1 w1 ho hb hg hat
      refine hK.out _ _ ⟨cD, eD, cR, eR, kD, kR, x1, xb, (by rw [ha.out]; exact putSel_upk 1 hb_ rfl rfl rfl), PWf.out.grow0 hb hg, Q_FD, fun h0_ => absurd ((hoff 10 (by kernel_rfl)).symm.trans h0_) (by decide), Q_FR, fun h0_ => absurd ((hoff 18 (by kernel_rfl)).symm.trans h0_) (by decide), Q_KD0, fun h0_ => absurd ((hoff 21 (by kernel_rfl)).symm.trans h0_) (by decide), Q_KR0, fun h0_ => absurd ((hoff 24 (by kernel_rfl)).symm.trans h0_) (by decide), fun _ _ => LX.new ho hat PWf.out.rr, fun h0_ h1_ => (Q_LB h0_ h1_).grow0 hg⟩
    refine steps_cons ?_ ?_
    · rintro b a w' ⟨cD, eD, cR, eR, kD, kR, xa, xb, ha, Q_PWf, Q_FD, Q_GD, Q_FR, Q_GR, Q_KD0, Q_KD1, Q_KR0, Q_KR1, Q_LA, Q_LB⟩ hb_ hon hoff
      refine ⟨_, rfl, fun K hK => ?_⟩
      have e98 : a.tmps[98]? = some (vD) := by rw [ha]; exact putSel_on (e := (5, 98, vD)) 0 rfl rfl (hon 5 (by kernel_rfl)) rfl
      have e102 : a.tmps[102]? = some (xa) := by rw [ha]; exact putSel_on (e := (9, 102, xa)) 1 rfl rfl (hon 9 (by kernel_rfl)) rfl
      replace ha := Aside0.mk ha
      have PWf := Aside0.mk Q_PWf
      have FD := Aside0.mk (Q_FD hb_)
      have FR := Aside0.mk (Q_FR (hoff 18 (by kernel_rfl)))
      have KD0 := Aside0.mk (Q_KD0 (hoff 21 (by kernel_rfl)))
      have KR0 := Aside0.mk (Q_KR0 (hoff 24 (by kernel_rfl)))
      have LA := Aside0.mk (Q_LA (hon 9 (by kernel_rfl)) hb_)
      obtain ⟨hc_, hd_⟩ := FD.out
      obtain ⟨Aa, ca, hx_⟩ := Kd.R_slice LA.out.1
      rw [← hc_] at e98
      rw [hx_] at e102
      have hL_ := LA.out.1
      rw [hx_] at hL_
      have hC_ := (Kd.R_reads' hL_).2.2
      refine Kd.R_append_rows_step (Kd.int .i16) (w0 := w0) w0.heap.size (by rfl) (.tmp 98) (.tmp 102) 27 28 (.int .i16 0) 2 rfl Tryd.underlying27 info28 rfl (by decide) (by omega) cD eD [((df + 1 : Nat) : Int)] Aa _ ca (fun _ => True) (fun _ => False) (eval_of e98) (eval_of e102) PWf.out.rd hC_ (fun _ _ h => h) (fun _ h => h.elim) (fun _ _ => trivial) PWf.out.bl PWf.out.bl.size (by rw [hd_]; simp only [List.length_cons, List.length_nil]; omega) ?_
      intro y1 w1 ho hb hg hat
      refine hK.out _ _ ⟨y1, (eD ++ [((df + 1 : Nat) : Int)]), cR, eR, kD, kR, xa, xb, (by rw [ha.out]; exact putSel_upk 2 hb_ rfl rfl rfl), PWf.out.appD ho hb hg hat, fun h0_ => absurd ((up_self b 10).symm.trans h0_) (by decide), fun _ => by rw [hd_], Q_FR, fun h0_ => absurd ((hoff 18 (by kernel_rfl)).symm.trans h0_) (by decide), Q_KD0, fun h0_ => absurd ((hoff 21 (by kernel_rfl)).symm.trans h0_) (by decide), Q_KR0, fun h0_ => absurd ((hoff 24 (by kernel_rfl)).symm.trans h0_) (by decide), fun _ h1_ => absurd ((up_self b 10).symm.trans h1_) (by decide), fun h0_ h1_ => (Q_LB h0_ h1_).app hg hat⟩
    refine steps_cons ?_ ?_
    · rintro b a w' ⟨cD, eD, cR, eR, kD, kR, xa, xb, ha, Q_PWf, Q_FD, Q_GD, Q_FR, Q_GR, Q_KD0, Q_KD1, Q_KR0, Q_KR1, Q_LA, Q_LB⟩ hb_ hon hoff
      refine ⟨_, rfl, fun K hK => ?_⟩
      have e106 : a.tmps[106]? = some (.pointer (some ⟨g, 1, none⟩)) := by rw [ha]; exact (putSel_off rfl).trans rfl
      replace ha := Aside0.mk ha
      have PWf := Aside0.mk Q_PWf
      have FR := Aside0.mk (Q_FR (hoff 18 (by kernel_rfl)))
      have KD0 := Aside0.mk (Q_KD0 (hoff 21 (by kernel_rfl)))
      have KR0 := Aside0.mk (Q_KR0 (hoff 24 (by kernel_rfl)))
      have hs_ : w'.cell? ⟨g, 1, none⟩ = some vR := by have h_ := PWf.out.c1; rw [KR0.out] at h_; exact h_
      refine value_ (w1 := w') (v := vR) (by rfl) rfl ?_ ?_
      · go_simp
        (try simp only [i64_w])
        try rfl
      refine hK.out _ _ ⟨cD, eD, cR, eR, kD, kR, xa, xb, (by rw [ha.out]; exact putSel_upk 3 hb_ rfl rfl rfl), Q_PWf, Q_FD, Q_GD, Q_FR, fun h0_ => absurd ((hoff 18 (by kernel_rfl)).symm.trans h0_) (by decide), Q_KD0, fun h0_ => absurd ((hoff 21 (by kernel_rfl)).symm.trans h0_) (by decide), Q_KR0, fun h0_ => absurd ((hoff 24 (by kernel_rfl)).symm.trans h0_) (by decide), Q_LA, Q_LB⟩
    refine steps_cons ?_ ?_
    · rintro b a w' ⟨cD, eD, cR, eR, kD, kR, xa, xb, ha, Q_PWf, Q_FD, Q_GD, Q_FR, Q_GR, Q_KD0, Q_KD1, Q_KR0, Q_KR1, Q_LA, Q_LB⟩ hb_ hon hoff
      refine ⟨_, rfl, fun K hK => ?_⟩
      have e109 : a.tmps[109]? = some (.int .i16 (rp : Int)) := by rw [ha]; exact (putSel_off rfl).trans rfl
      replace ha := Aside0.mk ha
      have PWf := Aside0.mk Q_PWf
      have FR := Aside0.mk (Q_FR (hoff 18 (by kernel_rfl)))
      have KD0 := Aside0.mk (Q_KD0 (hoff 21 (by kernel_rfl)))
      have KR0 := Aside0.mk (Q_KR0 (hoff 24 (by kernel_rfl)))
      refine Kd.R_lit_step (Kd.int .i16) (w0 := w0) w0.heap.size 28 (by rfl) (N := 110) rfl (xs := [(rp : Int)]) (inner := [.int .i16 (rp : Int)]) (ok := fun _ => True) (okp := fun _ => True) ?hr ?hp (fun _ hk => hk) trivial PWf.out.bl PWf.out.bl.size (by simp) ?_
      (case hr => first | (go_simp; done) | (go_simp; rfl))
      (case hp => exact Reps.one rfl (Reps.none _ _))
      intro x1 w1 ho hb hg hat
      refine hK.out _ _ ⟨cD, eD, cR, eR, kD, kR, xa, x1, (by rw [ha.out]; exact putSel_upk 4 hb_ rfl rfl rfl), PWf.out.grow0 hb hg, Q_FD, Q_GD, Q_FR, fun h0_ => absurd ((hoff 18 (by kernel_rfl)).symm.trans h0_) (by decide), Q_KD0, fun h0_ => absurd ((hoff 21 (by kernel_rfl)).symm.trans h0_) (by decide), Q_KR0, fun h0_ => absurd ((hoff 24 (by kernel_rfl)).symm.trans h0_) (by decide), fun h0_ h1_ => (Q_LA h0_ h1_).grow0 hg, fun _ _ => LX.new ho hat PWf.out.rd⟩
    refine steps_cons ?_ ?_
    · rintro b a w' ⟨cD, eD, cR, eR, kD, kR, xa, xb, ha, Q_PWf, Q_FD, Q_GD, Q_FR, Q_GR, Q_KD0, Q_KD1, Q_KR0, Q_KR1, Q_LA, Q_LB⟩ hb_ hon hoff
      refine ⟨_, rfl, fun K hK => ?_⟩
      have e107 : a.tmps[107]? = some (vR) := by rw [ha]; exact putSel_on (e := (14, 107, vR)) 3 rfl rfl (hon 14 (by kernel_rfl)) rfl
      have e110 : a.tmps[110]? = some (xb) := by rw [ha]; exact putSel_on (e := (17, 110, xb)) 4 rfl rfl (hon 17 (by kernel_rfl)) rfl
      replace ha := Aside0.mk ha
      have PWf := Aside0.mk Q_PWf
      have GD := Aside0.mk (Q_GD (hon 10 (by kernel_rfl)))
      have FR := Aside0.mk (Q_FR hb_)
      have KD0 := Aside0.mk (Q_KD0 (hoff 21 (by kernel_rfl)))
      have KR0 := Aside0.mk (Q_KR0 (hoff 24 (by kernel_rfl)))
      have LB := Aside0.mk (Q_LB (hon 17 (by kernel_rfl)) hb_)
      obtain ⟨hc_, hd_⟩ := FR.out
      obtain ⟨Aa, ca, hx_⟩ := Kd.R_slice LB.out.1
      rw [← hc_] at e107
      rw [hx_] at e110
      have hL_ := LB.out.1
      rw [hx_] at hL_
      have hC_ := (Kd.R_reads' hL_).2.2
      refine Kd.R_append_rows_step (Kd.int .i16) (w0 := w0) w0.heap.size (by rfl) (.tmp 107) (.tmp 110) 27 28 (.int .i16 0) 2 rfl Tryd.underlying27 info28 rfl (by decide) (by omega) cR eR [(rp : Int)] Aa _ ca (fun _ => True) (fun _ => False) (eval_of e107) (eval_of e110) PWf.out.rr hC_ (fun _ _ h => h) (fun _ h => h.elim) (fun _ _ => trivial) PWf.out.bl PWf.out.bl.size (by rw [hd_]; simp only [List.length_cons, List.length_nil]; omega) ?_
      intro y1 w1 ho hb hg hat
      refine hK.out _ _ ⟨cD, eD, y1, (eR ++ [(rp : Int)]), kD, kR, xa, xb, (by rw [ha.out]; exact putSel_upk 5 hb_ rfl rfl rfl), PWf.out.appR ho hb hg hat, fun h0_ => absurd ((hon 10 (by kernel_rfl)).symm.trans h0_) (by decide), Q_GD, fun h0_ => absurd ((up_self b 18).symm.trans h0_) (by decide), fun _ => by rw [hd_], Q_KD0, fun h0_ => absurd ((hoff 21 (by kernel_rfl)).symm.trans h0_) (by decide), Q_KR0, fun h0_ => absurd ((hoff 24 (by kernel_rfl)).symm.trans h0_) (by decide), fun _ h1_ => absurd ((hon 10 (by kernel_rfl)).symm.trans h1_) (by decide), fun _ h1_ => absurd ((up_self b 18).symm.trans h1_) (by decide)⟩
    refine steps_cons ?_ ?_
    · rintro b a w' ⟨cD, eD, cR, eR, kD, kR, xa, xb, ha, Q_PWf, Q_FD, Q_GD, Q_FR, Q_GR, Q_KD0, Q_KD1, Q_KR0, Q_KR1, Q_LA, Q_LB⟩ hb_ hon hoff
      refine ⟨_, rfl, fun K hK => ?_⟩
      have e93 : a.tmps[93]? = some (.pointer (some ⟨g, 0, none⟩)) := by rw [ha]; exact (putSel_off rfl).trans rfl
      replace ha := Aside0.mk ha
      have PWf := Aside0.mk Q_PWf
      have GD := Aside0.mk (Q_GD (hon 10 (by kernel_rfl)))
      have GR := Aside0.mk (Q_GR (hon 18 (by kernel_rfl)))
      have KD0 := Aside0.mk (Q_KD0 (hoff 21 (by kernel_rfl)))
      have KR0 := Aside0.mk (Q_KR0 (hoff 24 (by kernel_rfl)))
      refine value_ (w1 := w') (v := .pointer (some ⟨g, 0, none⟩)) (by rfl) rfl ?_ ?_
      · go_simp
        (try simp only [i64_w])
        try rfl
      refine hK.out _ _ ⟨cD, eD, cR, eR, kD, kR, xa, xb, (by rw [ha.out]; exact putSel_upk 6 hb_ rfl rfl rfl), Q_PWf, fun h0_ => absurd ((hon 10 (by kernel_rfl)).symm.trans h0_) (by decide), Q_GD, fun h0_ => absurd ((hon 18 (by kernel_rfl)).symm.trans h0_) (by decide), Q_GR, Q_KD0, fun h0_ => absurd ((hoff 21 (by kernel_rfl)).symm.trans h0_) (by decide), Q_KR0, fun h0_ => absurd ((hoff 24 (by kernel_rfl)).symm.trans h0_) (by decide), fun _ h1_ => absurd ((hon 10 (by kernel_rfl)).symm.trans h1_) (by decide), fun _ h1_ => absurd ((hon 18 (by kernel_rfl)).symm.trans h1_) (by decide)⟩
    refine steps_cons ?_ ?_
    · rintro b a w' ⟨cD, eD, cR, eR, kD, kR, xa, xb, ha, Q_PWf, Q_FD, Q_GD, Q_FR, Q_GR, Q_KD0, Q_KD1, Q_KR0, Q_KR1, Q_LA, Q_LB⟩ hb_ hon hoff
      refine ⟨_, rfl, fun K hK => ?_⟩
      have e112 : a.tmps[112]? = some (.pointer (some ⟨g, 0, none⟩)) := by rw [ha]; exact putSel_on (e := (19, 112, .pointer (some ⟨g, 0, none⟩))) 6 rfl rfl (hon 19 (by kernel_rfl)) rfl
      replace ha := Aside0.mk ha
      have PWf := Aside0.mk Q_PWf
      have GD := Aside0.mk (Q_GD (hon 10 (by kernel_rfl)))
      have GR := Aside0.mk (Q_GR (hon 18 (by kernel_rfl)))
      have KD0 := Aside0.mk (Q_KD0 (hoff 21 (by kernel_rfl)))
      have KR0 := Aside0.mk (Q_KR0 (hoff 24 (by kernel_rfl)))
      refine value_ (w1 := w') (v := .pointer (some ⟨g, 0, none⟩)) (by rfl) rfl ?_ ?_
      · go_simp
        (try simp only [i64_w])
        try rfl
      refine hK.out _ _ ⟨cD, eD, cR, eR, kD, kR, xa, xb, (by rw [ha.out]; exact putSel_upk 7 hb_ rfl rfl rfl), Q_PWf, fun h0_ => absurd ((hon 10 (by kernel_rfl)).symm.trans h0_) (by decide), Q_GD, fun h0_ => absurd ((hon 18 (by kernel_rfl)).symm.trans h0_) (by decide), Q_GR, Q_KD0, fun h0_ => absurd ((hoff 21 (by kernel_rfl)).symm.trans h0_) (by decide), Q_KR0, fun h0_ => absurd ((hoff 24 (by kernel_rfl)).symm.trans h0_) (by decide), fun _ h1_ => absurd ((hon 10 (by kernel_rfl)).symm.trans h1_) (by decide), fun _ h1_ => absurd ((hon 18 (by kernel_rfl)).symm.trans h1_) (by decide)⟩
    refine steps_cons ?_ ?_
    · rintro b a w' ⟨cD, eD, cR, eR, kD, kR, xa, xb, ha, Q_PWf, Q_FD, Q_GD, Q_FR, Q_GR, Q_KD0, Q_KD1, Q_KR0, Q_KR1, Q_LA, Q_LB⟩ hb_ hon hoff
      refine ⟨_, rfl, fun K hK => ?_⟩
      have e113 : a.tmps[113]? = some (.pointer (some ⟨g, 0, none⟩)) := by rw [ha]; exact putSel_on (e := (20, 113, .pointer (some ⟨g, 0, none⟩))) 7 rfl rfl (hon 20 (by kernel_rfl)) rfl
      have e103 : a.tmps[103]? = some (cD) := by rw [ha]; exact putSel_on (e := (10, 103, cD)) 2 rfl rfl (hon 10 (by kernel_rfl)) rfl
      replace ha := Aside0.mk ha
      have PWf := Aside0.mk Q_PWf
      have GD := Aside0.mk (Q_GD (hon 10 (by kernel_rfl)))
      have GR := Aside0.mk (Q_GR (hon 18 (by kernel_rfl)))
      have KD0 := Aside0.mk (Q_KD0 hb_)
      have KR0 := Aside0.mk (Q_KR0 (hoff 24 (by kernel_rfl)))
      obtain ⟨As_, cs_, hx_⟩ := Kd.R_slice PWf.out.rd
      refine skip_ (w1 := w'.setCell ⟨g, 0, none⟩ cD) (by rfl) rfl ?_ ?_
      · have c0_ := PWf.out.c0
        have z0_ := PWf.out.fz 0
        rw [hx_] at e103 ⊢
        go_simp
      refine hK.out _ _ ⟨cD, eD, cR, eR, cD, kR, xa, xb, (by rw [ha.out]; exact putSel_none (v := undef) rfl), PWf.out.setD cD, fun h0_ => absurd ((hon 10 (by kernel_rfl)).symm.trans h0_) (by decide), Q_GD, fun h0_ => absurd ((hon 18 (by kernel_rfl)).symm.trans h0_) (by decide), Q_GR, fun h0_ => absurd ((up_self b 21).symm.trans h0_) (by decide), fun _ => rfl, Q_KR0, fun h0_ => absurd ((hoff 24 (by kernel_rfl)).symm.trans h0_) (by decide), fun _ h1_ => absurd ((hon 10 (by kernel_rfl)).symm.trans h1_) (by decide), fun _ h1_ => absurd ((hon 18 (by kernel_rfl)).symm.trans h1_) (by decide)⟩
    refine steps_cons ?_ ?_
    · rintro b a w' ⟨cD, eD, cR, eR, kD, kR, xa, xb, ha, Q_PWf, Q_FD, Q_GD, Q_FR, Q_GR, Q_KD0, Q_KD1, Q_KR0, Q_KR1, Q_LA, Q_LB⟩ hb_ hon hoff
      refine ⟨_, rfl, fun K hK => ?_⟩
      have e94 : a.tmps[94]? = some (.pointer (some ⟨g, 0, none⟩)) := by rw [ha]; exact (putSel_off rfl).trans rfl
      replace ha := Aside0.mk ha
      have PWf := Aside0.mk Q_PWf
      have GD := Aside0.mk (Q_GD (hon 10 (by kernel_rfl)))
      have GR := Aside0.mk (Q_GR (hon 18 (by kernel_rfl)))
      have KD1 := Aside0.mk (Q_KD1 (hon 21 (by kernel_rfl)))
      have KR0 := Aside0.mk (Q_KR0 (hoff 24 (by kernel_rfl)))
      refine value_ (w1 := w') (v := .pointer (some ⟨g, 0, none⟩)) (by rfl) rfl ?_ ?_
      · go_simp
        (try simp only [i64_w])
        try rfl
      refine hK.out _ _ ⟨cD, eD, cR, eR, kD, kR, xa, xb, (by rw [ha.out]; exact putSel_upk 8 hb_ rfl rfl rfl), Q_PWf, fun h0_ => absurd ((hon 10 (by kernel_rfl)).symm.trans h0_) (by decide), Q_GD, fun h0_ => absurd ((hon 18 (by kernel_rfl)).symm.trans h0_) (by decide), Q_GR, fun h0_ => absurd ((hon 21 (by kernel_rfl)).symm.trans h0_) (by decide), Q_KD1, Q_KR0, fun h0_ => absurd ((hoff 24 (by kernel_rfl)).symm.trans h0_) (by decide), fun _ h1_ => absurd ((hon 10 (by kernel_rfl)).symm.trans h1_) (by decide), fun _ h1_ => absurd ((hon 18 (by kernel_rfl)).symm.trans h1_) (by decide)⟩
    refine steps_cons ?_ ?_
    · rintro b a w' ⟨cD, eD, cR, eR, kD, kR, xa, xb, ha, Q_PWf, Q_FD, Q_GD, Q_FR, Q_GR, Q_KD0, Q_KD1, Q_KR0, Q_KR1, Q_LA, Q_LB⟩ hb_ hon hoff
      refine ⟨_, rfl, fun K hK => ?_⟩
      have e114 : a.tmps[114]? = some (.pointer (some ⟨g, 0, none⟩)) := by rw [ha]; exact putSel_on (e := (22, 114, .pointer (some ⟨g, 0, none⟩))) 8 rfl rfl (hon 22 (by kernel_rfl)) rfl
      replace ha := Aside0.mk ha
      have PWf := Aside0.mk Q_PWf
      have GD := Aside0.mk (Q_GD (hon 10 (by kernel_rfl)))
      have GR := Aside0.mk (Q_GR (hon 18 (by kernel_rfl)))
      have KD1 := Aside0.mk (Q_KD1 (hon 21 (by kernel_rfl)))
      have KR0 := Aside0.mk (Q_KR0 (hoff 24 (by kernel_rfl)))
      refine value_ (w1 := w') (v := .pointer (some ⟨g, 1, none⟩)) (by rfl) rfl ?_ ?_
      · go_simp
        (try simp only [i64_w])
        try rfl
      refine hK.out _ _ ⟨cD, eD, cR, eR, kD, kR, xa, xb, (by rw [ha.out]; exact putSel_upk 9 hb_ rfl rfl rfl), Q_PWf, fun h0_ => absurd ((hon 10 (by kernel_rfl)).symm.trans h0_) (by decide), Q_GD, fun h0_ => absurd ((hon 18 (by kernel_rfl)).symm.trans h0_) (by decide), Q_GR, fun h0_ => absurd ((hon 21 (by kernel_rfl)).symm.trans h0_) (by decide), Q_KD1, Q_KR0, fun h0_ => absurd ((hoff 24 (by kernel_rfl)).symm.trans h0_) (by decide), fun _ h1_ => absurd ((hon 10 (by kernel_rfl)).symm.trans h1_) (by decide), fun _ h1_ => absurd ((hon 18 (by kernel_rfl)).symm.trans h1_) (by decide)⟩
    refine steps_cons ?_ ?_
    · rintro b a w' ⟨cD, eD, cR, eR, kD, kR, xa, xb, ha, Q_PWf, Q_FD, Q_GD, Q_FR, Q_GR, Q_KD0, Q_KD1, Q_KR0, Q_KR1, Q_LA, Q_LB⟩ hb_ hon hoff
      refine ⟨_, rfl, fun K hK => ?_⟩
      have e115 : a.tmps[115]? = some (.pointer (some ⟨g, 1, none⟩)) := by rw [ha]; exact putSel_on (e := (23, 115, .pointer (some ⟨g, 1, none⟩))) 9 rfl rfl (hon 23 (by kernel_rfl)) rfl
      have e111 : a.tmps[111]? = some (cR) := by rw [ha]; exact putSel_on (e := (18, 111, cR)) 5 rfl rfl (hon 18 (by kernel_rfl)) rfl
      replace ha := Aside0.mk ha
      have PWf := Aside0.mk Q_PWf
      have GD := Aside0.mk (Q_GD (hon 10 (by kernel_rfl)))
      have GR := Aside0.mk (Q_GR (hon 18 (by kernel_rfl)))
      have KD1 := Aside0.mk (Q_KD1 (hon 21 (by kernel_rfl)))
      have KR0 := Aside0.mk (Q_KR0 hb_)
      obtain ⟨As_, cs_, hx_⟩ := Kd.R_slice PWf.out.rr
      refine skip_ (w1 := w'.setCell ⟨g, 1, none⟩ cR) (by rfl) rfl ?_ ?_
      · have c0_ := PWf.out.c1
        have z0_ := PWf.out.fz 1
        rw [hx_] at e111 ⊢
        go_simp
      refine hK.out _ _ ⟨cD, eD, cR, eR, kD, cR, xa, xb, (by rw [ha.out]; exact putSel_none (v := undef) rfl), PWf.out.setR cR, fun h0_ => absurd ((hon 10 (by kernel_rfl)).symm.trans h0_) (by decide), Q_GD, fun h0_ => absurd ((hon 18 (by kernel_rfl)).symm.trans h0_) (by decide), Q_GR, fun h0_ => absurd ((hon 21 (by kernel_rfl)).symm.trans h0_) (by decide), Q_KD1, fun h0_ => absurd ((up_self b 24).symm.trans h0_) (by decide), fun _ => rfl, fun _ h1_ => absurd ((hon 10 (by kernel_rfl)).symm.trans h1_) (by decide), fun _ h1_ => absurd ((hon 18 (by kernel_rfl)).symm.trans h1_) (by decide)⟩
    exact steps_nil
  · rintro b a w' hall ⟨cD, eD, cR, eR, kD, kR, xa, xb, ha, Q_PWf, Q_FD, Q_GD, Q_FR, Q_GR, Q_KD0, Q_KD1, Q_KR0, Q_KR1, Q_LA, Q_LB⟩
    have hb5_ := hall 5 (by kernel_rfl)
    have hb9_ := hall 9 (by kernel_rfl)
    have hb10_ := hall 10 (by kernel_rfl)
    have hb14_ := hall 14 (by kernel_rfl)
    have hb17_ := hall 17 (by kernel_rfl)
    have hb18_ := hall 18 (by kernel_rfl)
    have hb19_ := hall 19 (by kernel_rfl)
    have hb20_ := hall 20 (by kernel_rfl)
    have hb21_ := hall 21 (by kernel_rfl)
    have hb22_ := hall 22 (by kernel_rfl)
    have hb23_ := hall 23 (by kernel_rfl)
    have hb24_ := hall 24 (by kernel_rfl)
    subst ha
    simp only [putSel, hb5_, hb9_, hb10_, hb14_, hb17_, hb18_, hb19_, hb20_, hb21_, hb22_, hb23_, hb24_, if_true, Act.put, List.setIfInBounds_toArray, List.set_cons_zero, List.set_cons_succ]
    have PWf := Aside0.mk Q_PWf
    clear Q_PWf
    clear Q_FD
    have GD := Aside0.mk (Q_GD hb10_)
    clear Q_GD
    clear Q_FR
    have GR := Aside0.mk (Q_GR hb18_)
    clear Q_GR
    clear Q_KD0
    have KD1 := Aside0.mk (Q_KD1 hb21_)
    clear Q_KD1
    clear Q_KR0
    have KR1 := Aside0.mk (Q_KR1 hb24_)
    clear Q_KR1
    clear Q_LA
    clear Q_LB
    clear hall hb5_ hb9_ hb10_ hb14_ hb17_ hb18_ hb19_ hb20_ hb21_ hb22_ hb23_ hb24_
    go_end0
    have h_ := PWf.out
    rw [GD.out, GR.out, KD1.out, KR1.out] at h_
    exact ⟨rfl, _, _, h_⟩
end Go.Proofs.YtjipnopadpedoaaDoor.QR
