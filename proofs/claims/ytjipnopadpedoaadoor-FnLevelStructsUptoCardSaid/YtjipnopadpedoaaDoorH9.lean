/- impl.LevelStructs. -/
import Derived.Test.YtjipnopadpedoaaDoorH8
import Derived.Test.YtjipnopadpedoaaDoorPFnLevelStructsx1
namespace Go.Proofs.YtjipnopadpedoaaDoor.QR
open Go.RowKit Go.Proofs.YtjipnopadpedoaaDoorW.PrintWords Go.Proofs.YtjipnopadpedoaaDoorW.PrintLast Go.Proofs.YtjipnopadpedoaaDoorW.PrintMore
set_option linter.unusedVariables false
set_option linter.unusedSimpArgs false
set_option maxHeartbeats 8000000 in
set_option maxRecDepth 100000 in
theorem out_is (bits : List Int) (N f : Nat) (A : Option Addr) (c : Nat) (w : World) (hC : Cu w A bits) (hbo : bytesOk bits = true) (h1 : 1 ≤ bits.length) (hl : bits.length ≤ 100000) :
    Calls Tryd.prog 13 #[.agg #[.int .i64 (N : Int), .bool true, .slice A bits.length c, .int .i64 (f : Int)]] w fun e w' => ∃ (go gb cb : Nat) (us : List Value), e = .returned (.pointer (some ⟨go, 0, none⟩)) ∧ w'.heap[go]? = some (.cells (ioC N 0 0 gb bits.length cb f) 68 (0, 0)) ∧ w'.heap[gb]? = some (.cells us.toArray 5 (0, 0)) ∧ OkN us bits.length ∧ (∀ q, q < bits.length → byN us q = (rd bits (q : Int)).toNat) ∧ bits.length ≤ cb ∧ w.heap.size ≤ go ∧ w.heap.size ≤ gb ∧ Below w.heap.size w w' := by
  have QC := Aside0.mk hC
  have Qb := Aside0.mk (And.intro hbo (And.intro h1 hl))
  clear hC hbo h1 hl
  go_enter Tryd.func13, Tryd.ntmps13
  go_upto_region 3 with fail
  refine wp_as (fun V => V.heap[w.heap.size]? = some (.cells #[.int .i64 (N : Int), .bool true, .slice A bits.length c, .int .i64 (f : Int)] 39 (0, 0)) ∧ V.heap[w.heap.size + 1]? = some (.cells #[.int .i64 (N : Int), .int .i64 0, .int .i64 0, .slice none 0 0, .int .i64 (f : Int)] 68 (0, 0)) ∧ Below w.heap.size w V ∧ V.heap.size = w.heap.size + 2) ⟨blk_alloc (blk_new w _) _, by have := blk_new (w.alloc (.cells #[.int .i64 (N : Int), .bool true, .slice A bits.length c, .int .i64 (f : Int)] 39)) (.cells #[.int .i64 (N : Int), .int .i64 0, .int .i64 0, .slice none 0 0, .int .i64 (f : Int)] 68); rw [World.size_alloc] at this; exact this, b3 w _ _, by rw [World.size_alloc, World.size_alloc]⟩ ?_
  rintro V ⟨v1, v2, v3, v4⟩
  obtain ⟨p, hp⟩ : ∃ p, p = w.heap.size := ⟨_, rfl⟩
  have Qp := Aside0.mk hp
  rw [← hp] at v1 v2 v3 v4 ⊢
  have k2 : V.cell? ⟨p, 2, none⟩ = some (.slice A bits.length c) := blk_cell v1 2
  have QV := Aside0.mk (And.intro v1 (And.intro v2 (And.intro v3 v4)))
  have Qlt := Aside0.mk (show bits.length < 140737488355328 by have := Qb.out.2.2; omega)
  clear hp v1 v2 v3 v4
  go_wp2_with (first | ((with_reducible refine gate_dst (N := 13) rfl ?_); refine Kd.R_lit (Kd.int .u8) _ 5 ?hg (N := 13) ?hd (xs := ([] : List Int)) (inner := []) (ok := fun _ => True) (okp := fun _ => True) ?hr ?hp (fun _ hk => hk) trivial (Below.refl _ _) (Nat.le_refl _) (by simp) ?_; (case hd => rfl); (case hg => rfl); (case hr => first | (go_simp; done) | (go_simp; rfl)); (case hp => exact (Reps.none _ _)); intro v118 w3 ho4 hb hg_ hnew_; clear hg_ hnew_; have Q3 := Aside0.mk (And.intro ho4 hb); replace k2 := (show w3.cell? ⟨p, 2, none⟩ = some (.slice A bits.length c) from blk_cell ((hb.block p (by have := QV.out.2.2.2; omega)).trans QV.out.1) 2); clear ho4 hb) | ((with_reducible refine gate_builtin (b := .append) (xs := #[.tmp 13, .tmp 15]) rfl ?_); at_builtin; refine Kd.R_append_rows (Kd.int .u8) (w0 := V) V.heap.size rfl (.tmp 13) (.tmp 15) 33 5 (.int .u8 0) 1 rfl Tryd.underlying33 PFnLevelStructs.info5 rfl (by decide) (by omega) v118 [] bits _ _ _ (fun _ => True) (fun _ => False) rfl rfl ?aO ?aR (fun _ _ h => h) (fun _ h => h.elim) ?aF ?aB ?aS ?aL ?_; (case aR => exact Kd.C_below (Kd.C_below QC.out (Qp.out ▸ QV.out.2.2.1)) (Q3.out.2.mono (by have := QV.out.2.2.2; omega))); (case aO => exact Q3.out.1); (case aF => exact fun _ _ => trivial); (case aB => exact Q3.out.2); (case aS => exact Q3.out.2.size); (case aL => have := Qlt.out; simp only [List.length_nil]; omega); intro v6 w6 ho hb hg hat; rw [List.nil_append] at ho; obtain ⟨A6, c6, rfl, z1, z2, z3, z4⟩ := bytes_own ho Qb.out.1; obtain ⟨gb, us, rfl, y1, y2, y3, y4, y5⟩ := z4 (by have := Qb.out.2.1; omega); have hio := (hb.block (p + 1) (by have := QV.out.2.2.2; omega)).trans QV.out.2.1; have d3 := (blk_cell hio 3).trans rfl; have zd := blk_frozen hio 3; have Q6 := Aside0.mk (And.intro hio (And.intro y1 (And.intro y2 (And.intro y4 (And.intro y5 (And.intro z1 hb)))))); clear ho hb hg hat hio y1 y2 y3 y4 y5 z1 z2 z3 z4))
  go_ret
  have h6 := Q6.out
  have hp1 : p + 1 ≠ gb := by have := QV.out.2.2.2; have := h6.2.1; omega
  refine ⟨p + 1, gb, c6, us.toList, rfl, blk_set h6.1 3 _, ?_, h6.2.2.2.1, h6.2.2.2.2.1, h6.2.2.2.2.2.1, by rw [← Qp.out]; omega, by rw [← Qp.out]; have := QV.out.2.2.2; have := h6.2.1; omega, ?_⟩
  · rw [Array.toArray_toList]
    exact (Below.heap_setCell _ _ _ gb (fun h => hp1 h.symm)).trans h6.2.2.1
  · rw [← Qp.out]
    exact (QV.out.2.2.1.trans (h6.2.2.2.2.2.2.mono (by have := QV.out.2.2.2; omega))).setCell (p := ⟨p + 1, 3, none⟩) (Nat.le_succ p) _
theorem idle12 (p q : Nat) (w : World) :
    CallsD Tryd.prog 12 #[.pointer (some ⟨p, 0, none⟩), .pointer (some ⟨q, 0, none⟩)] .returning w fun e u' w' => e = .returned (.tuple #[]) ∧ u' = .returning ∧ w' = w := by
  refine callsD_of_wpS Tryd.func12 rfl fun c₀ cs hu => ?_
  apply wpS_seq
  apply wpS_region
  simp [wpOpsS, go_sem, recoverD, hu, Tryd.ntmps12, Exit.thenS]
  refine wpS_cond (t := false) (by simp [Act.eval, Array.replicate]) ?_
  simp only [Bool.false_eq_true, if_false]
  refine wpS_of_wp (wp_skip ?_)
  cases c₀
  simp_all [bodyPostS, results, Tryd.results12]
theorem by_bit {us : List Value} {l : List Int} (hb : bytesOk l = true) (h : ∀ q, q < l.length → byN us q = (rd l (q : Int)).toNat) {k : Nat} (hk : k < 8 * l.length) : btN us k = bt1 l k := by
  unfold btN bt1
  rw [h (k / 8) (by omega), Nat.testBit_eq_decide_div_mod_eq]
  have hx := bytes_ok hb ((k / 8 : Nat) : Int)
  obtain ⟨x, e⟩ : ∃ x : Nat, rd l ((k / 8 : Nat) : Int) = (x : Int) := ⟨(rd l ((k / 8 : Nat) : Int)).toNat, by omega⟩
  rw [e, Int.toNat_natCast]
  have hp : ((2 ^ (k % 8) : Nat) : Int) = (2 : Int) ^ (k % 8) := Int.natCast_pow 2 (k % 8)
  rw [← hp]
  rw [decide_eq_decide]
  generalize 2 ^ (k % 8) = z
  have e2 : ((x : Int) / (z : Int)) = ((x / z : Nat) : Int) := (Int.natCast_ediv x z).symm
  rw [e2]
  omega
theorem blk_new1 (w : World) (a b : Obj) : ((w.alloc a).alloc b).heap[w.heap.size + 1]? = some b := by
  have := blk_new (w.alloc a) b
  rw [World.size_alloc] at this
  exact this
set_option maxHeartbeats 8000000 in
set_option maxRecDepth 100000 in
theorem ls_is {D R bits : List Int} (A1 A2 A : Option Addr) (c1 c2 c N f : Nat) (w : World) (hD : Kd.C (Kd.int .i16) w A1 D.length D) (hR : Kd.C (Kd.int .i16) w A2 R.length R) (hl : R.length = D.length) (h20 : D.length ≤ 4000000)
    (hD0 : ∀ j, j < D.length → 0 ≤ rd D (j : Int)) (hR0 : ∀ j, j < D.length → 0 ≤ rd R (j : Int)) (hC : Cu w A bits) (hbo : bytesOk bits = true) (h1 : 1 ≤ bits.length) (hbl : bits.length ≤ 50000)
    (hn : (f + N) / 8 < bits.length) (hf : f ≤ 1000) (hN : N = 0 → D.length = 0) (hN5 : N ≤ 1000) (hG : Gm w) (hst : (stB D R D.length).length = N) :
    Calls Tryd.prog 6 #[.slice A1 D.length c1, .slice A2 R.length c2, .agg #[.int .i64 1, .int .i64 1, .int .i64 0, .int .i64 0], .agg #[.int .i64 (N : Int), .bool true, .slice A bits.length c, .int .i64 (f : Int)]] w fun e w' => ∃ (A' : Option Addr) (c' : Nat) (r : List Int), e = .returned (.tuple #[.agg #[.int .i64 (N : Int), .int .i64 (nulls (stB D R D.length) : Int), .slice A' r.length c'], .bool true]) ∧ r.length ≤ c' ∧ r.length = bits.length ∧ bytesOk r = true ∧ Cu w' A' r ∧ (∀ k, k < f + N → bt1 r k = if k < f then bt1 bits k else (stB D R D.length).getD (k - f) false) ∧ Below w.heap.size w w' := by
  have QO := Aside0.mk (fun (W : World) (hb : Below w.heap.size w W) => out_is bits N f A c W (Kd.C_below hC hb) hbo h1 (Nat.le_trans hbl (by decide)))
  have QI := Aside0.mk (fun W => PFnLevelStructs.impl_LevelRule_info.calls 1 1 0 0 1 1 0 0 W (by decide +kernel))
  have QD := Aside0.mk (fun (B : Nat) (W : World) (hW : Below w.heap.size w W) (hB : w.heap.size ≤ B) (go gb cb : Nat) (us : List Value) ho hb hok hBo hBb => db_is (D := D) (R := R) (us := us) A1 A2 c1 c2 N f bits.length cb go gb B W (fun V hV => Kd.C_below hD (hW.trans (hV.mono hB))) (fun V hV => Kd.C_below hR (hW.trans (hV.mono hB))) hl h20 hD0 hR0 ho hb hok hn hf hN hN5 hBo hBb (Nat.le_trans hG.1 hB) (hG.below hW hG.1) hst)
  rw [hl] at QD ⊢
  have Qb := Aside0.mk (And.intro hbo (And.intro h1 (And.intro hbl (And.intro hf hn))))
  generalize nulls (stB D R D.length) = nl at *
  generalize stB D R D.length = S at *
  generalize D.length = M at *
  obtain ⟨L, hL⟩ : ∃ L, L = bits.length := ⟨_, rfl⟩
  have QL := Aside0.mk hL
  rw [← hL] at QO QD ⊢
  clear hD hR hl hD0 hR0 hC hbo h1 hbl hn hN hG hst hL
  go_enter_defers Tryd.func6, Tryd.ntmps6
  go_upto_region 2 with fail
  refine wp_as (fun V => V.heap[w.heap.size]? = some (.cells #[.int .i64 1, .int .i64 1, .int .i64 0, .int .i64 0] 32 (0, 0)) ∧ V.heap[w.heap.size + 1]? = some (.cells #[.int .i64 (N : Int), .bool true, .slice A L c, .int .i64 (f : Int)] 39 (0, 0)) ∧ V.heap[w.heap.size + 1 + 1]? = some (.cells #[.int .i64 0, .int .i64 0, .slice none 0 0] 35 (0, 0)) ∧ V.heap[w.heap.size + 1 + 1 + 1]? = some (.cells #[.bool false] 4 (0, 0)) ∧ Below w.heap.size w V ∧ V.heap.size = w.heap.size + 1 + 1 + 1 + 1) ⟨blk_alloc (blk_alloc (blk_alloc (blk_new w _) _) _) _, blk_alloc (blk_alloc (blk_new1 w _ _) _) _, ?_, ?_, ((b3 w _ _).alloc (by simp [World.size_alloc]; omega) _).alloc (by simp [World.size_alloc]; omega) _, by simp [World.size_alloc]⟩ ?_
  · have := blk_new1 ((w.alloc (.cells #[.int .i64 1, .int .i64 1, .int .i64 0, .int .i64 0] 32))) (.cells #[.int .i64 (N : Int), .bool true, .slice A L c, .int .i64 (f : Int)] 39) (.cells #[.int .i64 0, .int .i64 0, .slice none 0 0] 35)
    rw [World.size_alloc] at this
    exact blk_alloc this _
  · have := blk_new1 (((w.alloc (.cells #[.int .i64 1, .int .i64 1, .int .i64 0, .int .i64 0] 32)).alloc (.cells #[.int .i64 (N : Int), .bool true, .slice A L c, .int .i64 (f : Int)] 39))) (.cells #[.int .i64 0, .int .i64 0, .slice none 0 0] 35) (.cells #[.bool false] 4)
    rw [World.size_alloc, World.size_alloc] at this
    exact this
  rintro V ⟨v1, v2, v3, v4, v5, v6⟩
  have QV := Aside0.mk (And.intro v1 (And.intro v2 (And.intro v3 (And.intro v4 (And.intro v5 v6)))))
  have QO1 := Aside0.mk (QO.out V v5)
  obtain ⟨p, hp⟩ : ∃ p, p = w.heap.size := ⟨_, rfl⟩
  have Qp := Aside0.mk hp
  rw [← hp] at v1 v2 v3 v4 v5 v6 QV ⊢
  have k0 : V.cell? ⟨p + 1, 0, none⟩ = some (.int .i64 (N : Int)) := blk_cell v2 0
  have k1 : V.cell? ⟨p + 1, 1, none⟩ = some (.bool true) := blk_cell v2 1
  have k2 : V.cell? ⟨p + 1, 2, none⟩ = some (.slice A L c) := blk_cell v2 2
  have k3 : V.cell? ⟨p + 1, 3, none⟩ = some (.int .i64 (f : Int)) := blk_cell v2 3
  clear hp v1 v2 v3 v4 v5 v6 QO
  go_wp2_with (first | (go_at_call 13; (with_reducible refine Calls.mono QO1.out ?_); rintro e w1 ⟨go, gb, cb, us, rfl, j1, j2, j3, j4, j5, j6, j7, j8⟩; have Q1 := Aside0.mk (And.intro j1 (And.intro j2 (And.intro j3 (And.intro j4 (And.intro j5 (And.intro j6 (And.intro j7 j8))))))); have hin := (j8.block p (by have := QV.out.2.2.2.2.2; omega)).trans QV.out.1; have m0 : w1.cell? ⟨p, 0, none⟩ = some (.int .i64 1) := blk_cell hin 0; have m1 : w1.cell? ⟨p, 1, none⟩ = some (.int .i64 1) := blk_cell hin 1; have m2 : w1.cell? ⟨p, 2, none⟩ = some (.int .i64 0) := blk_cell hin 2; have m3 : w1.cell? ⟨p, 3, none⟩ = some (.int .i64 0) := blk_cell hin 3; clear j1 j2 j3 j4 j5 j6 j7 j8 hin k0 k1 k2 k3) | (go_at_call 15; (with_reducible refine Calls.mono (QI.out _) ?_); rintro e w2 ⟨rfl, hb⟩; have B2 := Aside0.mk (Q1.out.2.2.2.2.2.2.2.trans (hb.mono Q1.out.2.2.2.2.2.2.2.size)); have QD2 := Aside0.mk (QD.out V.heap.size w2 (Qp.out ▸ QV.out.2.2.2.2.1.trans (B2.out.mono (by have := QV.out.2.2.2.2.2; omega))) (by have := QV.out.2.2.2.2.2; have := Qp.out; omega) go gb cb us ((hb.block _ (blk_lt Q1.out.1)).trans Q1.out.1) ((hb.block _ (blk_lt Q1.out.2.1)).trans Q1.out.2.1) Q1.out.2.2.1 Q1.out.2.2.2.2.2.1 Q1.out.2.2.2.2.2.2.1); clear hb m0 m1 m2 m3) | (go_at_call 14; (with_reducible refine Calls.mono QD2.out ?_); rintro e w3 ⟨rfl, j1, j2, j3⟩; have Q3 := Aside0.mk (And.intro j1 (And.intro j2 (B2.out.trans j3))); have QT := Aside0.mk (told_is _ _ _ _ _ _ _ _ w3 j1); clear j1 j2 j3) | (go_at_call 16; (with_reducible refine Calls.mono QT.out ?_); rintro e w4 ⟨rfl, hb⟩; have h2 := (hb.block (p + 1 + 1) (by have := Q3.out.2.2.size; have := QV.out.2.2.2.2.2; omega)).trans ((Q3.out.2.2.block (p + 1 + 1) (by have := QV.out.2.2.2.2.2; omega)).trans QV.out.2.2.1); have h3 := (hb.block (p + 1 + 1 + 1) (by have := Q3.out.2.2.size; have := QV.out.2.2.2.2.2; omega)).trans ((Q3.out.2.2.block (p + 1 + 1 + 1) (by have := QV.out.2.2.2.2.2; omega)).trans QV.out.2.2.2.1); have z0 : w4.cell? ⟨p + 1 + 1, 0, none⟩ = some (.int .i64 0) := blk_cell h2 0; have z1 : w4.cell? ⟨p + 1 + 1, 1, none⟩ = some (.int .i64 0) := blk_cell h2 1; have z2 : w4.cell? ⟨p + 1 + 1, 2, none⟩ = some (.slice none 0 0) := blk_cell h2 2; have z3 : w4.cell? ⟨p + 1 + 1 + 1, 0, none⟩ = some (.bool false) := blk_cell h3 0; have y2 : ∀ k, w4.frozen? ⟨p + 1 + 1, k, none⟩ = false := fun k => blk_frozen h2 k; have y3 : ∀ k, w4.frozen? ⟨p + 1 + 1 + 1, k, none⟩ = false := fun k => blk_frozen h3 k; have Q4 := Aside0.mk (And.intro hb (And.intro h2 h3)); clear hb h2 h3))
  refine leaves_cons (f := 12) (args := #[.pointer (some ⟨p + 1 + 1, 0, none⟩), .pointer (some ⟨p + 1 + 1 + 1, 0, none⟩)]) (by simp) (by simp [go_sem]) ?_
  refine (idle12 (p + 1 + 1) (p + 1 + 1 + 1) _).mono ?_
  rintro e u' w'' ⟨rfl, rfl, rfl⟩
  obtain ⟨h4, h2, h3⟩ := Q4.out
  have g2 := blk_set (blk_set (blk_set h2 0 (.int .i64 (N : Int))) 1 (.int .i64 (nl : Int))) 2 (.slice (some ⟨gb, 0, none⟩) L cb)
  have g2' := (Below.heap_setCell _ ⟨p + 1 + 1 + 1, 0, none⟩ (.bool true) (p + 1 + 1) (by simp)).trans g2
  have q0 : ((((w4.setCell ⟨p + 1 + 1, 0, none⟩ (.int .i64 (N : Int))).setCell ⟨p + 1 + 1, 1, none⟩ (.int .i64 (nl : Int))).setCell ⟨p + 1 + 1, 2, none⟩ (.slice (some ⟨gb, 0, none⟩) L cb)).setCell ⟨p + 1 + 1 + 1, 0, none⟩ (.bool true)).cell? ⟨p + 1 + 1, 0, none⟩ = some (.int .i64 (N : Int)) := blk_cell g2' 0
  have q1 : ((((w4.setCell ⟨p + 1 + 1, 0, none⟩ (.int .i64 (N : Int))).setCell ⟨p + 1 + 1, 1, none⟩ (.int .i64 (nl : Int))).setCell ⟨p + 1 + 1, 2, none⟩ (.slice (some ⟨gb, 0, none⟩) L cb)).setCell ⟨p + 1 + 1 + 1, 0, none⟩ (.bool true)).cell? ⟨p + 1 + 1, 1, none⟩ = some (.int .i64 (nl : Int)) := blk_cell g2' 1
  have q2 : ((((w4.setCell ⟨p + 1 + 1, 0, none⟩ (.int .i64 (N : Int))).setCell ⟨p + 1 + 1, 1, none⟩ (.int .i64 (nl : Int))).setCell ⟨p + 1 + 1, 2, none⟩ (.slice (some ⟨gb, 0, none⟩) L cb)).setCell ⟨p + 1 + 1 + 1, 0, none⟩ (.bool true)).cell? ⟨p + 1 + 1, 2, none⟩ = some (.slice (some ⟨gb, 0, none⟩) L cb) := blk_cell g2' 2
  have q3 : ((((w4.setCell ⟨p + 1 + 1, 0, none⟩ (.int .i64 (N : Int))).setCell ⟨p + 1 + 1, 1, none⟩ (.int .i64 (nl : Int))).setCell ⟨p + 1 + 1, 2, none⟩ (.slice (some ⟨gb, 0, none⟩) L cb)).setCell ⟨p + 1 + 1 + 1, 0, none⟩ (.bool true)).cell? ⟨p + 1 + 1 + 1, 0, none⟩ = some (.bool true) := by simp [go_sem, z3]
  refine ⟨.tuple #[.agg #[.int .i64 (N : Int), .int .i64 (nl : Int), .slice (some ⟨gb, 0, none⟩) L cb], .bool true], ?_, ?_⟩
  · generalize (((w4.setCell ⟨p + 1 + 1, 0, none⟩ (.int .i64 (N : Int))).setCell ⟨p + 1 + 1, 1, none⟩ (.int .i64 (nl : Int))).setCell ⟨p + 1 + 1, 2, none⟩ (.slice (some ⟨gb, 0, none⟩) L cb)).setCell ⟨p + 1 + 1 + 1, 0, none⟩ (.bool true) = W at q0 q1 q2 q3 ⊢
    simp [results, Tryd.results6, go_sem, q0, q1, q2, q3]
  obtain ⟨us2, j1, j2, j3⟩ := Q3.out.2.1
  have hLb := Qb.out.2.2.1
  have hQL := QL.out
  have hgb := Q1.out.2.2.2.2.2.2.1
  have hV := QV.out.2.2.2.2.2
  have j1' := (h4.block gb (blk_lt j1)).trans j1
  have j1'' : ((((w4.setCell ⟨p + 1 + 1, 0, none⟩ (.int .i64 (N : Int))).setCell ⟨p + 1 + 1, 1, none⟩ (.int .i64 (nl : Int))).setCell ⟨p + 1 + 1, 2, none⟩ (.slice (some ⟨gb, 0, none⟩) L cb)).setCell ⟨p + 1 + 1 + 1, 0, none⟩ (.bool true)).heap[gb]? = some (.cells us2.toArray 5 (0, 0)) := by
    exact (Below.heap_setCell _ _ _ gb (show gb ≠ p + 1 + 1 + 1 by omega)).trans ((Below.heap_setCell _ _ _ gb (show gb ≠ p + 1 + 1 by omega)).trans ((Below.heap_setCell _ _ _ gb (show gb ≠ p + 1 + 1 by omega)).trans ((Below.heap_setCell _ _ _ gb (show gb ≠ p + 1 + 1 by omega)).trans j1')))
  refine ⟨some ⟨gb, 0, none⟩, cb, bytesOf us2 L, by rw [bytesOf_len], by rw [bytesOf_len]; exact Q1.out.2.2.2.2.1, bytesOf_len _ _, bytesOf_ok j2, cu_of j2 j1'' (by omega), fun k hk => ?_, ?_⟩
  · have hk8 : k < 8 * L := by have := Qb.out.2.2.2.2; omega
    rw [← by_bit (us := us2) (bytesOf_ok j2) (fun q hq => by rw [bytesOf_len] at hq; rw [bytesOf_rd hq, Int.toNat_natCast]) (by rw [bytesOf_len]; exact hk8), j3 k hk]
    by_cases hkf : k < f
    · rw [if_pos hkf, if_pos hkf]
      exact by_bit Qb.out.1 (fun q hq => Q1.out.2.2.2.1 q (by omega)) (by omega)
    · rw [if_neg hkf, if_neg hkf]
  · rw [← Qp.out]
    have hB := (QV.out.2.2.2.2.1.trans (Q3.out.2.2.mono (by omega))).trans (h4.mono (by have := Q3.out.2.2.size; omega))
    exact (((hB.setCell (p := ⟨p + 1 + 1, 0, none⟩) (by simp only; omega) _).setCell (p := ⟨p + 1 + 1, 1, none⟩) (by simp only; omega) _).setCell (p := ⟨p + 1 + 1, 2, none⟩) (by simp only; omega) _).setCell (p := ⟨p + 1 + 1 + 1, 0, none⟩) (by simp only; omega) _
end Go.Proofs.YtjipnopadpedoaaDoor.QR
