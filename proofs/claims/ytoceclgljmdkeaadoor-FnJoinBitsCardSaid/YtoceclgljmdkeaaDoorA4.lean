/- The writer of words: a word; plainly. -/
import Derived.Test.YtoceclgljmdkeaaDoorA3
namespace Go.Proofs.YtoceclgljmdkeaaDoor.QR
open Go.RowKit Go.Proofs.YtoceclgljmdkeaaDoorW.PrintWords Go.Proofs.YtoceclgljmdkeaaDoorW.PrintLast Go.Proofs.YtoceclgljmdkeaaDoorW.PrintMore
set_option linter.unusedVariables false
set_option linter.unusedSimpArgs false
/-- Turned by some bits. -/
def rot64 (v off : Nat) : Nat := v * 2 ^ off % 18446744073709551616 ||| v / 2 ^ (64 - off)
theorem rot64_lt {v : Nat} (off : Nat) (hv : v < 18446744073709551616) : rot64 v off < 18446744073709551616 := by
  unfold rot64
  exact Nat.or_lt_two_pow (n := 64) (Nat.mod_lt _ (by omega)) (Nat.lt_of_le_of_lt (Nat.div_le_self _ _) hv)
theorem rot64_bit {v off i : Nat} (hv : v < 18446744073709551616) (h0 : 1 ≤ off) (hoff : off < 64) (hi : i < 64) : (rot64 v off).testBit i = if i < off then v.testBit (64 - off + i) else v.testBit (i - off) := by
  unfold rot64
  rw [Nat.testBit_or, Nat.testBit_div_two_pow, show (18446744073709551616 : Nat) = 2 ^ 64 by rfl, Nat.testBit_mod_two_pow, Nat.testBit_mul_two_pow, decide_eq_true hi, Bool.true_and]
  by_cases h : i < off
  · rw [if_pos h, decide_eq_false (by omega), Bool.false_and, Bool.false_or, Nat.add_comm]
  · rw [if_neg h, decide_eq_true (by omega), Bool.true_and, Nat.testBit_lt_two_pow (i := i + (64 - off)) (Nat.lt_of_lt_of_le (show v < 2 ^ 64 from hv) (Nat.pow_le_pow_right (by omega) (by omega))), Bool.or_false]
theorem rot64_is {v : Nat} (off : Nat) (hv : v < 18446744073709551616) : bits .or .u64 ((v : Int) * 2 ^ off % 18446744073709551616) ((v : Int) / 2 ^ (64 - off)) = (rot64 v off : Int) := by
  have e1 : ((v : Int) / 2 ^ (64 - off)) = ((v / 2 ^ (64 - off) : Nat) : Int) := by
    have e : ((2 ^ (64 - off) : Nat) : Int) = (2 : Int) ^ (64 - off) := Int.natCast_pow 2 (64 - off)
    rw [← e]
    exact (Int.natCast_ediv _ _).symm
  have e2 : ((v : Int) * 2 ^ off % 18446744073709551616) = ((v * 2 ^ off % 18446744073709551616 : Nat) : Int) := by
    have e : ((2 ^ off : Nat) : Int) = (2 : Int) ^ off := Int.natCast_pow 2 off
    rw [← e]
    omega
  rw [e1, e2]
  exact u64_or_nat _ _ (Nat.mod_lt _ (by omega)) (Nat.lt_of_le_of_lt (Nat.div_le_self _ _) hv)
/-- The low bits of one, the high ones of another. -/
def mix64 (a b mk : Nat) : Nat := a &&& mk ||| b &&& (18446744073709551615 - mk)
theorem mix64_lt {a b : Nat} (mk : Nat) (ha : a < 18446744073709551616) (hb : b < 18446744073709551616) : mix64 a b mk < 18446744073709551616 := by
  unfold mix64
  exact Nat.or_lt_two_pow (n := 64) (Nat.lt_of_le_of_lt Nat.and_le_left ha) (Nat.lt_of_le_of_lt Nat.and_le_left hb)
theorem mix64_bit (a b off i : Nat) (hoff : off < 64) (hi : i < 64) : (mix64 a b (2 ^ off - 1)).testBit i = if i < off then a.testBit i else b.testBit i := by
  unfold mix64
  have hp : 2 ^ off - 1 < 2 ^ 64 := Nat.lt_of_lt_of_le (Nat.sub_lt (Nat.two_pow_pos _) (by omega)) (Nat.pow_le_pow_right (by omega) (by omega))
  rw [show 18446744073709551615 - (2 ^ off - 1) = 2 ^ 64 - ((2 ^ off - 1) + 1) by omega, Nat.testBit_or, Nat.testBit_and, Nat.testBit_and, Nat.testBit_two_pow_sub_succ hp, Nat.testBit_two_pow_sub_one, decide_eq_true hi, Bool.true_and]
  by_cases h : i < off
  · rw [if_pos h, decide_eq_true h]; simp
  · rw [if_neg h, decide_eq_false h]; simp
theorem mix64_is {a b mk : Nat} (ha : a < 18446744073709551616) (hb : b < 18446744073709551616) (hm : mk < 18446744073709551616) : bits .or .u64 (bits .and .u64 (a : Int) (mk : Int)) (bits .andNot .u64 (b : Int) (mk : Int)) = (mix64 a b mk : Int) := by
  rw [u64_and_nat _ _ ha hm, u64_andNot_nat _ _ hb hm]
  exact u64_or_nat _ _ (Nat.lt_of_le_of_lt Nat.and_le_left ha) (Nat.lt_of_le_of_lt Nat.and_le_left hb)
theorem mix64_is' {a b mk : Nat} (ha : a < 18446744073709551616) (hb : b < 18446744073709551616) (hm : mk < 18446744073709551616) : bits .or .u64 (bits .andNot .u64 (a : Int) (mk : Int)) (bits .and .u64 (b : Int) (mk : Int)) = (mix64 b a mk : Int) := by
  rw [u64_and_nat _ _ hb hm, u64_andNot_nat _ _ ha hm]
  unfold mix64
  rw [Nat.or_comm]
  exact u64_or_nat _ _ (Nat.lt_of_le_of_lt Nat.and_le_left ha) (Nat.lt_of_le_of_lt Nat.and_le_left hb)
/-- A word is put, over two words. -/
theorem kn_put {us0 us : List Value} {L f t q off v cur : Nat} {bf : Nat → Bool} (h : KN us0 us L f t bf) (hq : q + 16 ≤ L) (h0 : 1 ≤ off) (hoff : off < 8) (hpos : f + t = 8 * q + off) (hv : v < 18446744073709551616) (hc : cur < 18446744073709551616) (hvb : ∀ i, i < 64 → v.testBit i = bf (t + i)) (hcb : ∀ i, i < off → cur.testBit i = btN us (8 * q + i)) :
    KN us0 (put8 (put8 us q (mix64 cur (rot64 v off) (2 ^ off - 1))) (q + 8) (mix64 (rot64 v off) (wordN us (q + 8)) (2 ^ off - 1))) L f (t + 64) bf ∧ ∀ i, i < off → (mix64 (rot64 v off) (wordN us (q + 8)) (2 ^ off - 1)).testBit i = btN (put8 (put8 us q (mix64 cur (rot64 v off) (2 ^ off - 1))) (q + 8) (mix64 (rot64 v off) (wordN us (q + 8)) (2 ^ off - 1))) (8 * (q + 8) + i) := by
  have k1 := kn_word (m := 64 - off) (q := q) (x := mix64 cur (rot64 v off) (2 ^ off - 1)) h (by omega) (by omega) (by omega) (fun i hi hk => by
    rw [mix64_bit _ _ _ _ (by omega) hi]
    by_cases hio : i < off
    · rw [if_pos hio, if_pos (by omega), hcb i hio]
    · rw [if_neg hio, if_neg (by omega), rot64_bit hv h0 (by omega) hi, if_neg hio, hvb _ (by omega)]
      exact congrArg bf (by omega))
  have k2 := kn_word (m := off) (q := q + 8) (x := mix64 (rot64 v off) (wordN us (q + 8)) (2 ^ off - 1)) k1 (by omega) (by omega) (by omega) (fun i hi hk => by
    have hio : i < off := by omega
    rw [mix64_bit _ _ _ _ (by omega) hi, if_pos hio, if_neg (by omega), rot64_bit hv h0 (by omega) hi, if_pos hio, hvb _ (by omega)]
    exact congrArg bf (by omega))
  rw [show t + (64 - off) + off = t + 64 by omega] at k2
  refine ⟨k2, fun i hi => ?_⟩
  exact (put8_bit (by have := k1.1.1; omega) i (by omega)).symm
end Go.Proofs.YtoceclgljmdkeaaDoor.QR
/- The writer of words: a word. -/
namespace Go.Proofs.YtoceclgljmdkeaaDoor.QR
open Go.RowKit Go.Proofs.YtoceclgljmdkeaaDoorW.PrintWords Go.Proofs.YtoceclgljmdkeaaDoorW.PrintLast Go.Proofs.YtoceclgljmdkeaaDoorW.PrintMore
set_option linter.unusedVariables false
set_option linter.unusedSimpArgs false
/-- The writer's record stays; else but the target nothing. -/
def SW (w : World) (gw gd : Nat) (C : Array Value) (w' : World) : Prop := w'.heap[gw]? = some (.cells C 118 (0, 0)) ∧ Fr w w' gw gd ∧ gw ≠ gd
theorem SW.step {w w1 w2 : World} {gw gd : Nat} {C : Array Value} (h : SW w gw gd C w1) (hb : Below w1.heap.size w1 w2) : SW w gw gd C w2 := ⟨(hb.block _ (blk_lt h.1)).trans h.1, h.2.1.step hb, h.2.2⟩
theorem SW.far {w w1 w2 : World} {gw gd : Nat} {C : Array Value} (h : SW w gw gd C w1) (hf : Fr w1 w2 gd gd) : SW w gw gd C w2 := ⟨(hf.far gw (blk_lt h.1) h.2.2 h.2.2).trans h.1, h.2.1.trans hf.two, h.2.2⟩
theorem SW.cell {w w1 : World} {gw gd : Nat} {C : Array Value} (h : SW w gw gd C w1) {k : Nat} {v : Value} (hk : C[k]? = some v) : w1.cell? ⟨gw, k, none⟩ = some v := (blk_cell h.1 k).trans hk
set_option maxHeartbeats 8000000 in
set_option maxRecDepth 100000 in
theorem pnw1_is {us : List Value} {L : Nat} (gd q n c off len cur v gw et : Nat) (w : World) (hg : w.heap[gw]? = some (.cells (wrC gd q n c off len (2 ^ off - 1) cur) 118 (0, 0))) (h : OkN us L) (hs : w.heap[gd]? = some (.cells us.toArray et (0, 0))) (hne : gd ≠ gw) (h0 : 1 ≤ off) (hoff : off < 8) (hn : 16 ≤ n) (hn2 : n < 1000000) (hL : q + 16 ≤ L) (hnc : n ≤ c) (hv : v < 18446744073709551616) (hcur : cur < 18446744073709551616) :
    Calls Tryd.prog 42 #[.pointer (some ⟨gw, 0, none⟩), .int .u64 (v : Int)] w fun e w' => e = .returned (.tuple #[]) ∧ w'.heap[gd]? = some (.cells (put8 (put8 us q (mix64 cur (rot64 v off) (2 ^ off - 1))) (q + 8) (mix64 (rot64 v off) (wordN us (q + 8)) (2 ^ off - 1))).toArray et (0, 0)) ∧
      w'.heap[gw]? = some (.cells (wrC gd (q + 8) (n - 8) (c - 8) off len (2 ^ off - 1) (mix64 (rot64 v off) (wordN us (q + 8)) (2 ^ off - 1))) 118 (0, 0)) ∧ Fr w w' gw gd := by
  have hmk : 2 ^ off - 1 < 18446744073709551616 := by
    have : 2 ^ off ≤ 2 ^ 8 := Nat.pow_le_pow_right (by omega) (by omega)
    omega
  have eW : bits .or .u64 (IntKind.u64.wrap ((v : Int) * 2 ^ off)) ((v : Int) / 2 ^ (64 - off)) = (rot64 v off : Int) := by rw [IntKind.wrap_u64]; exact rot64_is off hv
  have hWl := rot64_lt off hv
  have hyl := word_lt h (show q + 8 + 8 ≤ L by omega)
  have eC := mix64_is hcur hWl hmk
  have eN := mix64_is' hyl hWl hmk
  have hCl := mix64_lt (2 ^ off - 1) hcur hWl
  have hNl := mix64_lt (2 ^ off - 1) hWl hyl
  have Q8 := Aside0.mk (fun (W : World) (hW : W.heap[gd]? = some (.cells us.toArray et (0, 0))) => rd8 gd (q + 8) (n - 8) (c - 8) et W h (by omega) (by omega) hW)
  have QP1 := Aside0.mk (fun (W : World) (hW : W.heap[gd]? = some (.cells us.toArray et (0, 0))) => wr8 gd q n c et (mix64 cur (rot64 v off) (2 ^ off - 1)) W h (by omega) (by omega) hCl hW)
  have hok1 := put8_ok (x := mix64 cur (rot64 v off) (2 ^ off - 1)) h (show q + 8 ≤ L by omega)
  have QP2 := Aside0.mk (fun (W : World) (hW : W.heap[gd]? = some (.cells (put8 us q (mix64 cur (rot64 v off) (2 ^ off - 1))).toArray et (0, 0))) => wr8 gd (q + 8) (n - 8) (c - 8) et (mix64 (rot64 v off) (wordN us (q + 8)) (2 ^ off - 1)) W hok1 (by omega) (by omega) hNl hW)
  generalize put8 (put8 us q (mix64 cur (rot64 v off) (2 ^ off - 1))) (q + 8) (mix64 (rot64 v off) (wordN us (q + 8)) (2 ^ off - 1)) = us2 at QP2 ⊢
  generalize put8 us q (mix64 cur (rot64 v off) (2 ^ off - 1)) = us1 at QP1 QP2
  generalize mix64 (rot64 v off) (wordN us (q + 8)) (2 ^ off - 1) = nx at eN QP2 ⊢
  generalize mix64 cur (rot64 v off) (2 ^ off - 1) = cw at eC QP1
  generalize wordN us (q + 8) = y at eN Q8
  generalize rot64 v off = rt at eW eC eN
  generalize 2 ^ off - 1 = mk at *
  have Qg := Aside0.mk (And.intro hg (And.intro hs (And.intro hne (And.intro (blk_lt hg) (blk_lt hs)))))
  have hn1 : (8 : Int) ≤ (n : Int) := by omega
  have hc1 : (8 : Int) ≤ (c : Int) := by omega
  have hn8 : 8 ≤ n := by omega
  have hc2 : ¬ c = 8 := by omega
  have hc3 : ¬ c - 8 = 0 := by omega
  have hnci : (n : Int) ≤ (c : Int) := by omega
  have e64 : IntKind.u64.wrap (off : Int) = (off : Int) := wraps_u64 _ (by omega) (by omega)
  have f64 : IntKind.i64.wrap (64 - (off : Int)) = ((64 - off : Nat) : Int) := by rw [IntWalk.i64_in _ (by omega)]; omega
  have n64 : (0 : Int) ≤ 64 - (off : Int) := by omega
  have h0i : ¬ (off : Int) = 0 := by omega
  obtain ⟨c0, c1, c2, c3, c4, zz⟩ := wr_cells hg
  clear hmk hWl hyl hCl hNl hok1 h hs hg hne hn hL hv hcur zz h0
  go_enter Tryd.func42, Tryd.ntmps42
  go_wp2
  go_quiet (fail)
  go_upto_region 3 with fail
  have F1 : Fr w (w.drewN nq).drew gw gd := ((Fr.refl w gw gd).drewN nq).drew
  have hs1 : (w.drewN nq).drew.heap[gd]? = some (.cells us.toArray et (0, 0)) := Qg.out.2.1
  have hg1 : (w.drewN nq).drew.heap[gw]? = _ := Qg.out.1
  have Q81 := Aside0.mk (Q8.out _ hs1)
  have Q1 := Aside0.mk (And.intro F1 (And.intro hs1 hg1))
  clear F1 hs1 hg1
  refine wp_region_still_tail 7 (by kernel_rfl) (by kernel_rfl) ?_; simp only [List.take_succ_cons, List.take_zero, List.drop_succ_cons, List.drop_zero]; change wpStill _ _ (World.drew _) _ _ _; (repeat still_step); refine wpStill_nil ?_; change wpList _ _ _ _ _ (World.drew _)
  generalize (w.drewN nq).drew = W1 at Q81 Q1 ⊢
  clear c0 c1 c2 c3 c4
  go_wp2_with (first | (go_at_call 49; with_reducible refine Calls.mono Q81.out ?_; rintro e w2 ⟨rfl, hb⟩; have h2 := (hb.block gw (blk_lt Q1.out.2.2)).trans Q1.out.2.2; have s2 := (hb.block gd (blk_lt Q1.out.2.1)).trans Q1.out.2.1; obtain ⟨c0, c1, c2, c3, c4, zz⟩ := wr_cells h2; have Q2 := Aside0.mk (And.intro (Q1.out.1.step hb) (And.intro s2 h2)); clear hb h2 s2) | (go_at_call 48; with_reducible refine Calls.mono (tole_is _ _) ?_; rintro e w3 ⟨rfl, rfl⟩))
  clear c0 c1 c2 c3 c4 zz
  refine wp_as (fun V => V.heap[gw]? = some (.cells (wrC gd q n c off len mk cur) 118 (0, 0)) ∧ V.heap[gd]? = some (.cells us.toArray et (0, 0)) ∧ Fr w V gw gd) ⟨Q2.out.2.2, Q2.out.2.1, Q2.out.1⟩ ?_
  rintro V ⟨v1, v2, v3⟩
  obtain ⟨c0, c1, c2, c3, c4, zz⟩ := wr_cells (V := V.drew) v1
  have z4 := zz 4
  have Qv := Aside0.mk (And.intro v1 (And.intro v2 v3))
  clear v1 v2 v3 zz
  refine wp_region_still_tail 19 (by kernel_rfl) (by kernel_rfl) ?_; simp only [List.take_succ_cons, List.take_zero, List.drop_succ_cons, List.drop_zero]; change wpStill _ _ (World.drew _) _ _ _; (repeat still_step); refine wpStill_nil ?_; change wpList _ _ _ _ _ (World.drew _); go_wp2
  clear c0 c1 c2 c3 c4 z4
  refine wp_as (fun V => V.heap[gw]? = some (.cells (wrC gd q n c off len mk cw) 118 (0, 0)) ∧ V.heap[gd]? = some (.cells us.toArray et (0, 0)) ∧ Fr w V gw gd) ⟨blk_set (w := V.drew) Qv.out.1 4 (.int .u64 (cw : Int)), (Below.heap_setCell V.drew ⟨gw, 4, none⟩ (.int .u64 (cw : Int)) gd Qg.out.2.2.1).trans Qv.out.2.1, (Qv.out.2.2.drew).set gw 4 _ (.inl rfl)⟩ ?_
  rintro V5 ⟨v1, v2, v3⟩
  obtain ⟨c0, c1, c2, c3, c4, zz⟩ := wr_cells (V := V5) v1
  have z4 := zz 4
  have Qv := Aside0.mk (And.intro v1 (And.intro v2 v3))
  clear v1 v2 v3 zz
  go_quiet (fail)
  go_upto_region 6 with fail
  clear c0 c1 c2 c3 c4 z4
  refine wp_as (fun V => V.heap[gw]? = some (.cells (wrC gd q n c off len mk cw) 118 (0, 0)) ∧ V.heap[gd]? = some (.cells us.toArray et (0, 0)) ∧ Fr w V gw gd) ⟨Qv.out.1, Qv.out.2.1, Qv.out.2.2.drewN nq⟩ ?_
  rintro V6 ⟨v1, v2, v3⟩
  obtain ⟨c0, c1, c2, c3, c4, zz⟩ := wr_cells (V := V6.drew) v1
  have QS0 : SW w gw gd (wrC gd q n c off len mk cw) V6.drew := ⟨v1, v3.drew, Qg.out.2.2.1.symm⟩
  have g2 : V6.drew.heap[gd]? = _ := v2
  have QS3 : Aside0 (∀ w', SW w gw gd (wrC gd q n c off len mk cw) w' → SW w gw gd (wrC gd q n c off len mk cw) w' ∧ w'.cell? ⟨gw, 0, none⟩ = some (.slice (some ⟨gd, q, none⟩) n c) ∧ w'.cell? ⟨gw, 4, none⟩ = some (.int .u64 (cw : Int))) := ⟨fun (w' : World) (h : SW w gw gd (wrC gd q n c off len mk cw) w') => And.intro h (And.intro (h.cell rfl) (h.cell rfl))⟩
  clear v1 v2 v3 zz c0 c1 c2 c3 c4
  refine wp_noP ?_
  go_region_held3 (fun w' => SW w gw gd (wrC gd q n c off len mk cw) w' ∧ w'.cell? ⟨gw, 0, none⟩ = some (.slice (some ⟨gd, q, none⟩) n c) ∧ w'.cell? ⟨gw, 4, none⟩ = some (.int .u64 (cw : Int))) (first | assumption | exact QS3.out _ QS0 | exact QS3.out _ (SW.step (show SW w gw gd (wrC gd q n c off len mk cw) _ from by (go_split_ands; assumption)) (by assumption)) | exact QS3.out _ (SW.far (show SW w gw gd (wrC gd q n c off len mk cw) _ from by (go_split_ands; assumption)) (by assumption))) (first | (go_at_call 48; with_reducible refine Calls.mono (tole_b _ _) ?_; rintro e w5 ⟨rfl, hb⟩; have s5 := (hb.block gd (blk_lt g2)).trans g2) | (go_at_call 51; with_reducible refine Calls.mono (QP1.out _ (by assumption)) ?_; rintro e w7 ⟨rfl, h1, h2⟩))
  rename_i hH
  have v1 := hH.1.1
  have v2 := h1
  have v3 := hH.1.2.1
  clear hH hb h1 h2 s5 g2 QS0 QS3
  refine noP_normal ?_
  go_upto_region 7 with fail
  have QS0 : SW w gw gd (wrC gd q n c off len mk cw) w7.drew := ⟨v1, v3.drew, Qg.out.2.2.1.symm⟩
  have g2 : w7.drew.heap[gd]? = _ := v2
  have QS3 : Aside0 (∀ w', SW w gw gd (wrC gd q n c off len mk cw) w' → SW w gw gd (wrC gd q n c off len mk cw) w' ∧ w'.cell? ⟨gw, 0, none⟩ = some (.slice (some ⟨gd, q, none⟩) n c)) := ⟨fun (w' : World) (h : SW w gw gd (wrC gd q n c off len mk cw) w') => And.intro h (h.cell (k := 0) rfl)⟩
  clear v1 v2 v3
  refine wp_noP ?_
  go_region_held3 (fun w' => SW w gw gd (wrC gd q n c off len mk cw) w' ∧ w'.cell? ⟨gw, 0, none⟩ = some (.slice (some ⟨gd, q, none⟩) n c)) (first | assumption | exact QS3.out _ QS0 | exact QS3.out _ (SW.step (show SW w gw gd (wrC gd q n c off len mk cw) _ from by (go_split_ands; assumption)) (by assumption)) | exact QS3.out _ (SW.far (show SW w gw gd (wrC gd q n c off len mk cw) _ from by (go_split_ands; assumption)) (by assumption))) (first | (go_at_call 48; with_reducible refine Calls.mono (tole_b _ _) ?_; rintro e w8 ⟨rfl, hb⟩; have s5 := (hb.block gd (blk_lt g2)).trans g2) | (go_at_call 51; with_reducible refine Calls.mono (QP2.out _ (by assumption)) ?_; rintro e w9 ⟨rfl, h1, h2⟩))
  rename_i hH
  have v1 := hH.1.1
  have v2 := h1
  have v3 := hH.1.2.1
  clear hH hb h1 h2 s5 g2 QS0 QS3
  refine noP_normal ?_
  obtain ⟨c0, c1, c2, c3, c4, zz⟩ := wr_cells v1
  have z0 := zz 0
  have z4 := zz 4
  have QV8 := Aside0.mk (And.intro v1 (And.intro v2 v3))
  clear v1 v2 v3 zz
  go_wp2
  go_end0
  exact ⟨rfl, (Below.heap_setCell _ ⟨gw, 0, none⟩ _ gd Qg.out.2.2.1).trans ((Below.heap_setCell _ ⟨gw, 4, none⟩ _ gd Qg.out.2.2.1).trans QV8.out.2.1), blk_set (blk_set QV8.out.1 4 (.int .u64 (nx : Int))) 0 (.slice (some ⟨gd, q + 8, none⟩) (n - 8) (c - 8)), (QV8.out.2.2.set gw 4 _ (.inl rfl)).set gw 0 _ (.inl rfl)⟩
end Go.Proofs.YtoceclgljmdkeaaDoor.QR
/- The writer of words: a word at a byte's edge; both in one. -/
namespace Go.Proofs.YtoceclgljmdkeaaDoor.QR
open Go.RowKit Go.Proofs.YtoceclgljmdkeaaDoorW.PrintWords Go.Proofs.YtoceclgljmdkeaaDoorW.PrintLast Go.Proofs.YtoceclgljmdkeaaDoorW.PrintMore
set_option linter.unusedVariables false
set_option linter.unusedSimpArgs false
set_option maxHeartbeats 8000000 in
set_option maxRecDepth 100000 in
theorem pnw0_is {us : List Value} {L : Nat} (gd q n c len mk cur v gw et : Nat) (w : World) (hg : w.heap[gw]? = some (.cells (wrC gd q n c 0 len mk cur) 118 (0, 0))) (h : OkN us L) (hs : w.heap[gd]? = some (.cells us.toArray et (0, 0))) (hne : gd ≠ gw) (hn : 16 ≤ n) (hn2 : n < 1000000) (hL : q + 16 ≤ L) (hnc : n ≤ c) (hv : v < 18446744073709551616) :
    Calls Tryd.prog 42 #[.pointer (some ⟨gw, 0, none⟩), .int .u64 (v : Int)] w fun e w' => e = .returned (.tuple #[]) ∧ w'.heap[gd]? = some (.cells (put8 us q v).toArray et (0, 0)) ∧
      w'.heap[gw]? = some (.cells (wrC gd (q + 8) (n - 8) (c - 8) 0 len mk cur) 118 (0, 0)) ∧ Fr w w' gw gd := by
  have QP1 := Aside0.mk (fun (W : World) (hW : W.heap[gd]? = some (.cells us.toArray et (0, 0))) => wr8 gd q n c et v W h (by omega) (by omega) hv hW)
  generalize put8 us q v = us1 at QP1 ⊢
  have Qg := Aside0.mk (And.intro hg (And.intro hs (And.intro hne (And.intro (blk_lt hg) (blk_lt hs)))))
  have hn1 : (8 : Int) ≤ (n : Int) := by omega
  have hc1 : (8 : Int) ≤ (c : Int) := by omega
  have hn8 : 8 ≤ n := by omega
  have hc2 : ¬ c = 8 := by omega
  have hc3 : ¬ c - 8 = 0 := by omega
  have hnci : (n : Int) ≤ (c : Int) := by omega
  obtain ⟨c0, c1, c2, c3, c4, zz⟩ := wr_cells hg
  have g2 : w.drew.heap[gd]? = _ := hs
  have QS0 : SW w gw gd (wrC gd q n c 0 len mk cur) w.drew := ⟨hg, (Fr.refl w gw gd).drew, hne.symm⟩
  have QS3 : Aside0 (∀ w', SW w gw gd (wrC gd q n c 0 len mk cur) w' → SW w gw gd (wrC gd q n c 0 len mk cur) w' ∧ w'.cell? ⟨gw, 0, none⟩ = some (.slice (some ⟨gd, q, none⟩) n c)) := ⟨fun (w' : World) (h : SW w gw gd (wrC gd q n c 0 len mk cur) w') => And.intro h (h.cell (k := 0) rfl)⟩
  clear h hs hg hne hn hL hv zz
  go_enter Tryd.func42, Tryd.ntmps42
  go_upto_region 9 with fail
  clear c0 c1 c2 c3 c4
  refine wp_noP ?_
  go_region_held3 (fun w' => SW w gw gd (wrC gd q n c 0 len mk cur) w' ∧ w'.cell? ⟨gw, 0, none⟩ = some (.slice (some ⟨gd, q, none⟩) n c)) (first | assumption | exact QS3.out _ QS0 | exact QS3.out _ (SW.step (show SW w gw gd (wrC gd q n c 0 len mk cur) _ from by (go_split_ands; assumption)) (by assumption)) | exact QS3.out _ (SW.far (show SW w gw gd (wrC gd q n c 0 len mk cur) _ from by (go_split_ands; assumption)) (by assumption))) (first | (go_at_call 48; with_reducible refine Calls.mono (tole_b _ _) ?_; rintro e w8 ⟨rfl, hb⟩; have s5 := (hb.block gd (blk_lt g2)).trans g2) | (go_at_call 51; with_reducible refine Calls.mono (QP1.out _ (by assumption)) ?_; rintro e w9 ⟨rfl, h1, h2⟩))
  rename_i hH
  have v1 := hH.1.1
  have v2 := h1
  have v3 := hH.1.2.1
  clear hH hb h1 h2 s5 g2 QS0 QS3
  refine noP_normal ?_
  obtain ⟨c0, c1, c2, c3, c4, zz⟩ := wr_cells v1
  have z0 := zz 0
  have QV8 := Aside0.mk (And.intro v1 (And.intro v2 v3))
  clear v1 v2 v3 zz
  go_wp2
  go_end0
  exact ⟨rfl, (Below.heap_setCell _ ⟨gw, 0, none⟩ _ gd Qg.out.2.2.1).trans QV8.out.2.1, blk_set QV8.out.1 0 (.slice (some ⟨gd, q + 8, none⟩) (n - 8) (c - 8)), QV8.out.2.2.set gw 0 _ (.inl rfl)⟩
/-- What the writer holds: the place, and the bits of the byte before it. -/
def WrI (w : World) (gd gw L et f t n c len : Nat) (us0 us : List Value) (bf : Nat → Bool) : Prop := ∃ (q off cur : Nat) (A : Option Addr), (w.heap[gw]? = some (.cells #[.slice A n c, .int .i64 (off : Int), .int .i64 (len : Int), .int .u64 ((2 ^ off - 1 : Nat) : Int), .int .u64 (cur : Int)] 118 (0, 0)) ∧ (0 < n → A = some ⟨gd, q, none⟩)) ∧ w.heap[gd]? = some (.cells us.toArray et (0, 0)) ∧ f + t = 8 * q + off ∧ off < 8 ∧ cur < 18446744073709551616 ∧ (∀ i, i < off → cur.testBit i = btN us (8 * q + i)) ∧ KN us0 us L f t bf ∧ q + n = L ∧ n ≤ c ∧ gd ≠ gw ∧ L < 100000
theorem pnw_is {us0 us : List Value} {L : Nat} (gd gw et f t n c len v : Nat) (bf : Nat → Bool) (w : World) (h : WrI w gd gw L et f t n c len us0 us bf) (hn : 16 ≤ n) (hv : v < 18446744073709551616) (hvb : ∀ i, i < 64 → v.testBit i = bf (t + i)) :
    Calls Tryd.prog 42 #[.pointer (some ⟨gw, 0, none⟩), .int .u64 (v : Int)] w fun e w' => ∃ us' : List Value, e = .returned (.tuple #[]) ∧ WrI w' gd gw L et f (t + 64) (n - 8) (c - 8) len us0 us' bf ∧ Fr w w' gw gd := by
  obtain ⟨q, off, cur, A, ⟨h1, hA⟩, h2, h3, h4, h5, h6, h7, h8, h9, h10, h11⟩ := h
  rw [hA (by omega)] at h1
  by_cases h0 : off = 0
  · subst h0
    refine (pnw0_is gd q n c len (2 ^ 0 - 1) cur v gw et w h1 h7.1 h2 h10 hn (by omega) (by omega) h9 hv).mono ?_
    rintro e w' ⟨rfl, k1, k2, k3⟩
    refine ⟨_, rfl, ⟨q + 8, 0, cur, _, ⟨k2, fun _ => rfl⟩, k1, by omega, h4, h5, fun i hi => absurd hi (by omega), ?_, by omega, by omega, h10, h11⟩, k3⟩
    refine kn_word h7 (by omega) (by omega) (by omega) (fun i hi hk => ?_)
    rw [if_neg (by omega), hvb i hi]
    exact congrArg bf (by omega)
  · refine (pnw1_is gd q n c off len cur v gw et w h1 h7.1 h2 h10 (by omega) h4 hn (by omega) (by omega) h9 hv h5).mono ?_
    rintro e w' ⟨rfl, k1, k2, k3⟩
    have hk := kn_put h7 (show q + 16 ≤ L by omega) (by omega) h4 h3 hv h5 hvb h6
    exact ⟨_, rfl, ⟨q + 8, off, _, _, ⟨k2, fun _ => rfl⟩, k1, by omega, h4, mix64_lt _ (rot64_lt _ hv) (word_lt h7.1 (by omega)), hk.2, hk.1, by omega, by omega, h10, h11⟩, k3⟩
end Go.Proofs.YtoceclgljmdkeaaDoor.QR
