/- The reader of words: a byte, a word. -/
import Derived.Test.YtoceclgljmdkeaaDoorA2
namespace Go.Proofs.YtoceclgljmdkeaaDoor.QR
open Go.RowKit Go.Proofs.YtoceclgljmdkeaaDoorW.PrintWords Go.Proofs.YtoceclgljmdkeaaDoorW.PrintLast Go.Proofs.YtoceclgljmdkeaaDoorW.PrintMore
set_option linter.unusedVariables false
set_option linter.unusedSimpArgs false
theorem getlsb_is (c : Nat) (w : World) : Calls Tryd.prog 55 #[.int .u64 (c : Int)] w fun e w' => e = .returned (.int .u8 ((c % 256 : Nat) : Int)) ∧ w' = w := by
  have e1 : IntKind.u8.wrap (c : Int) = ((c % 256 : Nat) : Int) := by simp [IntKind.wrap, IntKind.bits, IntKind.signed]
  generalize ((c % 256 : Nat) : Int) = m at e1 ⊢
  go_enter Tryd.func55, Tryd.ntmps55
  go_wp2
  go_ret
  exact ⟨by rw [← e1]; simp [IntKind.wrap, IntKind.bits, IntKind.signed], rfl⟩
theorem tole_is (c : Int) (w : World) : Calls Tryd.prog 48 #[.int .u64 c] w fun e w' => e = .returned (.int .u64 c) ∧ w' = w := by
  go_enter Tryd.func48, Tryd.ntmps48
  go_wp2
  go_ret
  exact ⟨rfl, rfl⟩
theorem tole_b (c : Int) (w : World) : Calls Tryd.prog 48 #[.int .u64 c] w fun e w' => e = .returned (.int .u64 c) ∧ Below w.heap.size w w' := (tole_is c w).mono (by rintro e w' ⟨rfl, rfl⟩; exact ⟨rfl, Below.refl _ _⟩)
/-- A byte out of two. -/
def join8 (c y off : Nat) : Nat := c % 256 / 2 ^ off ||| y * 2 ^ (8 - off) % 256
theorem join8_lt (c y off : Nat) : join8 c y off < 256 := by
  unfold join8
  exact Nat.or_lt_two_pow (n := 8) (Nat.lt_of_le_of_lt (Nat.div_le_self _ _) (Nat.mod_lt _ (by omega))) (Nat.mod_lt _ (by omega))
theorem join8_bit (c y off i : Nat) (hoff : off < 8) (hi : i < 8) : (join8 c y off).testBit i = if off + i < 8 then c.testBit (off + i) else y.testBit (off + i - 8) := by
  unfold join8
  rw [Nat.testBit_or, Nat.testBit_div_two_pow, show (256 : Nat) = 2 ^ 8 by rfl, Nat.testBit_mod_two_pow, Nat.testBit_mod_two_pow, Nat.testBit_mul_two_pow, decide_eq_true hi, Bool.true_and, Nat.add_comm i off]
  by_cases h : off + i < 8
  · rw [if_pos h, decide_eq_true h, decide_eq_false (by omega), Bool.true_and, Bool.false_and, Bool.or_false]
  · rw [if_neg h, decide_eq_false h, decide_eq_true (by omega), Bool.true_and, Bool.false_and, Bool.false_or]
    congr 1
    omega
theorem join8_is (c y off : Nat) : bits .or .u8 ((c : Int) % 256 / 2 ^ off) ((y : Int) * 2 ^ (8 - off) % 256) = (join8 c y off : Int) := by
  have e1 : ((c : Int) % 256 / 2 ^ off) = ((c % 256 / 2 ^ off : Nat) : Int) := by
    have e : ((2 ^ off : Nat) : Int) = (2 : Int) ^ off := Int.natCast_pow 2 off
    rw [← e]
    exact (Int.natCast_ediv _ _).symm
  have e2 : ((y : Int) * 2 ^ (8 - off) % 256) = ((y * 2 ^ (8 - off) % 256 : Nat) : Int) := by
    have e : ((2 ^ (8 - off) : Nat) : Int) = (2 : Int) ^ (8 - off) := Int.natCast_pow 2 (8 - off)
    rw [← e]
    omega
  rw [e1, e2]
  exact u8_or_nat _ _ (Nat.lt_of_le_of_lt (Nat.div_le_self _ _) (Nat.mod_lt _ (by omega))) (Nat.mod_lt _ (by omega))
set_option maxHeartbeats 8000000 in
set_option maxRecDepth 100000 in
theorem ntbm_is {us : List Value} {L : Nat} (ss q n c off nw tb tby cur g et : Nat) (w : World) (hg : w.heap[g]? = some (.cells (rdC ss q n c off nw tb tby cur) 111 (0, 0))) (h : OkN us L) (hs : w.heap[ss]? = some (.cells us.toArray et (0, 0))) (hne : ss ≠ g) (hoff : off < 8) (htb : 8 < tb) (htb2 : tb < 1000000) (htby : 1 ≤ tby) (hby2 : tby < 1000000) (hn : 2 ≤ n) (hn2 : n < 1000000) (hL : q + n ≤ L) (hnc : n ≤ c)
    (hcur : cur < 18446744073709551616) (hcb : ∀ i, i < 8 → cur.testBit i = btN us (8 * q + i)) :
    Calls Tryd.prog 45 #[.pointer (some ⟨g, 0, none⟩)] w fun e w' => ∃ v : Nat, e = .returned (.tuple #[.int .u8 (v : Int), .int .i64 8]) ∧ (v < 256 ∧ ∀ i, i < 8 → v.testBit i = btN us (8 * q + off + i)) ∧ w'.heap[g]? = some (.cells (rdC ss (q + 1) (n - 1) (c - 1) off nw (tb - 8) (tby - 1) (lsb cur (byN us (q + 1)))) 111 (0, 0)) ∧ Fr w w' g g := by
  obtain ⟨c0, c1, c2, c3, c4, c5, zz⟩ := rd_cells hg
  have z0 := zz 0
  have z3 := zz 3
  have z4 := zz 4
  clear zz
  have ky := (h.at (show q + 1 < L by omega))
  have k := blk_cell hs (q + 1)
  rw [List.getElem?_toArray, ky.1] at k
  have hbits : ∀ i, i < 8 → (if off = 0 then cur % 256 else join8 cur (byN us (q + 1)) off).testBit i = btN us (8 * q + off + i) := fun i hi => by
    by_cases h0 : off = 0
    · subst h0
      rw [if_pos rfl, show (256 : Nat) = 2 ^ 8 by rfl, Nat.testBit_mod_two_pow, decide_eq_true hi, Bool.true_and, hcb i hi]
      rfl
    · rw [if_neg h0, join8_bit _ _ _ _ hoff hi]
      split
      · rw [hcb _ (by omega)]; congr 1; omega
      · rw [← btN_at us (q + 1) _ (by omega)]; congr 1; omega
  have hlt : (if off = 0 then cur % 256 else join8 cur (byN us (q + 1)) off) < 256 := by
    split
    · exact Nat.mod_lt _ (by omega)
    · exact join8_lt _ _ _
  have QL := Aside0.mk (fun w hg => setlsb_is g 5 cur (byN us (q + 1)) (rdC ss (q + 1) (n - 1) (c - 1) off nw tb tby cur) 111 w hg rfl hcur ky.2)
  have QL1 := Aside0.mk (QL.out (w.setCell ⟨g, 0, none⟩ (.slice (some ⟨ss, q + 1, none⟩) (n - 1) (c - 1))) (blk_set hg 0 _))
  clear QL
  generalize byN us (q + 1) = y at k ky hbits hlt QL1 ⊢
  have QH := Aside0.mk (And.intro hbits hlt)
  have Qg := Aside0.mk hg
  have s1 : IntKind.i64.wrap ((tb : Int) - 8) = ((tb - 8 : Nat) : Int) := by rw [IntWalk.i64_in _ (by omega)]; omega
  have s2 : IntKind.i64.wrap ((tby : Int) - 1) = ((tby - 1 : Nat) : Int) := by rw [IntWalk.i64_in _ (by omega)]; omega
  have t1 : (0 : Int) < (tb : Int) := by omega
  have t8 : ¬ (tb : Int) ≤ 8 := by omega
  have hn1 : (1 : Int) ≤ (n : Int) := by omega
  have hc1 : (1 : Int) ≤ (c : Int) := by omega
  have hc2 : ¬ c = 1 := by omega
  have hc3 : ¬ c - 1 = 0 := by omega
  have hnci : (n : Int) ≤ (c : Int) := by omega
  have hn1' : (0 : Int) < ((n - 1 : Nat) : Int) := by omega
  have hn1n : 1 ≤ n := by omega
  have hn2' : 1 < n := by omega
  have e8 : IntKind.i64.wrap (8 - (off : Int)) = ((8 - off : Nat) : Int) := by rw [IntWalk.i64_in _ (by omega)]; omega
  have eo8 : IntKind.u8.wrap (off : Int) = (off : Int) := by simp [IntKind.wrap, IntKind.bits, IntKind.signed]; omega
  have n8 : (0 : Int) ≤ 8 - (off : Int) := by omega
  clear h hs hcb hcur htb htby hn hL hbits hlt hg
  have F : Fr w ((((w.setCell ⟨g, 0, none⟩ (.slice (some ⟨ss, q + 1, none⟩) (n - 1) (c - 1))).setCell ⟨g, 5, none⟩ (.int .u64 (lsb cur y : Int))).setCell ⟨g, 3, none⟩ (.int .i64 ((tb - 8 : Nat) : Int))).setCell ⟨g, 4, none⟩ (.int .i64 ((tby - 1 : Nat) : Int))) g g := ((((Fr.refl w g g).set g 0 _ (.inl rfl)).set g 5 _ (.inl rfl)).set g 3 _ (.inl rfl)).set g 4 _ (.inl rfl)
  have HH := blk_set (blk_set (blk_set (blk_set Qg.out 0 (.slice (some ⟨ss, q + 1, none⟩) (n - 1) (c - 1))) 5 (.int .u64 (lsb cur y : Int))) 3 (.int .i64 ((tb - 8 : Nat) : Int))) 4 (.int .i64 ((tby - 1 : Nat) : Int))
  have QFH := Aside0.mk (And.intro F HH)
  clear F HH
  by_cases h0 : off = 0
  · subst h0
    have QH' := QH.out
    rw [if_pos rfl] at QH'
    have QH := Aside0.mk QH'
    clear QH'
    go_enter Tryd.func45, Tryd.ntmps45
    go_wp2_with (first | (go_at_call 29; with_reducible refine Calls.mono (assert_is _ _ _) ?_; rintro e w1 ⟨rfl, rfl⟩) | (go_at_call 55; with_reducible refine Calls.mono (getlsb_is _ _) ?_; rintro e w1 ⟨rfl, rfl⟩) | (go_at_call 50; with_reducible refine Calls.mono QL1.out ?_; rintro e w1 ⟨rfl, rfl⟩))
    refine bodyPost_ret (v := .tuple #[.int .u8 ((cur : Int) % 256), .int .i64 8]) (by simp [results, Tryd.results45, go_sem]) rfl ?_
    exact ⟨cur % 256, rfl, ⟨QH.out.2, QH.out.1⟩, QFH.out.2, QFH.out.1⟩
  · have QH' := QH.out
    rw [if_neg h0] at QH'
    have QH := Aside0.mk QH'
    clear QH'
    have h0i : ¬ (off : Int) = 0 := by omega
    go_enter Tryd.func45, Tryd.ntmps45
    go_wp2_with (first | (go_at_call 29; with_reducible refine Calls.mono (assert_is _ _ _) ?_; rintro e w1 ⟨rfl, rfl⟩) | (go_at_call 55; with_reducible refine Calls.mono (getlsb_is _ _) ?_; rintro e w1 ⟨rfl, rfl⟩) | (go_at_call 50; with_reducible refine Calls.mono QL1.out ?_; rintro e w1 ⟨rfl, rfl⟩))
    rw [join8_is]
    refine bodyPost_ret (v := .tuple #[.int .u8 (join8 cur y off : Int), .int .i64 8]) (by simp [results, Tryd.results45, go_sem]) rfl ?_
    exact ⟨join8 cur y off, rfl, ⟨QH.out.2, QH.out.1⟩, QFH.out.2, QFH.out.1⟩
/-- A word out of two. -/
def join64 (c y off : Nat) : Nat := c / 2 ^ off ||| y * 2 ^ (64 - off) % 18446744073709551616
theorem join64_lt {c : Nat} (y off : Nat) (hc : c < 18446744073709551616) : join64 c y off < 18446744073709551616 := by
  unfold join64
  exact Nat.or_lt_two_pow (n := 64) (Nat.lt_of_le_of_lt (Nat.div_le_self _ _) hc) (Nat.mod_lt _ (by omega))
theorem join64_bit {c : Nat} (y off i : Nat) (hc : c < 18446744073709551616) (hoff : off < 64) (hi : i < 64) : (join64 c y off).testBit i = if off + i < 64 then c.testBit (off + i) else y.testBit (off + i - 64) := by
  unfold join64
  rw [Nat.testBit_or, Nat.testBit_div_two_pow, show (18446744073709551616 : Nat) = 2 ^ 64 by rfl, Nat.testBit_mod_two_pow, Nat.testBit_mul_two_pow, decide_eq_true hi, Bool.true_and, Nat.add_comm i off]
  by_cases h : off + i < 64
  · rw [if_pos h, decide_eq_false (by omega), Bool.false_and, Bool.or_false]
  · rw [if_neg h, decide_eq_true (by omega), Bool.true_and, Nat.testBit_lt_two_pow (Nat.lt_of_lt_of_le (show c < 2 ^ 64 from hc) (Nat.pow_le_pow_right (by omega) (by omega))), Bool.false_or]
    congr 1
    omega
theorem join64_is {c : Nat} (y off : Nat) (hc : c < 18446744073709551616) : bits .or .u64 ((c : Int) / 2 ^ off) ((y : Int) * 2 ^ (64 - off) % 18446744073709551616) = (join64 c y off : Int) := by
  have e1 : ((c : Int) / 2 ^ off) = ((c / 2 ^ off : Nat) : Int) := by
    have e : ((2 ^ off : Nat) : Int) = (2 : Int) ^ off := Int.natCast_pow 2 off
    rw [← e]
    exact (Int.natCast_ediv _ _).symm
  have e2 : ((y : Int) * 2 ^ (64 - off) % 18446744073709551616) = ((y * 2 ^ (64 - off) % 18446744073709551616 : Nat) : Int) := by
    have e : ((2 ^ (64 - off) : Nat) : Int) = (2 : Int) ^ (64 - off) := Int.natCast_pow 2 (64 - off)
    rw [← e]
    omega
  rw [e1, e2]
  exact u64_or_nat _ _ (Nat.lt_of_le_of_lt (Nat.div_le_self _ _) hc) (Nat.mod_lt _ (by omega))
set_option maxHeartbeats 8000000 in
set_option maxRecDepth 100000 in
theorem nw_is {us : List Value} {L : Nat} (ss q n c off nw tb tby cur g et : Nat) (w : World) (hg : w.heap[g]? = some (.cells (rdC ss q n c off nw tb tby cur) 111 (0, 0))) (h : OkN us L) (hs : w.heap[ss]? = some (.cells us.toArray et (0, 0))) (hne : ss ≠ g) (hoff : off < 8) (hn : 16 ≤ n) (hn2 : n < 1000000) (hL : q + n ≤ L) (hnc : n ≤ c)
    (hcur : cur < 18446744073709551616) (hcb : ∀ i, i < 64 → cur.testBit i = btN us (8 * q + i)) :
    Calls Tryd.prog 43 #[.pointer (some ⟨g, 0, none⟩)] w fun e w' => ∃ v : Nat, e = .returned (.int .u64 (v : Int)) ∧ (v < 18446744073709551616 ∧ ∀ i, i < 64 → v.testBit i = btN us (8 * q + off + i)) ∧ w'.heap[g]? = some (.cells (rdC ss (q + 8) (n - 8) (c - 8) off nw tb tby (wordN us (q + 8))) 111 (0, 0)) ∧ Fr w w' g g := by
  obtain ⟨c0, c1, c2, c3, c4, c5, zz⟩ := rd_cells hg
  have z0 := zz 0
  clear zz
  have hs' := hs
  have hn1 : (8 : Int) ≤ (n : Int) := by omega
  have hc1 : (8 : Int) ≤ (c : Int) := by omega
  have hn8 : 8 ≤ n := by omega
  have hc2 : ¬ c = 8 := by omega
  have hc3 : ¬ c - 8 = 0 := by omega
  have hnci : (n : Int) ≤ (c : Int) := by omega
  have e64 : IntKind.u64.wrap (off : Int) = (off : Int) := wraps_u64 _ (by omega) (by omega)
  have f64 : IntKind.i64.wrap (64 - (off : Int)) = ((64 - off : Nat) : Int) := by rw [IntWalk.i64_in _ (by omega)]; omega
  have n64 : (0 : Int) ≤ 64 - (off : Int) := by omega
  have hwl : wordN us (q + 8) < 18446744073709551616 := word_lt h (by omega)
  have hbits : ∀ i, i < 64 → (if off = 0 then cur else join64 cur (wordN us (q + 8)) off).testBit i = btN us (8 * q + off + i) := fun i hi => by
    by_cases h0 : off = 0
    · subst h0
      rw [if_pos rfl, hcb i hi]
      rfl
    · rw [if_neg h0, join64_bit _ _ _ hcur (by omega) hi]
      split
      · rw [hcb _ (by omega)]; congr 1; omega
      · rw [word_bit h (by omega) _ (by omega)]; congr 1; omega
  have hlt : (if off = 0 then cur else join64 cur (wordN us (q + 8)) off) < 18446744073709551616 := by
    split
    · exact hcur
    · exact join64_lt _ _ hcur
  have QH := Aside0.mk (And.intro hbits (And.intro hlt hcur))
  have Qg := Aside0.mk hg
  have Q8 := Aside0.mk (fun w hs => rd8 (us := us) (L := L) ss (q + 8) (n - 8) (c - 8) et w h (by omega) (by omega) hs)
  have Qs := Aside0.mk (And.intro hs (And.intro hne (blk_lt hs)))
  generalize wordN us (q + 8) = y at QH Q8 ⊢
  clear h hs hs' hne hn hL hbits hlt hcur hcb hg hwl
  go_enter Tryd.func43, Tryd.ntmps43
  go_wp2
  refine wp_as (fun V => V.heap[g]? = some (.cells (rdC ss (q + 8) (n - 8) (c - 8) off nw tb tby cur) 111 (0, 0)) ∧ Fr w V g g) ⟨blk_set Qg.out 0 (.slice (some ⟨ss, q + 8, none⟩) (n - 8) (c - 8)), (Fr.refl w g g).set g 0 _ (.inl rfl)⟩ ?_
  rintro V ⟨v1, v2⟩
  clear c0 c1 c2 c3 c4 c5 z0
  obtain ⟨c0, c1, c2, c3, c4, c5, zz⟩ := rd_cells (V := V.drew) v1
  have z5 := zz 5
  clear zz
  have vs : V.drew.heap[ss]? = some (.cells us.toArray et (0, 0)) := (v2.far ss Qs.out.2.2 Qs.out.2.1 Qs.out.2.1).trans Qs.out.1
  have Q8V := Aside0.mk (Q8.out _ vs)
  have v1' : V.drew.heap[g]? = _ := v1
  have Qv := Aside0.mk (And.intro v1' (And.intro v2.drew vs))
  clear v1 v2 v1' vs Q8
  refine wp_region_still_tail 5 (by kernel_rfl) (by kernel_rfl) ?_; simp only [List.take_succ_cons, List.take_zero, List.drop_succ_cons, List.drop_zero]; change wpStill _ _ (World.drew _) _ _ _; (repeat still_step); refine wpStill_nil ?_; change wpList _ _ _ _ _ (World.drew _)
  generalize V.drew = Vd at Q8V Qv c0 c1 c2 c3 c4 c5 z5 ⊢
  clear c0 c1 c2 c3 c4 c5 z5
  by_cases h0 : off = 0
  · subst h0
    have QH' := QH.out
    rw [if_pos rfl] at QH'
    have QH := Aside0.mk QH'
    clear QH'
    go_wp2_with (first | (go_at_call 49; with_reducible refine Calls.mono Q8V.out ?_; rintro e w2 ⟨rfl, hb⟩; have h2 := (hb.block g (blk_lt Qv.out.1)).trans Qv.out.1; obtain ⟨d0, d1, d2, d3, d4, d5, zz⟩ := rd_cells h2; have y5 := zz 5; have Q2 := Aside0.mk (And.intro h2 (Qv.out.2.1.step hb)); clear hb h2 zz) | (go_at_call 48; with_reducible refine Calls.mono (tole_is _ _) ?_; rintro e w3 ⟨rfl, rfl⟩))
    go_ret
    exact ⟨cur, rfl, ⟨QH.out.2.1, QH.out.1⟩, blk_set Q2.out.1 5 (.int .u64 (y : Int)), Q2.out.2.set g 5 _ (.inl rfl)⟩
  · have QH' := QH.out
    rw [if_neg h0] at QH'
    have QH := Aside0.mk QH'
    clear QH'
    have h0i : ¬ (off : Int) = 0 := by omega
    go_wp2_with (first | (go_at_call 49; with_reducible refine Calls.mono Q8V.out ?_; rintro e w2 ⟨rfl, hb⟩; have h2 := (hb.block g (blk_lt Qv.out.1)).trans Qv.out.1; obtain ⟨d0, d1, d2, d3, d4, d5, zz⟩ := rd_cells h2; have y5 := zz 5; have Q2 := Aside0.mk (And.intro h2 (Qv.out.2.1.step hb)); clear hb h2 zz) | (go_at_call 48; with_reducible refine Calls.mono (tole_is _ _) ?_; rintro e w3 ⟨rfl, rfl⟩))
    go_ret
    refine ⟨join64 cur y off, ?_, ⟨QH.out.2.1, QH.out.1⟩, blk_set Q2.out.1 5 (.int .u64 (y : Int)), Q2.out.2.set g 5 _ (.inl rfl)⟩
    rw [← join64_is y off QH.out.2.2]
    rfl
end Go.Proofs.YtoceclgljmdkeaaDoor.QR
/- The reader of words is made. -/
namespace Go.Proofs.YtoceclgljmdkeaaDoor.QR
open Go.RowKit Go.Proofs.YtoceclgljmdkeaaDoorW.PrintWords Go.Proofs.YtoceclgljmdkeaaDoorW.PrintLast Go.Proofs.YtoceclgljmdkeaaDoorW.PrintMore
set_option linter.unusedVariables false
set_option linter.unusedSimpArgs false
theorem bfb_is (x : Nat) (hx : x < 1000000000) (w : World) : Calls Tryd.prog 24 #[.int .i64 (x : Int)] w fun e w' => e = .returned (.int .i64 (((x + 7) / 8 : Nat) : Int)) ∧ w' = w := by
  have s1 : IntKind.i64.wrap ((x : Int) + 7) = (x : Int) + 7 := IntWalk.i64_in _ (by omega)
  go_enter Tryd.func24, Tryd.ntmps24
  go_wp2
  go_ret
  exact ⟨rfl, rfl⟩
theorem words_is (ss q n c off nw tb tby cur g : Nat) (w : World) (hg : w.heap[g]? = some (.cells (rdC ss q n c off nw tb tby cur) 111 (0, 0))) : Calls Tryd.prog 41 #[.pointer (some ⟨g, 0, none⟩)] w fun e w' => e = .returned (.int .i64 (nw : Int)) ∧ w' = w := by
  obtain ⟨c0, c1, c2, c3, c4, c5, zz⟩ := rd_cells hg
  clear hg zz
  go_enter Tryd.func41, Tryd.ntmps41
  go_wp2
  go_ret
  exact ⟨rfl, rfl⟩
theorem tbytes_is (ss q n c off nw tb tby cur g : Nat) (w : World) (hg : w.heap[g]? = some (.cells (rdC ss q n c off nw tb tby cur) 111 (0, 0))) : Calls Tryd.prog 44 #[.pointer (some ⟨g, 0, none⟩)] w fun e w' => e = .returned (.int .i64 (tby : Int)) ∧ w' = w := by
  obtain ⟨c0, c1, c2, c3, c4, c5, zz⟩ := rd_cells hg
  clear hg zz
  go_enter Tryd.func44, Tryd.ntmps44
  go_wp2
  go_ret
  exact ⟨rfl, rfl⟩
set_option maxHeartbeats 8000000 in
set_option maxRecDepth 100000 in
theorem nwr_is {us : List Value} {L : Nat} (ss n c so len et : Nat) (w : World) (h : OkN us L) (hs : w.heap[ss]? = some (.cells us.toArray et (0, 0))) (hso : so < 100000) (hlen : len < 100000) (hl1 : 1 ≤ len) (hn : so + len ≤ 8 * n) (hL : n ≤ L) (hnc : n ≤ c) :
    Calls Tryd.prog 39 #[.slice (some ⟨ss, 0, none⟩) n c, .int .i64 (so : Int), .int .i64 (len : Int)] w fun e w' => ∃ cur : Nat, e = .returned (.pointer (some ⟨w.heap.size, 0, none⟩)) ∧ (cur < 18446744073709551616 ∧ (∀ i, i < 8 → cur.testBit i = btN us (8 * (so / 8) + i)) ∧ (128 ≤ len → ∀ i, i < 64 → cur.testBit i = btN us (8 * (so / 8) + i))) ∧
      w'.heap[w.heap.size]? = some (.cells (rdC ss (so / 8) ((so % 8 + len + 7) / 8) (c - so / 8) (so % 8) (len / 64 - 1) (len - 64 * (len / 64 - 1)) ((len - 64 * (len / 64 - 1) + 7) / 8) cur) 111 (0, 0)) ∧ Below w.heap.size w w' := by
  obtain ⟨k8, hk8⟩ : ∃ k8, k8 = so / 8 := ⟨_, rfl⟩
  obtain ⟨off, hoff⟩ : ∃ off, off = so % 8 := ⟨_, rfl⟩
  obtain ⟨m, hm⟩ : ∃ m, m = len / 64 := ⟨_, rfl⟩
  obtain ⟨nb, hnb⟩ : ∃ nb, nb = (off + len + 7) / 8 := ⟨_, rfl⟩
  rw [← hk8, ← hoff, ← hm, ← hnb]
  have hd : (so : Int) / 8 = (k8 : Int) := by omega
  have l1 : k8 < 100000 := by omega
  have hmo : (so : Int) % 8 = (off : Int) := by omega
  have hdm : (len : Int) / 64 = (m : Int) := by omega
  obtain ⟨e1, he1⟩ : ∃ e1, e1 = off + len := ⟨_, rfl⟩
  obtain ⟨kn, hkn⟩ : ∃ kn, kn = k8 + nb := ⟨_, rfl⟩
  have Qb := Aside0.mk (fun w => bfb_is e1 (by omega) w)
  rw [he1, ← hnb, ← he1] at Qb
  have s1 : IntKind.i64.wrap ((off : Int) + (len : Int)) = (e1 : Int) := by rw [IntWalk.i64_in _ (by omega)]; omega
  have s2 : IntKind.i64.wrap ((k8 : Int) + (nb : Int)) = (kn : Int) := by rw [IntWalk.i64_in _ (by omega)]; omega
  have b1 : (k8 : Int) ≤ (kn : Int) := by omega
  have b2' : (kn : Int) ≤ (c : Int) := by omega
  have b3' : kn ≤ c := by omega
  have b4 : k8 ≤ kn := by omega
  have b5 : kn - k8 = nb := by omega
  have b6 : ¬ nb = 0 := by omega
  have b9 : (0 : Int) < (nb : Int) := by omega
  have b10 : 0 < nb := by omega
  have b7 : ¬ c - k8 = 0 := by omega
  have b8 : ¬ c = k8 := by omega
  have h8 := h.at (show k8 < L by omega)
  have kk := blk_cell hs k8
  rw [List.getElem?_toArray, h8.1] at kk
  have Qs := Aside0.mk (And.intro hs (And.intro (blk_lt hs) h))
  have Qn := Aside0.mk (And.intro hk8 (And.intro hoff (And.intro hnb (And.intro hm (And.intro hn (And.intro hL (And.intro hso (And.intro he1 hkn))))))))
  have hl0 : (0 : Int) < (len : Int) := by omega
  obtain ⟨x, hx⟩ : ∃ x, x = byN us k8 := ⟨_, rfl⟩
  rw [← hx] at h8 kk
  have Qx := Aside0.mk (And.intro hx h8.2)
  clear hs h hn hL hso hk8 hoff hnb h8 hx he1 hkn
  by_cases hA : len < 64
  · obtain rfl : m = 0 := by omega
    have htb : len = len - 64 * 0 := rfl
    obtain ⟨ty, hty⟩ : ∃ ty, ty = (len + 7) / 8 := ⟨_, rfl⟩
    have Qt := Aside0.mk (fun w => bfb_is len (by omega) w)
    rw [← hty] at Qt
    have Qm := Aside0.mk (And.intro hm (And.intro htb hty))
    clear hm htb hty
    go_enter Tryd.func39, Tryd.ntmps39
    go_upto_region 4 with (first | (go_at_call 24; with_reducible refine Calls.mono (Qb.out _) ?_; rintro e w1 ⟨rfl, rfl⟩))
    obtain ⟨r, hr⟩ : ∃ r, r = w1.heap.size := ⟨_, rfl⟩
    have v0 : (w1.alloc (Obj.cells #[.slice (some ⟨ss, k8, none⟩) nb (c - k8), .int .i64 (off : Int), .int .i64 (-1), .int .i64 0, .int .i64 0, .int .u64 0] 111)).heap[r]? = some (.cells #[.slice (some ⟨ss, k8, none⟩) nb (c - k8), .int .i64 (off : Int), .int .i64 (-1), .int .i64 0, .int .i64 0, .int .u64 0] 111 (0, 0)) := by rw [hr]; exact blk_new w1 _
    have vb : Below r w1 (w1.alloc (Obj.cells #[.slice (some ⟨ss, k8, none⟩) nb (c - k8), .int .i64 (off : Int), .int .i64 (-1), .int .i64 0, .int .i64 0, .int .u64 0] 111)) := by rw [hr]; exact b2 w1 _
    rw [← hr]
    have Hr := Aside0.mk hr
    clear hr
    have kv := cell?_alloc_old (.cells #[.slice (some ⟨ss, k8, none⟩) nb (c - k8), .int .i64 (off : Int), .int .i64 (-1), .int .i64 0, .int .i64 0, .int .u64 0] 111) kk
    generalize (w1.alloc (Obj.cells #[.slice (some ⟨ss, k8, none⟩) nb (c - k8), .int .i64 (off : Int), .int .i64 (-1), .int .i64 0, .int .i64 0, .int .u64 0] 111)) = V at v0 vb kv ⊢
    have x0 : V.cell? ⟨r, 0, none⟩ = some (.slice (some ⟨ss, k8, none⟩) nb (c - k8)) := blk_cell v0 0
    have x1 : V.cell? ⟨r, 1, none⟩ = some (.int .i64 (off : Int)) := blk_cell v0 1
    have x2 : V.cell? ⟨r, 2, none⟩ = some (.int .i64 (-1)) := blk_cell v0 2
    have x3 : V.cell? ⟨r, 3, none⟩ = some (.int .i64 0) := blk_cell v0 3
    have x4 : V.cell? ⟨r, 4, none⟩ = some (.int .i64 0) := blk_cell v0 4
    have f2 := blk_frozen v0 2
    have f3 := blk_frozen v0 3
    have f4 := blk_frozen v0 4
    have Qv := Aside0.mk (And.intro v0 vb)
    clear v0 vb
    go_wp2_with (first | (go_at_call 24; with_reducible refine Calls.mono (Qt.out _) ?_; rintro e w2 ⟨rfl, rfl⟩))
    refine wp_as (fun U => U.heap[r]? = some (.cells (rdC ss k8 nb (c - k8) off 0 len ty 0) 111 (0, 0)) ∧ Below r w1 U) ⟨blk_set (blk_set (blk_set (Qv.out.1) 2 (.int .i64 0)) 3 (.int .i64 (len : Int))) 4 (.int .i64 (ty : Int)), (((Qv.out.2).setCell (Nat.le_refl r) (.int .i64 0)).setCell (Nat.le_refl r) (.int .i64 (len : Int))).setCell (Nat.le_refl r) (.int .i64 (ty : Int))⟩ ?_
    rintro U ⟨u1, u2⟩
    clear x0 x1 x2 x3 x4 f2 f3 f4 kv
    obtain ⟨y0, y1, y2, y3, y4, y5, y6⟩ := rd_cells (V := U.drew) u1
    have ku : U.drew.cell? ⟨ss, k8, none⟩ = some (.int .u8 (x : Int)) := by
      have hu : U.drew.heap[ss]? = some (.cells us.toArray et (0, 0)) := (u2.block ss (by have := Hr.out; have := Qs.out; omega)).trans Qs.out.1
      rw [blk_cell hu k8, List.getElem?_toArray, Qx.out.1]
      exact (Qs.out.2.2.at (by have := Qn.out; omega)).1
    have QL := Aside0.mk (setlsb_is r 5 0 x (rdC ss k8 nb (c - k8) off 0 len ty 0) 111 U.drew u1 rfl (by omega) Qx.out.2)
    have Qu := Aside0.mk (And.intro u1 u2)
    clear u1 u2
    refine wp_region_still_tail 9 (by kernel_rfl) (by kernel_rfl) ?_; simp only [List.take_succ_cons, List.take_zero, List.drop_succ_cons, List.drop_zero]; change wpStill _ _ (World.drew _) _ _ _; (repeat still_step); refine wpStill_nil ?_; change wpList _ _ _ _ _ (World.drew _)
    clear y0 y1 y2 y3 y4 y5 y6 ku
    go_wp2_with (go_at_call 50; with_reducible refine Calls.mono QL.out ?_; rintro e w4 ⟨rfl, rfl⟩)
    go_ret
    rw [← Hr.out]
    refine ⟨lsb 0 x, rfl, ⟨lsb_lt (by omega) Qx.out.2, fun i hi => ?_, fun hh => absurd hh (by omega)⟩, ?_, (Qu.out.2.setCell (Nat.le_refl r) _).drew⟩
    · rw [lsb_bit _ _ _ hi, Qx.out.1, btN_at us k8 i hi]
    have hfin := blk_set (w := U.drew) Qu.out.1 5 (.int .u64 (lsb 0 x : Int))
    have e2 := Qm.out.2.2
    simp only [Nat.sub_self, Nat.zero_sub, Nat.mul_zero, Nat.sub_zero]
    rw [← e2]
    exact hfin
  by_cases hB : len < 128
  · obtain rfl : m = 1 := by omega
    have htb : len = len - 64 * 0 := rfl
    obtain ⟨ty, hty⟩ : ∃ ty, ty = (len + 7) / 8 := ⟨_, rfl⟩
    have Qt := Aside0.mk (fun w => bfb_is len (by omega) w)
    rw [← hty] at Qt
    have Qm := Aside0.mk (And.intro hm (And.intro htb hty))
    clear hm htb hty
    go_enter Tryd.func39, Tryd.ntmps39
    go_upto_region 4 with (first | (go_at_call 24; with_reducible refine Calls.mono (Qb.out _) ?_; rintro e w1 ⟨rfl, rfl⟩))
    obtain ⟨r, hr⟩ : ∃ r, r = w1.heap.size := ⟨_, rfl⟩
    have v0 : (w1.alloc (Obj.cells #[.slice (some ⟨ss, k8, none⟩) nb (c - k8), .int .i64 (off : Int), .int .i64 0, .int .i64 0, .int .i64 0, .int .u64 0] 111)).heap[r]? = some (.cells #[.slice (some ⟨ss, k8, none⟩) nb (c - k8), .int .i64 (off : Int), .int .i64 0, .int .i64 0, .int .i64 0, .int .u64 0] 111 (0, 0)) := by rw [hr]; exact blk_new w1 _
    have vb : Below r w1 (w1.alloc (Obj.cells #[.slice (some ⟨ss, k8, none⟩) nb (c - k8), .int .i64 (off : Int), .int .i64 0, .int .i64 0, .int .i64 0, .int .u64 0] 111)) := by rw [hr]; exact b2 w1 _
    rw [← hr]
    have Hr := Aside0.mk hr
    clear hr
    have kv := cell?_alloc_old (.cells #[.slice (some ⟨ss, k8, none⟩) nb (c - k8), .int .i64 (off : Int), .int .i64 0, .int .i64 0, .int .i64 0, .int .u64 0] 111) kk
    generalize (w1.alloc (Obj.cells #[.slice (some ⟨ss, k8, none⟩) nb (c - k8), .int .i64 (off : Int), .int .i64 0, .int .i64 0, .int .i64 0, .int .u64 0] 111)) = V at v0 vb kv ⊢
    have x0 : V.cell? ⟨r, 0, none⟩ = some (.slice (some ⟨ss, k8, none⟩) nb (c - k8)) := blk_cell v0 0
    have x1 : V.cell? ⟨r, 1, none⟩ = some (.int .i64 (off : Int)) := blk_cell v0 1
    have x2 : V.cell? ⟨r, 2, none⟩ = some (.int .i64 0) := blk_cell v0 2
    have x3 : V.cell? ⟨r, 3, none⟩ = some (.int .i64 0) := blk_cell v0 3
    have x4 : V.cell? ⟨r, 4, none⟩ = some (.int .i64 0) := blk_cell v0 4
    have f2 := blk_frozen v0 2
    have f3 := blk_frozen v0 3
    have f4 := blk_frozen v0 4
    have Qv := Aside0.mk (And.intro v0 vb)
    clear v0 vb
    go_wp2_with (first | (go_at_call 24; with_reducible refine Calls.mono (Qt.out _) ?_; rintro e w2 ⟨rfl, rfl⟩))
    refine wp_as (fun U => U.heap[r]? = some (.cells (rdC ss k8 nb (c - k8) off 0 len ty 0) 111 (0, 0)) ∧ Below r w1 U) ⟨blk_set (blk_set (Qv.out.1) 3 (.int .i64 (len : Int))) 4 (.int .i64 (ty : Int)), ((Qv.out.2).setCell (Nat.le_refl r) (.int .i64 (len : Int))).setCell (Nat.le_refl r) (.int .i64 (ty : Int))⟩ ?_
    rintro U ⟨u1, u2⟩
    clear x0 x1 x2 x3 x4 f2 f3 f4 kv
    obtain ⟨y0, y1, y2, y3, y4, y5, y6⟩ := rd_cells (V := U.drew) u1
    have ku : U.drew.cell? ⟨ss, k8, none⟩ = some (.int .u8 (x : Int)) := by
      have hu : U.drew.heap[ss]? = some (.cells us.toArray et (0, 0)) := (u2.block ss (by have := Hr.out; have := Qs.out; omega)).trans Qs.out.1
      rw [blk_cell hu k8, List.getElem?_toArray, Qx.out.1]
      exact (Qs.out.2.2.at (by have := Qn.out; omega)).1
    have QL := Aside0.mk (setlsb_is r 5 0 x (rdC ss k8 nb (c - k8) off 0 len ty 0) 111 U.drew u1 rfl (by omega) Qx.out.2)
    have Qu := Aside0.mk (And.intro u1 u2)
    clear u1 u2
    refine wp_region_still_tail 9 (by kernel_rfl) (by kernel_rfl) ?_; simp only [List.take_succ_cons, List.take_zero, List.drop_succ_cons, List.drop_zero]; change wpStill _ _ (World.drew _) _ _ _; (repeat still_step); refine wpStill_nil ?_; change wpList _ _ _ _ _ (World.drew _)
    clear y0 y1 y2 y3 y4 y5 y6 ku
    go_wp2_with (go_at_call 50; with_reducible refine Calls.mono QL.out ?_; rintro e w4 ⟨rfl, rfl⟩)
    go_ret
    rw [← Hr.out]
    refine ⟨lsb 0 x, rfl, ⟨lsb_lt (by omega) Qx.out.2, fun i hi => ?_, fun hh => absurd hh (by omega)⟩, ?_, (Qu.out.2.setCell (Nat.le_refl r) _).drew⟩
    · rw [lsb_bit _ _ _ hi, Qx.out.1, btN_at us k8 i hi]
    have hfin := blk_set (w := U.drew) Qu.out.1 5 (.int .u64 (lsb 0 x : Int))
    have e2 := Qm.out.2.2
    simp only [Nat.sub_self, Nat.zero_sub, Nat.mul_zero, Nat.sub_zero]
    rw [← e2]
    exact hfin
  · obtain ⟨m1, rfl⟩ : ∃ m1, m = m1 + 1 := ⟨m - 1, by omega⟩
    have l2 : m1 < 2000 := by omega
    have l3 : (0 : Int) < (m1 : Int) := by omega
    have sm : IntKind.i64.wrap ((m1 : Int) + 1 - 1) = (m1 : Int) := by rw [IntWalk.i64_in _ (by omega)]; omega
    rw [show (((m1 + 1 : Nat)) : Int) = (m1 : Int) + 1 from rfl] at hdm
    obtain ⟨tb, htb⟩ : ∃ tb, tb = len - 64 * m1 := ⟨_, rfl⟩
    have l4 : tb < 100000 := by omega
    have st : IntKind.i64.wrap ((len : Int) - (m1 : Int) * 8 * 8) = (tb : Int) := by rw [IntWalk.i64_in _ (by omega)]; omega
    obtain ⟨ty, hty⟩ : ∃ ty, ty = (tb + 7) / 8 := ⟨_, rfl⟩
    have Qt := Aside0.mk (fun w => bfb_is tb (by omega) w)
    rw [← hty] at Qt
    have Qm := Aside0.mk (And.intro hm (And.intro htb hty))
    clear hm htb hty
    go_enter Tryd.func39, Tryd.ntmps39
    go_upto_region 4 with (first | (go_at_call 24; with_reducible refine Calls.mono (Qb.out _) ?_; rintro e w1 ⟨rfl, rfl⟩))
    obtain ⟨r, hr⟩ : ∃ r, r = w1.heap.size := ⟨_, rfl⟩
    have v0 : (w1.alloc (Obj.cells #[.slice (some ⟨ss, k8, none⟩) nb (c - k8), .int .i64 (off : Int), .int .i64 (m1 : Int), .int .i64 0, .int .i64 0, .int .u64 0] 111)).heap[r]? = some (.cells #[.slice (some ⟨ss, k8, none⟩) nb (c - k8), .int .i64 (off : Int), .int .i64 (m1 : Int), .int .i64 0, .int .i64 0, .int .u64 0] 111 (0, 0)) := by rw [hr]; exact blk_new w1 _
    have vb : Below r w1 (w1.alloc (Obj.cells #[.slice (some ⟨ss, k8, none⟩) nb (c - k8), .int .i64 (off : Int), .int .i64 (m1 : Int), .int .i64 0, .int .i64 0, .int .u64 0] 111)) := by rw [hr]; exact b2 w1 _
    rw [← hr]
    have Hr := Aside0.mk hr
    clear hr
    have kv := cell?_alloc_old (.cells #[.slice (some ⟨ss, k8, none⟩) nb (c - k8), .int .i64 (off : Int), .int .i64 (m1 : Int), .int .i64 0, .int .i64 0, .int .u64 0] 111) kk
    generalize (w1.alloc (Obj.cells #[.slice (some ⟨ss, k8, none⟩) nb (c - k8), .int .i64 (off : Int), .int .i64 (m1 : Int), .int .i64 0, .int .i64 0, .int .u64 0] 111)) = V at v0 vb kv ⊢
    have x0 : V.cell? ⟨r, 0, none⟩ = some (.slice (some ⟨ss, k8, none⟩) nb (c - k8)) := blk_cell v0 0
    have x1 : V.cell? ⟨r, 1, none⟩ = some (.int .i64 (off : Int)) := blk_cell v0 1
    have x2 : V.cell? ⟨r, 2, none⟩ = some (.int .i64 (m1 : Int)) := blk_cell v0 2
    have x3 : V.cell? ⟨r, 3, none⟩ = some (.int .i64 0) := blk_cell v0 3
    have x4 : V.cell? ⟨r, 4, none⟩ = some (.int .i64 0) := blk_cell v0 4
    have f2 := blk_frozen v0 2
    have f3 := blk_frozen v0 3
    have f4 := blk_frozen v0 4
    have Qv := Aside0.mk (And.intro v0 vb)
    clear v0 vb
    go_wp2_with (first | (go_at_call 24; with_reducible refine Calls.mono (Qt.out _) ?_; rintro e w2 ⟨rfl, rfl⟩))
    refine wp_as (fun U => U.heap[r]? = some (.cells (rdC ss k8 nb (c - k8) off m1 tb ty 0) 111 (0, 0)) ∧ Below r w1 U) ⟨blk_set (blk_set (Qv.out.1) 3 (.int .i64 (tb : Int))) 4 (.int .i64 (ty : Int)), ((Qv.out.2).setCell (Nat.le_refl r) (.int .i64 (tb : Int))).setCell (Nat.le_refl r) (.int .i64 (ty : Int))⟩ ?_
    rintro U ⟨u1, u2⟩
    clear x0 x1 x2 x3 x4 f2 f3 f4 kv
    obtain ⟨y0, y1, y2, y3, y4, y5, y6⟩ := rd_cells (V := U.drew) u1
    have ku : U.drew.cell? ⟨ss, k8, none⟩ = some (.int .u8 (x : Int)) := by
      have hu : U.drew.heap[ss]? = some (.cells us.toArray et (0, 0)) := (u2.block ss (by have := Hr.out; have := Qs.out; omega)).trans Qs.out.1
      rw [blk_cell hu k8, List.getElem?_toArray, Qx.out.1]
      exact (Qs.out.2.2.at (by have := Qn.out; omega)).1
    have us1 : U.drew.heap[ss]? = some (.cells us.toArray et (0, 0)) := (u2.block ss (by have := Hr.out; have := Qs.out; omega)).trans Qs.out.1
    have QS0 : ST w1 r ss r us.toArray (.slice (some ⟨ss, k8, none⟩) nb (c - k8)) 6 et 111 U.drew := ⟨us1, ⟨_, u1, rfl, rfl⟩, u2.drew, Nat.le_refl r⟩
    have Q8 := Aside0.mk (fun (W : World) (hW : ST w1 r ss r us.toArray (.slice (some ⟨ss, k8, none⟩) nb (c - k8)) 6 et 111 W) => rd8 ss k8 nb (c - k8) et W Qs.out.2.2 (by have := Qn.out; have := Qm.out; omega) (by have := Qn.out; have := Qm.out; omega) hW.1)
    have hne : ss ≠ r := by have := Hr.out; have := Qs.out; omega
    have QQ := Aside0.mk u1
    clear u1 u2 us1 y0 y1 y2 y3 y4 y5 y6 ku
    have QS3 := Aside0.mk (fun (w' : World) (h : ST w1 r ss r us.toArray (.slice (some ⟨ss, k8, none⟩) nb (c - k8)) 6 et 111 w') => And.intro h (And.intro h.cell (h.fz 5)))
    refine wp_noP ?_
    go_region_held3 (fun w' => ST w1 r ss r us.toArray (.slice (some ⟨ss, k8, none⟩) nb (c - k8)) 6 et 111 w' ∧ w'.cell? ⟨r, 0, none⟩ = some (.slice (some ⟨ss, k8, none⟩) nb (c - k8)) ∧ w'.frozen? ⟨r, 5, none⟩ = false) (first | assumption | exact QS3.out _ QS0 | exact QS3.out _ (ST.step (show ST w1 r ss r us.toArray (.slice (some ⟨ss, k8, none⟩) nb (c - k8)) 6 et 111 _ from by (go_split_ands; assumption)) (by assumption)) | exact QS3.out _ (ST.put (show ST w1 r ss r us.toArray (.slice (some ⟨ss, k8, none⟩) nb (c - k8)) 6 et 111 _ from by (go_split_ands; assumption)) hne (by decide) _)) (first | (go_at_call 49; with_reducible refine Calls.mono (Q8.out _ (show ST w1 r ss r us.toArray (.slice (some ⟨ss, k8, none⟩) nb (c - k8)) 6 et 111 _ from by (go_split_ands; assumption))) ?_; rintro e w4 ⟨rfl, hb⟩) | (go_at_call 48; with_reducible refine Calls.mono (tole_b _ _) ?_; rintro e w5 ⟨rfl, hb⟩; obtain ⟨u5, k5, z5⟩ := ST.any (ST.step (show ST w1 r ss r us.toArray (.slice (some ⟨ss, k8, none⟩) nb (c - k8)) 6 et 111 _ from by (go_split_ands; assumption)) hb) 5 (by decide)))
    rename_i hb1 hH
    have h4 := (hb1.block r (blk_lt QQ.out)).trans (show U.drew.heap[r]? = _ from QQ.out)
    have h5 := (hb.block r (blk_lt h4)).trans h4
    have b5 := (QS0.2.2.1.trans (hb1.mono (Nat.le_of_lt (blk_lt QQ.out)))).trans (hb.mono (Nat.le_of_lt (blk_lt h4)))
    have Q5 := Aside0.mk (And.intro h5 b5)
    clear hH hb hb1 h4 h5 b5 k5 z5 QS0 QS3 QQ Q8
    refine noP_normal ?_
    go_wp2
    go_ret
    rw [← Hr.out]
    refine ⟨wordN us k8, rfl, ⟨word_lt Qs.out.2.2 (by have := Qn.out; have := Qm.out; omega), fun i hi => word_bit Qs.out.2.2 (by have := Qn.out; have := Qm.out; omega) i (by omega), fun _ i hi => word_bit Qs.out.2.2 (by have := Qn.out; have := Qm.out; omega) i hi⟩, ?_, Q5.out.2.setCell (Nat.le_refl r) _⟩
    have hfin := blk_set Q5.out.1 5 (.int .u64 (wordN us k8 : Int))
    have e1 := Qm.out.2.1
    have e2 := Qm.out.2.2
    rw [show m1 + 1 - 1 = m1 from rfl, ← e1, ← e2]
    exact hfin
end Go.Proofs.YtoceclgljmdkeaaDoor.QR
/- The writer of words is made. -/
namespace Go.Proofs.YtoceclgljmdkeaaDoor.QR
open Go.RowKit Go.Proofs.YtoceclgljmdkeaaDoorW.PrintWords Go.Proofs.YtoceclgljmdkeaaDoorW.PrintLast Go.Proofs.YtoceclgljmdkeaaDoorW.PrintMore
set_option linter.unusedVariables false
set_option linter.unusedSimpArgs false
def wrC (gd q n c off len mask cur : Nat) : Array Value := #[.slice (some ⟨gd, q, none⟩) n c, .int .i64 (off : Int), .int .i64 (len : Int), .int .u64 (mask : Int), .int .u64 (cur : Int)]
theorem wr_cells {V : World} {gd q n c off len mask cur g : Nat} (h : V.heap[g]? = some (.cells (wrC gd q n c off len mask cur) 118 (0, 0))) : V.cell? ⟨g, 0, none⟩ = some (.slice (some ⟨gd, q, none⟩) n c) ∧ V.cell? ⟨g, 1, none⟩ = some (.int .i64 (off : Int)) ∧ V.cell? ⟨g, 2, none⟩ = some (.int .i64 (len : Int)) ∧ V.cell? ⟨g, 3, none⟩ = some (.int .u64 (mask : Int)) ∧ V.cell? ⟨g, 4, none⟩ = some (.int .u64 (cur : Int)) ∧ (∀ k, V.frozen? ⟨g, k, none⟩ = false) :=
  ⟨blk_cell h 0, blk_cell h 1, blk_cell h 2, blk_cell h 3, blk_cell h 4, fun k => blk_frozen h k⟩
theorem pw8 {off : Nat} (h : off < 8) : off = 0 ∨ off = 1 ∨ off = 2 ∨ off = 3 ∨ off = 4 ∨ off = 5 ∨ off = 6 ∨ off = 7 := by omega
set_option maxHeartbeats 8000000 in
set_option maxRecDepth 100000 in
theorem nww_is {us : List Value} {L : Nat} (gd n c d len et : Nat) (w : World) (h : OkN us L) (hs : w.heap[gd]? = some (.cells us.toArray et (0, 0))) (hd : d < 100000) (hlen : len < 100000) (hl1 : 1 ≤ len) (hn : d + len ≤ 8 * n) (hL : n ≤ L) (hnc : n ≤ c) :
    Calls Tryd.prog 40 #[.slice (some ⟨gd, 0, none⟩) n c, .int .i64 (d : Int), .int .i64 (len : Int)] w fun e w' => ∃ cur : Nat, e = .returned (.pointer (some ⟨w.heap.size, 0, none⟩)) ∧ (cur < 18446744073709551616 ∧ ∀ i, i < d % 8 → cur.testBit i = btN us (8 * (d / 8) + i)) ∧
      w'.heap[w.heap.size]? = some (.cells (wrC gd (d / 8) (n - d / 8) (c - d / 8) (d % 8) len (2 ^ (d % 8) - 1) cur) 118 (0, 0)) ∧ Below w.heap.size w w' := by
  obtain ⟨k8, hk8⟩ : ∃ k8, k8 = d / 8 := ⟨_, rfl⟩
  obtain ⟨off, hoff⟩ : ∃ off, off = d % 8 := ⟨_, rfl⟩
  rw [← hk8, ← hoff]
  have hdv : (d : Int) / 8 = (k8 : Int) := by omega
  have l1 : k8 < 100000 := by omega
  have l2 : off < 8 := by omega
  have hmo : (d : Int) % 8 = (off : Int) := by omega
  have b1 : (k8 : Int) ≤ (n : Int) := by omega
  have b2' : (n : Int) ≤ (c : Int) := by omega
  have b3' : k8 ≤ n := by omega
  have b8 : ¬ c = k8 := by omega
  have b12 : k8 < n := by omega
  have b11 : ¬ n = k8 := by omega
  have e64 : IntKind.u64.wrap (off : Int) = (off : Int) := wraps_u64 _ (by omega) (by omega)
  have h8 := h.at (show k8 < L by omega)
  have kk := blk_cell hs k8
  rw [List.getElem?_toArray, h8.1] at kk
  have hl0 : (0 : Int) < (len : Int) := by omega
  obtain ⟨x, hx⟩ : ∃ x, x = byN us k8 := ⟨_, rfl⟩
  rw [← hx] at h8 kk
  have Qx := Aside0.mk (And.intro hx h8.2)
  have Qs := Aside0.mk (And.intro hs (And.intro (blk_lt hs) h))
  have Qn := Aside0.mk (And.intro hk8 (And.intro hoff (And.intro hn (And.intro hL hd))))
  clear hs h hn hL hk8 hoff h8 hx hd
  obtain ⟨nn, hnn⟩ : ∃ nn, nn = n - k8 := ⟨_, rfl⟩
  obtain ⟨cc, hcc⟩ : ∃ cc, cc = c - k8 := ⟨_, rfl⟩
  rw [← hnn, ← hcc]
  have b6 : ¬ nn = 0 := by omega
  have b9 : (0 : Int) < (nn : Int) := by omega
  have b10 : 0 < nn := by omega
  have b7 : ¬ cc = 0 := by omega
  have s1 : n - k8 = nn := hnn.symm
  have s2 : c - k8 = cc := hcc.symm
  have Qnn := Aside0.mk hnn
  clear hnn hcc
  obtain ⟨mk, hmk⟩ : ∃ mk, mk = 2 ^ off - 1 := ⟨_, rfl⟩
  have em : IntKind.u64.wrap (IntKind.u64.wrap ((2 : Int) ^ off) - 1) = (mk : Int) := by
    rw [hmk]
    rcases pw8 l2 with rfl | rfl | rfl | rfl | rfl | rfl | rfl | rfl <;> decide
  rw [← hmk]
  have Qk := Aside0.mk hmk
  clear hmk
  by_cases h0 : off = 0
  · subst h0
    have hm0 : mk = 0 := Qk.out
    clear Qk
    subst hm0
    clear em
    go_enter Tryd.func40, Tryd.ntmps40
    go_upto_region 2 with fail
    obtain ⟨r, hr⟩ : ∃ r, r = w.heap.size := ⟨_, rfl⟩
    have v0 : (w.alloc (Obj.cells #[.slice (some ⟨gd, k8, none⟩) nn cc, .int .i64 0, .int .i64 (len : Int), .int .u64 0, .int .u64 0] 118)).heap[r]? = some (.cells (wrC gd k8 nn cc 0 len 0 0) 118 (0, 0)) := by rw [hr]; exact blk_new w _
    have vb : Below r w (w.alloc (Obj.cells #[.slice (some ⟨gd, k8, none⟩) nn cc, .int .i64 0, .int .i64 (len : Int), .int .u64 0, .int .u64 0] 118)) := by rw [hr]; exact b2 w _
    rw [← hr]
    have Hr := Aside0.mk hr
    clear hr
    generalize (w.alloc (Obj.cells #[.slice (some ⟨gd, k8, none⟩) nn cc, .int .i64 0, .int .i64 (len : Int), .int .u64 0, .int .u64 0] 118)) = V at v0 vb ⊢
    obtain ⟨x0, x1, x2, x3, x4, f⟩ := wr_cells v0
    clear f
    have vs : V.heap[gd]? = some (.cells us.toArray et (0, 0)) := (vb.block gd (by have := Hr.out; have := Qs.out; omega)).trans Qs.out.1
    have kv := blk_cell vs k8
    rw [List.getElem?_toArray, (Qs.out.2.2.at (show k8 < L by have := Qn.out; have := Qnn.out; omega)).1, ← Qx.out.1] at kv
    have Qv := Aside0.mk (And.intro v0 (And.intro vb vs))
    clear v0 vb vs
    go_wp2
    go_ret
    rw [← Hr.out]
    exact ⟨0, rfl, ⟨by omega, fun i hi => absurd hi (by omega)⟩, Qv.out.1, Qv.out.2.1⟩
  have h0i : ¬ (off : Int) = 0 := by omega
  by_cases hA : 64 ≤ len
  · have h64 : (64 : Int) ≤ (len : Int) := by omega
    go_enter Tryd.func40, Tryd.ntmps40
    go_upto_region 2 with fail
    obtain ⟨r, hr⟩ : ∃ r, r = w.heap.size := ⟨_, rfl⟩
    have v0 : (w.alloc (Obj.cells #[.slice (some ⟨gd, k8, none⟩) nn cc, .int .i64 (off : Int), .int .i64 (len : Int), .int .u64 (mk : Int), .int .u64 0] 118)).heap[r]? = some (.cells (wrC gd k8 nn cc off len mk 0) 118 (0, 0)) := by rw [hr]; exact blk_new w _
    have vb : Below r w (w.alloc (Obj.cells #[.slice (some ⟨gd, k8, none⟩) nn cc, .int .i64 (off : Int), .int .i64 (len : Int), .int .u64 (mk : Int), .int .u64 0] 118)) := by rw [hr]; exact b2 w _
    rw [← hr]
    have Hr := Aside0.mk hr
    clear hr
    generalize (w.alloc (Obj.cells #[.slice (some ⟨gd, k8, none⟩) nn cc, .int .i64 (off : Int), .int .i64 (len : Int), .int .u64 (mk : Int), .int .u64 0] 118)) = V at v0 vb ⊢
    obtain ⟨x0, x1, x2, x3, x4, f⟩ := wr_cells v0
    clear f
    have vs : V.heap[gd]? = some (.cells us.toArray et (0, 0)) := (vb.block gd (by have := Hr.out; have := Qs.out; omega)).trans Qs.out.1
    have kv := blk_cell vs k8
    rw [List.getElem?_toArray, (Qs.out.2.2.at (show k8 < L by have := Qn.out; have := Qnn.out; omega)).1, ← Qx.out.1] at kv
    have Qv := Aside0.mk (And.intro v0 (And.intro vb vs))
    clear v0 vb vs
    go_wp2
    have QS0 : ST w r gd r us.toArray (.slice (some ⟨gd, k8, none⟩) nn cc) 5 et 118 V.drew := ⟨Qv.out.2.2, ⟨_, Qv.out.1, rfl, rfl⟩, Qv.out.2.1.drew, Nat.le_refl r⟩
    have Q8 := Aside0.mk (fun (W : World) (hW : ST w r gd r us.toArray (.slice (some ⟨gd, k8, none⟩) nn cc) 5 et 118 W) => rd8 gd k8 nn cc et W Qs.out.2.2 (by have := Qn.out; have := Qnn.out; omega) (by have := Qn.out; have := Qnn.out; omega) hW.1)
    have hne : gd ≠ r := by have := Hr.out; have := Qs.out; omega
    have QS3 := Aside0.mk (fun (w' : World) (h : ST w r gd r us.toArray (.slice (some ⟨gd, k8, none⟩) nn cc) 5 et 118 w') => And.intro h (And.intro h.cell (h.fz 4)))
    clear x0 x1 x2 x3 x4 kv
    refine wp_noP ?_
    go_region_held3 (fun w' => ST w r gd r us.toArray (.slice (some ⟨gd, k8, none⟩) nn cc) 5 et 118 w' ∧ w'.cell? ⟨r, 0, none⟩ = some (.slice (some ⟨gd, k8, none⟩) nn cc) ∧ w'.frozen? ⟨r, 4, none⟩ = false) (first | assumption | exact QS3.out _ QS0 | exact QS3.out _ (ST.step (show ST w r gd r us.toArray (.slice (some ⟨gd, k8, none⟩) nn cc) 5 et 118 _ from by (go_split_ands; assumption)) (by assumption)) | exact QS3.out _ (ST.put (show ST w r gd r us.toArray (.slice (some ⟨gd, k8, none⟩) nn cc) 5 et 118 _ from by (go_split_ands; assumption)) hne (by decide) _)) (first | (go_at_call 49; with_reducible refine Calls.mono (Q8.out _ (show ST w r gd r us.toArray (.slice (some ⟨gd, k8, none⟩) nn cc) 5 et 118 _ from by (go_split_ands; assumption))) ?_; rintro e w4 ⟨rfl, hb⟩) | (go_at_call 48; with_reducible refine Calls.mono (tole_b _ _) ?_; rintro e w5 ⟨rfl, hb⟩; obtain ⟨u5, k5, z5⟩ := ST.any (ST.step (show ST w r gd r us.toArray (.slice (some ⟨gd, k8, none⟩) nn cc) 5 et 118 _ from by (go_split_ands; assumption)) hb) 4 (by decide)))
    rename_i hb1 hH
    have h3 : V.drew.heap[r]? = _ := Qv.out.1
    have h4 := (hb1.block r (blk_lt h3)).trans h3
    have h5 := (hb.block r (blk_lt h4)).trans h4
    have b5 := (QS0.2.2.1.trans (hb1.mono (Nat.le_of_lt (blk_lt h3)))).trans (hb.mono (Nat.le_of_lt (blk_lt h4)))
    have Q5 := Aside0.mk (And.intro h5 b5)
    clear hH hb hb1 h3 h4 h5 b5 k5 z5 QS0 QS3 Q8
    refine noP_normal ?_
    go_wp2
    go_ret
    rw [← Hr.out]
    exact ⟨wordN us k8, rfl, ⟨word_lt Qs.out.2.2 (by have := Qn.out; have := Qnn.out; omega), fun i hi => word_bit Qs.out.2.2 (by have := Qn.out; have := Qnn.out; omega) i (by omega)⟩, blk_set Q5.out.1 4 (.int .u64 (wordN us k8 : Int)), Q5.out.2.setCell (Nat.le_refl r) _⟩
  · have h64 : ¬ (64 : Int) ≤ (len : Int) := by omega
    have h64' : ¬ 64 ≤ len := by omega
    go_enter Tryd.func40, Tryd.ntmps40
    go_upto_region 2 with fail
    obtain ⟨r, hr⟩ : ∃ r, r = w.heap.size := ⟨_, rfl⟩
    have v0 : (w.alloc (Obj.cells #[.slice (some ⟨gd, k8, none⟩) nn cc, .int .i64 (off : Int), .int .i64 (len : Int), .int .u64 (mk : Int), .int .u64 0] 118)).heap[r]? = some (.cells (wrC gd k8 nn cc off len mk 0) 118 (0, 0)) := by rw [hr]; exact blk_new w _
    have vb : Below r w (w.alloc (Obj.cells #[.slice (some ⟨gd, k8, none⟩) nn cc, .int .i64 (off : Int), .int .i64 (len : Int), .int .u64 (mk : Int), .int .u64 0] 118)) := by rw [hr]; exact b2 w _
    rw [← hr]
    have Hr := Aside0.mk hr
    clear hr
    generalize (w.alloc (Obj.cells #[.slice (some ⟨gd, k8, none⟩) nn cc, .int .i64 (off : Int), .int .i64 (len : Int), .int .u64 (mk : Int), .int .u64 0] 118)) = V at v0 vb ⊢
    obtain ⟨x0, x1, x2, x3, x4, f⟩ := wr_cells v0
    clear f
    have vs : V.heap[gd]? = some (.cells us.toArray et (0, 0)) := (vb.block gd (by have := Hr.out; have := Qs.out; omega)).trans Qs.out.1
    have kv := blk_cell vs k8
    rw [List.getElem?_toArray, (Qs.out.2.2.at (show k8 < L by have := Qn.out; have := Qnn.out; omega)).1, ← Qx.out.1] at kv
    have Qv := Aside0.mk (And.intro v0 (And.intro vb vs))
    clear v0 vb vs
    go_wp2
    have QL := Aside0.mk (setlsb_is r 4 0 x (wrC gd k8 nn cc off len mk 0) 118 V.drew Qv.out.1 rfl (by omega) Qx.out.2)
    clear x0 x1 x2 x3 x4 kv
    have hv := Qv.out.1
    obtain ⟨y0, y1, y2, y3, y4, f⟩ := wr_cells (V := V.drew) hv
    clear f hv
    have ku : V.drew.cell? ⟨gd, k8, none⟩ = some (.int .u8 (x : Int)) := by
      have hu : V.drew.heap[gd]? = some (.cells us.toArray et (0, 0)) := Qv.out.2.2
      rw [blk_cell hu k8, List.getElem?_toArray, Qx.out.1]
      exact (Qs.out.2.2.at (by have := Qn.out; have := Qnn.out; omega)).1
    refine wp_region_still_tail 9 (by kernel_rfl) (by kernel_rfl) ?_; simp only [List.take_succ_cons, List.take_zero, List.drop_succ_cons, List.drop_zero]; change wpStill _ _ (World.drew _) _ _ _; (repeat still_step); refine wpStill_nil ?_; change wpList _ _ _ _ _ (World.drew _)
    clear y0 y1 y2 y3 y4 ku
    go_wp2_with (go_at_call 50; with_reducible refine Calls.mono QL.out ?_; rintro e w4 ⟨rfl, rfl⟩)
    go_ret
    rw [← Hr.out]
    refine ⟨lsb 0 x, rfl, ⟨lsb_lt (by omega) Qx.out.2, fun i hi => ?_⟩, ?_, (Qv.out.2.1.setCell (Nat.le_refl r) _).drew⟩
    · rw [lsb_bit _ _ _ (by omega), Qx.out.1, btN_at us k8 i (by omega)]
    exact blk_set (w := V.drew) Qv.out.1 4 (.int .u64 (lsb 0 x : Int))
end Go.Proofs.YtoceclgljmdkeaaDoor.QR
