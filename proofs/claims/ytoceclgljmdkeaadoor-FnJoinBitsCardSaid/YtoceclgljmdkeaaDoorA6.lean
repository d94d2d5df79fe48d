/- The writer of words: a byte. -/
import Derived.Test.YtoceclgljmdkeaaDoorA5
namespace Go.Proofs.YtoceclgljmdkeaaDoor.QR
open Go.RowKit Go.Proofs.YtoceclgljmdkeaaDoorW.PrintWords Go.Proofs.YtoceclgljmdkeaaDoorW.PrintLast Go.Proofs.YtoceclgljmdkeaaDoorW.PrintMore
set_option linter.unusedVariables false
set_option linter.unusedSimpArgs false
def rot8 (v off : Nat) : Nat := v * 2 ^ off % 256 ||| v / 2 ^ (8 - off)
theorem rot8_lt {v : Nat} (off : Nat) (hv : v < 256) : rot8 v off < 256 := by
  unfold rot8
  exact Nat.or_lt_two_pow (n := 8) (Nat.mod_lt _ (by omega)) (Nat.lt_of_le_of_lt (Nat.div_le_self _ _) hv)
theorem rot8_bit {v off i : Nat} (hv : v < 256) (h0 : 1 ≤ off) (hoff : off < 8) (hi : i < 8) : (rot8 v off).testBit i = if i < off then v.testBit (8 - off + i) else v.testBit (i - off) := by
  unfold rot8
  rw [Nat.testBit_or, Nat.testBit_div_two_pow, show (256 : Nat) = 2 ^ 8 by rfl, Nat.testBit_mod_two_pow, Nat.testBit_mul_two_pow, decide_eq_true hi, Bool.true_and]
  by_cases h : i < off
  · rw [if_pos h, decide_eq_false (by omega), Bool.false_and, Bool.false_or, Nat.add_comm]
  · rw [if_neg h, decide_eq_true (by omega), Bool.true_and, Nat.testBit_lt_two_pow (i := i + (8 - off)) (Nat.lt_of_lt_of_le (show v < 2 ^ 8 from hv) (Nat.pow_le_pow_right (by omega) (by omega))), Bool.or_false]
theorem rot8_is {v : Nat} (off : Nat) (hv : v < 256) : bits .or .u8 ((v : Int) * 2 ^ off % 256) ((v : Int) / 2 ^ (8 - off)) = (rot8 v off : Int) := by
  have e1 : ((v : Int) / 2 ^ (8 - off)) = ((v / 2 ^ (8 - off) : Nat) : Int) := by
    have e : ((2 ^ (8 - off) : Nat) : Int) = (2 : Int) ^ (8 - off) := Int.natCast_pow 2 (8 - off)
    rw [← e]
    exact (Int.natCast_ediv _ _).symm
  have e2 : ((v : Int) * 2 ^ off % 256) = ((v * 2 ^ off % 256 : Nat) : Int) := by
    have e : ((2 ^ off : Nat) : Int) = (2 : Int) ^ off := Int.natCast_pow 2 off
    rw [← e]
    omega
  rw [e1, e2]
  exact u8_or_nat _ _ (Nat.mod_lt _ (by omega)) (Nat.lt_of_le_of_lt (Nat.div_le_self _ _) hv)
def mix8 (a b mk : Nat) : Nat := a &&& mk ||| b &&& (255 - mk)
theorem mix8_lt {a b : Nat} (mk : Nat) (ha : a < 256) (hb : b < 256) : mix8 a b mk < 256 := by
  unfold mix8
  exact Nat.or_lt_two_pow (n := 8) (Nat.lt_of_le_of_lt Nat.and_le_left ha) (Nat.lt_of_le_of_lt Nat.and_le_left hb)
theorem mix8_bit (a b off i : Nat) (hoff : off < 8) (hi : i < 8) : (mix8 a b (2 ^ off - 1)).testBit i = if i < off then a.testBit i else b.testBit i := by
  unfold mix8
  have hp : 2 ^ off - 1 < 2 ^ 8 := Nat.lt_of_lt_of_le (Nat.sub_lt (Nat.two_pow_pos _) (by omega)) (Nat.pow_le_pow_right (by omega) (by omega))
  rw [show 255 - (2 ^ off - 1) = 2 ^ 8 - ((2 ^ off - 1) + 1) by omega, Nat.testBit_or, Nat.testBit_and, Nat.testBit_and, Nat.testBit_two_pow_sub_succ hp, Nat.testBit_two_pow_sub_one, decide_eq_true hi, Bool.true_and]
  by_cases h : i < off
  · rw [if_pos h, decide_eq_true h]; simp
  · rw [if_neg h, decide_eq_false h]; simp
theorem mix8_is {a b mk : Nat} (ha : a < 256) (hb : b < 256) (hm : mk < 256) : bits .or .u8 (bits .and .u8 (a : Int) (mk : Int)) (bits .andNot .u8 (b : Int) (mk : Int)) = (mix8 a b mk : Int) := by
  rw [u8_and_nat _ _ ha hm, u8_andNot_nat _ _ hb hm]
  exact u8_or_nat _ _ (Nat.lt_of_le_of_lt Nat.and_le_left ha) (Nat.lt_of_le_of_lt Nat.and_le_left hb)
theorem mix8_is' {a b mk : Nat} (ha : a < 256) (hb : b < 256) (hm : mk < 256) : bits .or .u8 (bits .andNot .u8 (a : Int) (mk : Int)) (bits .and .u8 (b : Int) (mk : Int)) = (mix8 b a mk : Int) := by
  rw [u8_and_nat _ _ hb hm, u8_andNot_nat _ _ ha hm]
  unfold mix8
  rw [Nat.or_comm]
  exact u8_or_nat _ _ (Nat.lt_of_le_of_lt Nat.and_le_left ha) (Nat.lt_of_le_of_lt Nat.and_le_left hb)
theorem kn_put8 {us0 us : List Value} {L f t q off v cur : Nat} {bf : Nat → Bool} (h : KN us0 us L f t bf) (hq : q + 2 ≤ L) (h0 : 1 ≤ off) (hoff : off < 8) (hpos : f + t = 8 * q + off) (hv : v < 256) (hc : cur < 256) (hvb : ∀ i, i < 8 → v.testBit i = bf (t + i)) (hcb : ∀ i, i < off → cur.testBit i = btN us (8 * q + i)) :
    KN us0 ((us.set q (.int .u8 (mix8 cur (rot8 v off) (2 ^ off - 1) : Int))).set (q + 1) (.int .u8 (mix8 (rot8 v off) (byN us (q + 1)) (2 ^ off - 1) : Int))) L f (t + 8) bf ∧ ∀ i, i < off → (mix8 (rot8 v off) (byN us (q + 1)) (2 ^ off - 1)).testBit i = btN ((us.set q (.int .u8 (mix8 cur (rot8 v off) (2 ^ off - 1) : Int))).set (q + 1) (.int .u8 (mix8 (rot8 v off) (byN us (q + 1)) (2 ^ off - 1) : Int))) (8 * (q + 1) + i) := by
  have hb1 := (h.1.at (show q + 1 < L by omega)).2
  have k1 := kn_byte (m := 8 - off) (q := q) (x := mix8 cur (rot8 v off) (2 ^ off - 1)) h (by omega) (mix8_lt _ hc (rot8_lt _ hv)) (by omega) (by omega) (fun i hi hk => by
    rw [mix8_bit _ _ _ _ (by omega) hi]
    by_cases hio : i < off
    · rw [if_pos hio, if_pos (by omega), hcb i hio]
    · rw [if_neg hio, if_neg (by omega), rot8_bit hv h0 (by omega) hi, if_neg hio, hvb _ (by omega)]
      exact congrArg bf (by omega))
  have k2 := kn_byte (m := off) (q := q + 1) (x := mix8 (rot8 v off) (byN us (q + 1)) (2 ^ off - 1)) k1 (by omega) (mix8_lt _ (rot8_lt _ hv) hb1) (by omega) (by omega) (fun i hi hk => by
    have hio : i < off := by omega
    rw [mix8_bit _ _ _ _ (by omega) hi, if_pos hio, if_neg (by omega), rot8_bit hv h0 (by omega) hi, if_pos hio, hvb _ (by omega)]
    exact congrArg bf (by omega))
  rw [show t + (8 - off) + off = t + 8 by omega] at k2
  refine ⟨k2, fun i hi => ?_⟩
  rw [btN_at _ _ _ (by omega), byN_set (by have := k1.1.1; omega)]
set_option maxHeartbeats 8000000 in
set_option maxRecDepth 100000 in
theorem ptb1_is {us : List Value} {L : Nat} (gd q n c off len cur v gw et : Nat) (w : World) (hg : w.heap[gw]? = some (.cells (wrC gd q n c off len (2 ^ off - 1) cur) 118 (0, 0))) (h : OkN us L) (hs : w.heap[gd]? = some (.cells us.toArray et (0, 0))) (hne : gd ≠ gw) (h0 : 1 ≤ off) (hoff : off < 8) (hn : 2 ≤ n) (hn2 : n < 1000000) (hL : q + 2 ≤ L) (hnc : n ≤ c) (hv : v < 256) :
    Calls Tryd.prog 46 #[.pointer (some ⟨gw, 0, none⟩), .int .u8 (v : Int), .int .i64 8] w fun e w' => e = .returned (.tuple #[]) ∧ w'.heap[gd]? = some (.cells ((us.set q (.int .u8 (mix8 (cur % 256) (rot8 v off) (2 ^ off - 1) : Int))).set (q + 1) (.int .u8 (mix8 (rot8 v off) (byN us (q + 1)) (2 ^ off - 1) : Int))).toArray et (0, 0)) ∧
      w'.heap[gw]? = some (.cells (wrC gd (q + 1) (n - 1) (c - 1) off len (2 ^ off - 1) (mix8 (rot8 v off) (byN us (q + 1)) (2 ^ off - 1))) 118 (0, 0)) ∧ Fr w w' gw gd := by
  have hmk : 2 ^ off - 1 < 256 := by
    have : 2 ^ off ≤ 2 ^ 8 := Nat.pow_le_pow_right (by omega) (by omega)
    omega
  have ky := h.at (show q + 1 < L by omega)
  have kx := h.at (show q < L by omega)
  have hcl : cur % 256 < 256 := Nat.mod_lt _ (by omega)
  have eW := rot8_is off hv
  have hWl := rot8_lt off hv
  have eC := mix8_is hcl hWl hmk
  have eN := mix8_is' ky.2 hWl hmk
  have hNl := mix8_lt (2 ^ off - 1) hWl ky.2
  have QL := Aside0.mk (getlsb_is cur)
  generalize byN us (q + 1) = y at *
  generalize byN us q = x0 at *
  generalize mix8 (rot8 v off) y (2 ^ off - 1) = nx at *
  generalize mix8 (cur % 256) (rot8 v off) (2 ^ off - 1) = cw at *
  generalize rot8 v off = rt at *
  generalize 2 ^ off - 1 = mk at *
  generalize cur % 256 = cb at *
  have Qg := Aside0.mk (And.intro hg (And.intro hs (And.intro hne (And.intro (blk_lt hg) (blk_lt hs)))))
  have e8 : IntKind.u8.wrap (mk : Int) = (mk : Int) := by simp [IntKind.wrap, IntKind.bits, IntKind.signed]; omega
  have e8' : (mk : Int) % 256 = (mk : Int) := by omega
  have enx : IntKind.u64.wrap (nx : Int) = (nx : Int) := wraps_u64 _ (by omega) (by omega)
  have f8 : IntKind.i64.wrap (8 - (off : Int)) = ((8 - off : Nat) : Int) := by rw [IntWalk.i64_in _ (by omega)]; omega
  have n8 : (0 : Int) ≤ 8 - (off : Int) := by omega
  have h0i : ¬ (off : Int) = 0 := by omega
  have hn1 : (1 : Int) ≤ (n : Int) := by omega
  have hn1' : (1 : Int) < (n : Int) := by omega
  have hn0 : (0 : Int) < (n : Int) := by omega
  have hc1 : (1 : Int) ≤ (c : Int) := by omega
  have hn8 : 1 ≤ n := by omega
  have hc2 : ¬ c = 1 := by omega
  have hc3 : ¬ c - 1 = 0 := by omega
  have hnci : (n : Int) ≤ (c : Int) := by omega
  obtain ⟨c0, c1, c2, c3, c4, zz⟩ := wr_cells hg
  have z0 := zz 0
  have z4 := zz 4
  have k1 := blk_cell hs (q + 1)
  have k0 := blk_cell hs q
  rw [List.getElem?_toArray, ky.1] at k1
  rw [List.getElem?_toArray, kx.1] at k0
  have y0 := blk_frozen hs q
  have y1 := blk_frozen hs (q + 1)
  have hne1 : ¬ gd = gw := hne
  have hne2 : ¬ gw = gd := hne.symm
  clear hmk hWl hNl hcl h hs hg hne hn hL hv zz h0 ky kx
  go_enter Tryd.func46, Tryd.ntmps46
  go_wp2_with (go_at_call 55; with_reducible refine Calls.mono (QL.out _) ?_; rintro e w1 ⟨rfl, rfl⟩)
  go_quiet (fail)
  go_wp2
  go_quiet (fail)
  go_wp2
  go_quiet (fail)
  go_wp2
  go_end0
  have hgw := (Below.heap_setCell ((w1.setCell ⟨gd, q, none⟩ (.int .u8 (cw : Int)))) ⟨gd, q + 1, none⟩ (.int .u8 (nx : Int)) gw hne2).trans ((Below.heap_setCell w1 ⟨gd, q, none⟩ (.int .u8 (cw : Int)) gw hne2).trans Qg.out.1)
  have hgd := blk_set (blk_set Qg.out.2.1 q (.int .u8 (cw : Int))) (q + 1) (.int .u8 (nx : Int))
  simp only [List.setIfInBounds_toArray] at hgd
  exact ⟨rfl, (Below.heap_setCell _ ⟨gw, 0, none⟩ _ gd hne1).trans ((Below.heap_setCell _ ⟨gw, 4, none⟩ _ gd hne1).trans hgd), blk_set (blk_set hgw 4 (.int .u64 (nx : Int))) 0 (.slice (some ⟨gd, q + 1, none⟩) (n - 1) (c - 1)), (((((Fr.refl w1 gw gd).drewN _).set gd q _ (.inr rfl)).set gd (q + 1) _ (.inr rfl)).set gw 4 _ (.inl rfl)).set gw 0 _ (.inl rfl)⟩
set_option maxHeartbeats 8000000 in
set_option maxRecDepth 100000 in
theorem ptb0_is {us : List Value} {L : Nat} (gd q n c len mk cur v gw et : Nat) (w : World) (hg : w.heap[gw]? = some (.cells (wrC gd q n c 0 len mk cur) 118 (0, 0))) (h : OkN us L) (hs : w.heap[gd]? = some (.cells us.toArray et (0, 0))) (hne : gd ≠ gw) (hn : 1 ≤ n) (hn2 : n < 1000000) (hL : q + 1 ≤ L) (hnc : n ≤ c) :
    Calls Tryd.prog 46 #[.pointer (some ⟨gw, 0, none⟩), .int .u8 (v : Int), .int .i64 8] w fun e w' => e = .returned (.tuple #[]) ∧ w'.heap[gd]? = some (.cells (us.set q (.int .u8 (v : Int))).toArray et (0, 0)) ∧
      (∃ A : Option Addr, w'.heap[gw]? = some (.cells #[.slice A (n - 1) (c - 1), .int .i64 0, .int .i64 (len : Int), .int .u64 (mk : Int), .int .u64 (cur : Int)] 118 (0, 0)) ∧ (0 < n - 1 → A = some ⟨gd, q + 1, none⟩)) ∧ Fr w w' gw gd := by
  have kx := h.at (show q < L by omega)
  have QL := Aside0.mk (getlsb_is cur)
  generalize byN us q = x0 at *
  generalize cur % 256 = cb at *
  have Qg := Aside0.mk (And.intro hg (And.intro hs hne))
  have hn1 : (1 : Int) ≤ (n : Int) := by omega
  have hn0 : (0 : Int) < (n : Int) := by omega
  have hc1 : (1 : Int) ≤ (c : Int) := by omega
  have hn8 : 1 ≤ n := by omega
  have hnci : (n : Int) ≤ (c : Int) := by omega
  obtain ⟨c0, c1, c2, c3, c4, zz⟩ := wr_cells hg
  have z0 := zz 0
  have k0 := blk_cell hs q
  rw [List.getElem?_toArray, kx.1] at k0
  have y0 := blk_frozen hs q
  have hne1 : ¬ gd = gw := hne
  have hne2 : ¬ gw = gd := hne.symm
  clear h hs hg hne hL zz kx
  by_cases hc2 : c = 1
  · subst hc2
    have hnn : n = 1 := by omega
    subst hnn
    clear hn hn1 hn0 hc1 hn8 hnci hnc hn2
    go_enter Tryd.func46, Tryd.ntmps46
    go_wp2_with (go_at_call 55; with_reducible refine Calls.mono (QL.out _) ?_; rintro e w1 ⟨rfl, rfl⟩)
    go_end0
    have hgw := (Below.heap_setCell w1 ⟨gd, q, none⟩ (.int .u8 (v : Int)) gw hne2).trans Qg.out.1
    have hgd := blk_set Qg.out.2.1 q (.int .u8 (v : Int))
    simp only [List.setIfInBounds_toArray] at hgd
    exact ⟨rfl, (Below.heap_setCell _ ⟨gw, 0, none⟩ _ gd hne1).trans hgd, ⟨_, blk_set hgw 0 (.slice (some ⟨gd, q, none⟩) 0 0), fun h => absurd h (by omega)⟩, ((Fr.refl w1 gw gd).set gd q _ (.inr rfl)).set gw 0 _ (.inl rfl)⟩
  · have hc3 : ¬ c - 1 = 0 := by omega
    go_enter Tryd.func46, Tryd.ntmps46
    go_wp2_with (go_at_call 55; with_reducible refine Calls.mono (QL.out _) ?_; rintro e w1 ⟨rfl, rfl⟩)
    go_end0
    have hgw := (Below.heap_setCell w1 ⟨gd, q, none⟩ (.int .u8 (v : Int)) gw hne2).trans Qg.out.1
    have hgd := blk_set Qg.out.2.1 q (.int .u8 (v : Int))
    simp only [List.setIfInBounds_toArray] at hgd
    exact ⟨rfl, (Below.heap_setCell _ ⟨gw, 0, none⟩ _ gd hne1).trans hgd, ⟨_, blk_set hgw 0 (.slice (some ⟨gd, q + 1, none⟩) (n - 1) (c - 1)), fun _ => rfl⟩, ((Fr.refl w1 gw gd).set gd q _ (.inr rfl)).set gw 0 _ (.inl rfl)⟩
theorem ptb_is {us0 us : List Value} {L : Nat} (gd gw et f t n c len v : Nat) (bf : Nat → Bool) (w : World) (h : WrI w gd gw L et f t n c len us0 us bf) (hn : f + t + 8 ≤ 8 * L) (hv : v < 256) (hvb : ∀ i, i < 8 → v.testBit i = bf (t + i)) :
    Calls Tryd.prog 46 #[.pointer (some ⟨gw, 0, none⟩), .int .u8 (v : Int), .int .i64 8] w fun e w' => ∃ us' : List Value, e = .returned (.tuple #[]) ∧ WrI w' gd gw L et f (t + 8) (n - 1) (c - 1) len us0 us' bf ∧ Fr w w' gw gd := by
  obtain ⟨q, off, cur, A, ⟨h1, hA⟩, h2, h3, h4, h5, h6, h7, h8, h9, h10, h11⟩ := h
  rw [hA (by omega)] at h1
  by_cases h0 : off = 0
  · subst h0
    refine (ptb0_is gd q n c len (2 ^ 0 - 1) cur v gw et w h1 h7.1 h2 h10 (by omega) (by omega) (by omega) h9).mono ?_
    rintro e w' ⟨rfl, k1, ⟨A', k2, kA⟩, k3⟩
    refine ⟨_, rfl, ⟨q + 1, 0, cur, A', ⟨k2, kA⟩, k1, by omega, h4, h5, fun i hi => absurd hi (by omega), ?_, by omega, by omega, h10, h11⟩, k3⟩
    refine kn_byte h7 (by omega) hv (by omega) (by omega) (fun i hi hk => ?_)
    rw [if_neg (by omega), hvb i hi]
    exact congrArg bf (by omega)
  · refine (ptb1_is gd q n c off len cur v gw et w h1 h7.1 h2 h10 (by omega) h4 (by omega) (by omega) (by omega) h9 hv).mono ?_
    rintro e w' ⟨rfl, k1, k2, k3⟩
    have hcb : ∀ i, i < off → (cur % 256).testBit i = btN us (8 * q + i) := fun i hi => by
      rw [show (256 : Nat) = 2 ^ 8 by rfl, Nat.testBit_mod_two_pow, decide_eq_true (by omega), Bool.true_and]
      exact h6 i hi
    have hk := kn_put8 h7 (show q + 2 ≤ L by omega) (by omega) h4 h3 hv (Nat.mod_lt _ (by omega)) hvb hcb
    have hlt := mix8_lt (2 ^ off - 1) (rot8_lt off hv) (h7.1.at (show q + 1 < L by omega)).2
    exact ⟨_, rfl, ⟨q + 1, off, _, _, ⟨k2, fun _ => rfl⟩, k1, by omega, h4, by omega, hk.2, hk.1, by omega, by omega, h10, h11⟩, k3⟩
end Go.Proofs.YtoceclgljmdkeaaDoor.QR
/- The writer of words: its last bits, one by one. -/
namespace Go.Proofs.YtoceclgljmdkeaaDoor.QR
open Go.RowKit Go.Proofs.YtoceclgljmdkeaaDoorW.PrintWords Go.Proofs.YtoceclgljmdkeaaDoorW.PrintLast Go.Proofs.YtoceclgljmdkeaaDoorW.PrintMore
set_option linter.unusedVariables false
set_option linter.unusedSimpArgs false
theorem Fr.glue {w0 w1 w2 : World} {a b c d : Nat} (h : Fr w0 w1 a b) (k : Fr w1 w2 c d) (hc : w0.heap.size ≤ c ∨ c = a ∨ c = b) (hd : w0.heap.size ≤ d ∨ d = a ∨ d = b) : Fr w0 w2 a b :=
  ⟨k.os.trans h.os, k.tape.trans h.tape, k.output.trans h.output, Nat.le_trans h.size k.size, fun i h1 h2 h3 => (k.far i (Nat.lt_of_lt_of_le h1 h.size) (by rintro rfl; rcases hc with e | e | e <;> first | omega | exact absurd e h2 | exact absurd e h3) (by rintro rfl; rcases hd with e | e | e <;> first | omega | exact absurd e h2 | exact absurd e h3)).trans (h.far i h1 h2 h3)⟩
/-- What is to stand at a bit in the end. -/
def tgt (us0 : List Value) (f : Nat) (bf : Nat → Bool) (k : Nat) : Bool := if k < f then btN us0 k else bf (k - f)
/-- The state of the writer of single bits. -/
def BwI (w : World) (gd r L et f t q n c off v j : Nat) (us0 : List Value) (bf : Nat → Bool) : Prop := ∃ (us : List Value) (x m bo tj : Nat), w.heap[r]? = some (.cells (bwC gd q n c j v x (2 ^ m) bo) 129 (0, 0)) ∧ w.heap[gd]? = some (.cells us.toArray et (0, 0)) ∧ KN us0 us L f tj bf ∧ 8 * (q + bo) ≤ f + tj ∧ f + tj ≤ 8 * (q + bo) + m ∧ 8 * (q + bo) + m = f + t + j ∧ m < 8 ∧ x < 256 ∧ ∀ i, i < m → x.testBit i = tgt us0 f bf (8 * (q + bo) + i)
theorem one_all : ∀ x : Fin 256, (bits .and .u8 ((x.1 : Nat) : Int) 1 != 0) = x.1.testBit 0 := by decide +kernel
/-- One bit is set, or cleared. -/
theorem bwput_is {L : Nat} (gd r et f t q n c off v j : Nat) (us0 : List Value) (bf : Nat → Bool) (w : World) (h : BwI w gd r L et f t q n c off v j us0 bf) (hne : gd ≠ r) (b : Bool) (hb : b = bf (t + j)) (F : Nat) (hF : F = if b then 57 else 58) :
    Calls Tryd.prog F #[.pointer (some ⟨r, 0, none⟩)] w fun e w' => e = .returned (.tuple #[]) ∧ Fr w w' r r ∧ ∃ (us : List Value) (x m bo tj : Nat), w'.heap[r]? = some (.cells (bwC gd q n c j v x (2 ^ m) bo) 129 (0, 0)) ∧ w'.heap[gd]? = some (.cells us.toArray et (0, 0)) ∧ KN us0 us L f tj bf ∧ 8 * (q + bo) ≤ f + tj ∧ f + tj ≤ 8 * (q + bo) + m ∧ 8 * (q + bo) + m = f + t + j ∧ m < 8 ∧ x < 256 ∧ ∀ i, i < m + 1 → x.testBit i = tgt us0 f bf (8 * (q + bo) + i) := by
  obtain ⟨us, x, m, bo, tj, h1, h2, h3, h4, h5, h6, h7, h8, h9⟩ := h
  have hbit : ∀ i, i < m + 1 → (setN x m b).testBit i = tgt us0 f bf (8 * (q + bo) + i) := fun i hi => by
    rw [setN_bit b h8 h7 (by omega)]
    by_cases e : i = m
    · subst e
      rw [if_pos rfl, hb]
      unfold tgt
      rw [if_neg (by omega)]
      exact congrArg bf (by omega)
    · rw [if_neg e]
      exact h9 i (by omega)
  cases b
  · rw [if_neg (by simp)] at hF
    subst hF
    refine (bwclr_is gd q n c j v x m bo r w h1 h8 h7).mono ?_
    rintro e w' ⟨rfl, k1, k2⟩
    exact ⟨rfl, k2, us, _, m, bo, tj, k1, (k2.far gd (blk_lt h2) hne hne).trans h2, h3, h4, h5, h6, h7, setN_lt _ h8 h7, hbit⟩
  · rw [if_pos rfl] at hF
    subst hF
    refine (bwset_is gd q n c j v x m bo r w h1 h8 h7).mono ?_
    rintro e w' ⟨rfl, k1, k2⟩
    exact ⟨rfl, k2, us, _, m, bo, tj, k1, (k2.far gd (blk_lt h2) hne hne).trans h2, h3, h4, h5, h6, h7, setN_lt _ h8 h7, hbit⟩
/-- On to the next bit. -/
theorem bwnext_is {L : Nat} (gd r et f t q n c off v j : Nat) (us0 : List Value) (bf : Nat → Bool) (w : World) (hne : gd ≠ r) (hqn : q + n = L) (hv : f + t + v ≤ 8 * L) (hj : j < v) (hv8 : v < 8)
    (h : ∃ (us : List Value) (x m bo tj : Nat), w.heap[r]? = some (.cells (bwC gd q n c j v x (2 ^ m) bo) 129 (0, 0)) ∧ w.heap[gd]? = some (.cells us.toArray et (0, 0)) ∧ KN us0 us L f tj bf ∧ 8 * (q + bo) ≤ f + tj ∧ f + tj ≤ 8 * (q + bo) + m ∧ 8 * (q + bo) + m = f + t + j ∧ m < 8 ∧ x < 256 ∧ ∀ i, i < m + 1 → x.testBit i = tgt us0 f bf (8 * (q + bo) + i)) (hoff : f + t = 8 * q + off) (ho8 : off < 8) :
    Calls Tryd.prog 59 #[.pointer (some ⟨r, 0, none⟩)] w fun e w' => e = .returned (.tuple #[]) ∧ Fr w w' r gd ∧ BwI w' gd r L et f t q n c off v (j + 1) us0 bf := by
  obtain ⟨us, x, m, bo, tj, h1, h2, h3, h4, h5, h6, h7, h8, h9⟩ := h
  by_cases hm : m < 7
  · refine (bwna_is gd q n c j v x m bo r w h1 hm (by omega)).mono ?_
    rintro e w' ⟨rfl, k1, k2⟩
    exact ⟨rfl, k2.one, us, x, m + 1, bo, tj, k1, (k2.far gd (blk_lt h2) hne hne).trans h2, h3, h4, by omega, by omega, by omega, h8, h9⟩
  · have hm7 : m = 7 := by omega
    subst hm7
    refine (bwnb_is (us := us) (L := L) gd q n c j v x bo r et w h1 h3.1 h2 hne (by omega) (by omega) (by omega) (by omega) (by omega) (fun hp => by omega)).mono ?_
    rintro e w' ⟨rfl, k1, k2, k3⟩
    have hk := kn_byte (m := 8 * (q + bo) + 8 - (f + tj)) h3 (show q + bo < L by omega) h8 h4 (by omega) (fun i hi hk => by
      rw [h9 i (by omega)]
      unfold tgt
      by_cases e : 8 * (q + bo) + i < f + tj
      · rw [if_pos e]
        exact (h3.2.2 _ e).symm
      · rw [if_neg e, if_neg (by omega)])
    refine ⟨rfl, k3, _, _, 0, bo + 1, tj + (8 * (q + bo) + 8 - (f + tj)), k1, k2, hk, by omega, by omega, by omega, by omega, ?_, fun i hi => absurd hi (by omega)⟩
    split
    · exact (h3.1.at (by omega)).2
    · exact h8
/-- The last byte is written. -/
theorem bwfin_is {L : Nat} (gd r et f t q n c off v : Nat) (us0 : List Value) (bf : Nat → Bool) (w : World) (h : BwI w gd r L et f t q n c off v v us0 bf) (hne : gd ≠ r) (hqn : q + n = L) (hv : f + t + v ≤ 8 * L) (hv1 : 1 ≤ v) :
    Calls Tryd.prog 60 #[.pointer (some ⟨r, 0, none⟩)] w fun e w' => e = .returned (.tuple #[]) ∧ Fr w w' gd gd ∧ ∃ us : List Value, w'.heap[gd]? = some (.cells us.toArray et (0, 0)) ∧ KN us0 us L f (t + v) bf := by
  obtain ⟨us, x, m, bo, tj, h1, h2, h3, h4, h5, h6, h7, h8, h9⟩ := h
  by_cases hm : m = 0
  · subst hm
    refine (bwf0_is gd q n c v x bo r w h1 hv1).mono ?_
    rintro e w' ⟨rfl, k1⟩
    refine ⟨rfl, Fr.of_below k1, us, (k1.block gd (blk_lt h2)).trans h2, ?_⟩
    rw [show t + v = tj by omega]
    exact h3
  · have hmk : 2 ^ m ≠ 1 := by
      have : 2 ^ 1 ≤ 2 ^ m := Nat.pow_le_pow_right (by omega) (by omega)
      omega
    refine (bwf1_is gd q n c v v x (2 ^ m) bo r et us w h1 h2 hne hmk hv1 (by omega) ⟨_, (h3.1.at (show q + bo < L by omega)).1⟩).mono ?_
    rintro e w' ⟨rfl, k1, k2⟩
    refine ⟨rfl, k2, _, k1, ?_⟩
    have hk := kn_byte (m := f + t + v - (f + tj)) h3 (show q + bo < L by omega) h8 h4 (by omega) (fun i hi hk => by
      rw [h9 i (by omega)]
      unfold tgt
      by_cases e : 8 * (q + bo) + i < f + tj
      · rw [if_pos e]
        exact (h3.2.2 _ e).symm
      · rw [if_neg e, if_neg (by omega)])
    rw [show tj + (f + t + v - (f + tj)) = t + v by omega] at hk
    exact hk
end Go.Proofs.YtoceclgljmdkeaaDoor.QR
/- The writer of words: its last bits. -/
namespace Go.Proofs.YtoceclgljmdkeaaDoor.QR
open Go.RowKit Go.Proofs.YtoceclgljmdkeaaDoorW.PrintWords Go.Proofs.YtoceclgljmdkeaaDoorW.PrintLast Go.Proofs.YtoceclgljmdkeaaDoorW.PrintMore
set_option linter.unusedVariables false
set_option linter.unusedSimpArgs false
set_option maxHeartbeats 8000000 in
set_option maxRecDepth 100000 in
theorem ptbv_is {us0 us : List Value} {L : Nat} (gd gw et f t n c len b v : Nat) (bf : Nat → Bool) (w : World) (h : WrI w gd gw L et f t n c len us0 us bf) (hn : f + t + v ≤ 8 * L) (hv1 : 1 ≤ v) (hv8 : v < 8) (hb : b < 256) (hbb : ∀ i, i < v → b.testBit i = bf (t + i)) (hG : Gm w) :
    Calls Tryd.prog 46 #[.pointer (some ⟨gw, 0, none⟩), .int .u8 (b : Int), .int .i64 (v : Int)] w fun e w' => ∃ us' : List Value, e = .returned (.tuple #[]) ∧ w'.heap[gd]? = some (.cells us'.toArray et (0, 0)) ∧ KN us0 us' L f (t + v) bf ∧ Fr w w' gw gd := by
  obtain ⟨q, off, cur, A, ⟨h1, hA⟩, h2, h3, h4, h5, h6, h7, h8, h9, h10, h11⟩ := h
  rw [hA (by omega)] at h1
  have QL := Aside0.mk (getlsb_is cur)
  have Qb := Aside0.mk (bfb_is (off + v) (by omega))
  have QW := Aside0.mk (fun (W : World) (hs : W.heap[gd]? = some (.cells us.toArray et (0, 0))) (hG : Gm W) => nbw_is (us := us) (L := L) gd q n c et off v W h7.1 hs h4 hv1 (by omega) (by omega) (by omega) hG)
  obtain ⟨ov, hov⟩ : ∃ ov, ov = off + v := ⟨_, rfl⟩
  rw [← hov] at Qb
  have s1 : IntKind.i64.wrap ((off : Int) + (v : Int)) = (ov : Int) := by rw [IntWalk.i64_in _ (by omega)]; omega
  obtain ⟨x8, hx8⟩ : ∃ x8, x8 = (ov + 7) / 8 := ⟨_, rfl⟩
  rw [← hx8] at Qb
  have l8 : x8 < 10 := by omega
  obtain ⟨c0, c1, c2, c3, c4, zz⟩ := wr_cells h1
  have hv8i : ¬ (v : Int) = 8 := by omega
  have hv0 : (0 : Int) < (v : Int) := by omega
  have hv8l : (v : Int) < 8 := by omega
  have g1 : (0 : Int) < (v : Int) := by omega
  have hv0n : decide (0 < v) = true := decide_eq_true (by omega)
  have Qh := Aside0.mk (And.intro h1 (And.intro h2 (And.intro h10 (And.intro (blk_lt h1) (And.intro (blk_lt h2) hG)))))
  have Qn := Aside0.mk (And.intro h3 (And.intro h4 (And.intro h7 (And.intro h8 (And.intro h9 (And.intro hn (And.intro hv1 hv8)))))))
  have Q6 := Aside0.mk (And.intro h5 (And.intro h6 (And.intro hb hbb)))
  clear h1 h2 h3 h4 h5 h6 h7 h8 h9 h10 h11 hA zz hG hn hv1 hov hx8 hb hbb
  go_enter Tryd.func46, Tryd.ntmps46
  go_wp2_with (first | (go_at_call 55; with_reducible refine Calls.mono (QL.out _) ?_; rintro e w1 ⟨rfl, rfl⟩) | (go_at_call 29; with_reducible refine Calls.mono (assert_is _ _ _) ?_; rintro e w1 ⟨rfl, rfl⟩))
  go_quiet ((first | (go_at_call 24; exact Calls.quiet_of_same (Qb.out _)) | (go_at_call 29; exact Calls.quiet_of_same (assert_is _ _ _))))
  go_wp2
  refine wp_as (fun V => V.heap[gw]? = some (.cells (wrC gd q n c off len (2 ^ off - 1) cur) 118 (0, 0)) ∧ V.heap[gd]? = some (.cells us.toArray et (0, 0)) ∧ Fr w1 V gw gd ∧ Gm V) ⟨Qh.out.1, Qh.out.2.1, (Fr.refl w1 gw gd).drewN _, Qh.out.2.2.2.2.2⟩ ?_
  rintro V ⟨v1, v2, v3, v4⟩
  clear c0 c1 c2 c3 c4
  obtain ⟨c0, c1, c2, c3, c4, zz⟩ := wr_cells (V := V.drew) v1
  have QW1 := Aside0.mk (QW.out V.drew v2 v4.drew)
  have g2 : V.drew.heap[gd]? = _ := v2
  have Qv := Aside0.mk (And.intro g2 (And.intro v3.drew (blk_lt g2)))
  clear v1 v2 v3 v4 zz g2
  refine wp_region_still_tail 9 (by kernel_rfl) (by kernel_rfl) ?_; simp only [List.take_succ_cons, List.take_zero, List.drop_succ_cons, List.drop_zero]; change wpStill _ _ (World.drew _) _ _ _; (repeat still_step); refine wpStill_nil ?_; change wpList _ _ _ _ _ (World.drew _)
  generalize V.drew = Vd at QW1 Qv c0 c1 c2 c3 c4 ⊢
  clear c0 c1 c2 c3 c4
  go_wp2_with (go_at_call 56; with_reducible refine Calls.mono QW1.out ?_; rintro e w2 ⟨rfl, h1, h2⟩; have QR := Aside0.mk (And.intro h1 h2); clear h1 h2)
  obtain ⟨r, hr⟩ : ∃ r, r = Vd.heap.size := ⟨_, rfl⟩
  rw [← hr] at QR ⊢
  have hne : gd ≠ r := by have := blk_lt Qv.out.1; omega
  have hgw : gw ≠ r := by have := Qh.out.2.2.2.1; have := Qv.out.2.1.size; omega
  have hr0 : w1.heap.size ≤ r := by have := Qv.out.2.1.size; omega
  have hgl := blk_lt Qv.out.1
  have Qr := Aside0.mk (And.intro hne (And.intro hgw hr0))
  have F2 : Fr w1 w2 gw gd := Qv.out.2.1.step (by have := QR.out.2; rw [hr] at this; exact this)
  have B0 : BwI w2 gd r L et f t q n c off v 0 us0 bf := ⟨us, _, off, 0, t, QR.out.1, (QR.out.2.block gd (by omega)).trans Qv.out.1, Qn.out.2.2.1, by have := Qn.out; omega, by have := Qn.out; omega, by have := Qn.out; omega, Qn.out.2.1, (Qn.out.2.2.1.1.at (by have := Qn.out; omega)).2, fun i hi => by
    have hq := Qn.out
    rw [← btN_at us q i (by omega)]
    exact Qn.out.2.2.1.2.2 _ (by omega)⟩
  have QB0 := Aside0.mk (And.intro F2 B0)
  clear hr hne hgw hr0 hgl F2 B0 QR QW1 QW
  go_loopg [1, 9] v (fun kq v1 v9 w' => ∃ (bj j : Nat), v1 = .int .u8 (bj : Int) ∧ v9 = .int .i64 (j : Int) ∧ Aside0 (j + kq = v) ∧ Aside0 (bj < 256 ∧ ∀ i, j + i < v → bj.testBit i = bf (t + (j + i))) ∧ Aside0 (Fr w1 w' gw gd) ∧ Aside0 (BwI w' gd r L et f t q n c off v j us0 bf))
  case atStart => exact ⟨b, 0, rfl, rfl, ⟨by omega⟩, ⟨Q6.out.2.2.1, fun i hi => by rw [Nat.zero_add] at hi ⊢; exact Q6.out.2.2.2 i hi⟩, ⟨QB0.out.1⟩, ⟨QB0.out.2⟩⟩
  case round =>
    obtain ⟨bj, j, rfl, rfl, HA, HV, HF, HB⟩ := hrel
    clear QB0
    rcases Nat.eq_zero_or_pos gk with h0 | h0
    · obtain rfl : j = v := by have := HA.out; omega
      have QE := Aside0.mk (bwfin_is gd r et f t q n c off j us0 bf wr HB.out Qr.out.1 Qn.out.2.2.2.1 (by have := Qn.out; omega) (by have := Qn.out; omega))
      go_wp2_with (go_at_call 60; with_reducible refine Calls.mono QE.out ?_; rintro e w9 ⟨rfl, k1, us9, k2, k3⟩; have Q9 := Aside0.mk (And.intro k1 (And.intro k2 k3)); clear k1 k2 k3)
      go_end0
      exact ⟨us9, rfl, Q9.out.2.1, Q9.out.2.2, HF.out.trans Q9.out.1.two⟩
    · have hj : (j : Int) < (v : Int) := by have := HA.out; omega
      obtain ⟨k1, rfl⟩ : ∃ k1, gk = k1 + 1 := ⟨gk - 1, by omega⟩
      have hjv : j < v := by omega
      obtain ⟨bb, hbb⟩ : ∃ bb, bb = bj.testBit 0 := ⟨_, rfl⟩
      have hbf : bb = bf (t + j) := by rw [hbb]; exact HV.out.2 0 (by omega)
      have eand : (bits .and .u8 (bj : Int) 1 != 0) = bb := by rw [hbb]; exact one_all ⟨bj, HV.out.1⟩
      have QP := Aside0.mk (fun F hF => bwput_is gd r et f t q n c off v j us0 bf wr HB.out Qr.out.1 bb hbf F hF)
      have QX := Aside0.mk (fun w h => bwnext_is (L := L) gd r et f t q n c off v j us0 bf w Qr.out.1 Qn.out.2.2.2.1 (by have := Qn.out; omega) hjv hv8 h (by have := Qn.out; omega) Qn.out.2.1)
      have HV' : Aside0 (bj / 2 < 256 ∧ ∀ i, j + 1 + i < v → (bj / 2).testBit i = bf (t + (j + 1 + i))) := ⟨by have := HV.out.1; omega, fun i hi => by
        rw [show bj / 2 = bj / 2 ^ 1 by rfl, Nat.testBit_div_two_pow, HV.out.2 (i + 1) (by omega)]
        exact congrArg bf (by omega)⟩
      clear hbb hbf
      cases bb
      · have QP1 := Aside0.mk (QP.out 58 rfl)
        clear QP
        go_wp2_with (first | (go_at_call 58; with_reducible refine Calls.mono QP1.out ?_; rintro e w4 ⟨rfl, k2, k3⟩; have Q4 := Aside0.mk k2; have Q5 := Aside0.mk (QX.out w4 k3); clear k2 k3) | (go_at_call 59; with_reducible refine Calls.mono Q5.out ?_; rintro e w5 ⟨rfl, k2, k3⟩; have Q7 := Aside0.mk (And.intro k2 k3); clear k2 k3))
        go_roundg k1
        case rel => exact ⟨bj / 2, j + 1, rfl, rfl, ⟨by have := HA.out; omega⟩, HV', ⟨(HF.out.glue Q4.out (.inl Qr.out.2.2) (.inl Qr.out.2.2)).glue Q7.out.1 (.inl Qr.out.2.2) (.inr (.inr rfl))⟩, ⟨Q7.out.2⟩⟩
        · omega
      · have QP1 := Aside0.mk (QP.out 57 rfl)
        clear QP
        go_wp2_with (first | (go_at_call 57; with_reducible refine Calls.mono QP1.out ?_; rintro e w4 ⟨rfl, k2, k3⟩; have Q4 := Aside0.mk k2; have Q5 := Aside0.mk (QX.out w4 k3); clear k2 k3) | (go_at_call 59; with_reducible refine Calls.mono Q5.out ?_; rintro e w5 ⟨rfl, k2, k3⟩; have Q7 := Aside0.mk (And.intro k2 k3); clear k2 k3))
        go_roundg k1
        case rel => exact ⟨bj / 2, j + 1, rfl, rfl, ⟨by have := HA.out; omega⟩, HV', ⟨(HF.out.glue Q4.out (.inl Qr.out.2.2) (.inl Qr.out.2.2)).glue Q7.out.1 (.inl Qr.out.2.2) (.inr (.inr rfl))⟩, ⟨Q7.out.2⟩⟩
        · omega
end Go.Proofs.YtoceclgljmdkeaaDoor.QR
