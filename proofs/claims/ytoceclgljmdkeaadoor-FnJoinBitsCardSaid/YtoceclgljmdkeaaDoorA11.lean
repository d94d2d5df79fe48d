/- The buffer that grows: it does. -/
import Derived.Test.YtoceclgljmdkeaaDoorA10
namespace Go.Proofs.YtoceclgljmdkeaaDoor.QR
open Go.RowKit Go.Proofs.YtoceclgljmdkeaaDoorW.PrintWords Go.Proofs.YtoceclgljmdkeaaDoorW.PrintLast Go.Proofs.YtoceclgljmdkeaaDoorW.PrintMore
set_option linter.unusedVariables false
set_option linter.unusedSimpArgs false
theorem up_le (n : Nat) : n ≤ up64 n ∧ up64 n ≤ n + 63 := by unfold up64; omega
set_option maxHeartbeats 8000000 in
set_option maxRecDepth 100000 in
theorem res_is (n g : Nat) (hn : n < 1300) (h1 : 1 ≤ n) (w : World) (hg : w.heap[g]? = some (.cells (rbC none 0 0 0) 62 (0, 0))) : Calls Tryd.prog 36 #[.pointer (some ⟨g, 0, none⟩), .int .i64 (n : Int)] w fun e w' => e = .returned (.tuple #[]) ∧ (∃ gd, w'.heap[g]? = some (.cells (rbC (some ⟨gd, 0, none⟩) (up64 n) (up64 n) 0) 62 (0, 0)) ∧ w.heap.size ≤ gd ∧ w'.heap[gd]? = some (.cells (List.replicate (up64 n) (.int .u8 0)).toArray 5 (0, 0))) ∧ Fr w w' g g := by
  obtain ⟨u, hu⟩ : ∃ u, u = up64 n := ⟨_, rfl⟩
  have QU := Aside0.mk (up_is n hn w)
  have QA := Aside0.mk (fun W => alloc_is u (by have := (up_le n).2; omega) W)
  rw [← hu] at QU ⊢
  obtain ⟨Z, hZ⟩ : ∃ Z, Z = List.replicate u (Value.int .u8 0) := ⟨_, rfl⟩
  rw [← hZ] at QA ⊢
  obtain ⟨c1, c2, c4, zz⟩ := rb_cells hg
  have Qg := Aside0.mk hg
  have hn0 : (0 : Int) < (n : Int) := by omega
  clear hu hZ hg zz h1 hn
  go_enter Tryd.func36, Tryd.ntmps36
  go_wp2_with (first | (go_at_call 37; (with_reducible refine Calls.mono QU.out ?_); rintro e w1 ⟨rfl, j⟩; have hg1 := (j.block g (blk_lt Qg.out)).trans Qg.out; obtain ⟨d1, d2, d4, zz⟩ := rb_cells hg1; have Q1 := Aside0.mk (And.intro j hg1); clear j hg1 zz) | (go_at_call 78; (with_reducible refine Calls.mono (QA.out _) ?_); rintro e w2 ⟨gd, rfl, j1, j2, j3⟩; have hg2 := (j3.block g (blk_lt Q1.out.2)).trans Q1.out.2; obtain ⟨x1, x2, x4, yy⟩ := rb_cells hg2; have y1 := yy 1; have Q2 := Aside0.mk (And.intro j1 (And.intro j2 (And.intro j3 hg2))); clear j1 j2 j3 hg2 yy))
  go_end0
  have hgl := blk_lt Qg.out
  have hs1 := Q1.out.1.size
  have hne : gd ≠ g := by have := Q2.out.1; omega
  exact ⟨rfl, ⟨gd, blk_set Q2.out.2.2.2 1 (.slice (some ⟨gd, 0, none⟩) u u), by have := Q2.out.1; omega, (Below.heap_setCell _ ⟨g, 1, none⟩ _ gd hne).trans Q2.out.2.1⟩, ((Fr.of_below Q1.out.1).step Q2.out.2.2.1).set g 1 _ (.inl rfl)⟩
set_option maxHeartbeats 8000000 in
set_option maxRecDepth 100000 in
theorem rsz_is (n g : Nat) (hn : n < 1300) (h1 : 1 ≤ n) (w : World) (hg : w.heap[g]? = some (.cells (rbC none 0 0 0) 62 (0, 0))) : Calls Tryd.prog 31 #[.pointer (some ⟨g, 0, none⟩), .int .i64 (n : Int), .bool true] w fun e w' => e = .returned (.tuple #[]) ∧ (∃ gd, w'.heap[g]? = some (.cells (rbC (some ⟨gd, 0, none⟩) (up64 n) (up64 n) n) 62 (0, 0)) ∧ w.heap.size ≤ gd ∧ w'.heap[gd]? = some (.cells (List.replicate (up64 n) (.int .u8 0)).toArray 5 (0, 0))) ∧ Fr w w' g g := by
  have QR := Aside0.mk (res_is n g hn h1 w hg)
  generalize up64 n = u at QR ⊢
  obtain ⟨Z, hZ⟩ : ∃ Z, Z = List.replicate u (Value.int .u8 0) := ⟨_, rfl⟩
  rw [← hZ] at QR ⊢
  obtain ⟨c1, c2, c4, zz⟩ := rb_cells hg
  have Qg := Aside0.mk (blk_lt hg)
  have hn0 : (0 : Int) < (n : Int) := by omega
  have hn0b : decide ((0 : Int) < (n : Int)) = true := decide_eq_true hn0
  have hn0c : decide (0 < n) = true := decide_eq_true (by omega)
  clear hZ hg zz h1 hn
  go_enter Tryd.func31, Tryd.ntmps31
  go_wp2_with (go_at_call 36; (with_reducible refine Calls.mono QR.out ?_); rintro e w1 ⟨rfl, ⟨gd, j1, j2, j3⟩, j4⟩; obtain ⟨d1, d2, d4, yy⟩ := rb_cells j1; have y2 := yy 2; have Q1 := Aside0.mk (And.intro j1 (And.intro j2 (And.intro j3 j4))); clear j1 j2 j3 j4 yy)
  go_end0
  have hne : gd ≠ g := by have := Q1.out.2.1; have := Qg.out; omega
  exact ⟨rfl, ⟨gd, blk_set Q1.out.1 2 (.int .i64 (n : Int)), Q1.out.2.1, (Below.heap_setCell _ ⟨g, 2, none⟩ _ gd hne).trans Q1.out.2.2.1⟩, Q1.out.2.2.2.set g 2 _ (.inl rfl)⟩
set_option maxHeartbeats 8000000 in
set_option maxRecDepth 100000 in
theorem rsz0_is (g : Nat) (w : World) (hg : w.heap[g]? = some (.cells (rbC none 0 0 0) 62 (0, 0))) : Calls Tryd.prog 31 #[.pointer (some ⟨g, 0, none⟩), .int .i64 0, .bool true] w fun e w' => e = .returned (.tuple #[]) ∧ w'.heap[g]? = some (.cells (rbC none 0 0 0) 62 (0, 0)) ∧ Fr w w' g g := by
  have QU := Aside0.mk (up_is 0 (by omega) w)
  rw [show up64 0 = 0 from rfl] at QU
  obtain ⟨c1, c2, c4, zz⟩ := rb_cells hg
  have Qg := Aside0.mk hg
  clear hg zz
  go_enter Tryd.func31, Tryd.ntmps31
  go_wp2_with (go_at_call 37; (with_reducible refine Calls.mono QU.out ?_); rintro e w1 ⟨rfl, j⟩; have hg1 := (j.block g (blk_lt Qg.out)).trans Qg.out; obtain ⟨d1, d2, d4, yy⟩ := rb_cells hg1; have y2 := yy 2; have Q1 := Aside0.mk (And.intro j hg1); clear j hg1 yy)
  go_end0
  exact ⟨rfl, blk_set Q1.out.2 2 (.int .i64 0), (Fr.of_below Q1.out.1).set g 2 _ (.inl rfl)⟩
/-- Resize. -/
theorem rz_is (n g : Nat) (hn : n < 1300) (h1 : 1 ≤ n) (w : World) (hg : w.heap[g]? = some (.cells (rbC none 0 0 0) 62 (0, 0))) : Calls Tryd.prog 23 #[.pointer (some ⟨g, 0, none⟩), .int .i64 (n : Int)] w fun e w' => e = .returned (.tuple #[]) ∧ (∃ gd, w'.heap[g]? = some (.cells (rbC (some ⟨gd, 0, none⟩) (up64 n) (up64 n) n) 62 (0, 0)) ∧ w.heap.size ≤ gd ∧ w'.heap[gd]? = some (.cells (List.replicate (up64 n) (.int .u8 0)).toArray 5 (0, 0))) ∧ Fr w w' g g := by
  have QR := Aside0.mk (rsz_is n g hn h1 w hg)
  clear hn h1 hg
  go_enter Tryd.func23, Tryd.ntmps23
  go_wp2_with (go_at_call 31; (with_reducible refine Calls.mono QR.out ?_); rintro e w1 ⟨rfl, j1, j2⟩; have Q1 := Aside0.mk (And.intro j1 j2); clear j1 j2)
  go_end0
  exact ⟨rfl, Q1.out.1, Q1.out.2⟩
theorem rz0_is (g : Nat) (w : World) (hg : w.heap[g]? = some (.cells (rbC none 0 0 0) 62 (0, 0))) : Calls Tryd.prog 23 #[.pointer (some ⟨g, 0, none⟩), .int .i64 0] w fun e w' => e = .returned (.tuple #[]) ∧ w'.heap[g]? = some (.cells (rbC none 0 0 0) 62 (0, 0)) ∧ Fr w w' g g := by
  have QR := Aside0.mk (rsz0_is g w hg)
  clear hg
  go_enter Tryd.func23, Tryd.ntmps23
  go_wp2_with (go_at_call 31; (with_reducible refine Calls.mono QR.out ?_); rintro e w1 ⟨rfl, j1, j2⟩; have Q1 := Aside0.mk (And.intro j1 j2); clear j1 j2)
  go_end0
  exact ⟨rfl, Q1.out.1, Q1.out.2⟩
set_option maxHeartbeats 8000000 in
set_option maxRecDepth 100000 in
theorem bytes_is (A : Option Addr) (n c len g : Nat) (w : World) (c1 : w.cell? ⟨g, 1, none⟩ = some (.slice A n c)) (c2 : w.cell? ⟨g, 2, none⟩ = some (.int .i64 (len : Int))) (hl : len ≤ c) (hA : A = none → c = 0) : Calls Tryd.prog 14 #[.pointer (some ⟨g, 0, none⟩)] w fun e w' => e = .returned (.slice A len c) ∧ Below w.heap.size w w' := by
  have hli : (len : Int) ≤ (c : Int) := by omega
  cases A with
  | none =>
    have hc := hA rfl
    subst hc
    have hl0 : len = 0 := by omega
    subst hl0
    clear hA hl hli
    go_enter Tryd.func14, Tryd.ntmps14
    go_upto_region 1 with fail
    go_quiet (fail)
    go_wp2
    go_ret
    exact ⟨rfl, pw_below_drewN (Below.refl _ w) _⟩
  | some ad =>
    clear hA
    go_enter Tryd.func14, Tryd.ntmps14
    go_upto_region 1 with fail
    go_quiet (fail)
    go_wp2
    go_ret
    exact ⟨rfl, pw_below_drewN (Below.refl _ w) _⟩
end Go.Proofs.YtoceclgljmdkeaaDoor.QR
/- Lengths that are added; what is wanted; steps joined. -/
namespace Go.Proofs.YtoceclgljmdkeaaDoor.QR
open Go.RowKit Go.Proofs.YtoceclgljmdkeaaDoorW.PrintWords Go.Proofs.YtoceclgljmdkeaaDoorW.PrintLast Go.Proofs.YtoceclgljmdkeaaDoorW.PrintMore
set_option linter.unusedVariables false
set_option linter.unusedSimpArgs false
theorem wrap_small (n : Nat) (hn : n < 1048576) : IntKind.i64.wrap (n : Int) = (n : Int) := IntWalk.i64_in _ (by omega)
theorem and64 (a b : Nat) (ha : a < 1048576) (hb : b < 1048576) : bits .and .i64 (a : Int) (b : Int) = ((a &&& b : Nat) : Int) := by
  show IntKind.i64.wrap ((((BitVec.ofInt 64 (a : Int)) &&& (BitVec.ofInt 64 (b : Int))).toNat : Nat) : Int) = _
  rw [BitVec.toNat_and, ofInt_u64 a (by omega), ofInt_u64 b (by omega)]
  exact wrap_small _ (Nat.lt_of_le_of_lt Nat.and_le_left ha)
theorem or64 (a b : Nat) (ha : a < 1048576) (hb : b < 1048576) : bits .or .i64 (a : Int) (b : Int) = ((a ||| b : Nat) : Int) := by
  show IntKind.i64.wrap ((((BitVec.ofInt 64 (a : Int)) ||| (BitVec.ofInt 64 (b : Int))).toNat : Nat) : Int) = _
  rw [BitVec.toNat_or, ofInt_u64 a (by omega), ofInt_u64 b (by omega)]
  exact wrap_small _ (Nat.or_lt_two_pow (n := 20) ha hb)
theorem andNot64 (a : Nat) (z : Int) (ha : a < 1048576) : ∃ m : Nat, m < 1048576 ∧ bits .andNot .i64 (a : Int) z = (m : Int) := by
  refine ⟨((BitVec.ofInt 64 (a : Int)) &&& ~~~(BitVec.ofInt 64 z)).toNat, ?_, ?_⟩
  · rw [BitVec.toNat_and, ofInt_u64 a (by omega)]
    exact Nat.lt_of_le_of_lt Nat.and_le_left ha
  · show IntKind.i64.wrap ((((BitVec.ofInt 64 (a : Int)) &&& ~~~(BitVec.ofInt 64 z)).toNat : Nat) : Int) = _
    refine wrap_small _ ?_
    rw [BitVec.toNat_and, ofInt_u64 a (by omega)]
    exact Nat.lt_of_le_of_lt Nat.and_le_left ha
theorem ovf_is (a b : Nat) (ha : a < 500000) (hb : b < 500000) (w : World) : Calls Tryd.prog 18 #[.int .i64 (a : Int), .int .i64 (b : Int)] w fun e w' => e = .returned (.tuple #[.int .i64 ((a + b : Nat) : Int), .bool false]) ∧ Below w.heap.size w w' := by
  have hf : PFnJoinBits.array_addOvf.f (a : Int) (b : Int) = some (((a + b : Nat) : Int), false) := by
    unfold PFnJoinBits.array_addOvf.f
    have hw : wrap64 ((a : Int) + (b : Int)) = ((a + b : Nat) : Int) := by unfold wrap64; omega
    obtain ⟨m, hm, em⟩ := andNot64 (a ||| b) ((a + b : Nat) : Int) (Nat.or_lt_two_pow (n := 20) (by omega) (by omega))
    rw [hw, and64 a b (by omega) (by omega), or64 a b (by omega) (by omega), em, or64 _ _ (Nat.lt_of_le_of_lt Nat.and_le_left (by omega)) hm]
    have hlt : (a &&& b ||| m) < 1048576 := Nat.or_lt_two_pow (n := 20) (Nat.lt_of_le_of_lt Nat.and_le_left (by omega)) hm
    have h0 : (((a &&& b ||| m : Nat) : Int) / 4611686018427387904) = 0 := by omega
    rw [h0]
    rfl
  refine (PFnJoinBits.array_addOvf.calls (a : Int) (b : Int) _ _ w hf).mono ?_
  rintro e w' ⟨rfl, ⟨k, rfl⟩⟩
  exact ⟨rfl, pw_below_drewN (Below.refl _ w) k⟩
set_option maxHeartbeats 8000000 in
set_option maxRecDepth 100000 in
theorem sbt0_is (A : Option Addr) (n c d : Nat) (w : World) : Calls Tryd.prog 25 #[.slice A n c, .int .i64 (d : Int), .int .i64 0, .bool true] w fun e w' => e = .returned (.tuple #[]) ∧ w' = w := by
  go_enter Tryd.func25, Tryd.ntmps25
  go_wp2
  refine bodyPost_ret (v := .tuple #[]) (by simp [results, Tryd.results25, go_sem]) rfl ?_
  exact ⟨rfl, rfl⟩
/-- Resize, whatever is asked. -/
theorem rza_is (n g : Nat) (hn : n < 1300) (w : World) (hg : w.heap[g]? = some (.cells (rbC none 0 0 0) 62 (0, 0))) : Calls Tryd.prog 23 #[.pointer (some ⟨g, 0, none⟩), .int .i64 (n : Int)] w fun e w' => ∃ (A : Option Addr) (u : Nat), e = .returned (.tuple #[]) ∧ w'.heap[g]? = some (.cells (rbC A u u n) 62 (0, 0)) ∧ n ≤ u ∧ (A = none → u = 0) ∧ (0 < n → ∃ gd, A = some ⟨gd, 0, none⟩ ∧ w.heap.size ≤ gd ∧ gd ≠ g ∧ w'.heap[gd]? = some (.cells (List.replicate u (.int .u8 0)).toArray 5 (0, 0))) ∧ Fr w w' g g := by
  by_cases h0 : n = 0
  · subst h0
    refine (rz0_is g w hg).mono ?_
    rintro e w' ⟨rfl, h1, h2⟩
    exact ⟨none, 0, rfl, h1, Nat.le_refl _, fun _ => rfl, fun h => absurd h (by omega), h2⟩
  · refine (rz_is n g hn (by omega) w hg).mono ?_
    rintro e w' ⟨rfl, ⟨gd, h1, h2, h3⟩, h4⟩
    exact ⟨_, _, rfl, h1, (up_le n).1, fun h => by (cases h), fun _ => ⟨gd, rfl, h2, by have := blk_lt hg; omega, h3⟩, h4⟩
theorem okN_zero (u n : Nat) (h : n ≤ u) : OkN (List.replicate u (.int .u8 0)) n := ⟨by rw [List.length_replicate]; exact h, fun q hq => ⟨0, by rw [List.getElem?_replicate, if_pos (by omega)]; rfl, by omega⟩⟩
/-- One step behind another. -/
theorem kn_join {us0 us us' : List Value} {L t n : Nat} {wt bf : Nat → Bool} (h : KN us0 us L 0 t wt) (h2 : KN us us' L t n bf) (hb : ∀ i, i < n → bf i = wt (t + i)) : KN us0 us' L 0 (t + n) wt := by
  refine ⟨h2.1, h2.2.1.trans h.2.1, fun k hk => ?_⟩
  rw [h2.2.2 k (by omega)]
  by_cases e : k < t
  · rw [if_pos e]
    exact h.2.2 k (by omega)
  · rw [if_neg e, if_neg (by omega), hb _ (by omega)]
    exact congrArg wt (by omega)
/-- A part's bits. -/
def partB (p : S28) : List Bool := (List.range p.f3.toNat).map fun i => !p.f0 || bt1 p.f1 (p.f2.toNat + i)
theorem partB_len (p : S28) : (partB p).length = p.f3.toNat := by unfold partB; simp
/-- All bits. -/
def wantL : List S28 → List Bool
  | [] => []
  | p :: r => partB p ++ wantL r
theorem wantL_append : ∀ a b : List S28, wantL (a ++ b) = wantL a ++ wantL b
  | [], _ => rfl
  | p :: r, b => by rw [List.cons_append]; simp only [wantL]; rw [wantL_append r b, List.append_assoc]
/-- How many there are ahead of a part. -/
def sumL (l : List S28) (i : Nat) : Nat := (wantL (l.take i)).length
theorem sumL_zero (l : List S28) : sumL l 0 = 0 := rfl
theorem sumL_all (l : List S28) : sumL l l.length = (wantL l).length := by unfold sumL; rw [List.take_length]
theorem want_take (l : List S28) {i : Nat} {p : S28} (h : l[i]? = some p) : wantL (l.take (i + 1)) = wantL (l.take i) ++ partB p := by
  rw [List.take_add_one, h, wantL_append]
  simp [wantL]
theorem sumL_succ (l : List S28) {i : Nat} {p : S28} (h : l[i]? = some p) : sumL l (i + 1) = sumL l i + p.f3.toNat := by
  unfold sumL
  rw [want_take l h, List.length_append, partB_len]
theorem want_at (l : List S28) {i j : Nat} {p : S28} (h : l[i]? = some p) (hj : j < p.f3.toNat) : (wantL l).getD (sumL l i + j) false = (!p.f0 || bt1 p.f1 (p.f2.toNat + j)) := by
  have e : wantL l = wantL (l.take (i + 1)) ++ wantL (l.drop (i + 1)) := by rw [← wantL_append, List.take_append_drop]
  rw [e, want_take l h, List.getD_eq_getElem?_getD, List.append_assoc, List.getElem?_append_right (by unfold sumL; omega)]
  rw [show sumL l i + j - (wantL (l.take i)).length = j by unfold sumL; omega, List.getElem?_append_left (by rw [partB_len]; exact hj)]
  unfold partB
  simp [hj]
theorem sumL_le (l : List S28) (hl : l.length ≤ 20) (hp : ∀ p ∈ l, p.f3 ≤ 500) : ∀ i, i ≤ l.length → sumL l i ≤ 500 * i
  | 0, _ => by rw [sumL_zero]; omega
  | i + 1, hi => by
    have h := List.getElem?_eq_getElem (show i < l.length by omega)
    rw [sumL_succ l h]
    have := hp _ (List.getElem_mem (show i < l.length by omega))
    have := sumL_le l hl hp i (by omega)
    omega
theorem sumL_mono (l : List S28) : ∀ i j, i ≤ j → j ≤ l.length → sumL l i ≤ sumL l j := by
  intro i j hij hj
  unfold sumL
  have e : l.take j = l.take i ++ (l.take j).drop i := by
    have := List.take_append_drop i (l.take j)
    rw [List.take_take, Nat.min_eq_left hij] at this
    exact this.symm
  rw [e, wantL_append, List.length_append]
  omega
/-- A part's bytes as bits. -/
theorem by_bit {us : List Value} {l : List Int} (hb : bytesOk l = true) (h : ∀ q, q < l.length → byN us q = (rd l (q : Int)).toNat) {k : Nat} (hk : k < 8 * l.length) : btN us k = bt1 l k := by
  unfold btN bt1
  rw [h (k / 8) (by omega), Nat.testBit_eq_decide_div_mod_eq]
  have hx := bytes_ok hb ((k / 8 : Nat) : Int)
  obtain ⟨x, e⟩ : ∃ x : Nat, rd l ((k / 8 : Nat) : Int) = (x : Int) := ⟨(rd l ((k / 8 : Nat) : Int)).toNat, by omega⟩
  rw [e, Int.toNat_natCast]
  have hp : ((2 ^ (k % 8) : Nat) : Int) = (2 : Int) ^ (k % 8) := Int.natCast_pow 2 (k % 8)
  rw [← hp]
  rw [decide_eq_decide]
  generalize 2 ^ (k % 8) = z
  have e2 : ((x : Int) / (z : Int)) = ((x / z : Nat) : Int) := (Int.natCast_ediv x z).symm
  rw [e2]
  omega
end Go.Proofs.YtoceclgljmdkeaaDoor.QR
/- The joined bits: what holds between the parts. -/
namespace Go.Proofs.YtoceclgljmdkeaaDoor.QR
open Go.RowKit Go.Proofs.YtoceclgljmdkeaaDoorW.PrintWords Go.Proofs.YtoceclgljmdkeaaDoorW.PrintLast Go.Proofs.YtoceclgljmdkeaaDoorW.PrintMore
set_option linter.unusedVariables false
set_option linter.unusedSimpArgs false
/-- What is asked of a part. -/
def GP (p : S28) : Prop := 0 ≤ p.f2 ∧ p.f2 ≤ 500 ∧ 0 ≤ p.f3 ∧ p.f3 ≤ 500 ∧ (p.f0 = true → p.f2 + p.f3 ≤ 8 * (p.f1.length : Int)) ∧ bytesOk p.f1 = true ∧ p.f1.length < 2200000000
/-- t bits are there. -/
def SJ (wc W : World) (b p12 p13 : Nat) (A : Option Addr) (u L : Nat) (want : Nat → Bool) (t : Nat) : Prop :=
  Below wc.heap.size wc W ∧ W.heap[b]? = some (.cells (rbC A u u L) 62 (0, 0)) ∧ W.heap[p12]? = some (.cells #[.pointer (some ⟨b, 0, none⟩)] 38 (0, 0)) ∧ W.heap[p13]? = some (.cells #[.bool false] 4 (0, 0)) ∧ L ≤ u ∧ (A = none → u = 0) ∧
  (0 < L → ∃ gd us, A = some ⟨gd, 0, none⟩ ∧ W.heap[gd]? = some (.cells us.toArray 5 (0, 0)) ∧ KN (List.replicate u (.int .u8 0)) us L 0 t want ∧ wc.heap.size ≤ gd ∧ b ≠ gd ∧ p12 ≠ gd ∧ p13 ≠ gd)
theorem SJ.below {wc W W' : World} {b p12 p13 : Nat} {A : Option Addr} {u L : Nat} {want : Nat → Bool} {t : Nat} (h : SJ wc W b p12 p13 A u L want t) (hb : Below W.heap.size W W') : SJ wc W' b p12 p13 A u L want t := by
  obtain ⟨h1, h2, h3, h4, h5, h6, h7⟩ := h
  refine ⟨h1.trans (hb.mono h1.size), (hb.block _ (blk_lt h2)).trans h2, (hb.block _ (blk_lt h3)).trans h3, (hb.block _ (blk_lt h4)).trans h4, h5, h6, fun hp => ?_⟩
  obtain ⟨gd, us, e, k1, k2, k3, k4⟩ := h7 hp
  exact ⟨gd, us, e, (hb.block _ (blk_lt k1)).trans k1, k2, k3, k4⟩
/-- A step that writes to the bits alone. -/
theorem SJ.put {wc W W' : World} {b p12 p13 gd : Nat} {u L : Nat} {us us' : List Value} {want : Nat → Bool} {t n : Nat} (h : SJ wc W b p12 p13 (some ⟨gd, 0, none⟩) u L want t) (hL : 0 < L) (hF : Fr W W' gd gd) (hk : W'.heap[gd]? = some (.cells us'.toArray 5 (0, 0))) (hus : W.heap[gd]? = some (.cells us.toArray 5 (0, 0))) {bf : Nat → Bool} (hn : KN us us' L t n bf) (hb : ∀ i, i < n → bf i = want (t + i)) : SJ wc W' b p12 p13 (some ⟨gd, 0, none⟩) u L want (t + n) := by
  obtain ⟨h1, h2, h3, h4, h5, h6, h7⟩ := h
  obtain ⟨gd', us0, e, k1, k2, k3, k4, k5, k6⟩ := h7 hL
  have e' : gd' = gd := by injection e with e; injection e with e; exact e.symm
  subst e'
  rw [hus] at k1
  have e2 : us = us0 := by
    have := Option.some.inj k1
    injection this with this
    exact Array.toList_inj.2 this
  subst e2
  refine ⟨h1.trans (hF.below h1.size k3 k3), (hF.far b (blk_lt h2) k4 k4).trans h2, (hF.far p12 (blk_lt h3) k5 k5).trans h3, (hF.far p13 (blk_lt h4) k6 k6).trans h4, h5, h6, fun _ => ⟨gd', us', rfl, hk, kn_join k2 hn hb, k3, k4, k5, k6⟩⟩
/-- A part of set bits. -/
theorem step_set {wc W : World} {b p12 p13 : Nat} {A : Option Addr} {u L : Nat} {l : List S28} {i : Nat} {p : S28} (hp : l[i]? = some p) (hg : GP p) (hT : sumL l (i + 1) ≤ 8 * L) (hL : L < 5000) (h : SJ wc W b p12 p13 A u L (fun k => (wantL l).getD k false) (sumL l i)) (h0 : p.f0 = false) (hG : Gm wc) :
    Calls Tryd.prog 25 #[.slice A L u, .int .i64 (sumL l i : Int), .int .i64 p.f3, .bool true] W fun e w' => e = .returned (.tuple #[]) ∧ SJ wc w' b p12 p13 A u L (fun k => (wantL l).getD k false) (sumL l (i + 1)) := by
  obtain ⟨f, hf⟩ : ∃ f : Nat, p.f3 = (f : Int) := ⟨p.f3.toNat, by have := hg.2.2.1; omega⟩
  have hs := sumL_succ l hp
  rw [hf, Int.toNat_natCast] at hs
  rw [hf, hs]
  have hf5 : f ≤ 500 := by have h9 := hg.2.2.2.1; rw [hf] at h9; exact Int.ofNat_le.1 h9
  by_cases hf0 : f = 0
  · subst hf0
    refine (sbt0_is A L u (sumL l i) W).mono ?_
    rintro e w' ⟨rfl, rfl⟩
    exact ⟨rfl, h⟩
  · have hL0 : 0 < L := by omega
    have q1 : 1 ≤ f := by omega
    have q2 : sumL l i < 100000 := by omega
    have q3 : f < 100000 := by omega
    have q4 : sumL l i + f ≤ 8 * L := by omega
    have q5 : L < 100000 := by omega
    have hh := h
    obtain ⟨h1, h2, h3, h4, h5, h6, h7⟩ := h
    obtain ⟨gd, us, rfl, k1, k2, k3, k4⟩ := h7 hL0
    have hGW : Gm W := hG.below h1 hG.1
    refine (sbt_is gd u (sumL l i) f 5 W k2.1 k1 q2 q3 q1 q4 q5 h5 hGW (Nat.le_trans hG.1 k3)).mono ?_
    rintro e w' ⟨rfl, j1, us', j2, j3⟩
    refine ⟨rfl, hh.put hL0 j1 j2 k1 j3 (fun j hj => ?_)⟩
    have := want_at l hp (j := j) (by rw [hf, Int.toNat_natCast]; exact hj)
    rw [h0] at this
    exact this.symm
/-- A part that has bits. -/
theorem step_copy {wc W : World} {b p12 p13 c base : Nat} {A B : Option Addr} {u L : Nat} {l : List S28} {i : Nat} {p : S28} (hp : l[i]? = some p) (hg : GP p) (hT : sumL l (i + 1) ≤ 8 * L) (hL : L < 5000) (h : SJ wc W b p12 p13 A u L (fun k => (wantL l).getD k false) (sumL l i)) (h0 : p.f0 = true) (hG : Gm wc) (hB : BY wc base p.f1 B c) :
    Calls Tryd.prog 26 #[.slice B p.f1.length c, .int .i64 p.f2, .int .i64 p.f3, .slice A L u, .int .i64 (sumL l i : Int)] W fun e w' => e = .returned (.tuple #[]) ∧ SJ wc w' b p12 p13 A u L (fun k => (wantL l).getD k false) (sumL l (i + 1)) := by
  obtain ⟨f, hf⟩ : ∃ f : Nat, p.f3 = (f : Int) := ⟨p.f3.toNat, by have := hg.2.2.1; omega⟩
  obtain ⟨o, ho⟩ : ∃ o : Nat, p.f2 = (o : Int) := ⟨p.f2.toNat, by have := hg.1; omega⟩
  have hs := sumL_succ l hp
  rw [hf, Int.toNat_natCast] at hs
  rw [hf, hs, ho]
  have hf5 : f ≤ 500 := by have h9 := hg.2.2.2.1; rw [hf] at h9; exact Int.ofNat_le.1 h9
  have ho5 : o ≤ 500 := by have h9 := hg.2.1; rw [ho] at h9; exact Int.ofNat_le.1 h9
  have q6 : o < 100000 := by omega
  have hof : o + f ≤ 8 * p.f1.length := by have h9 := hg.2.2.2.2.1 h0; rw [hf, ho] at h9; omega
  by_cases hf0 : f = 0
  · subst hf0
    refine (cb0_is B A p.f1.length c o L u (sumL l i) W).mono ?_
    rintro e w' ⟨rfl, rfl⟩
    exact ⟨rfl, h⟩
  · have hL0 : 0 < L := by omega
    have q7 : 0 < p.f1.length := by omega
    have q1 : 1 ≤ f := by omega
    have q2 : sumL l i < 100000 := by omega
    have q3 : f < 100000 := by omega
    have q4 : sumL l i + f ≤ 8 * L := by omega
    have q5 : L < 100000 := by omega
    have hh := h
    obtain ⟨h1, h2, h3, h4, h5, h6, h7⟩ := h
    obtain ⟨gd, us, rfl, k1, k2, k3, k4⟩ := h7 hL0
    have hGW : Gm W := hG.below h1 hG.1
    obtain ⟨gs, us_s, rfl, m1, m2, m3, m4⟩ := hB.2.2 q7
    have hsl := blk_lt m2
    refine (cb_is (us := us_s.toList) (Ls := p.f1.length) gs p.f1.length c o f gd u (sumL l i) 5 5 W m3 (by rw [Array.toArray_toList]; exact (h1.block gs hsl).trans m2) q6 q3 q1 hof (Nat.le_refl _) hB.1 k2.1 k1 q2 q4 h5 q5 (Nat.ne_of_lt (Nat.lt_of_lt_of_le hsl k3)) hGW (Nat.le_trans hG.1 k3)).mono ?_
    rintro e w' ⟨rfl, j1, us', j2, j3⟩
    refine ⟨rfl, hh.put hL0 j1 j2 k1 j3 (fun j hj => ?_)⟩
    have := want_at l hp (j := j) (by rw [hf, Int.toNat_natCast]; exact hj)
    rw [h0, ho, Int.toNat_natCast] at this
    rw [this, by_bit hg.2.2.2.2.2.1 m4 (by omega)]
    rfl
end Go.Proofs.YtoceclgljmdkeaaDoor.QR
