/- Rows of bytes as bits, in natural numbers: plainly. -/
import Derived.Test.YtoceclgljmdkeaaDoorA1
import Derived.Laws.BitsAllLaws
import Derived.Laws.EntriesVeiled
import Derived.WalkSpells
import Derived.Test.YtoceclgljmdkeaaDoorPFnJoinBitsx1
import Derived.Deep.RegionHeld3
namespace Go.Proofs.YtoceclgljmdkeaaDoor.QR
open Go.RowKit Go.Proofs.YtoceclgljmdkeaaDoorW.PrintWords Go.Proofs.YtoceclgljmdkeaaDoorW.PrintLast Go.Proofs.YtoceclgljmdkeaaDoorW.PrintMore
set_option linter.unusedVariables false
set_option linter.unusedSimpArgs false
/-- The first L cells are bytes. -/
def OkN (us : List Value) (L : Nat) : Prop := L ≤ us.length ∧ ∀ q, q < L → ∃ x : Nat, us[q]? = some (.int .u8 (x : Int)) ∧ x < 256
def byN (us : List Value) (q : Nat) : Nat := match us[q]? with
  | some (.int .u8 x) => x.toNat
  | _ => 0
def btN (us : List Value) (k : Nat) : Bool := (byN us (k / 8)).testBit (k % 8)
theorem byN_of {us : List Value} {q x : Nat} (h : us[q]? = some (.int .u8 (x : Int))) : byN us q = x := by unfold byN; rw [h]; exact Int.toNat_natCast x
theorem OkN.at {us : List Value} {L q : Nat} (h : OkN us L) (hq : q < L) : us[q]? = some (.int .u8 (byN us q : Int)) ∧ byN us q < 256 := by
  obtain ⟨x, h1, h2⟩ := h.2 q hq
  rw [byN_of h1]
  exact ⟨h1, h2⟩
theorem btN_at (us : List Value) (q i : Nat) (hi : i < 8) : btN us (8 * q + i) = (byN us q).testBit i := by
  unfold btN
  rw [show (8 * q + i) / 8 = q by omega, show (8 * q + i) % 8 = i by omega]
/-- t bits have been written from bit f on. -/
def KN (us0 us : List Value) (L f t : Nat) (bf : Nat → Bool) : Prop := OkN us L ∧ us.length = us0.length ∧ ∀ k, k < f + t → btN us k = if k < f then btN us0 k else bf (k - f)
theorem kn_start {us : List Value} {L : Nat} (h : OkN us L) (f : Nat) (bf : Nat → Bool) : KN us us L f 0 bf := ⟨h, rfl, fun k hk => by rw [if_pos (by omega)]⟩
/-- Some bytes are written over. -/
theorem kn_step {us0 us us' : List Value} {L f t m q n : Nat} {bf : Nat → Bool} (h : KN us0 us L f t bf) (hlen : us'.length = us.length) (hok : OkN us' L) (hout : ∀ j, ¬ (q ≤ j ∧ j < q + n) → us'[j]? = us[j]?) (h1 : 8 * q ≤ f + t) (h2 : f + t + m ≤ 8 * (q + n))
    (hin : ∀ i, i < 8 * n → 8 * q + i < f + t + m → btN us' (8 * q + i) = if 8 * q + i < f + t then btN us (8 * q + i) else bf (8 * q + i - f)) : KN us0 us' L f (t + m) bf := by
  refine ⟨hok, hlen.trans h.2.1, fun k hk => ?_⟩
  by_cases hr : 8 * q ≤ k
  · have := hin (k - 8 * q) (by omega) (by omega)
    rw [show 8 * q + (k - 8 * q) = k by omega] at this
    rw [this]
    by_cases h3 : k < f + t
    · rw [if_pos h3]
      exact h.2.2 k h3
    · rw [if_neg h3, if_neg (by omega)]
  · have : btN us' k = btN us k := by
      unfold btN byN
      rw [hout (k / 8) (by omega)]
    rw [this]
    exact h.2.2 k (by omega)
theorem okN_set {us : List Value} {L q x : Nat} (h : OkN us L) (hx : x < 256) : OkN (us.set q (.int .u8 (x : Int))) L := by
  refine ⟨by rw [List.length_set]; exact h.1, fun j hj => ?_⟩
  by_cases e : j = q
  · subst e
    exact ⟨x, List.getElem?_set_self (Nat.lt_of_lt_of_le hj h.1), hx⟩
  · rw [List.getElem?_set_ne (fun h => e h.symm)]
    exact h.2 j hj
theorem byN_set {us : List Value} {q x : Nat} (h : q < us.length) : byN (us.set q (.int .u8 (x : Int))) q = x := byN_of (List.getElem?_set_self h)
/-- One byte is written over. -/
theorem kn_byte {us0 us : List Value} {L f t m q x : Nat} {bf : Nat → Bool} (h : KN us0 us L f t bf) (hq : q < L) (hx : x < 256) (h1 : 8 * q ≤ f + t) (h2 : f + t + m ≤ 8 * q + 8)
    (hin : ∀ i, i < 8 → 8 * q + i < f + t + m → x.testBit i = if 8 * q + i < f + t then btN us (8 * q + i) else bf (8 * q + i - f)) : KN us0 (us.set q (.int .u8 (x : Int))) L f (t + m) bf := by
  refine kn_step (q := q) (n := 1) h (List.length_set ..) (okN_set h.1 hx) (fun j hj => List.getElem?_set_ne (by omega)) h1 (by omega) (fun i hi hk => ?_)
  rw [btN_at _ _ _ (by omega), byN_set (Nat.lt_of_lt_of_le hq h.1.1)]
  exact hin i (by omega) hk
/-- Eight bytes as a number. -/
def wordN (us : List Value) (q : Nat) : Nat := byN us q + 256 * (byN us (q + 1) + 256 * (byN us (q + 2) + 256 * (byN us (q + 3) + 256 * (byN us (q + 4) + 256 * (byN us (q + 5) + 256 * (byN us (q + 6) + 256 * byN us (q + 7)))))))
theorem cons_bit {b : Nat} (hb : b < 256) (r i : Nat) : (b + 256 * r).testBit i = if i < 8 then b.testBit i else r.testBit (i - 8) := by
  rw [Nat.add_comm]
  exact Nat.testBit_two_pow_mul_add (i := 8) r hb i
theorem word_bit {us : List Value} {L q : Nat} (h : OkN us L) (hq : q + 8 ≤ L) (i : Nat) (hi : i < 64) : (wordN us q).testBit i = btN us (8 * q + i) := by
  unfold wordN
  rw [cons_bit (h.at (by omega)).2, cons_bit (h.at (by omega)).2, cons_bit (h.at (by omega)).2, cons_bit (h.at (by omega)).2, cons_bit (h.at (by omega)).2, cons_bit (h.at (by omega)).2, cons_bit (h.at (by omega)).2]
  have key : ∀ j, 8 * j ≤ i → i < 8 * j + 8 → btN us (8 * q + i) = (byN us (q + j)).testBit (i - 8 * j) := fun j h1 h2 => by
    rw [← btN_at us (q + j) (i - 8 * j) (by omega)]
    congr 1
    omega
  by_cases h1 : i < 8
  · rw [if_pos h1, key 0 (by omega) (by omega)]; rfl
  rw [if_neg h1]
  by_cases h2 : i - 8 < 8
  · rw [if_pos h2, key 1 (by omega) (by omega)]
  rw [if_neg h2]
  by_cases h3 : i - 8 - 8 < 8
  · rw [if_pos h3, key 2 (by omega) (by omega)]; exact congrArg _ (by omega)
  rw [if_neg h3]
  by_cases h4 : i - 8 - 8 - 8 < 8
  · rw [if_pos h4, key 3 (by omega) (by omega)]; exact congrArg _ (by omega)
  rw [if_neg h4]
  by_cases h5 : i - 8 - 8 - 8 - 8 < 8
  · rw [if_pos h5, key 4 (by omega) (by omega)]; exact congrArg _ (by omega)
  rw [if_neg h5]
  by_cases h6 : i - 8 - 8 - 8 - 8 - 8 < 8
  · rw [if_pos h6, key 5 (by omega) (by omega)]; exact congrArg _ (by omega)
  rw [if_neg h6]
  by_cases h7 : i - 8 - 8 - 8 - 8 - 8 - 8 < 8
  · rw [if_pos h7, key 6 (by omega) (by omega)]; exact congrArg _ (by omega)
  · rw [if_neg h7, key 7 (by omega) (by omega)]; exact congrArg _ (by omega)
theorem word_lt {us : List Value} {L q : Nat} (h : OkN us L) (hq : q + 8 ≤ L) : wordN us q < 18446744073709551616 := by
  unfold wordN
  have h0 := (h.at (show q < L by omega)).2
  have h1 := (h.at (show q + 1 < L by omega)).2
  have h2 := (h.at (show q + 2 < L by omega)).2
  have h3 := (h.at (show q + 3 < L by omega)).2
  have h4 := (h.at (show q + 4 < L by omega)).2
  have h5 := (h.at (show q + 5 < L by omega)).2
  have h6 := (h.at (show q + 6 < L by omega)).2
  have h7 := (h.at (show q + 7 < L by omega)).2
  omega
/-- Eight bytes are read. -/
theorem rd8 {us : List Value} {L : Nat} (g q n c et : Nat) (w : World) (h : OkN us L) (hq : q + 8 ≤ L) (hn : 8 ≤ n) (hg : w.heap[g]? = some (.cells us.toArray et (0, 0))) :
    Calls Tryd.prog 49 #[.agg #[], .slice (some ⟨g, q, none⟩) n c] w fun e w' => e = .returned (.int .u64 (wordN us q : Int)) ∧ Below w.heap.size w w' := by
  have key : ∀ j, j < 8 → w.cell? (Addr.add ⟨g, q, none⟩ j) = some (.int .u8 (byN us (q + j) : Int)) := fun j hj => by
    rw [show (Addr.add ⟨g, q, none⟩ j) = ⟨g, q + j, none⟩ by unfold Addr.add; cases j <;> simp]
    rw [blk_cell hg (q + j), List.getElem?_toArray, (h.at (by omega)).1]
  have b := fun j (hj : j < 8) => (h.at (show q + j < L by omega)).2
  have hh := QE.u64_is ⟨g, q, none⟩ n c _ _ _ _ _ _ _ _ w hn (h0 := ⟨Int.natCast_nonneg _, by have := b 0 (by omega); omega⟩) (h1 := ⟨Int.natCast_nonneg _, by have := b 1 (by omega); omega⟩) (h2 := ⟨Int.natCast_nonneg _, by have := b 2 (by omega); omega⟩) (h3 := ⟨Int.natCast_nonneg _, by have := b 3 (by omega); omega⟩) (h4 := ⟨Int.natCast_nonneg _, by have := b 4 (by omega); omega⟩) (h5 := ⟨Int.natCast_nonneg _, by have := b 5 (by omega); omega⟩) (h6 := ⟨Int.natCast_nonneg _, by have := b 6 (by omega); omega⟩) (h7 := ⟨Int.natCast_nonneg _, by have := b 7 (by omega); omega⟩) (key 0 (by omega)) (key 1 (by omega)) (key 2 (by omega)) (key 3 (by omega)) (key 4 (by omega)) (key 5 (by omega)) (key 6 (by omega)) (key 7 (by omega))
  have e : QE.le8 (byN us (q + 0) : Int) (byN us (q + 1)) (byN us (q + 2)) (byN us (q + 3)) (byN us (q + 4)) (byN us (q + 5)) (byN us (q + 6)) (byN us (q + 7)) = (wordN us q : Int) := by
    unfold QE.le8 wordN
    rw [Nat.add_zero]
    omega
  rw [e] at hh
  exact hh
theorem byteN_bit (x j i : Nat) (hi : i < 8) : (x / 256 ^ j % 256).testBit i = x.testBit (8 * j + i) := by
  rw [show (256 : Nat) = 2 ^ 8 by rfl, ← Nat.pow_mul, Nat.testBit_mod_two_pow, decide_eq_true hi, Bool.true_and, Nat.testBit_div_two_pow]
  congr 1
  omega
theorem byteN_nat (x j : Nat) : byteN (x : Int) j = ((x / 256 ^ j % 256 : Nat) : Int) := by
  unfold byteN
  have e : ((256 ^ j : Nat) : Int) = (256 : Int) ^ j := Int.natCast_pow 256 j
  rw [← e]
  generalize 256 ^ j = z
  omega
/-- A number's eight bytes, written. -/
def put8 (us : List Value) (q x : Nat) : List Value := put us q ((leB 8 (x : Int)).map (.int .u8))
theorem put8_len {us : List Value} {q x : Nat} (h : q + 8 ≤ us.length) : (put8 us q x).length = us.length := put_len (by rw [List.length_map, leB_len]; exact h)
theorem put8_in {us : List Value} {q x : Nat} (h : q + 8 ≤ us.length) (j : Nat) (hj : j < 8) : (put8 us q x)[q + j]? = some (.int .u8 ((x / 256 ^ j % 256 : Nat) : Int)) := by
  unfold put8
  rw [put_get (by rw [List.length_map, leB_len]; exact h), List.length_map, leB_len, if_pos (by omega), show q + j - q = j by omega]
  unfold leB
  rw [List.map_map, List.getElem?_map, List.getElem?_range hj]
  simp only [Option.map_some, Function.comp]
  rw [byteN_nat]
theorem put8_out {us : List Value} {q x : Nat} (h : q + 8 ≤ us.length) (j : Nat) (hj : ¬ (q ≤ j ∧ j < q + 8)) : (put8 us q x)[j]? = us[j]? := by
  unfold put8
  rw [put_get (by rw [List.length_map, leB_len]; exact h), List.length_map, leB_len, if_neg hj]
theorem put8_ok {us : List Value} {L q x : Nat} (h : OkN us L) (hq : q + 8 ≤ L) : OkN (put8 us q x) L := by
  have hl : q + 8 ≤ us.length := Nat.le_trans hq h.1
  refine ⟨by rw [put8_len hl]; exact h.1, fun j hj => ?_⟩
  by_cases e : q ≤ j ∧ j < q + 8
  · have := put8_in (x := x) hl (j - q) (by omega)
    rw [show q + (j - q) = j by omega] at this
    exact ⟨_, this, Nat.mod_lt _ (by omega)⟩
  · rw [put8_out hl j e]
    exact h.2 j hj
theorem put8_bit {us : List Value} {q x : Nat} (h : q + 8 ≤ us.length) (i : Nat) (hi : i < 64) : btN (put8 us q x) (8 * q + i) = x.testBit i := by
  unfold btN
  rw [show (8 * q + i) / 8 = q + i / 8 by omega, show (8 * q + i) % 8 = i % 8 by omega, byN_of (put8_in h (i / 8) (by omega)), byteN_bit _ _ _ (by omega)]
  congr 1
  omega
theorem kn_word {us0 us : List Value} {L f t m q x : Nat} {bf : Nat → Bool} (h : KN us0 us L f t bf) (hq : q + 8 ≤ L) (h1 : 8 * q ≤ f + t) (h2 : f + t + m ≤ 8 * q + 64)
    (hin : ∀ i, i < 64 → 8 * q + i < f + t + m → x.testBit i = if 8 * q + i < f + t then btN us (8 * q + i) else bf (8 * q + i - f)) : KN us0 (put8 us q x) L f (t + m) bf := by
  have hl : q + 8 ≤ us.length := Nat.le_trans hq h.1.1
  refine kn_step (q := q) (n := 8) h (put8_len hl) (put8_ok h.1 hq) (fun j hj => put8_out hl j hj) h1 (by omega) (fun i hi hk => ?_)
  rw [put8_bit hl i (by omega)]
  exact hin i (by omega) hk
theorem wr8 {us : List Value} {L : Nat} (g q n c et x : Nat) (w : World) (h : OkN us L) (hq : q + 8 ≤ L) (hn : 8 ≤ n) (hx : x < 18446744073709551616) (hg : w.heap[g]? = some (.cells us.toArray et (0, 0))) :
    Calls Tryd.prog 51 #[.agg #[], .slice (some ⟨g, q, none⟩) n c, .int .u64 (x : Int)] w fun e w' => e = .returned (.tuple #[]) ∧ w'.heap[g]? = some (.cells (put8 us q x).toArray et (0, 0)) ∧ Fr w w' g g :=
  pu64_is g q n c et us (x : Int) w ⟨Int.natCast_nonneg _, by omega⟩ hg hn (Nat.le_trans hq h.1) ⟨_, (h.at (show q + 7 < L by omega)).1⟩
end Go.Proofs.YtoceclgljmdkeaaDoor.QR
/- setLSB; the reader of single bits. -/
namespace Go.Proofs.YtoceclgljmdkeaaDoor.QR
open Go.RowKit Go.Proofs.YtoceclgljmdkeaaDoorW.PrintWords Go.Proofs.YtoceclgljmdkeaaDoorW.PrintLast Go.Proofs.YtoceclgljmdkeaaDoorW.PrintMore
set_option linter.unusedVariables false
set_option linter.unusedSimpArgs false
theorem wp_as {P : Program} {c : Code} {Q : Exit → Act → World → Prop} {a : Act} {W : World} (I : World → Prop) (h : I W) (k : ∀ V, I V → c.wp P Q a V) : c.wp P Q a W := k W h
theorem Fr.drew {w V : World} {a b : Nat} (h : Fr w V a b) : Fr w V.drew a b := h.step (Below.refl _ _).drew
theorem Fr.drewN {w V : World} {a b : Nat} (h : Fr w V a b) (n : Nat) : Fr w (V.drewN n) a b := h.step (pw_below_drewN (Below.refl _ _) n)
/-- Two blocks, and what is below a bound, stay. -/
def SU (V0 : World) (B ss g : Nat) (S C : Array Value) (tS tC : TypeId) (w' : World) : Prop := w'.heap[ss]? = some (.cells S tS (0, 0)) ∧ w'.heap[g]? = some (.cells C tC (0, 0)) ∧ Below B V0 w' ∧ B ≤ w'.heap.size
theorem SU.step {V0 w1 w2 : World} {B ss g : Nat} {S C : Array Value} {tS tC : TypeId} (h : SU V0 B ss g S C tS tC w1) (hb : Below w1.heap.size w1 w2) : SU V0 B ss g S C tS tC w2 :=
  ⟨(hb.block _ (blk_lt h.1)).trans h.1, (hb.block _ (blk_lt h.2.1)).trans h.2.1, h.2.2.1.trans (hb.mono h.2.2.2), Nat.le_trans h.2.2.2 hb.size⟩
theorem SU.cell {V0 w1 : World} {B ss g : Nat} {S C : Array Value} {tS tC : TypeId} (h : SU V0 B ss g S C tS tC w1) {k : Nat} {v : Value} (hk : C[k]? = some v) : w1.cell? ⟨g, k, none⟩ = some v := (blk_cell h.2.1 k).trans hk
theorem SU.fz {V0 w1 : World} {B ss g : Nat} {S C : Array Value} {tS tC : TypeId} (h : SU V0 B ss g S C tS tC w1) (k : Nat) : w1.frozen? ⟨g, k, none⟩ = false := blk_frozen h.2.1 k
/-- Two blocks, and what is below a bound, stay: of the second but its first cell. -/
def ST (V0 : World) (B ss g : Nat) (S : Array Value) (c0 : Value) (n : Nat) (tS tC : TypeId) (w' : World) : Prop := w'.heap[ss]? = some (.cells S tS (0, 0)) ∧ (∃ C : Array Value, w'.heap[g]? = some (.cells C tC (0, 0)) ∧ C[0]? = some c0 ∧ C.size = n) ∧ Below B V0 w' ∧ B ≤ g
theorem ST.step {V0 w1 w2 : World} {B ss g n : Nat} {S : Array Value} {c0 : Value} {tS tC : TypeId} (h : ST V0 B ss g S c0 n tS tC w1) (hb : Below w1.heap.size w1 w2) : ST V0 B ss g S c0 n tS tC w2 := by
  obtain ⟨h1, ⟨C, h2, h3⟩, h4, h5⟩ := h
  exact ⟨(hb.block _ (blk_lt h1)).trans h1, ⟨C, (hb.block _ (blk_lt h2)).trans h2, h3⟩, h4.trans (hb.mono (Nat.le_trans h5 (Nat.le_of_lt (blk_lt h2)))), h5⟩
theorem ST.cell {V0 w1 : World} {B ss g n : Nat} {S : Array Value} {c0 : Value} {tS tC : TypeId} (h : ST V0 B ss g S c0 n tS tC w1) : w1.cell? ⟨g, 0, none⟩ = some c0 := by
  obtain ⟨h1, ⟨C, h2, h3, _⟩, h4, h5⟩ := h
  exact (blk_cell h2 0).trans h3
theorem ST.any {V0 w1 : World} {B ss g n : Nat} {S : Array Value} {c0 : Value} {tS tC : TypeId} (h : ST V0 B ss g S c0 n tS tC w1) (k : Nat) (hk : k < n) : ∃ u, w1.cell? ⟨g, k, none⟩ = some u ∧ w1.frozen? ⟨g, k, none⟩ = false := by
  obtain ⟨h1, ⟨C, h2, h3, h6⟩, h4, h5⟩ := h
  exact ⟨_, (blk_cell h2 k).trans (Array.getElem?_eq_getElem (by omega)), blk_frozen h2 k⟩
theorem ST.fz {V0 w1 : World} {B ss g n : Nat} {S : Array Value} {c0 : Value} {tS tC : TypeId} (h : ST V0 B ss g S c0 n tS tC w1) (k : Nat) : w1.frozen? ⟨g, k, none⟩ = false := by
  obtain ⟨h1, ⟨C, h2, h3⟩, h4, h5⟩ := h
  exact blk_frozen h2 k
theorem ST.put {V0 w1 : World} {B ss g n : Nat} {S : Array Value} {c0 : Value} {tS tC : TypeId} (h : ST V0 B ss g S c0 n tS tC w1) (hne : ss ≠ g) {k : Nat} (hk : k ≠ 0) (v : Value) : ST V0 B ss g S c0 n tS tC (w1.setCell ⟨g, k, none⟩ v) := by
  obtain ⟨h1, ⟨C, h2, h3, h6⟩, h4, h5⟩ := h
  refine ⟨(Below.heap_setCell w1 ⟨g, k, none⟩ v ss hne).trans h1, ⟨_, blk_set h2 k v, ?_, ?_⟩, h4.setCell h5 v, h5⟩
  · rw [Array.getElem?_setIfInBounds_ne hk]
    exact h3
  · rw [Array.size_setIfInBounds]
    exact h6
def lsb (c b : Nat) : Nat := c &&& (18446744073709551615 - 255) ||| b
theorem lsb_bit (c b i : Nat) (hi : i < 8) : (lsb c b).testBit i = b.testBit i := by
  unfold lsb
  rw [Nat.testBit_or, Nat.testBit_and]
  have : (18446744073709551615 - 255 : Nat).testBit i = false := by
    have h1 : i = 0 ∨ i = 1 ∨ i = 2 ∨ i = 3 ∨ i = 4 ∨ i = 5 ∨ i = 6 ∨ i = 7 := by omega
    rcases h1 with rfl | rfl | rfl | rfl | rfl | rfl | rfl | rfl <;> decide +kernel
  rw [this, Bool.and_false, Bool.false_or]
theorem lsb_lt {c b : Nat} (hc : c < 18446744073709551616) (hb : b < 256) : lsb c b < 18446744073709551616 := by
  unfold lsb
  exact Nat.or_lt_two_pow (n := 64) (Nat.lt_of_le_of_lt Nat.and_le_left hc) (by omega)
set_option maxHeartbeats 8000000 in
set_option maxRecDepth 100000 in
theorem setlsb_is (g o c b : Nat) (cs : Array Value) (et : Nat) (w : World) (hg : w.heap[g]? = some (.cells cs et (0, 0))) (ho : cs[o]? = some (.int .u64 (c : Int))) (hc : c < 18446744073709551616) (hb : b < 256) :
    Calls Tryd.prog 50 #[.pointer (some ⟨g, o, none⟩), .int .u8 (b : Int)] w fun e w' => e = .returned (.tuple #[]) ∧ w' = w.setCell ⟨g, o, none⟩ (.int .u64 (lsb c b : Int)) := by
  have c0 := blk_cell hg o
  rw [ho] at c0
  have z0 := blk_frozen hg o
  have e1 : IntKind.u64.wrap (b : Int) = (b : Int) := wraps_u64 _ (by omega) (by omega)
  have e2 : bits .andNot .u64 (c : Int) 255 = ((c &&& (18446744073709551615 - 255) : Nat) : Int) := u64_andNot_nat c 255 hc (by omega)
  have e3 : bits .or .u64 ((c &&& (18446744073709551615 - 255) : Nat) : Int) (b : Int) = (lsb c b : Int) := u64_or_nat _ _ (Nat.lt_of_le_of_lt Nat.and_le_left hc) (by omega)
  generalize ((c &&& (18446744073709551615 - 255) : Nat) : Int) = m at e2 e3
  generalize (lsb c b : Int) = r at e3 ⊢
  clear hg ho hc hb
  go_enter Tryd.func50, Tryd.ntmps50
  go_wp2
  go_end0
  exact ⟨rfl, rfl⟩
/-- The reader of single bits: its record. -/
def brC (ss : Nat) (q n c pos len cur bo bi : Nat) : Array Value := #[.slice (some ⟨ss, q, none⟩) n c, .int .i64 (pos : Int), .int .i64 (len : Int), .int .u8 (cur : Int), .int .i64 (bo : Int), .int .i64 (bi : Int)]
theorem br_cells {V : World} {ss q n c pos len cur bo bi g : Nat} (h : V.heap[g]? = some (.cells (brC ss q n c pos len cur bo bi) 127 (0, 0))) : V.cell? ⟨g, 0, none⟩ = some (.slice (some ⟨ss, q, none⟩) n c) ∧ V.cell? ⟨g, 1, none⟩ = some (.int .i64 (pos : Int)) ∧ V.cell? ⟨g, 2, none⟩ = some (.int .i64 (len : Int)) ∧ V.cell? ⟨g, 3, none⟩ = some (.int .u8 (cur : Int)) ∧ V.cell? ⟨g, 4, none⟩ = some (.int .i64 (bo : Int)) ∧ V.cell? ⟨g, 5, none⟩ = some (.int .i64 (bi : Int)) ∧ (∀ k, V.frozen? ⟨g, k, none⟩ = false) :=
  ⟨blk_cell h 0, blk_cell h 1, blk_cell h 2, blk_cell h 3, blk_cell h 4, blk_cell h 5, fun k => blk_frozen h k⟩
set_option maxHeartbeats 8000000 in
set_option maxRecDepth 100000 in
theorem nbr_is {us : List Value} {L : Nat} (g q n c et off len : Nat) (w : World) (h : OkN us L) (hg : w.heap[g]? = some (.cells us.toArray et (0, 0))) (hoff : off < 8) (hlen : 1 ≤ len) (hl8 : len ≤ 8) (hn : 1 ≤ n) (hq : q < L) :
    Calls Tryd.prog 52 #[.slice (some ⟨g, q, none⟩) n c, .int .i64 (off : Int), .int .i64 (len : Int)] w fun e w' => e = .returned (.pointer (some ⟨w.heap.size, 0, none⟩)) ∧ w'.heap[w.heap.size]? = some (.cells (brC g q n c 0 len (byN us q) 0 off) 127 (0, 0)) ∧ Below w.heap.size w w' := by
  have c0 := blk_cell hg q
  rw [List.getElem?_toArray, (h.at hq).1] at c0
  generalize byN us q = x at c0
  have d0 : Int.tdiv (off : Int) 8 = 0 := by rw [show Int.tdiv (off : Int) 8 = ((off / 8 : Nat) : Int) from rfl, show off / 8 = 0 by omega]; rfl
  have m0 : Int.tmod (off : Int) 8 = (off : Int) := by rw [show Int.tmod (off : Int) 8 = ((off % 8 : Nat) : Int) from rfl, show off % 8 = off by omega]
  have g1 : (0 : Int) < (len : Int) := by omega
  have g2 : (0 : Int) < (n : Int) := by omega
  have cn := fun w => run_neq_slice_nil_any (P := Tryd.prog) w 24 5 (some ⟨g, q, none⟩) n c 0 0 Tryd.underlying24
  have e0 : off / 8 = 0 := by omega
  clear h hg hoff hlen hl8 hq hn
  go_enter Tryd.func52, Tryd.ntmps52
  go_wp2
  go_ret
  refine ⟨rfl, ?_, b2 w _⟩
  exact blk_new w _
theorem bit_all : ∀ (x : Fin 256) (i : Fin 8), (bits .and .u8 ((x.1 : Nat) : Int) ((2 : Int) ^ i.1 % 256) != 0) = x.1.testBit i.1 := by decide +kernel
theorem bit_all' (x i : Nat) (hx : x < 256) (hi : i < 8) : (bits .and .u8 (x : Int) ((2 : Int) ^ i % 256) != 0) = x.testBit i := bit_all ⟨x, hx⟩ ⟨i, hi⟩
set_option maxHeartbeats 8000000 in
set_option maxRecDepth 100000 in
theorem brset_is (ss q n c pos len x bo bi g : Nat) (w : World) (hg : w.heap[g]? = some (.cells (brC ss q n c pos len x bo bi) 127 (0, 0))) (hx : x < 256) (hb : bi < 8) :
    Calls Tryd.prog 53 #[.pointer (some ⟨g, 0, none⟩)] w fun e w' => e = .returned (.bool (x.testBit bi)) ∧ Below w.heap.size w w' := by
  have c3 := blk_cell hg 3
  have c5 := blk_cell hg 5
  rw [show (brC ss q n c pos len x bo bi)[3]? = some (.int .u8 (x : Int)) from rfl] at c3
  rw [show (brC ss q n c pos len x bo bi)[5]? = some (.int .i64 (bi : Int)) from rfl] at c5
  clear hg
  go_enter Tryd.func53, Tryd.ntmps53
  go_wp2
  go_quiet (fail)
  go_wp2
  go_ret
  refine ⟨?_, pw_below_drewN (Below.refl _ w) _⟩
  show Ending.returned (.bool (bits .and .u8 (x : Int) (2 ^ bi % 256) != 0)) = _
  rw [bit_all' x bi hx hb]
set_option maxHeartbeats 8000000 in
set_option maxRecDepth 100000 in
theorem brnext_is {us : List Value} {L : Nat} (ss q n c pos len x bo bi g et : Nat) (w : World) (hg : w.heap[g]? = some (.cells (brC ss q n c pos len x bo bi) 127 (0, 0))) (h : OkN us L) (hs : w.heap[ss]? = some (.cells us.toArray et (0, 0))) (hne : ss ≠ g) (hb : bi < 8) (hbo : bo < 10) (hpos : pos < 10) (hlen : len < 10)
    (hin : bi = 7 → pos + 1 < len → bo + 1 < n ∧ q + bo + 1 < L) :
    Calls Tryd.prog 54 #[.pointer (some ⟨g, 0, none⟩)] w fun e w' => e = .returned (.tuple #[]) ∧ w'.heap[g]? = some (.cells (brC ss q n c (pos + 1) len (if bi = 7 ∧ pos + 1 < len then byN us (q + bo + 1) else x) (if bi = 7 then bo + 1 else bo) (if bi = 7 then 0 else bi + 1)) 127 (0, 0)) ∧ Fr w w' g g := by
  obtain ⟨c0, c1, c2, c3, c4, c5, zz⟩ := br_cells hg
  have w1 : IntKind.i64.wrap ((bi : Int) + 1) = ((bi + 1 : Nat) : Int) := by rw [IntWalk.i64_in _ (by omega)]; rfl
  have w2 : IntKind.i64.wrap ((pos : Int) + 1) = ((pos + 1 : Nat) : Int) := by rw [IntWalk.i64_in _ (by omega)]; rfl
  have w3 : IntKind.i64.wrap ((bo : Int) + 1) = ((bo + 1 : Nat) : Int) := by rw [IntWalk.i64_in _ (by omega)]; rfl
  have QB := Aside0.mk hg
  by_cases h7 : bi = 7
  · subst h7
    by_cases hp : pos + 1 < len
    · obtain ⟨i1, i2⟩ := hin rfl hp
      have ky := (h.at (show q + (bo + 1) < L by omega)).1
      have k := blk_cell hs (q + (bo + 1))
      rw [List.getElem?_toArray, ky] at k
      rw [if_pos ⟨rfl, hp⟩, if_pos rfl, if_pos rfl, show q + bo + 1 = q + (bo + 1) from rfl]
      generalize byN us (q + (bo + 1)) = y at k ky ⊢
      have hpi : ((pos + 1 : Nat) : Int) < (len : Int) := by omega
      have hbi : (bo : Int) + 1 < (n : Int) := by omega
      have hb0 : (0 : Int) ≤ (bo : Int) + 1 := by omega
      have hss := blk_lt hs
      have QS := Aside0.mk hs
      clear h hs hg hin i1 i2 hp hb hbo hpos hlen
      go_enter Tryd.func54, Tryd.ntmps54
      go_wp2
      go_quiet (fail)
      go_wp2
      refine wp_as (fun V => V.heap[g]? = some (.cells (brC ss q n c (pos + 1) len x (bo + 1) 0) 127 (0, 0)) ∧ V.heap[ss]? = some (.cells us.toArray et (0, 0)) ∧ Fr w V g g) ?_ ?_
      · have F : Fr w ((((w.setCell ⟨g, 5, none⟩ (.int .i64 8)).setCell ⟨g, 1, none⟩ (.int .i64 ((pos : Int) + 1))).setCell ⟨g, 5, none⟩ (.int .i64 0)).setCell ⟨g, 4, none⟩ (.int .i64 ((bo : Int) + 1))) g g := ((((Fr.refl w g g).set g 5 _ (.inl rfl)).set g 1 _ (.inl rfl)).set g 5 _ (.inl rfl)).set g 4 _ (.inl rfl)
        have h := blk_set (blk_set (blk_set (blk_set QB.out 5 (.int .i64 8)) 1 (.int .i64 ((pos : Int) + 1))) 5 (.int .i64 0)) 4 (.int .i64 ((bo : Int) + 1))
        refine ⟨?_, (F.far ss hss hne hne).trans QS.out, ⟨F.os, F.tape, F.output, F.size, F.far⟩⟩
        exact h
      · rintro V ⟨v1, v2, v3⟩
        clear c0 c1 c2 c3 c4 c5 zz k
        obtain ⟨c0, c1, c2, c3, c4, c5, zz⟩ := br_cells (V := V.drew) v1
        have z3 := zz 3
        clear zz
        have k : V.drew.cell? ⟨ss, q + (bo + 1), none⟩ = _ := blk_cell v2 (q + (bo + 1))
        rw [List.getElem?_toArray, ky] at k
        have QV := Aside0.mk (And.intro v1 v3)
        clear v1 v2 v3
        refine wp_region_still_tail 13 (by kernel_rfl) (by kernel_rfl) ?_; simp only [List.take_succ_cons, List.take_zero, List.drop_succ_cons, List.drop_zero]; change wpStill _ _ (World.drew _) _ _ _; (repeat still_step); refine wpStill_nil ?_; change wpList _ _ _ _ _ (World.drew _); go_wp2
        go_end0
        have h := blk_set QV.out.1 3 (.int .u8 (y : Int))
        exact ⟨rfl, h, (QV.out.2.set g 3 _ (.inl rfl)).drew⟩
    · have hn : ¬ (((pos + 1 : Nat) : Int) < (len : Int)) := by omega
      rw [if_neg (fun hh => hp hh.2), if_pos rfl, if_pos rfl]
      clear h hs hg hin hp hb hbo hpos hlen
      go_enter Tryd.func54, Tryd.ntmps54
      go_wp2
      go_quiet (fail)
      go_wp2
      go_end0
      have F : Fr w ((((w.setCell ⟨g, 5, none⟩ (.int .i64 8)).setCell ⟨g, 1, none⟩ (.int .i64 ((pos : Int) + 1))).setCell ⟨g, 5, none⟩ (.int .i64 0)).setCell ⟨g, 4, none⟩ (.int .i64 ((bo : Int) + 1))) g g := ((((Fr.refl w g g).set g 5 _ (.inl rfl)).set g 1 _ (.inl rfl)).set g 5 _ (.inl rfl)).set g 4 _ (.inl rfl)
      have h := blk_set (blk_set (blk_set (blk_set QB.out 5 (.int .i64 8)) 1 (.int .i64 ((pos : Int) + 1))) 5 (.int .i64 0)) 4 (.int .i64 ((bo : Int) + 1))
      exact ⟨rfl, h, ⟨F.os, F.tape, F.output, F.size, F.far⟩⟩
  · have hn : ¬ ((bi + 1 : Nat) : Int) = 8 := by omega
    rw [if_neg (fun hh => h7 hh.1), if_neg h7, if_neg h7]
    clear h hs hg hin h7 hb hbo hpos hlen
    go_enter Tryd.func54, Tryd.ntmps54
    go_wp2
    go_end0
    have h := blk_set (blk_set QB.out 5 (.int .i64 ((bi : Int) + 1))) 1 (.int .i64 ((pos : Int) + 1))
    exact ⟨rfl, h, ((Fr.refl w g g).set g 5 _ (.inl rfl)).set g 1 _ (.inl rfl)⟩
end Go.Proofs.YtoceclgljmdkeaaDoor.QR
/- The reader of words: its last byte, bit by bit. -/
namespace Go.Proofs.YtoceclgljmdkeaaDoor.QR
open Go.RowKit Go.Proofs.YtoceclgljmdkeaaDoorW.PrintWords Go.Proofs.YtoceclgljmdkeaaDoorW.PrintLast Go.Proofs.YtoceclgljmdkeaaDoorW.PrintMore
set_option linter.unusedVariables false
set_option linter.unusedSimpArgs false
theorem assert_is (b : Bool) (v : Value) (w : World) : Calls Tryd.prog 29 #[.bool b, v] w fun e w' => e = .returned (.tuple #[]) ∧ w' = w := by
  go_enter Tryd.func29, Tryd.ntmps29
  go_wp2
  go_end0
  exact ⟨rfl, rfl⟩
def rdC (ss q n c off nw tb tby cur : Nat) : Array Value := #[.slice (some ⟨ss, q, none⟩) n c, .int .i64 (off : Int), .int .i64 (nw : Int), .int .i64 (tb : Int), .int .i64 (tby : Int), .int .u64 (cur : Int)]
theorem rd_cells {V : World} {ss q n c off nw tb tby cur g : Nat} (h : V.heap[g]? = some (.cells (rdC ss q n c off nw tb tby cur) 111 (0, 0))) : V.cell? ⟨g, 0, none⟩ = some (.slice (some ⟨ss, q, none⟩) n c) ∧ V.cell? ⟨g, 1, none⟩ = some (.int .i64 (off : Int)) ∧ V.cell? ⟨g, 2, none⟩ = some (.int .i64 (nw : Int)) ∧ V.cell? ⟨g, 3, none⟩ = some (.int .i64 (tb : Int)) ∧ V.cell? ⟨g, 4, none⟩ = some (.int .i64 (tby : Int)) ∧ V.cell? ⟨g, 5, none⟩ = some (.int .u64 (cur : Int)) ∧ (∀ k, V.frozen? ⟨g, k, none⟩ = false) :=
  ⟨blk_cell h 0, blk_cell h 1, blk_cell h 2, blk_cell h 3, blk_cell h 4, blk_cell h 5, fun k => blk_frozen h k⟩
def shin (v : Nat) (b : Bool) : Nat := v / 2 + if b then 128 else 0
theorem shin_all : ∀ (v : Fin 256) (b : Bool) (k : Fin 8), (shin v.1 b).testBit k.1 = if k.1 = 7 then b else v.1.testBit (k.1 + 1) := by decide +kernel
theorem shin_bit {v k : Nat} (b : Bool) (hv : v < 256) (hk : k < 8) : (shin v b).testBit k = if k = 7 then b else v.testBit (k + 1) := shin_all ⟨v, hv⟩ b ⟨k, hk⟩
theorem shin_lt {v : Nat} (b : Bool) (hv : v < 256) : shin v b < 256 := by unfold shin; cases b <;> simp <;> omega
theorem or128 : ∀ v : Fin 128, bits .or .u8 ((v.1 : Nat) : Int) 128 = ((v.1 + 128 : Nat) : Int) := by decide +kernel
set_option maxHeartbeats 8000000 in
set_option maxRecDepth 100000 in
theorem ntbl_is {us : List Value} {L : Nat} (ss q n c off nw tb tby cur g et : Nat) (w : World) (hg : w.heap[g]? = some (.cells (rdC ss q n c off nw tb tby cur) 111 (0, 0))) (h : OkN us L) (hs : w.heap[ss]? = some (.cells us.toArray et (0, 0))) (hne : ss ≠ g) (hoff : off < 8) (htb : 1 ≤ tb) (htb8 : tb ≤ 8) (hn : off + tb ≤ 8 * n) (hL : q + n ≤ L) :
    Calls Tryd.prog 45 #[.pointer (some ⟨g, 0, none⟩)] w fun e w' => ∃ v : Nat, e = .returned (.tuple #[.int .u8 (v : Int), .int .i64 (tb : Int)]) ∧ (v < 256 ∧ ∀ i, i < tb → v.testBit i = btN us (8 * q + off + i)) ∧ w'.heap[g]? = some (.cells (rdC ss q n c off nw 0 tby cur) 111 (0, 0)) ∧ Fr w w' g g := by
  obtain ⟨c0, c1, c2, c3, c4, c5, zz⟩ := rd_cells hg
  have z3 := zz 3
  clear zz
  have Qs := Aside0.mk (And.intro hs (blk_lt hs))
  have Qg := Aside0.mk hg
  have Qh := Aside0.mk h
  have t1 : (0 : Int) < (tb : Int) := by omega
  have t8 : (tb : Int) ≤ 8 := by omega
  have Qn := Aside0.mk (And.intro hn (And.intro hL (And.intro hoff (And.intro htb (And.intro htb8 hne)))))
  clear hs hg h hn hL hoff htb htb8 hne
  go_enter Tryd.func45, Tryd.ntmps45
  go_wp2_with (go_at_call 29; with_reducible refine Calls.mono (assert_is _ _ _) ?_; rintro e w1 ⟨rfl, rfl⟩)
  refine wp_as (fun V => V.heap[g]? = some (.cells (rdC ss q n c off nw 0 tby cur) 111 (0, 0)) ∧ Fr w1 V g g) ⟨blk_set Qg.out 3 (.int .i64 0), (Fr.refl w1 g g).set g 3 _ (.inl rfl)⟩ ?_
  rintro V ⟨v1, v2⟩
  clear c0 c1 c2 c3 c4 c5 z3
  obtain ⟨c0, c1, c2, c3, c4, c5, zz⟩ := rd_cells (V := V.drew) v1
  clear zz
  have vs : V.drew.heap[ss]? = some (.cells us.toArray et (0, 0)) := (v2.far ss Qs.out.2 Qn.out.2.2.2.2.2 Qn.out.2.2.2.2.2).trans Qs.out.1
  have QF := Aside0.mk v2.drew
  have v1' : V.drew.heap[g]? = _ := v1
  have Qv := Aside0.mk v1'
  clear v1 v2 v1'
  have QN := Aside0.mk (nbr_is ss q n c et off tb V.drew Qh.out vs Qn.out.2.2.1 Qn.out.2.2.2.1 Qn.out.2.2.2.2.1 (by have := Qn.out; omega) (by have := Qn.out; omega))
  have QVs := Aside0.mk vs
  clear vs
  refine wp_region_still_tail 9 (by kernel_rfl) (by kernel_rfl) ?_; simp only [List.take_succ_cons, List.take_zero, List.drop_succ_cons, List.drop_zero]; change wpStill _ _ (World.drew _) _ _ _; (repeat still_step); refine wpStill_nil ?_; change wpList _ _ _ _ _ (World.drew _)
  generalize V.drew = Vd at QF Qv c0 c1 c2 c3 c4 c5 QN QVs ⊢
  go_wp2_with (go_at_call 52; with_reducible refine Calls.mono QN.out ?_; rintro e w2 ⟨rfl, h1, h2⟩; have QR := Aside0.mk h1; have QB := Aside0.mk h2; clear h1 h2)
  have hgl : g < Vd.heap.size := blk_lt Qv.out
  have hsl : ss < Vd.heap.size := blk_lt QVs.out
  obtain ⟨r, hr⟩ : ∃ r, r = Vd.heap.size := ⟨_, rfl⟩
  rw [← hr] at QR hgl hsl ⊢
  have Hr := Aside0.mk hr
  have hgl := hgl
  clear hr QN c0 c1 c2 c3 c4 c5 V
  go_loopg [2, 5] tb (fun kq v2 v5 w' => ∃ (v j bo bi x : Nat), v2 = .int .u8 (v : Int) ∧ v5 = .int .i64 (j : Int) ∧ Aside0 (j + kq = tb) ∧ Aside0 (v < 256 ∧ ∀ i, i < j → v.testBit (8 - j + i) = btN us (8 * q + off + i)) ∧ Aside0 (w'.heap[r]? = some (.cells (brC ss q n c j tb x bo bi) 127 (0, 0)) ∧ 8 * bo + bi = off + j ∧ bi < 8 ∧ x < 256 ∧ (j < tb → x = byN us (q + bo))) ∧ Aside0 (Below Vd.heap.size Vd w'))
  case atStart => exact ⟨0, 0, 0, off, byN us q, rfl, rfl, ⟨by omega⟩, ⟨by omega, fun i hi => absurd hi (by omega)⟩, ⟨QR.out, by omega, Qn.out.2.2.1, (Qh.out.at (by have := Qn.out; omega)).2, fun _ => rfl⟩, QB⟩
  case round =>
    obtain ⟨v, j, bo, bi, x, rfl, rfl, HA, HV, HR, HB⟩ := hrel
    clear QR QB
    rcases Nat.eq_zero_or_pos gk with h0 | h0
    · obtain rfl : j = tb := by have := HA.out; omega
      have e8 : IntKind.i64.wrap (8 - (j : Int)) = ((8 - j : Nat) : Int) := by rw [IntWalk.i64_in _ (by omega)]; omega
      have n8 : (0 : Int) ≤ 8 - (j : Int) := by omega
      go_wp2
      have ev : (v : Int) / 2 ^ (8 - j) = ((v / 2 ^ (8 - j) : Nat) : Int) := by
        have e : ((2 ^ (8 - j) : Nat) : Int) = (2 : Int) ^ (8 - j) := Int.natCast_pow 2 (8 - j)
        rw [← e]
        exact (Int.natCast_ediv v _).symm
      rw [ev]
      refine bodyPost_ret (v := .tuple #[.int .u8 ((v / 2 ^ (8 - j) : Nat) : Int), .int .i64 (j : Int)]) (by simp [results, Tryd.results45, go_sem]) rfl ?_
      refine ⟨v / 2 ^ (8 - j), rfl, ⟨Nat.lt_of_le_of_lt (Nat.div_le_self _ _) HV.out.1, fun i hi => ?_⟩, ?_, QF.out.step HB.out⟩
      · rw [Nat.testBit_div_two_pow, Nat.add_comm]
        exact HV.out.2 i hi
      · exact (HB.out.block g (by have := Hr.out; omega)).trans Qv.out
    · have hj : (j : Int) < (tb : Int) := by have := HA.out; omega
      obtain ⟨k1, rfl⟩ : ∃ k1, gk = k1 + 1 := ⟨gk - 1, by omega⟩
      obtain ⟨hr1, hr2, hr3, hr4, hr5⟩ := HR.out
      have hjn : j < tb := by omega
      have hx := hr5 hjn
      have hb : x.testBit bi = btN us (8 * q + off + j) := by
        rw [hx, ← btN_at us (q + bo) bi hr3]
        congr 1
        omega
      have QS := Aside0.mk (fun w h => brset_is ss q n c j tb x bo bi r w h hr4 hr3)
      have QX := Aside0.mk (fun w h hs => brnext_is (us := us) (L := L) ss q n c j tb x bo bi r et w h Qh.out hs (by omega) hr3 (by have := Qn.out; omega) (by omega) (by omega) (fun h7 hp => by have := Qn.out; omega))
      obtain ⟨b, hbb⟩ : ∃ b, b = x.testBit bi := ⟨_, rfl⟩
      rw [← hbb] at hb QS
      have QV' : Aside0 (shin v b < 256 ∧ ∀ i, i < j + 1 → (shin v b).testBit (8 - (j + 1) + i) = btN us (8 * q + off + i)) := ⟨shin_lt b HV.out.1, fun i hi => by
        rw [shin_bit b HV.out.1 (by omega)]
        by_cases e : i = j
        · subst e
          rw [if_pos (by omega), hb]
        · rw [if_neg (by omega), ← HV.out.2 i (by omega)]
          congr 1
          omega⟩
      have QS1 := Aside0.mk (QS.out wr hr1)
      have hs1 := (HB.out.block ss (by have := Hr.out; omega)).trans QVs.out
      have hv2 : v / 2 < 128 := by have := HV.out; omega
      have eo : bits .or .u8 ((v : Int) / 2) 128 = ((v / 2 + 128 : Nat) : Int) := or128 ⟨v / 2, hv2⟩
      have hnx : 8 * (if bi = 7 then bo + 1 else bo) + (if bi = 7 then 0 else bi + 1) = off + (j + 1) ∧ (if bi = 7 then 0 else bi + 1) < 8 := by split <;> omega
      have hnx2 : (if bi = 7 ∧ j + 1 < tb then byN us (q + bo + 1) else x) < 256 ∧ (j + 1 < tb → (if bi = 7 ∧ j + 1 < tb then byN us (q + bo + 1) else x) = byN us (q + (if bi = 7 then bo + 1 else bo))) := by
        refine ⟨?_, fun hp => ?_⟩
        · split
          · rename_i hh
            exact (Qh.out.at (by have := Qn.out; omega)).2
          · exact hr4
        · by_cases h7 : bi = 7
          · rw [if_pos ⟨h7, hp⟩, if_pos h7]; rfl
          · rw [if_neg (fun hh => h7 hh.1), if_neg h7]; exact hx
      have Qnx := Aside0.mk (And.intro hnx hnx2)
      have Qs1 := Aside0.mk (And.intro hr1 hs1)
      generalize (if bi = 7 ∧ j + 1 < tb then byN us (q + bo + 1) else x) = x' at QX Qnx
      generalize (if bi = 7 then bo + 1 else bo) = bo' at QX Qnx
      generalize (if bi = 7 then 0 else bi + 1) = bi' at QX Qnx
      have esh : shin v b = v / 2 + if b then 128 else 0 := rfl
      generalize hsv : shin v b = sv at QV' esh
      clear hb hbb hx hr1 hr2 hr3 hr4 hr5 hs1 hnx hnx2 hv2 hsv QS
      cases b
      · simp only [Bool.false_eq_true, if_false, Nat.add_zero] at esh
        go_wp2_with (first | (go_at_call 53; with_reducible refine Calls.mono QS1.out ?_; rintro e w3 ⟨rfl, hb3⟩; have QB3 := Aside0.mk hb3; clear hb3) | (go_at_call 54; with_reducible refine Calls.mono (QX.out _ ((QB3.out.block _ (blk_lt Qs1.out.1)).trans Qs1.out.1) ((QB3.out.block _ (blk_lt Qs1.out.2)).trans Qs1.out.2)) ?_; rintro e w4 ⟨rfl, h4, h5⟩; have Q4 := Aside0.mk (And.intro h4 h5); clear h4 h5))
        go_roundg k1
        case rel => exact ⟨sv, j + 1, bo', bi', x', by rw [esh]; rfl, rfl, ⟨by have := HA.out; omega⟩, QV', ⟨Q4.out.1, Qnx.out.1.1, Qnx.out.1.2, Qnx.out.2.1, Qnx.out.2.2⟩, ⟨(HB.out.trans (QB3.out.mono HB.out.size)).trans (Q4.out.2.below (Nat.le_trans HB.out.size QB3.out.size) (Nat.le_of_eq Hr.out.symm) (Nat.le_of_eq Hr.out.symm))⟩⟩
        · omega
      · simp only [if_true] at esh
        go_wp2_with (first | (go_at_call 53; with_reducible refine Calls.mono QS1.out ?_; rintro e w3 ⟨rfl, hb3⟩; have QB3 := Aside0.mk hb3; clear hb3) | (go_at_call 54; with_reducible refine Calls.mono (QX.out _ ((QB3.out.block _ (blk_lt Qs1.out.1)).trans Qs1.out.1) ((QB3.out.block _ (blk_lt Qs1.out.2)).trans Qs1.out.2)) ?_; rintro e w4 ⟨rfl, h4, h5⟩; have Q4 := Aside0.mk (And.intro h4 h5); clear h4 h5))
        go_roundg k1
        case rel => exact ⟨sv, j + 1, bo', bi', x', by rw [esh]; rfl, rfl, ⟨by have := HA.out; omega⟩, QV', ⟨Q4.out.1, Qnx.out.1.1, Qnx.out.1.2, Qnx.out.2.1, Qnx.out.2.2⟩, ⟨(HB.out.trans (QB3.out.mono HB.out.size)).trans (Q4.out.2.below (Nat.le_trans HB.out.size QB3.out.size) (Nat.le_of_eq Hr.out.symm) (Nat.le_of_eq Hr.out.symm))⟩⟩
        · omega
end Go.Proofs.YtoceclgljmdkeaaDoor.QR
