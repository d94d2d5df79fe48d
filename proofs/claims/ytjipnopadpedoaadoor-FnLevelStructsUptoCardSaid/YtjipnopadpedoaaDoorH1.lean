/- Words that the walks use: rows of bytes, as numbers and as bits. -/
import Derived.Test.YtjipnopadpedoaaDoorPFnLevelStructsx4
import Derived.Lib.Walk
import Derived.WalkKit
import Derived.Deep.QuietTactic
import Derived.BigQuiet
import Derived.WideLaws
import Derived.KernelRfl
import Derived.RegionTactic
import Derived.Deep.Draws
import Derived.Shelf.RegionOpenPlain
import Derived.Laws.IdiomCopy
import Derived.Handy
import Derived.IntWalk
import Derived.Laws.Externs
import Derived.StillTailTactics
import Derived.Deep.DeepMust
import Derived.Deep.MidRow
import Derived.BigRegion
import Derived.Deep.Cut
import Derived.Laws.BitsAllLaws
import Derived.Laws.EntriesVeiled
import Derived.Laws.NewBlocks
import Derived.WalkSpells
import Derived.Deep.RegionHeld3
namespace Go.Proofs.YtjipnopadpedoaaDoor.QR
open Go.RowKit Go.Proofs.YtjipnopadpedoaaDoorW.PrintWords Go.Proofs.YtjipnopadpedoaaDoorW.PrintLast Go.Proofs.YtjipnopadpedoaaDoorW.PrintMore
set_option linter.unusedVariables false
set_option linter.unusedSimpArgs false
def bytesOk (l : List Int) : Bool := l.all fun x => decide (0 ≤ x) && decide (x < 256)
theorem bytes_ok {l : List Int} (h : bytesOk l = true) (k : Int) : 0 ≤ rd l k ∧ rd l k < 256 := by
  by_cases hk : k.toNat < l.length
  · unfold bytesOk at h
    rw [List.all_eq_true] at h
    have := h l[k.toNat] (List.getElem_mem hk)
    simpa [rd, hk] using this
  · have : rd l k = 0 := by unfold rd; rw [List.getD_eq_getElem?_getD, List.getElem?_eq_none (by omega)]; rfl
    rw [this]; decide
def bt1 (l : List Int) (t : Nat) : Bool := decide (rd l ((t / 8 : Nat) : Int) / 2 ^ (t % 8) % 2 = 1)
abbrev Cu (w : World) (A : Option Addr) (l : List Int) : Prop := Kd.C (Kd.int .u8) w A l.length l
/-- Nothing panics. -/
def NoP (Q : Exit → Act → World → Prop) : Exit → Act → World → Prop
  | .panic _, _, _ => False
  | e, a, w => Q e a w
theorem wp_noP {P : Program} {c : Code} {Q : Exit → Act → World → Prop} {a : Act} {w : World} (h : c.wp P (NoP Q) a w) : c.wp P Q a w :=
  wp_mono h (fun e a w h => by
    cases e with
    | panic c => exact absurd h (fun h => h)
    | normal => exact h
    | exit i => exact h
    | goto l => exact h
    | ret => exact h
    | outgrown => exact h)
theorem noP_normal {Q : Exit → Act → World → Prop} {a : Act} {w : World} (h : Q .normal a w) : NoP Q .normal a w := h
theorem Cu.keep {w w' : World} {A : Option Addr} {l : List Int} (h : Cu w A l) (hk : ∀ ad, A = some ad → 0 < l.length → w'.heap[ad.block]? = w.heap[ad.block]?) : Cu w' A l := by
  have hr := Kd.reads_of_C (enc := Value.int .u8) (d := (0 : Int)) (h1 := fun _ => rfl) h
  refine Kd.C_of_reads (d := (0 : Int)) (enc := Value.int .u8) ⟨hr.1, hr.2.1, fun hn => ?_⟩
  obtain ⟨ad, e, hc⟩ := hr.2.2 hn
  refine ⟨ad, e, fun j hj => ?_⟩
  have := hc j hj
  unfold World.cell? at this ⊢
  rw [add_block, hk ad e hn, ← add_block ad j]
  exact this
/-- A block that holds no byte is not the row's. -/
theorem Cu.ne {w : World} {A : Option Addr} {l : List Int} (h : Cu w A l) {g : Nat} {cs : Array Value} {ty : TypeId} {fz : Nat × Nat} (hg : w.heap[g]? = some (.cells cs ty fz)) (hn : ∀ u ∈ cs, ∀ x, u ≠ .int .u8 x) (ad : Addr) (hA : A = some ad) (hl : 0 < l.length) : ad.block ≠ g := by
  intro he
  obtain ⟨ad2, h2, h3⟩ := Kd.at_int h 0 (Int.le_refl _) (by omega)
  rw [hA] at h2
  cases h2
  obtain ⟨ab, ao, ap⟩ := ad
  simp only at he
  subst he
  rw [show (Addr.add ⟨ab, ao, ap⟩ (0 : Int).toNat) = ⟨ab, ao, ap⟩ by simp [Addr.add]] at h3
  unfold World.cell? at h3
  simp only [hg] at h3
  split at h3
  · cases h3
  · exact hn _ (Array.mem_of_getElem? h3) _ rfl
/-- Nothing but two blocks, and what is new. -/
structure Fr (w w' : World) (bk gd : Nat) : Prop where
  os : w'.os = w.os
  tape : w'.tape = w.tape
  output : w'.output = w.output
  size : w.heap.size ≤ w'.heap.size
  far : ∀ k, k < w.heap.size → k ≠ bk → k ≠ gd → w'.heap[k]? = w.heap[k]?
theorem Fr.refl (w : World) (bk gd : Nat) : Fr w w bk gd := ⟨rfl, rfl, rfl, Nat.le_refl _, fun _ _ _ _ => rfl⟩
theorem Fr.step {w w' w'' : World} {bk gd : Nat} (h : Fr w w' bk gd) (hb : Below w'.heap.size w' w'') : Fr w w'' bk gd := ⟨hb.os.trans h.os, hb.tape.trans h.tape, hb.output.trans h.output, Nat.le_trans h.size hb.size, fun k h1 h2 h3 => (hb.block k (Nat.lt_of_lt_of_le h1 h.size)).trans (h.far k h1 h2 h3)⟩
theorem Fr.set {w w' : World} {bk gd : Nat} (h : Fr w w' bk gd) (g o : Nat) (v : Value) (hg : g = bk ∨ g = gd) : Fr w (w'.setCell ⟨g, o, none⟩ v) bk gd := by
  refine ⟨h.os, h.tape, h.output, by simpa [World.setCell] using h.size, fun k h1 h2 h3 => ?_⟩
  rw [Below.heap_setCell w' ⟨g, o, none⟩ v k (by rcases hg with rfl | rfl <;> assumption)]
  exact h.far k h1 h2 h3
theorem Fr.trans {w w' w'' : World} {bk gd : Nat} (h : Fr w w' bk gd) (k : Fr w' w'' bk gd) : Fr w w'' bk gd := ⟨k.os.trans h.os, k.tape.trans h.tape, k.output.trans h.output, Nat.le_trans h.size k.size, fun i h1 h2 h3 => (k.far i (Nat.lt_of_lt_of_le h1 h.size) h2 h3).trans (h.far i h1 h2 h3)⟩
theorem Cu.fr {w w' : World} {bk gd : Nat} (h : Fr w w' bk gd) {A : Option Addr} {l : List Int} (hC : Cu w A l) {cs cs' : Array Value} {ty ty' : TypeId} {fz fz' : Nat × Nat} (h1 : w.heap[bk]? = some (.cells cs ty fz)) (n1 : ∀ u ∈ cs, ∀ x, u ≠ .int .u8 x) (h2 : w.heap[gd]? = some (.cells cs' ty' fz')) (n2 : ∀ u ∈ cs', ∀ x, u ≠ .int .u8 x) : Cu w' A l := by
  refine hC.keep (fun ad hA hl => h.far ad.block ?_ (hC.ne h1 n1 ad hA hl) (hC.ne h2 n2 ad hA hl))
  obtain ⟨ad2, h3, h4⟩ := Kd.at_int hC 0 (Int.le_refl _) (by omega)
  rw [hA] at h3
  cases h3
  unfold World.cell? at h4
  rw [add_block] at h4
  split at h4
  · rename_i e
    exact (Array.getElem?_eq_some_iff.1 e).1
  · cases h4
theorem b2 (w : World) (a : Obj) : Below w.heap.size w (w.alloc a) := (Below.refl w.heap.size w).alloc (Nat.le_refl _) a
theorem b3 (w : World) (a b : Obj) : Below w.heap.size w ((w.alloc a).alloc b) := (b2 w a).alloc (b2 w a).size b
theorem Fr.of_below {w w' : World} {a b : Nat} (h : Below w.heap.size w w') : Fr w w' a b := (Fr.refl w a b).step h
/-- What lay below a bound stays, where only newer blocks were written to. -/
theorem Fr.below {w w' : World} {a b B : Nat} (h : Fr w w' a b) (hB : B ≤ w.heap.size) (ha : B ≤ a) (hb : B ≤ b) : Below B w w' := ⟨h.os, h.tape, h.output, h.size, fun k hk => h.far k (by omega) (by omega) (by omega)⟩
theorem Fr.swap {w w' : World} {a b : Nat} (h : Fr w w' a b) : Fr w w' b a := ⟨h.os, h.tape, h.output, h.size, fun k h1 h2 h3 => h.far k h1 h3 h2⟩
theorem Fr.one {w w' : World} {a b : Nat} (h : Fr w w' a a) : Fr w w' a b := ⟨h.os, h.tape, h.output, h.size, fun k h1 h2 _ => h.far k h1 h2 h2⟩
theorem Fr.two {w w' : World} {a b : Nat} (h : Fr w w' b b) : Fr w w' a b := ⟨h.os, h.tape, h.output, h.size, fun k h1 _ h2 => h.far k h1 h2 h2⟩
theorem gate_op {P : Program} {ops : Array Oper} {rest : List Oper} {o : Oper} {a : Act} {Q : Exit → Act → World → Prop} {W : World} {x : Op} (_ho : o.op = x) (h : wpList P ops Q (o :: rest) a W) : wpList P ops Q (o :: rest) a W := h
/-- The first L cells are bytes. -/
def OkN (us : List Value) (L : Nat) : Prop := L ≤ us.length ∧ ∀ q, q < L → ∃ x : Nat, us[q]? = some (.int .u8 (x : Int)) ∧ x < 256
def byN (us : List Value) (q : Nat) : Nat := match us[q]? with
  | some (.int .u8 x) => x.toNat
  | _ => 0
def btN (us : List Value) (k : Nat) : Bool := (byN us (k / 8)).testBit (k % 8)
theorem byN_of {us : List Value} {q x : Nat} (h : us[q]? = some (.int .u8 (x : Int))) : byN us q = x := by unfold byN; rw [h]; exact Int.toNat_natCast x
theorem OkN.at {us : List Value} {L q : Nat} (h : OkN us L) (hq : q < L) : us[q]? = some (.int .u8 (byN us q : Int)) ∧ byN us q < 256 := by
  obtain ⟨x, h1, h2⟩ := h.2 q hq
  rw [byN_of h1]
  exact ⟨h1, h2⟩
theorem btN_at (us : List Value) (q i : Nat) (hi : i < 8) : btN us (8 * q + i) = (byN us q).testBit i := by
  unfold btN
  rw [show (8 * q + i) / 8 = q by omega, show (8 * q + i) % 8 = i by omega]
/-- t bits have been written from bit f on. -/
def KN (us0 us : List Value) (L f t : Nat) (bf : Nat → Bool) : Prop := OkN us L ∧ us.length = us0.length ∧ ∀ k, k < f + t → btN us k = if k < f then btN us0 k else bf (k - f)
theorem kn_start {us : List Value} {L : Nat} (h : OkN us L) (f : Nat) (bf : Nat → Bool) : KN us us L f 0 bf := ⟨h, rfl, fun k hk => by rw [if_pos (by omega)]⟩
/-- Some bytes are written over. -/
theorem kn_step {us0 us us' : List Value} {L f t m q n : Nat} {bf : Nat → Bool} (h : KN us0 us L f t bf) (hlen : us'.length = us.length) (hok : OkN us' L) (hout : ∀ j, ¬ (q ≤ j ∧ j < q + n) → us'[j]? = us[j]?) (h1 : 8 * q ≤ f + t) (h2 : f + t + m ≤ 8 * (q + n))
    (hin : ∀ i, i < 8 * n → 8 * q + i < f + t + m → btN us' (8 * q + i) = if 8 * q + i < f + t then btN us (8 * q + i) else bf (8 * q + i - f)) : KN us0 us' L f (t + m) bf := by
  refine ⟨hok, hlen.trans h.2.1, fun k hk => ?_⟩
  by_cases hr : 8 * q ≤ k
  · have := hin (k - 8 * q) (by omega) (by omega)
    rw [show 8 * q + (k - 8 * q) = k by omega] at this
    rw [this]
    by_cases h3 : k < f + t
    · rw [if_pos h3]
      exact h.2.2 k h3
    · rw [if_neg h3, if_neg (by omega)]
  · have : btN us' k = btN us k := by
      unfold btN byN
      rw [hout (k / 8) (by omega)]
    rw [this]
    exact h.2.2 k (by omega)
theorem okN_set {us : List Value} {L q x : Nat} (h : OkN us L) (hx : x < 256) : OkN (us.set q (.int .u8 (x : Int))) L := by
  refine ⟨by rw [List.length_set]; exact h.1, fun j hj => ?_⟩
  by_cases e : j = q
  · subst e
    exact ⟨x, List.getElem?_set_self (Nat.lt_of_lt_of_le hj h.1), hx⟩
  · rw [List.getElem?_set_ne (fun h => e h.symm)]
    exact h.2 j hj
theorem byN_set {us : List Value} {q x : Nat} (h : q < us.length) : byN (us.set q (.int .u8 (x : Int))) q = x := byN_of (List.getElem?_set_self h)
/-- One byte is written over. -/
theorem kn_byte {us0 us : List Value} {L f t m q x : Nat} {bf : Nat → Bool} (h : KN us0 us L f t bf) (hq : q < L) (hx : x < 256) (h1 : 8 * q ≤ f + t) (h2 : f + t + m ≤ 8 * q + 8)
    (hin : ∀ i, i < 8 → 8 * q + i < f + t + m → x.testBit i = if 8 * q + i < f + t then btN us (8 * q + i) else bf (8 * q + i - f)) : KN us0 (us.set q (.int .u8 (x : Int))) L f (t + m) bf := by
  refine kn_step (q := q) (n := 1) h (List.length_set ..) (okN_set h.1 hx) (fun j hj => List.getElem?_set_ne (by omega)) h1 (by omega) (fun i hi hk => ?_)
  rw [btN_at _ _ _ (by omega), byN_set (Nat.lt_of_lt_of_le hq h.1.1)]
  exact hin i (by omega) hk
theorem wp_as {P : Program} {c : Code} {Q : Exit → Act → World → Prop} {a : Act} {W : World} (I : World → Prop) (h : I W) (k : ∀ V, I V → c.wp P Q a V) : c.wp P Q a W := k W h
theorem Fr.drew {w V : World} {a b : Nat} (h : Fr w V a b) : Fr w V.drew a b := h.step (Below.refl _ _).drew
theorem Fr.drewN {w V : World} {a b : Nat} (h : Fr w V a b) (n : Nat) : Fr w (V.drewN n) a b := h.step (pw_below_drewN (Below.refl _ _) n)
/-- A row of bytes of one's own, as its block. -/
theorem bytes_own {w : World} {base : Nat} {ok : Nat → Prop} {v : Value} {l : List Int} (h : (Kd.int .u8).R 5 w base ok v l) (hb : bytesOk l = true) : ∃ A c, v = .slice A l.length c ∧ l.length ≤ c ∧ c ≤ 9223372036854775807 ∧ (A = none → c = 0) ∧ (0 < l.length → ∃ g us, A = some ⟨g, 0, none⟩ ∧ base ≤ g ∧ w.heap[g]? = some (.cells us 5 (0, 0)) ∧ us.size = c ∧ OkN us.toList l.length ∧ ∀ q, q < l.length → byN us.toList q = (rd l (q : Int)).toNat) := by
  obtain ⟨hlen, ho⟩ := Kd.own_of_R h
  rcases ho with ⟨rfl, hn⟩ | ⟨g, cap, cur, rfl, hg, hh, hn, hm, hs, ht⟩
  · exact ⟨none, 0, by rw [hn], by omega, by omega, fun _ => rfl, fun hp => by omega⟩
  · refine ⟨_, cap, rfl, hn, by unfold maxLen at hm; omega, fun h => (by cases h), fun hp => ⟨g, cur, rfl, hg, hh, by rw [hs, Nat.mul_one], ?_, fun q hq => ?_⟩⟩
    · refine ⟨by have e : cur.toList.length = cur.size := Array.length_toList; omega, fun q hq => ?_⟩
      have hc : cur.toList[q]? = some (.int .u8 (rd l (q : Int))) := by
        have e : (cur.toList.take (l.length * 1))[q]? = cur.toList[q]? := by rw [List.getElem?_take, if_pos (by omega)]
        rw [← e, ht]
        simp [encs, rd, List.getD_eq_getElem?_getD, hq]
      have hb1 := bytes_ok hb (q : Int)
      exact ⟨(rd l (q : Int)).toNat, by rw [hc, Int.toNat_of_nonneg hb1.1], by omega⟩
    · have hc : cur.toList[q]? = some (.int .u8 (rd l (q : Int))) := by
        have e : (cur.toList.take (l.length * 1))[q]? = cur.toList[q]? := by rw [List.getElem?_take, if_pos (by omega)]
        rw [← e, ht]
        simp [encs, rd, List.getD_eq_getElem?_getD, hq]
      unfold byN
      rw [hc]
/-- The bytes of some cells. -/
def bytesOf (us : List Value) (L : Nat) : List Int := (List.range L).map fun q => (byN us q : Int)
theorem bytesOf_len (us : List Value) (L : Nat) : (bytesOf us L).length = L := by unfold bytesOf; simp
theorem bytesOf_rd {us : List Value} {L q : Nat} (hq : q < L) : rd (bytesOf us L) (q : Int) = (byN us q : Int) := by
  unfold bytesOf rd
  rw [Int.toNat_natCast, List.getD_eq_getElem?_getD]
  simp [hq]
theorem bytesOf_ok {us : List Value} {L : Nat} (h : OkN us L) : bytesOk (bytesOf us L) = true := by
  unfold bytesOk bytesOf
  rw [List.all_eq_true]
  intro x hx
  obtain ⟨q, hq, rfl⟩ := List.mem_map.1 hx
  have := (h.at (List.mem_range.1 hq)).2
  simp only [Bool.and_eq_true, decide_eq_true_eq]
  omega
theorem cu_of {w : World} {gd L : Nat} {us : List Value} (hok : OkN us L) (hk : w.heap[gd]? = some (.cells us.toArray 5 (0, 0))) (hL : L < 100000) : Cu w (some ⟨gd, 0, none⟩) (bytesOf us L) := by
  refine Kd.C_of_reads (d := (0 : Int)) (enc := Value.int .u8) ⟨rfl, by rw [bytesOf_len]; omega, fun _ => ⟨_, rfl, fun j hj => ?_⟩⟩
  rw [bytesOf_len] at hj
  have h1 := blk_cell hk j
  rw [List.getElem?_toArray, (hok.at hj).1] at h1
  have h2 := bytesOf_rd (us := us) hj
  unfold rd at h2
  rw [Int.toNat_natCast] at h2
  rw [h2]
  have ea : Addr.add ⟨gd, 0, none⟩ j = ⟨gd, j, none⟩ := by simp [Addr.add]; omega
  rw [ea]
  exact h1
theorem cu_nil (w : World) (A : Option Addr) : Cu w A [] := Kd.C_of_reads (d := (0 : Int)) (enc := Value.int .u8) ⟨rfl, by simp, fun h => absurd h (Nat.lt_irrefl _)⟩
theorem i64w (x : Int) : wrap64 x = (x + 9223372036854775808) % 18446744073709551616 - 9223372036854775808 := by simp [wrap64]
theorem bit_all2 : ∀ (x : Fin 256) (m : Fin 8), (Go.bits .and .u8 (shr .u8 ((x.1 : Nat) : Int) ((m.1 : Nat) : Int)) 1 == 1) = decide (((x.1 : Nat) : Int) / 2 ^ m.1 % 2 = 1) := by decide +kernel
theorem bit_is {l : List Int} {k : Nat} (hk : k < 8 * l.length) (hl : k ≤ 1000000) (hbo : bytesOk l = true) : PFnLevelStructs.spec_Bit.f l (k : Int) = some (bt1 l k) := by
  have hd : Int.tdiv (k : Int) 8 = ((k / 8 : Nat) : Int) := rfl
  have hm : Int.tmod (k : Int) 8 = ((k % 8 : Nat) : Int) := rfl
  have hw : wrap64 ((k / 8 : Nat) : Int) = ((k / 8 : Nat) : Int) := by rw [i64w]; omega
  unfold PFnLevelStructs.spec_Bit.f
  rw [hd, hm, hw, if_pos (by omega), if_pos (by omega), if_pos (by omega)]
  have hx := bytes_ok hbo ((k / 8 : Nat) : Int)
  have h := bit_all2 ⟨(rd l ((k / 8 : Nat) : Int)).toNat, by omega⟩ ⟨k % 8, by omega⟩
  simp only [Int.toNat_of_nonneg hx.1] at h
  rw [h]
  rfl
theorem bl_l0 {l : List Int} {n : Nat} (hn : n ≤ 8 * l.length) (hl : n ≤ 1000000) (hbo : bytesOk l = true) : ∀ (r i : Nat) (xs : List Bool), i + r = n → xs.length = n → (∀ j, j < i → xs[j]? = some (bt1 l j)) →
    ∃ k, PFnLevelStructs.spec_BitList.l0 k l 0 xs (n : Int) (i : Int) = some ((List.range n).map (bt1 l), true)
  | 0, i, xs, h, hx, hv => ⟨1, by
    have hi : i = n := by omega
    subst hi
    rw [PFnLevelStructs.spec_BitList.l0, if_neg (by omega)]
    have e : xs = (List.range i).map (bt1 l) := by
      apply List.ext_getElem?
      intro j
      by_cases hj : j < i
      · rw [hv j hj]; simp [hj]
      · rw [List.getElem?_eq_none (by omega), List.getElem?_eq_none (by simp; omega)]
    rw [e]⟩
  | r + 1, i, xs, h, hx, hv => by
    obtain ⟨k, hk⟩ := bl_l0 hn hl hbo r (i + 1) (xs.set i (bt1 l i)) (by omega) (by rw [List.length_set]; exact hx) (fun j hj => by
      by_cases e : j = i
      · subst e; rw [List.getElem?_set_self (by omega)]
      · rw [List.getElem?_set_ne (by omega)]; exact hv j (by omega))
    refine ⟨k + 1, ?_⟩
    have hw : wrap64 (0 + (i : Int)) = (i : Int) := by rw [i64w]; omega
    have hw2 : wrap64 ((i : Int) + 1) = ((i + 1 : Nat) : Int) := by rw [i64w]; omega
    rw [PFnLevelStructs.spec_BitList.l0, if_pos (by omega), hw, bit_is (by omega) (by omega) hbo, Option.bind_some, if_pos (by omega), if_pos (by omega), Int.toNat_natCast, hw2]
    exact hk
theorem bl_is {l : List Int} {n : Nat} (hn : n ≤ 8 * l.length) (hl : n ≤ 100000) (hl2 : l.length ≤ 100000) (hbo : bytesOk l = true) : ∃ k, PFnLevelStructs.spec_BitList.f k l 0 (n : Int) = some ((List.range n).map (bt1 l), true) := by
  obtain ⟨k, hk⟩ := bl_l0 hn (by omega) hbo n 0 (List.replicate n false) (by omega) (List.length_replicate ..) (fun j hj => absurd hj (by omega))
  refine ⟨k + 1, ?_⟩
  have hw : wrap64 ((wrap64 (8 * (l.length : Int))) - (n : Int)) = 8 * (l.length : Int) - n := by rw [i64w, i64w]; omega
  unfold PFnLevelStructs.spec_BitList.f
  rw [if_neg (by omega), if_neg (by omega), hw, decide_eq_false (by omega), PFnLevelStructs.spec_BitList.j0, if_neg (by simp), if_pos (by omega), Int.toNat_natCast, if_pos (by omega), Option.bind_some, List.length_replicate]
  exact hk
theorem sb_l0 (a : List Bool) (ha : a.length ≤ 100000) : ∀ (r i : Nat), i + r = a.length → ∃ k, PFnLevelStructs.spec_SameBools.l0 k a a (a.length : Int) (i : Int) = some true
  | 0, i, h => ⟨1, by rw [PFnLevelStructs.spec_SameBools.l0, if_neg (by omega)]⟩
  | r + 1, i, h => by
    obtain ⟨k, hk⟩ := sb_l0 a ha r (i + 1) (by omega)
    have hw2 : wrap64 ((i : Int) + 1) = ((i + 1 : Nat) : Int) := by rw [i64w]; omega
    refine ⟨k + 1, ?_⟩
    rw [PFnLevelStructs.spec_SameBools.l0, if_pos (by omega), if_pos (by omega), if_pos (by omega), if_pos (by omega), if_neg (by simp), hw2]
    exact hk
theorem sb_is (a : List Bool) (ha : a.length ≤ 100000) : ∃ k, PFnLevelStructs.spec_SameBools.f k a a = some true := by
  obtain ⟨k, hk⟩ := sb_l0 a ha a.length 0 (by omega)
  exact ⟨k, by unfold PFnLevelStructs.spec_SameBools.f; rw [if_pos rfl]; exact hk⟩
theorem cell_keep {w w1 : World} {p : Addr} {v : Value} (h : w.cell? p = some v) (hb : Below w.heap.size w w1) : w1.cell? p = some v := by
  have hlt : p.block < w.heap.size := by
    unfold World.cell? at h
    split at h
    · rename_i e
      exact (Array.getElem?_eq_some_iff.1 e).1
    · cases h
  unfold World.cell? at h ⊢
  rw [hb.block p.block hlt]
  exact h
end Go.Proofs.YtjipnopadpedoaaDoor.QR
