/- binary.LittleEndian.Uint32 of four bytes. -/
import Derived.Test.YtoceclgljmdkeaaDoorWMore
import Derived.Test.YtoceclgljmdkeaaDoorProg
import Derived.Lib.Walk
import Derived.WalkKit
import Derived.Deep.QuietTactic
import Derived.BigQuiet
import Derived.WideLaws
import Derived.KernelRfl
import Derived.Lib.Endian
import Derived.Lib.EndianBits
import Derived.RegionTactic
import Derived.Deep.Draws
import Derived.Shelf.RegionOpenPlain
import Derived.Stop.LaidErr
import Derived.Laws.IdiomCopy
import Derived.Handy
import Derived.IntWalk
import Derived.Laws.Externs
import Derived.StillTailTactics
import Derived.Deep.DeepMust
import Derived.Deep.MidRow
import Derived.BigRegion
import Derived.Deep.Cut
namespace Go.Proofs.YtoceclgljmdkeaaDoor.QE
open Go.RowKit Go.Proofs.YtoceclgljmdkeaaDoorW.PrintWords Go.Proofs.YtoceclgljmdkeaaDoorW.PrintLast Go.Proofs.YtoceclgljmdkeaaDoorW.PrintMore
set_option linter.unusedVariables false
set_option linter.unusedSimpArgs false
def le4 (b0 b1 b2 b3 : Int) : Int := b0 + b1 * 256 + b2 * 65536 + b3 * 16777216
def le8 (b0 b1 b2 b3 b4 b5 b6 b7 : Int) : Int := b0 + b1 * 256 + b2 * 65536 + b3 * 16777216 + b4 * 4294967296 + b5 * 1099511627776 + b6 * 281474976710656 + b7 * 72057594037927936
set_option maxHeartbeats 8000000 in
set_option maxRecDepth 100000 in
theorem u64_is (A : Addr) (n c : Nat) (b0 b1 b2 b3 b4 b5 b6 b7 : Int) (w : World) (hn : 8 ≤ n) (h0 : 0 ≤ b0 ∧ b0 < 256) (h1 : 0 ≤ b1 ∧ b1 < 256) (h2 : 0 ≤ b2 ∧ b2 < 256) (h3 : 0 ≤ b3 ∧ b3 < 256) (h4 : 0 ≤ b4 ∧ b4 < 256) (h5 : 0 ≤ b5 ∧ b5 < 256) (h6 : 0 ≤ b6 ∧ b6 < 256) (h7 : 0 ≤ b7 ∧ b7 < 256)
    (c0 : w.cell? (A.add 0) = some (.int .u8 b0)) (c1 : w.cell? (A.add 1) = some (.int .u8 b1)) (c2 : w.cell? (A.add 2) = some (.int .u8 b2)) (c3 : w.cell? (A.add 3) = some (.int .u8 b3))
    (c4 : w.cell? (A.add 4) = some (.int .u8 b4)) (c5 : w.cell? (A.add 5) = some (.int .u8 b5)) (c6 : w.cell? (A.add 6) = some (.int .u8 b6)) (c7 : w.cell? (A.add 7) = some (.int .u8 b7)) :
    Calls Tryd.prog 49 #[.agg #[], .slice (some A) n c] w fun e w' => e = .returned (.int .u64 (le8 b0 b1 b2 b3 b4 b5 b6 b7)) ∧ Below w.heap.size w w' := by
  have hz : A.add 0 = A := by simp [Addr.add]
  rw [hz] at c0
  have hq : ∀ k, A.add (k + 1) = ⟨A.block, A.off + (k + 1), none⟩ := fun k => by simp [Addr.add]
  rw [show A.add 1 = ⟨A.block, A.off + 1, none⟩ from hq 0] at c1
  rw [show A.add 2 = ⟨A.block, A.off + 2, none⟩ from hq 1] at c2
  rw [show A.add 3 = ⟨A.block, A.off + 3, none⟩ from hq 2] at c3
  rw [show A.add 4 = ⟨A.block, A.off + 4, none⟩ from hq 3] at c4
  rw [show A.add 5 = ⟨A.block, A.off + 5, none⟩ from hq 4] at c5
  rw [show A.add 6 = ⟨A.block, A.off + 6, none⟩ from hq 5] at c6
  rw [show A.add 7 = ⟨A.block, A.off + 7, none⟩ from hq 6] at c7
  have d0 := cell?_alloc_old (.cells #[] 113) c0
  have e0 : (w.alloc (.cells #[] 113)).drew.cell? A = some (.int .u8 b0) := d0
  have d1 := cell?_alloc_old (.cells #[] 113) c1
  have e1 : (w.alloc (.cells #[] 113)).drew.cell? ⟨A.block, A.off + 1, none⟩ = some (.int .u8 b1) := d1
  have d2 := cell?_alloc_old (.cells #[] 113) c2
  have e2 : (w.alloc (.cells #[] 113)).drew.cell? ⟨A.block, A.off + 2, none⟩ = some (.int .u8 b2) := d2
  have d3 := cell?_alloc_old (.cells #[] 113) c3
  have e3 : (w.alloc (.cells #[] 113)).drew.cell? ⟨A.block, A.off + 3, none⟩ = some (.int .u8 b3) := d3
  have d4 := cell?_alloc_old (.cells #[] 113) c4
  have e4 : (w.alloc (.cells #[] 113)).drew.cell? ⟨A.block, A.off + 4, none⟩ = some (.int .u8 b4) := d4
  have d5 := cell?_alloc_old (.cells #[] 113) c5
  have e5 : (w.alloc (.cells #[] 113)).drew.cell? ⟨A.block, A.off + 5, none⟩ = some (.int .u8 b5) := d5
  have d6 := cell?_alloc_old (.cells #[] 113) c6
  have e6 : (w.alloc (.cells #[] 113)).drew.cell? ⟨A.block, A.off + 6, none⟩ = some (.int .u8 b6) := d6
  have d7 := cell?_alloc_old (.cells #[] 113) c7
  have e7 : (w.alloc (.cells #[] 113)).drew.cell? ⟨A.block, A.off + 7, none⟩ = some (.int .u8 b7) := d7
  have mixed : Tryd.prog.follows .mixedOrders = true := by kernel_rfl
  clear hz hq c0 c1 c2 c3 c4 c5 c6 c7
  go_enter Tryd.func49, Tryd.ntmps49
  go_wp2
  go_quiet ((fail))
  go_wp2
  go_ret
  refine ⟨?_, pw_below_drewN ((Below.refl _ w).alloc (Nat.le_refl _) _) _⟩
  simp (disch := omega) only [u64_or8, u64_or16, u64_or24, u64_or32, u64_or40, u64_or48, u64_or56]
  rfl
end Go.Proofs.YtoceclgljmdkeaaDoor.QE
/- Rows of bytes, as lists of numbers and as bits; what else of the memory stays. -/
namespace Go.Proofs.YtoceclgljmdkeaaDoor.QR
open Go.RowKit Go.Proofs.YtoceclgljmdkeaaDoorW.PrintWords Go.Proofs.YtoceclgljmdkeaaDoorW.PrintLast Go.Proofs.YtoceclgljmdkeaaDoorW.PrintMore
set_option linter.unusedVariables false
set_option linter.unusedSimpArgs false
def bytesOk (l : List Int) : Bool := l.all fun x => decide (0 ≤ x) && decide (x < 256)
theorem bytes_ok {l : List Int} (h : bytesOk l = true) (k : Int) : 0 ≤ rd l k ∧ rd l k < 256 := by
  by_cases hk : k.toNat < l.length
  · unfold bytesOk at h
    rw [List.all_eq_true] at h
    have := h l[k.toNat] (List.getElem_mem hk)
    simpa [rd, hk] using this
  · have : rd l k = 0 := by unfold rd; rw [List.getD_eq_getElem?_getD, List.getElem?_eq_none (by omega)]; rfl
    rw [this]; decide
def bt1 (l : List Int) (t : Nat) : Bool := decide (rd l ((t / 8 : Nat) : Int) / 2 ^ (t % 8) % 2 = 1)
abbrev Cu (w : World) (A : Option Addr) (l : List Int) : Prop := Kd.C (Kd.int .u8) w A l.length l
/-- Nothing panics. -/
def NoP (Q : Exit → Act → World → Prop) : Exit → Act → World → Prop
  | .panic _, _, _ => False
  | e, a, w => Q e a w
theorem wp_noP {P : Program} {c : Code} {Q : Exit → Act → World → Prop} {a : Act} {w : World} (h : c.wp P (NoP Q) a w) : c.wp P Q a w :=
  wp_mono h (fun e a w h => by
    cases e with
    | panic c => exact absurd h (fun h => h)
    | normal => exact h
    | exit i => exact h
    | goto l => exact h
    | ret => exact h
    | outgrown => exact h)
theorem noP_normal {Q : Exit → Act → World → Prop} {a : Act} {w : World} (h : Q .normal a w) : NoP Q .normal a w := h
/-- Byte j of a number. -/
def byteN (a : Int) (j : Nat) : Int := a / 256 ^ j % 256
/-- A number's lowest W bytes. -/
def leB (W : Nat) (a : Int) : List Int := (List.range W).map (byteN a)
def flatN (W : Nat) : List Int → List Int
  | [] => []
  | a :: r => leB W a ++ flatN W r
theorem leB_len (W : Nat) (a : Int) : (leB W a).length = W := by simp [leB]
theorem flatN_len (W : Nat) : ∀ xs : List Int, (flatN W xs).length = W * xs.length
  | [] => rfl
  | a :: r => by simp only [flatN]; rw [List.length_append, leB_len, flatN_len W r, List.length_cons, Nat.mul_add]; omega
theorem flatN_append (W : Nat) : ∀ a b : List Int, flatN W (a ++ b) = flatN W a ++ flatN W b
  | [], _ => rfl
  | x :: r, b => by rw [List.cons_append]; simp only [flatN]; rw [flatN_append W r b, List.append_assoc]
theorem flatN_get (W : Nat) : ∀ (xs : List Int) (i j : Nat), i < xs.length → j < W → (flatN W xs)[W * i + j]? = some (byteN (xs.getD i 0) j)
  | [], i, j, h, _ => absurd h (by simp)
  | a :: r, 0, j, _, hj => by
    simp only [flatN, Nat.mul_zero, Nat.zero_add]
    rw [List.getElem?_append_left (by rw [leB_len]; exact hj)]
    simp [leB, hj]
  | a :: r, i + 1, j, h, hj => by
    simp only [flatN]
    rw [List.getElem?_append_right (by rw [leB_len, Nat.mul_add]; omega), leB_len, show W * (i + 1) + j - W = W * i + j by rw [Nat.mul_add]; omega, flatN_get W r i j (by simpa using h) hj]
    rfl
theorem flatN_rd {W : Nat} {xs : List Int} {i j : Nat} (hi : i < xs.length) (hj : j < W) : rd (flatN W xs) ((W * i + j : Nat) : Int) = byteN (xs.getD i 0) j := by
  unfold rd
  rw [Int.toNat_natCast, List.getD_eq_getElem?_getD, flatN_get W xs i j hi hj]
  rfl
theorem byteN_ok (a : Int) (j : Nat) : 0 ≤ byteN a j ∧ byteN a j < 256 := by unfold byteN; omega
theorem bytesOk_leB (W : Nat) (a : Int) : bytesOk (leB W a) = true := by
  unfold bytesOk leB
  rw [List.all_eq_true]
  intro x hx
  obtain ⟨j, _, rfl⟩ := List.mem_map.1 hx
  have := byteN_ok a j
  simp only [Bool.and_eq_true, decide_eq_true_eq]
  omega
theorem bytesOk_flatN (W : Nat) : ∀ xs : List Int, bytesOk (flatN W xs) = true
  | [] => rfl
  | a :: r => by
    simp only [flatN]
    have h1 := bytesOk_leB W a
    have h2 := bytesOk_flatN W r
    unfold bytesOk at *
    rw [List.all_append, h1, h2]
    rfl
/-- Four, or eight, bytes at place i. -/
def w4 (l : List Int) (i : Nat) : Int := QE.le4 (rd l ((4 * i : Nat) : Int)) (rd l ((4 * i + 1 : Nat) : Int)) (rd l ((4 * i + 2 : Nat) : Int)) (rd l ((4 * i + 3 : Nat) : Int))
def w8 (l : List Int) (i : Nat) : Int := QE.le8 (rd l ((8 * i : Nat) : Int)) (rd l ((8 * i + 1 : Nat) : Int)) (rd l ((8 * i + 2 : Nat) : Int)) (rd l ((8 * i + 3 : Nat) : Int)) (rd l ((8 * i + 4 : Nat) : Int)) (rd l ((8 * i + 5 : Nat) : Int)) (rd l ((8 * i + 6 : Nat) : Int)) (rd l ((8 * i + 7 : Nat) : Int))
theorem w4_flat {xs : List Int} {i : Nat} (hi : i < xs.length) : w4 (flatN 4 xs) i = xs.getD i 0 % 4294967296 := by
  unfold w4
  have h0 := flatN_rd (W := 4) (j := 0) hi (by omega)
  rw [Nat.add_zero] at h0
  rw [h0, flatN_rd hi (by omega), flatN_rd hi (by omega), flatN_rd hi (by omega)]
  unfold QE.le4 byteN
  generalize xs.getD i 0 = a
  omega
theorem w8_flat {xs : List Int} {i : Nat} (hi : i < xs.length) : w8 (flatN 8 xs) i = xs.getD i 0 % 18446744073709551616 := by
  unfold w8
  have h0 := flatN_rd (W := 8) (j := 0) hi (by omega)
  rw [Nat.add_zero] at h0
  rw [h0, flatN_rd hi (by omega), flatN_rd hi (by omega), flatN_rd hi (by omega), flatN_rd hi (by omega), flatN_rd hi (by omega), flatN_rd hi (by omega), flatN_rd hi (by omega)]
  unfold QE.le8 byteN
  generalize xs.getD i 0 = a
  omega
theorem Cu.keep {w w' : World} {A : Option Addr} {l : List Int} (h : Cu w A l) (hk : ∀ ad, A = some ad → 0 < l.length → w'.heap[ad.block]? = w.heap[ad.block]?) : Cu w' A l := by
  have hr := Kd.reads_of_C (enc := Value.int .u8) (d := (0 : Int)) (h1 := fun _ => rfl) h
  refine Kd.C_of_reads (d := (0 : Int)) (enc := Value.int .u8) ⟨hr.1, hr.2.1, fun hn => ?_⟩
  obtain ⟨ad, e, hc⟩ := hr.2.2 hn
  refine ⟨ad, e, fun j hj => ?_⟩
  have := hc j hj
  unfold World.cell? at this ⊢
  rw [add_block, hk ad e hn, ← add_block ad j]
  exact this
/-- A block that holds no byte is not the row's. -/
theorem Cu.ne {w : World} {A : Option Addr} {l : List Int} (h : Cu w A l) {g : Nat} {cs : Array Value} {ty : TypeId} {fz : Nat × Nat} (hg : w.heap[g]? = some (.cells cs ty fz)) (hn : ∀ u ∈ cs, ∀ x, u ≠ .int .u8 x) (ad : Addr) (hA : A = some ad) (hl : 0 < l.length) : ad.block ≠ g := by
  intro he
  obtain ⟨ad2, h2, h3⟩ := Kd.at_int h 0 (Int.le_refl _) (by omega)
  rw [hA] at h2
  cases h2
  obtain ⟨ab, ao, ap⟩ := ad
  simp only at he
  subst he
  rw [show (Addr.add ⟨ab, ao, ap⟩ (0 : Int).toNat) = ⟨ab, ao, ap⟩ by simp [Addr.add]] at h3
  unfold World.cell? at h3
  simp only [hg] at h3
  split at h3
  · cases h3
  · exact hn _ (Array.mem_of_getElem? h3) _ rfl
/-- Nothing but two blocks, and what is new. -/
structure Fr (w w' : World) (bk gd : Nat) : Prop where
  os : w'.os = w.os
  tape : w'.tape = w.tape
  output : w'.output = w.output
  size : w.heap.size ≤ w'.heap.size
  far : ∀ k, k < w.heap.size → k ≠ bk → k ≠ gd → w'.heap[k]? = w.heap[k]?
theorem Fr.refl (w : World) (bk gd : Nat) : Fr w w bk gd := ⟨rfl, rfl, rfl, Nat.le_refl _, fun _ _ _ _ => rfl⟩
theorem Fr.step {w w' w'' : World} {bk gd : Nat} (h : Fr w w' bk gd) (hb : Below w'.heap.size w' w'') : Fr w w'' bk gd := ⟨hb.os.trans h.os, hb.tape.trans h.tape, hb.output.trans h.output, Nat.le_trans h.size hb.size, fun k h1 h2 h3 => (hb.block k (Nat.lt_of_lt_of_le h1 h.size)).trans (h.far k h1 h2 h3)⟩
theorem Fr.set {w w' : World} {bk gd : Nat} (h : Fr w w' bk gd) (g o : Nat) (v : Value) (hg : g = bk ∨ g = gd) : Fr w (w'.setCell ⟨g, o, none⟩ v) bk gd := by
  refine ⟨h.os, h.tape, h.output, by simpa [World.setCell] using h.size, fun k h1 h2 h3 => ?_⟩
  rw [Below.heap_setCell w' ⟨g, o, none⟩ v k (by rcases hg with rfl | rfl <;> assumption)]
  exact h.far k h1 h2 h3
theorem Fr.trans {w w' w'' : World} {bk gd : Nat} (h : Fr w w' bk gd) (k : Fr w' w'' bk gd) : Fr w w'' bk gd := ⟨k.os.trans h.os, k.tape.trans h.tape, k.output.trans h.output, Nat.le_trans h.size k.size, fun i h1 h2 h3 => (k.far i (Nat.lt_of_lt_of_le h1 h.size) h2 h3).trans (h.far i h1 h2 h3)⟩
theorem Cu.fr {w w' : World} {bk gd : Nat} (h : Fr w w' bk gd) {A : Option Addr} {l : List Int} (hC : Cu w A l) {cs cs' : Array Value} {ty ty' : TypeId} {fz fz' : Nat × Nat} (h1 : w.heap[bk]? = some (.cells cs ty fz)) (n1 : ∀ u ∈ cs, ∀ x, u ≠ .int .u8 x) (h2 : w.heap[gd]? = some (.cells cs' ty' fz')) (n2 : ∀ u ∈ cs', ∀ x, u ≠ .int .u8 x) : Cu w' A l := by
  refine hC.keep (fun ad hA hl => h.far ad.block ?_ (hC.ne h1 n1 ad hA hl) (hC.ne h2 n2 ad hA hl))
  obtain ⟨ad2, h3, h4⟩ := Kd.at_int hC 0 (Int.le_refl _) (by omega)
  rw [hA] at h3
  cases h3
  unfold World.cell? at h4
  rw [add_block] at h4
  split at h4
  · rename_i e
    exact (Array.getElem?_eq_some_iff.1 e).1
  · cases h4
theorem b2 (w : World) (a : Obj) : Below w.heap.size w (w.alloc a) := (Below.refl w.heap.size w).alloc (Nat.le_refl _) a
theorem b3 (w : World) (a b : Obj) : Below w.heap.size w ((w.alloc a).alloc b) := (b2 w a).alloc (b2 w a).size b
theorem Fr.of_below {w w' : World} {a b : Nat} (h : Below w.heap.size w w') : Fr w w' a b := (Fr.refl w a b).step h
/-- What lay below a bound stays, where only newer blocks were written to. -/
theorem Fr.below {w w' : World} {a b B : Nat} (h : Fr w w' a b) (hB : B ≤ w.heap.size) (ha : B ≤ a) (hb : B ≤ b) : Below B w w' := ⟨h.os, h.tape, h.output, h.size, fun k hk => h.far k (by omega) (by omega) (by omega)⟩
theorem Fr.swap {w w' : World} {a b : Nat} (h : Fr w w' a b) : Fr w w' b a := ⟨h.os, h.tape, h.output, h.size, fun k h1 h2 h3 => h.far k h1 h3 h2⟩
theorem Fr.one {w w' : World} {a b : Nat} (h : Fr w w' a a) : Fr w w' a b := ⟨h.os, h.tape, h.output, h.size, fun k h1 h2 _ => h.far k h1 h2 h2⟩
theorem Fr.two {w w' : World} {a b : Nat} (h : Fr w w' b b) : Fr w w' a b := ⟨h.os, h.tape, h.output, h.size, fun k h1 _ h2 => h.far k h1 h2 h2⟩
theorem gate_op {P : Program} {ops : Array Oper} {rest : List Oper} {o : Oper} {a : Act} {Q : Exit → Act → World → Prop} {W : World} {x : Op} (_ho : o.op = x) (h : wpList P ops Q (o :: rest) a W) : wpList P ops Q (o :: rest) a W := h
theorem op_copy_eq {P : Program} {ops : Array Oper} {rest : List Oper} {o : Oper} {a : Act} {Q : Exit → Act → World → Prop} {W W' : World} (hgd : o.guard = none) (s x : Operand) (t t' : TypeId)
    (ho : o.op = .call { callee := .builtin .copy, args := #[s, x], argTypes := #[t, t'] }) (v1 v2 r : Value) (hs : a.eval s = v1) (hx : a.eval x = v2)
    (hr : (Builtin.copy_ #[t, t'] o.type #[v1, v2]).run P W = .ok r W')
    (h : wpList P ops Q rest (a.put o.dst r) W') : wpList P ops Q (o :: rest) a W := by
  refine wpList_plain hgd fun K' hK => ?_
  unfold Oper.wp execOp
  simp only [ho, resolve, invoke, builtin, Sem.run_bind, Sem.run_pure, Result.andThen_ok, List.map_toArray, List.map_cons, List.map_nil, hs, hx, hr]
  exact hK _ _ h
end Go.Proofs.YtoceclgljmdkeaaDoor.QR
/- binary.LittleEndian.PutUint32: four bytes are written. -/
namespace Go.Proofs.YtoceclgljmdkeaaDoor.QR
open Go.RowKit Go.Proofs.YtoceclgljmdkeaaDoorW.PrintWords Go.Proofs.YtoceclgljmdkeaaDoorW.PrintLast Go.Proofs.YtoceclgljmdkeaaDoorW.PrintMore
set_option linter.unusedVariables false
set_option linter.unusedSimpArgs false
/-- Elements from o on are written over. -/
def put {α : Type} (us : List α) (o : Nat) (seg : List α) : List α := us.take o ++ seg ++ us.drop (o + seg.length)
theorem put_len {α : Type} {us seg : List α} {o : Nat} (h : o + seg.length ≤ us.length) : (put us o seg).length = us.length := by unfold put; simp only [List.length_append, List.length_take, List.length_drop]; omega
theorem put_get {α : Type} {us seg : List α} {o : Nat} (h : o + seg.length ≤ us.length) (i : Nat) : (put us o seg)[i]? = if o ≤ i ∧ i < o + seg.length then seg[i - o]? else us[i]? := by
  unfold put
  by_cases h1 : i < o
  · rw [if_neg (by omega), List.append_assoc, List.getElem?_append_left (by rw [List.length_take]; omega), List.getElem?_take, if_pos h1]
  · by_cases h2 : i < o + seg.length
    · rw [if_pos ⟨by omega, h2⟩, List.getElem?_append_left (by rw [List.length_append, List.length_take]; omega), List.getElem?_append_right (by rw [List.length_take]; omega), List.length_take, Nat.min_eq_left (by omega)]
    · rw [if_neg (by omega), List.getElem?_append_right (by rw [List.length_append, List.length_take]; omega), List.getElem?_drop, List.length_append, List.length_take, Nat.min_eq_left (by omega)]
      congr 1
      omega
theorem put_cons {α : Type} {us : List α} {o : Nat} {x : α} {seg : List α} (h : o + (x :: seg).length ≤ us.length) : put (us.set o x) (o + 1) seg = put us o (x :: seg) := by
  rw [List.length_cons] at h
  apply List.ext_getElem?
  intro i
  rw [put_get (by rw [List.length_set]; omega), put_get (by rw [List.length_cons]; omega), List.length_cons]
  by_cases h1 : i = o
  · subst h1
    rw [if_neg (by omega), if_pos (by omega), List.getElem?_set_self (by omega), Nat.sub_self]
    rfl
  · rw [List.getElem?_set_ne (by omega)]
    by_cases h2 : o + 1 ≤ i ∧ i < o + 1 + seg.length
    · rw [if_pos h2, if_pos (by omega), show i - o = (i - (o + 1)) + 1 by omega]
      rfl
    · rw [if_neg h2, if_neg (by omega)]
theorem put_nil {α : Type} (us : List α) (o : Nat) : put us o [] = us := by simp [put]
theorem byteN_eq (x : Int) : IntKind.u8.wrap x = byteN x 0 ∧ IntKind.u8.wrap (x / 256) = byteN x 1 ∧ IntKind.u8.wrap (x / 65536) = byteN x 2 ∧ IntKind.u8.wrap (x / 16777216) = byteN x 3 ∧ IntKind.u8.wrap (x / 4294967296) = byteN x 4 ∧ IntKind.u8.wrap (x / 1099511627776) = byteN x 5 ∧ IntKind.u8.wrap (x / 281474976710656) = byteN x 6 ∧ IntKind.u8.wrap (x / 72057594037927936) = byteN x 7 := by
  unfold byteN
  simp only [IntKind.wrap, IntKind.bits, IntKind.signed]
  refine ⟨?_, ?_, ?_, ?_, ?_, ?_, ?_, ?_⟩ <;> simp <;> omega
set_option maxHeartbeats 8000000 in
set_option maxRecDepth 100000 in
theorem pu64_is (g o n c : Nat) (et : Nat) (us : List Value) (x : Int) (w : World) (hx : 0 ≤ x ∧ x < 18446744073709551616) (hg : w.heap[g]? = some (.cells us.toArray et (0, 0))) (hn : 8 ≤ n) (ho : o + 8 ≤ us.length) (hb : ∃ y, us[o + 7]? = some (.int .u8 y)) :
    Calls Tryd.prog 51 #[.agg #[], .slice (some ⟨g, o, none⟩) n c, .int .u64 x] w fun e w' => e = .returned (.tuple #[]) ∧ w'.heap[g]? = some (.cells (put us o ((leB 8 x).map (.int .u8))).toArray et (0, 0)) ∧ Fr w w' g g := by
  obtain ⟨y, hy⟩ := hb
  have hsz : w.heap.size ≠ g := by have := blk_lt hg; omega
  obtain ⟨W, hW⟩ : ∃ W, W = w.alloc (.cells #[] 113) := ⟨_, rfl⟩
  have hgW : W.heap[g]? = some (.cells us.toArray et (0, 0)) := by rw [hW]; exact blk_alloc hg _
  have hFW : Fr w W g g := by rw [hW]; exact Fr.of_below (b2 w _)
  have k7 := blk_cell hgW (o + 7)
  rw [List.getElem?_toArray, hy] at k7
  obtain ⟨u0, k0⟩ : ∃ u, W.cell? ⟨g, o, none⟩ = some u := ⟨us[o]'(by omega), (blk_cell hgW o).trans (by rw [List.getElem?_toArray, List.getElem?_eq_getElem])⟩
  obtain ⟨u1, k1⟩ : ∃ u, W.cell? ⟨g, o + 1, none⟩ = some u := ⟨us[o + 1]'(by omega), (blk_cell hgW (o + 1)).trans (by rw [List.getElem?_toArray, List.getElem?_eq_getElem])⟩
  obtain ⟨u2, k2⟩ : ∃ u, W.cell? ⟨g, o + 2, none⟩ = some u := ⟨us[o + 2]'(by omega), (blk_cell hgW (o + 2)).trans (by rw [List.getElem?_toArray, List.getElem?_eq_getElem])⟩
  obtain ⟨u3, k3⟩ : ∃ u, W.cell? ⟨g, o + 3, none⟩ = some u := ⟨us[o + 3]'(by omega), (blk_cell hgW (o + 3)).trans (by rw [List.getElem?_toArray, List.getElem?_eq_getElem])⟩
  obtain ⟨u4, k4⟩ : ∃ u, W.cell? ⟨g, o + 4, none⟩ = some u := ⟨us[o + 4]'(by omega), (blk_cell hgW (o + 4)).trans (by rw [List.getElem?_toArray, List.getElem?_eq_getElem])⟩
  obtain ⟨u5, k5⟩ : ∃ u, W.cell? ⟨g, o + 5, none⟩ = some u := ⟨us[o + 5]'(by omega), (blk_cell hgW (o + 5)).trans (by rw [List.getElem?_toArray, List.getElem?_eq_getElem])⟩
  obtain ⟨u6, k6⟩ : ∃ u, W.cell? ⟨g, o + 6, none⟩ = some u := ⟨us[o + 6]'(by omega), (blk_cell hgW (o + 6)).trans (by rw [List.getElem?_toArray, List.getElem?_eq_getElem])⟩
  have z0 := blk_frozen hgW o
  have z1 := blk_frozen hgW (o + 1)
  have z2 := blk_frozen hgW (o + 2)
  have z3 := blk_frozen hgW (o + 3)
  have z4 := blk_frozen hgW (o + 4)
  have z5 := blk_frozen hgW (o + 5)
  have z6 := blk_frozen hgW (o + 6)
  have z7 := blk_frozen hgW (o + 7)
  have Q := Aside0.mk (And.intro hgW (And.intro hFW ho))
  have e8 : x / 256 % 18446744073709551616 = x / 256 := by omega
  have e16 : x / 65536 % 18446744073709551616 = x / 65536 := by omega
  have e24 : x / 16777216 % 18446744073709551616 = x / 16777216 := by omega
  have e32 : x / 4294967296 % 18446744073709551616 = x / 4294967296 := by omega
  have e40 : x / 1099511627776 % 18446744073709551616 = x / 1099511627776 := by omega
  have e48 : x / 281474976710656 % 18446744073709551616 = x / 281474976710656 := by omega
  have e56 : x / 72057594037927936 % 18446744073709551616 = x / 72057594037927936 := by omega
  obtain ⟨b0, b1, b2', b3', b4, b5, b6, b7⟩ := byteN_eq x
  clear hg hgW hFW ho
  go_enter Tryd.func51, Tryd.ntmps51
  go_upto_region 1 with (fail)
  rw [← hW]
  clear hW
  go_wp2
  go_end0
  obtain ⟨q1, q2, q3⟩ := Q.out
  refine ⟨rfl, ?_, (((((((q2.set g o _ (.inl rfl)).set g (o + 1) _ (.inl rfl)).set g (o + 2) _ (.inl rfl)).set g (o + 3) _ (.inl rfl)).set g (o + 4) _ (.inl rfl)).set g (o + 5) _ (.inl rfl)).set g (o + 6) _ (.inl rfl)).set g (o + 7) _ (.inl rfl)⟩
  have h := blk_set (blk_set (blk_set (blk_set (blk_set (blk_set (blk_set (blk_set q1 o (.int .u8 (byteN x 0))) (o + 1) (.int .u8 (byteN x 1))) (o + 2) (.int .u8 (byteN x 2))) (o + 3) (.int .u8 (byteN x 3))) (o + 4) (.int .u8 (byteN x 4))) (o + 5) (.int .u8 (byteN x 5))) (o + 6) (.int .u8 (byteN x 6))) (o + 7) (.int .u8 (byteN x 7))
  rw [h, show (leB 8 x).map (.int .u8) = [.int .u8 (byteN x 0), .int .u8 (byteN x 1), .int .u8 (byteN x 2), .int .u8 (byteN x 3), .int .u8 (byteN x 4), .int .u8 (byteN x 5), .int .u8 (byteN x 6), (.int .u8 (byteN x 7) : Value)] from rfl]
  rw [← put_cons (by simp; omega), ← put_cons (by simp; omega), ← put_cons (by simp; omega), ← put_cons (by simp; omega), ← put_cons (by simp; omega), ← put_cons (by simp; omega), ← put_cons (by simp; omega), ← put_cons (by simp; omega), put_nil]
  simp
end Go.Proofs.YtoceclgljmdkeaaDoor.QR
