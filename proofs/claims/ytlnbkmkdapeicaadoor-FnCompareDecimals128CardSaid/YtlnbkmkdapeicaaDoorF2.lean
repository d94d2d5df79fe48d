/- Rows of bytes, as lists of numbers and as bits; what else of the memory stays. -/
import Derived.Test.YtlnbkmkdapeicaaDoorF1
import Derived.Handy
import Derived.IntWalk
import Derived.Laws.Externs
import Derived.Laws.IdiomCopy
import Derived.StillTailTactics
import Derived.Deep.DeepMust
import Derived.Deep.MidRow
import Derived.BigRegion
import Derived.Deep.Cut
namespace Go.Proofs.YtlnbkmkdapeicaaDoor.QR
open Go.RowKit Go.Proofs.YtlnbkmkdapeicaaDoorW.PrintWords Go.Proofs.YtlnbkmkdapeicaaDoorW.PrintLast Go.Proofs.YtlnbkmkdapeicaaDoorW.PrintMore
set_option linter.unusedVariables false
set_option linter.unusedSimpArgs false
def bytesOk (l : List Int) : Bool := l.all fun x => decide (0 ≤ x) && decide (x < 256)
theorem bytes_ok {l : List Int} (h : bytesOk l = true) (k : Int) : 0 ≤ rd l k ∧ rd l k < 256 := by
  by_cases hk : k.toNat < l.length
  · unfold bytesOk at h
    rw [List.all_eq_true] at h
    have := h l[k.toNat] (List.getElem_mem hk)
    simpa [rd, hk] using this
  · have : rd l k = 0 := by unfold rd; rw [List.getD_eq_getElem?_getD, List.getElem?_eq_none (by omega)]; rfl
    rw [this]; decide
def bt1 (l : List Int) (t : Nat) : Bool := decide (rd l ((t / 8 : Nat) : Int) / 2 ^ (t % 8) % 2 = 1)
abbrev Cu (w : World) (A : Option Addr) (l : List Int) : Prop := Kd.C (Kd.int .u8) w A l.length l
/-- Nothing panics. -/
def NoP (Q : Exit → Act → World → Prop) : Exit → Act → World → Prop
  | .panic _, _, _ => False
  | e, a, w => Q e a w
theorem wp_noP {P : Program} {c : Code} {Q : Exit → Act → World → Prop} {a : Act} {w : World} (h : c.wp P (NoP Q) a w) : c.wp P Q a w :=
  wp_mono h (fun e a w h => by
    cases e with
    | panic c => exact absurd h (fun h => h)
    | normal => exact h
    | exit i => exact h
    | goto l => exact h
    | ret => exact h
    | outgrown => exact h)
theorem noP_normal {Q : Exit → Act → World → Prop} {a : Act} {w : World} (h : Q .normal a w) : NoP Q .normal a w := h
/-- Byte j of a number. -/
def byteN (a : Int) (j : Nat) : Int := a / 256 ^ j % 256
/-- A number's lowest W bytes. -/
def leB (W : Nat) (a : Int) : List Int := (List.range W).map (byteN a)
def flatN (W : Nat) : List Int → List Int
  | [] => []
  | a :: r => leB W a ++ flatN W r
theorem leB_len (W : Nat) (a : Int) : (leB W a).length = W := by simp [leB]
theorem flatN_len (W : Nat) : ∀ xs : List Int, (flatN W xs).length = W * xs.length
  | [] => rfl
  | a :: r => by simp only [flatN]; rw [List.length_append, leB_len, flatN_len W r, List.length_cons, Nat.mul_add]; omega
theorem flatN_append (W : Nat) : ∀ a b : List Int, flatN W (a ++ b) = flatN W a ++ flatN W b
  | [], _ => rfl
  | x :: r, b => by rw [List.cons_append]; simp only [flatN]; rw [flatN_append W r b, List.append_assoc]
theorem flatN_get (W : Nat) : ∀ (xs : List Int) (i j : Nat), i < xs.length → j < W → (flatN W xs)[W * i + j]? = some (byteN (xs.getD i 0) j)
  | [], i, j, h, _ => absurd h (by simp)
  | a :: r, 0, j, _, hj => by
    simp only [flatN, Nat.mul_zero, Nat.zero_add]
    rw [List.getElem?_append_left (by rw [leB_len]; exact hj)]
    simp [leB, hj]
  | a :: r, i + 1, j, h, hj => by
    simp only [flatN]
    rw [List.getElem?_append_right (by rw [leB_len, Nat.mul_add]; omega), leB_len, show W * (i + 1) + j - W = W * i + j by rw [Nat.mul_add]; omega, flatN_get W r i j (by simpa using h) hj]
    rfl
theorem flatN_rd {W : Nat} {xs : List Int} {i j : Nat} (hi : i < xs.length) (hj : j < W) : rd (flatN W xs) ((W * i + j : Nat) : Int) = byteN (xs.getD i 0) j := by
  unfold rd
  rw [Int.toNat_natCast, List.getD_eq_getElem?_getD, flatN_get W xs i j hi hj]
  rfl
theorem byteN_ok (a : Int) (j : Nat) : 0 ≤ byteN a j ∧ byteN a j < 256 := by unfold byteN; omega
theorem bytesOk_leB (W : Nat) (a : Int) : bytesOk (leB W a) = true := by
  unfold bytesOk leB
  rw [List.all_eq_true]
  intro x hx
  obtain ⟨j, _, rfl⟩ := List.mem_map.1 hx
  have := byteN_ok a j
  simp only [Bool.and_eq_true, decide_eq_true_eq]
  omega
theorem bytesOk_flatN (W : Nat) : ∀ xs : List Int, bytesOk (flatN W xs) = true
  | [] => rfl
  | a :: r => by
    simp only [flatN]
    have h1 := bytesOk_leB W a
    have h2 := bytesOk_flatN W r
    unfold bytesOk at *
    rw [List.all_append, h1, h2]
    rfl
/-- Four, or eight, bytes at place i. -/
def w4 (l : List Int) (i : Nat) : Int := QE.le4 (rd l ((4 * i : Nat) : Int)) (rd l ((4 * i + 1 : Nat) : Int)) (rd l ((4 * i + 2 : Nat) : Int)) (rd l ((4 * i + 3 : Nat) : Int))
def w8 (l : List Int) (i : Nat) : Int := QE.le8 (rd l ((8 * i : Nat) : Int)) (rd l ((8 * i + 1 : Nat) : Int)) (rd l ((8 * i + 2 : Nat) : Int)) (rd l ((8 * i + 3 : Nat) : Int)) (rd l ((8 * i + 4 : Nat) : Int)) (rd l ((8 * i + 5 : Nat) : Int)) (rd l ((8 * i + 6 : Nat) : Int)) (rd l ((8 * i + 7 : Nat) : Int))
theorem w4_flat {xs : List Int} {i : Nat} (hi : i < xs.length) : w4 (flatN 4 xs) i = xs.getD i 0 % 4294967296 := by
  unfold w4
  have h0 := flatN_rd (W := 4) (j := 0) hi (by omega)
  rw [Nat.add_zero] at h0
  rw [h0, flatN_rd hi (by omega), flatN_rd hi (by omega), flatN_rd hi (by omega)]
  unfold QE.le4 byteN
  generalize xs.getD i 0 = a
  omega
theorem w8_flat {xs : List Int} {i : Nat} (hi : i < xs.length) : w8 (flatN 8 xs) i = xs.getD i 0 % 18446744073709551616 := by
  unfold w8
  have h0 := flatN_rd (W := 8) (j := 0) hi (by omega)
  rw [Nat.add_zero] at h0
  rw [h0, flatN_rd hi (by omega), flatN_rd hi (by omega), flatN_rd hi (by omega), flatN_rd hi (by omega), flatN_rd hi (by omega), flatN_rd hi (by omega), flatN_rd hi (by omega)]
  unfold QE.le8 byteN
  generalize xs.getD i 0 = a
  omega
theorem Cu.keep {w w' : World} {A : Option Addr} {l : List Int} (h : Cu w A l) (hk : ∀ ad, A = some ad → 0 < l.length → w'.heap[ad.block]? = w.heap[ad.block]?) : Cu w' A l := by
  have hr := Kd.reads_of_C (enc := Value.int .u8) (d := (0 : Int)) (h1 := fun _ => rfl) h
  refine Kd.C_of_reads (d := (0 : Int)) (enc := Value.int .u8) ⟨hr.1, hr.2.1, fun hn => ?_⟩
  obtain ⟨ad, e, hc⟩ := hr.2.2 hn
  refine ⟨ad, e, fun j hj => ?_⟩
  have := hc j hj
  unfold World.cell? at this ⊢
  rw [add_block, hk ad e hn, ← add_block ad j]
  exact this
/-- A block that holds no byte is not the row's. -/
theorem Cu.ne {w : World} {A : Option Addr} {l : List Int} (h : Cu w A l) {g : Nat} {cs : Array Value} {ty : TypeId} {fz : Nat × Nat} (hg : w.heap[g]? = some (.cells cs ty fz)) (hn : ∀ u ∈ cs, ∀ x, u ≠ .int .u8 x) (ad : Addr) (hA : A = some ad) (hl : 0 < l.length) : ad.block ≠ g := by
  intro he
  obtain ⟨ad2, h2, h3⟩ := Kd.at_int h 0 (Int.le_refl _) (by omega)
  rw [hA] at h2
  cases h2
  obtain ⟨ab, ao, ap⟩ := ad
  simp only at he
  subst he
  rw [show (Addr.add ⟨ab, ao, ap⟩ (0 : Int).toNat) = ⟨ab, ao, ap⟩ by simp [Addr.add]] at h3
  unfold World.cell? at h3
  simp only [hg] at h3
  split at h3
  · cases h3
  · exact hn _ (Array.mem_of_getElem? h3) _ rfl
/-- Nothing but two blocks, and what is new. -/
structure Fr (w w' : World) (bk gd : Nat) : Prop where
  os : w'.os = w.os
  tape : w'.tape = w.tape
  output : w'.output = w.output
  size : w.heap.size ≤ w'.heap.size
  far : ∀ k, k < w.heap.size → k ≠ bk → k ≠ gd → w'.heap[k]? = w.heap[k]?
theorem Fr.refl (w : World) (bk gd : Nat) : Fr w w bk gd := ⟨rfl, rfl, rfl, Nat.le_refl _, fun _ _ _ _ => rfl⟩
theorem Fr.step {w w' w'' : World} {bk gd : Nat} (h : Fr w w' bk gd) (hb : Below w'.heap.size w' w'') : Fr w w'' bk gd := ⟨hb.os.trans h.os, hb.tape.trans h.tape, hb.output.trans h.output, Nat.le_trans h.size hb.size, fun k h1 h2 h3 => (hb.block k (Nat.lt_of_lt_of_le h1 h.size)).trans (h.far k h1 h2 h3)⟩
theorem Fr.set {w w' : World} {bk gd : Nat} (h : Fr w w' bk gd) (g o : Nat) (v : Value) (hg : g = bk ∨ g = gd) : Fr w (w'.setCell ⟨g, o, none⟩ v) bk gd := by
  refine ⟨h.os, h.tape, h.output, by simpa [World.setCell] using h.size, fun k h1 h2 h3 => ?_⟩
  rw [Below.heap_setCell w' ⟨g, o, none⟩ v k (by rcases hg with rfl | rfl <;> assumption)]
  exact h.far k h1 h2 h3
theorem Fr.trans {w w' w'' : World} {bk gd : Nat} (h : Fr w w' bk gd) (k : Fr w' w'' bk gd) : Fr w w'' bk gd := ⟨k.os.trans h.os, k.tape.trans h.tape, k.output.trans h.output, Nat.le_trans h.size k.size, fun i h1 h2 h3 => (k.far i (Nat.lt_of_lt_of_le h1 h.size) h2 h3).trans (h.far i h1 h2 h3)⟩
theorem Cu.fr {w w' : World} {bk gd : Nat} (h : Fr w w' bk gd) {A : Option Addr} {l : List Int} (hC : Cu w A l) {cs cs' : Array Value} {ty ty' : TypeId} {fz fz' : Nat × Nat} (h1 : w.heap[bk]? = some (.cells cs ty fz)) (n1 : ∀ u ∈ cs, ∀ x, u ≠ .int .u8 x) (h2 : w.heap[gd]? = some (.cells cs' ty' fz')) (n2 : ∀ u ∈ cs', ∀ x, u ≠ .int .u8 x) : Cu w' A l := by
  refine hC.keep (fun ad hA hl => h.far ad.block ?_ (hC.ne h1 n1 ad hA hl) (hC.ne h2 n2 ad hA hl))
  obtain ⟨ad2, h3, h4⟩ := Kd.at_int hC 0 (Int.le_refl _) (by omega)
  rw [hA] at h3
  cases h3
  unfold World.cell? at h4
  rw [add_block] at h4
  split at h4
  · rename_i e
    exact (Array.getElem?_eq_some_iff.1 e).1
  · cases h4
theorem b2 (w : World) (a : Obj) : Below w.heap.size w (w.alloc a) := (Below.refl w.heap.size w).alloc (Nat.le_refl _) a
theorem b3 (w : World) (a b : Obj) : Below w.heap.size w ((w.alloc a).alloc b) := (b2 w a).alloc (b2 w a).size b
theorem Fr.of_below {w w' : World} {a b : Nat} (h : Below w.heap.size w w') : Fr w w' a b := (Fr.refl w a b).step h
/-- What lay below a bound stays, where only newer blocks were written to. -/
theorem Fr.below {w w' : World} {a b B : Nat} (h : Fr w w' a b) (hB : B ≤ w.heap.size) (ha : B ≤ a) (hb : B ≤ b) : Below B w w' := ⟨h.os, h.tape, h.output, h.size, fun k hk => h.far k (by omega) (by omega) (by omega)⟩
theorem Fr.swap {w w' : World} {a b : Nat} (h : Fr w w' a b) : Fr w w' b a := ⟨h.os, h.tape, h.output, h.size, fun k h1 h2 h3 => h.far k h1 h3 h2⟩
theorem Fr.one {w w' : World} {a b : Nat} (h : Fr w w' a a) : Fr w w' a b := ⟨h.os, h.tape, h.output, h.size, fun k h1 h2 _ => h.far k h1 h2 h2⟩
theorem Fr.two {w w' : World} {a b : Nat} (h : Fr w w' b b) : Fr w w' a b := ⟨h.os, h.tape, h.output, h.size, fun k h1 _ h2 => h.far k h1 h2 h2⟩
theorem gate_op {P : Program} {ops : Array Oper} {rest : List Oper} {o : Oper} {a : Act} {Q : Exit → Act → World → Prop} {W : World} {x : Op} (_ho : o.op = x) (h : wpList P ops Q (o :: rest) a W) : wpList P ops Q (o :: rest) a W := h
theorem op_copy_eq {P : Program} {ops : Array Oper} {rest : List Oper} {o : Oper} {a : Act} {Q : Exit → Act → World → Prop} {W W' : World} (hgd : o.guard = none) (s x : Operand) (t t' : TypeId)
    (ho : o.op = .call { callee := .builtin .copy, args := #[s, x], argTypes := #[t, t'] }) (v1 v2 r : Value) (hs : a.eval s = v1) (hx : a.eval x = v2)
    (hr : (Builtin.copy_ #[t, t'] o.type #[v1, v2]).run P W = .ok r W')
    (h : wpList P ops Q rest (a.put o.dst r) W') : wpList P ops Q (o :: rest) a W := by
  refine wpList_plain hgd fun K' hK => ?_
  unfold Oper.wp execOp
  simp only [ho, resolve, invoke, builtin, Sem.run_bind, Sem.run_pure, Result.andThen_ok, List.map_toArray, List.map_cons, List.map_nil, hs, hx, hr]
  exact hK _ _ h
end Go.Proofs.YtlnbkmkdapeicaaDoor.QR
