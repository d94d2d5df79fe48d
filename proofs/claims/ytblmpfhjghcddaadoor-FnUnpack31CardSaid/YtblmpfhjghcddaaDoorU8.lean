/- The state between the regions of unpackN_32: the frame's three fixed slots, the memory, how many numbers are done, how many bits of the next one. -/
import Derived.Test.YtblmpfhjghcddaaDoorU4
namespace Go.Proofs.YtblmpfhjghcddaaDoor.QU
open Go.RowKit Go.Proofs.YtblmpfhjghcddaaDoorW.PrintWords Go.Proofs.YtblmpfhjghcddaaDoorW.PrintLast Go.Proofs.YtblmpfhjghcddaaDoorW.PrintMore
set_option linter.unusedVariables false
/-- i bytes are read, m numbers done, a bits of the next one. -/
structure St (N nt : Nat) (w0 : World) (g h n c oc B : Nat) (A : Addr) (D : Nat → Int) (i m a : Nat) (T : Array Value) (w : World) : Prop where
  sz : T.size = nt
  t0 : T[0]? = some (.iface 34 (.pointer (some ⟨g, 0, none⟩)))
  t1 : T[1]? = some (.slice (some ⟨h, 0, none⟩) 32 oc)
  t4 : T[4]? = some (.pointer (some ⟨w0.heap.size, 0, none⟩))
  mid : ∃ f V, Mid w0 w B g h w0.heap.size n c A D i f V ∧ (4 ≤ i → V = le4 (D (i - 4)) (D (i - 4 + 1)) (D (i - 4 + 2)) (D (i - 4 + 3))) ∧ (∀ k, k < m → f k = numD D (N * k) N) ∧ (0 < a → f m = numD D (N * m) a)
/-- The region of a number, in a function's code. -/
def regionIn (k : Nat) : Code → Option Code
  | .region id ops fl => if id == k then some (.region id ops fl) else none
  | .seq a b => match regionIn k a with
    | some c => some c
    | none => regionIn k b
  | _ => none
def regionOf (f : Func) (k : Nat) : Code := ((f.body.bind (regionIn k))).getD .skip
theorem fin_next {f : Nat → Int} {D : Nat → Int} {N j : Nat} {x : Int} (hd : ∀ k, k < j → f k = numD D (N * k) N) (hx : x = numD D (N * j) N) : ∀ k, k < j + 1 → upd f j x k = numD D (N * k) N := by
  intro k hk
  unfold upd
  by_cases e : k = j
  · rw [if_pos e, hx, e]
  · rw [if_neg e]; exact hd k (by omega)
theorem fin_part {f : Nat → Int} {D : Nat → Int} {N j : Nat} {x : Int} (hd : ∀ k, k < j → f k = numD D (N * k) N) : ∀ k, k < j → upd f j x k = numD D (N * k) N := by
  intro k hk
  unfold upd
  rw [if_neg (by omega)]; exact hd k hk
theorem upd_same (f : Nat → Int) (j : Nat) (x : Int) : upd f j x j = x := by unfold upd; rw [if_pos rfl]
theorem pc_two' {D : Nat → Int} {t n : Nat} {V2 y : Int} (hV2 : V2 = le4 (D t) (D (t + 1)) (D (t + 2)) (D (t + 3))) (h : ∀ k, k < n → 0 ≤ D k ∧ D k < 256) (hn : t + 4 ≤ n) (s0 a b : Nat) (M P : Int) (hM : M = 2 ^ b) (hP : P = 2 ^ a) (hs : s0 + a = 8 * t) (hab : a + b ≤ 32) (hy : y = numD D s0 a) :
    Go.bits .or .u32 y (IntKind.u32.wrap (V2.tmod M * P)) = numD D s0 (a + b) := by
  rw [IntKind.wrap_u32]
  have e2 := pc_first (t := t) hV2 h (by omega) b M hM (by omega)
  rw [hy, e2, hP, or_pieces _ _ a b hab (numD_bd _ _ _) (numD_bd _ _ _), numD_add, hs]
/-- A whole number is stored. -/
theorem St.whole {N nt : Nat} {w0 w : World} {g h n c oc B i m : Nat} {A : Addr} {D : Nat → Int} {T' : Array Value} {f : Nat → Int} {V x : Int} (E : Env0 g h w0.heap.size n c A D) (hB : B ≤ h)
    (M : Mid w0 w B g h w0.heap.size n c A D i f V) (hG : 4 ≤ i → V = le4 (D (i - 4)) (D (i - 4 + 1)) (D (i - 4 + 2)) (D (i - 4 + 3))) (hd : ∀ k, k < m → f k = numD D (N * k) N)
    (hx : x = numD D (N * m) N) (hT : T'.size = nt ∧ T'[0]? = some (.iface 34 (.pointer (some ⟨g, 0, none⟩))) ∧ T'[1]? = some (.slice (some ⟨h, 0, none⟩) 32 oc) ∧ T'[4]? = some (.pointer (some ⟨w0.heap.size, 0, none⟩))) :
    St N nt w0 g h n c oc B A D i (m + 1) 0 T' (w.setCell ⟨h, m, none⟩ (.int .u32 x)) :=
  ⟨hT.1, hT.2.1, hT.2.2.1, hT.2.2.2, _, V, M.set E hB m x, hG, fin_next hd hx, fun h0 => absurd h0 (Nat.lt_irrefl _)⟩
theorem St.whole_d {N nt : Nat} {w0 w : World} {g h n c oc B i m : Nat} {A : Addr} {D : Nat → Int} {T' : Array Value} {f : Nat → Int} {V x : Int} (E : Env0 g h w0.heap.size n c A D) (hB : B ≤ h)
    (M : Mid w0 w B g h w0.heap.size n c A D i f V) (hG : 4 ≤ i → V = le4 (D (i - 4)) (D (i - 4 + 1)) (D (i - 4 + 2)) (D (i - 4 + 3))) (hd : ∀ k, k < m → f k = numD D (N * k) N)
    (hx : x = numD D (N * m) N) (hT : T'.size = nt ∧ T'[0]? = some (.iface 34 (.pointer (some ⟨g, 0, none⟩))) ∧ T'[1]? = some (.slice (some ⟨h, 0, none⟩) 32 oc) ∧ T'[4]? = some (.pointer (some ⟨w0.heap.size, 0, none⟩))) :
    St N nt w0 g h n c oc B A D i (m + 1) 0 T' (w.setCell ⟨h, m, none⟩ (.int .u32 x)).drew :=
  ⟨hT.1, hT.2.1, hT.2.2.1, hT.2.2.2, _, V, (M.set E hB m x).drew, hG, fin_next hd hx, fun h0 => absurd h0 (Nat.lt_irrefl _)⟩
/-- A first part is stored. -/
theorem St.part {N nt : Nat} {w0 w : World} {g h n c oc B i m a : Nat} {A : Addr} {D : Nat → Int} {T' : Array Value} {f : Nat → Int} {V x : Int} (E : Env0 g h w0.heap.size n c A D) (hB : B ≤ h)
    (M : Mid w0 w B g h w0.heap.size n c A D i f V) (hG : 4 ≤ i → V = le4 (D (i - 4)) (D (i - 4 + 1)) (D (i - 4 + 2)) (D (i - 4 + 3))) (hd : ∀ k, k < m → f k = numD D (N * k) N)
    (hx : x = numD D (N * m) a) (hT : T'.size = nt ∧ T'[0]? = some (.iface 34 (.pointer (some ⟨g, 0, none⟩))) ∧ T'[1]? = some (.slice (some ⟨h, 0, none⟩) 32 oc) ∧ T'[4]? = some (.pointer (some ⟨w0.heap.size, 0, none⟩))) :
    St N nt w0 g h n c oc B A D i m a T' (w.setCell ⟨h, m, none⟩ (.int .u32 x)) :=
  ⟨hT.1, hT.2.1, hT.2.2.1, hT.2.2.2, _, V, M.set E hB m x, hG, fin_part hd, fun _ => (upd_same _ _ _).trans hx⟩
theorem wp_last {P : Program} {fn : Func} {R : Ending → World → Prop} {c : Code} {a : Act} {w : World} (h : c.wp P (Exit.then (fun a w => bodyPost P fn R .normal a w) (bodyPost P fn R)) a w) : c.wp P (bodyPost P fn R) a w :=
  Code.wp_mono (fun e a w h => by cases e <;> exact h) h
/-- The next word. -/
theorem Mid.goS {N nt : Nat} {w0 w : World} {g h n c oc B i m a : Nat} {A : Addr} {D : Nat → Int} {f : Nat → Int} {V : Int} {Q : Ending → World → Prop} (E : Env0 g h w0.heap.size n c A D) (hBg : B ≤ g) (hBw : B ≤ w0.heap.size) (hi : i + 4 ≤ n)
    (M : Mid w0 w B g h w0.heap.size n c A D i f V) (hd : ∀ k, k < m → f k = numD D (N * k) N) (hp : 0 < a → f m = numD D (N * m) a)
    (k : ∀ w', (∀ T' : Array Value, T'.size = nt → T'[0]? = some (.iface 34 (.pointer (some ⟨g, 0, none⟩))) → T'[1]? = some (.slice (some ⟨h, 0, none⟩) 32 oc) → T'[4]? = some (.pointer (some ⟨w0.heap.size, 0, none⟩)) → St N nt w0 g h n c oc B A D (i + 4) m a T' w') → Q (.returned (.tuple #[])) w') :
    Calls Tryd.prog 40 #[.iface 34 (.pointer (some ⟨g, 0, none⟩)), .pointer (some ⟨w0.heap.size, 0, none⟩)] w Q :=
  (M.next E hBg hBw (Nat.le_refl _) hBw hi).mono fun e w' ⟨he, hm⟩ => he ▸ k w' fun T' e1 e2 e3 e4 => ⟨e1, e2, e3, e4, f, _, hm, fun _ => by simp only [Nat.add_sub_cancel], hd, hp⟩
end Go.Proofs.YtblmpfhjghcddaaDoor.QU
