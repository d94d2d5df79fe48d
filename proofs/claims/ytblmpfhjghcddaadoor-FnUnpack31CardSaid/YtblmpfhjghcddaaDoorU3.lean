/- What stands while 32 numbers are read: the reader, the numbers' block, the variable; what a store into the numbers leaves, what the next readLittle leaves. -/
import Derived.Test.YtblmpfhjghcddaaDoorU2
namespace Go.Proofs.YtblmpfhjghcddaaDoor.QU
open Go.RowKit Go.Proofs.YtblmpfhjghcddaaDoorW.PrintWords Go.Proofs.YtblmpfhjghcddaaDoorW.PrintLast Go.Proofs.YtblmpfhjghcddaaDoorW.PrintMore
set_option linter.unusedVariables false
set_option linter.unusedSimpArgs false
/-- Block h: 32 numbers of 32 bits. -/
def Out (w : World) (h : Nat) (f : Nat → Int) : Prop := (∃ cs : Array Value, w.heap[h]? = some (.cells cs 30 (0, 0)) ∧ cs.size = 32) ∧ ∀ j, j < 32 → w.cell? ⟨h, j, none⟩ = some (.int .u32 (f j)) ∧ w.frozen? ⟨h, j, none⟩ = false
theorem Out.lt {w : World} {h : Nat} {f : Nat → Int} (ho : Out w h f) : h < w.heap.size := by
  obtain ⟨cs, hc, _⟩ := ho.1
  exact blk_lt hc
theorem heap_setCell_same (w : World) (h j : Nat) (v : Value) (cs : Array Value) (e : TypeId) (z : Nat × Nat) (hc : w.heap[h]? = some (.cells cs e z)) : (w.setCell ⟨h, j, none⟩ v).heap[h]? = some (.cells (cs.setIfInBounds j v) e z) := by
  simp [World.setCell, Array.getElem?_modify, hc]
def upd (f : Nat → Int) (j : Nat) (x : Int) : Nat → Int := fun k => if k = j then x else f k
theorem Out.set {w : World} {h : Nat} {f : Nat → Int} (ho : Out w h f) (j : Nat) (x : Int) : Out (w.setCell ⟨h, j, none⟩ (.int .u32 x)) h (upd f j x) := by
  obtain ⟨cs, hc, hs⟩ := ho.1
  refine ⟨⟨cs.setIfInBounds j (.int .u32 x), heap_setCell_same w h j _ cs 30 (0, 0) hc, by simpa using hs⟩, fun k hk => ⟨?_, by rw [World.frozen?_setCell]; exact (ho.2 k hk).2⟩⟩
  by_cases e : k = j
  · subst e
    rw [World.cell?_setCell_same _ _ _ (ho.2 k hk).1]; simp [upd]
  · rw [World.cell?_setCell_other _ _ _ _ (by simp [Ne.symm e])]
    rw [(ho.2 k hk).1]; simp [upd, e]
theorem Out.kept {w w' : World} {h : Nat} {f : Nat → Int} {S : Nat → Prop} (ho : Out w h f) (hk : Kept w w' S) (hn : ¬ S h) : Out w' h f :=
  ⟨by obtain ⟨cs, hc, hs⟩ := ho.1; exact ⟨cs, blk_kept hc hk hn, hs⟩, fun j hj => ⟨cell_kept (ho.2 j hj).1 hk hn, by
    have := hk.2 h ho.lt hn
    rw [World.frozen?_of_block (w := w) this]; exact (ho.2 j hj).2⟩⟩
theorem Rd.set {w : World} {g : Nat} {A : Addr} {n c : Nat} {i : Int} (hr : Rd w g A n c i) {h j : Nat} (hne : h ≠ g) (v : Value) : Rd (w.setCell ⟨h, j, none⟩ v) g A n c i := by
  obtain ⟨h1, h2, h3, ⟨q, h4⟩, h5, h6⟩ := hr
  have hx : ∀ o, (⟨h, j, none⟩ : Addr) ≠ ⟨g, o, none⟩ := fun o e => hne (by injection e)
  exact ⟨by simpa [World.setCell] using h1, by rw [World.cell?_setCell_other _ _ _ _ (hx 0)]; exact h2, by rw [World.cell?_setCell_other _ _ _ _ (hx 1)]; exact h3, ⟨q, by rw [World.cell?_setCell_other _ _ _ _ (hx 2)]; exact h4⟩, by rw [World.frozen?_setCell]; exact h5, by rw [World.frozen?_setCell]; exact h6⟩
theorem Rd.kept {w w' : World} {g : Nat} {A : Addr} {n c : Nat} {i : Int} {S : Nat → Prop} (hr : Rd w g A n c i) (hk : Kept w w' S) (hn : ¬ S g) : Rd w' g A n c i := by
  obtain ⟨h1, h2, h3, ⟨q, h4⟩, h5, h6⟩ := hr
  have hb := hk.2 g h1 hn
  exact ⟨Nat.lt_of_lt_of_le h1 hk.1, cell_kept h2 hk hn, cell_kept h3 hk hn, ⟨q, cell_kept h4 hk hn⟩, by rw [World.frozen?_of_block (w := w) hb]; exact h5, by rw [World.frozen?_of_block (w := w) hb]; exact h6⟩
/-- The blocks: the reader g, the numbers h, the variable p, the bytes A (n of them, D tells them). -/
structure Env0 (g h p n c : Nat) (A : Addr) (D : Nat → Int) : Prop where
  gh : g ≠ h
  gp : g ≠ p
  hp : h ≠ p
  ag : A.block ≠ g
  ah : A.block ≠ h
  ap : A.block ≠ p
  nc : n ≤ c
  big : n ≤ 9223372036854775807
  db : ∀ k, k < n → 0 ≤ D k ∧ D k < 256
theorem add_block (A : Addr) (m : Nat) : (A.add m).block = A.block := by unfold Addr.add; split <;> rfl
structure Mid (w0 w : World) (B g h p n c : Nat) (A : Addr) (D : Nat → Int) (i : Nat) (f : Nat → Int) (V : Int) : Prop where
  rd : Rd w g A n c i
  out : Out w h f
  pc : w.cell? ⟨p, 0, none⟩ = some (.int .u32 V)
  pz : w.frozen? ⟨p, 0, none⟩ = false
  ps : p < w.heap.size
  dc : ∀ k, k < n → w.cell? (A.add k) = some (.int .u8 (D k))
  asz : A.block < w.heap.size
  kept : Kept w0 w (fun k => k = g ∨ k = h)
  below : Below B w0 w
theorem Mid.set {w0 w : World} {B g h p n c : Nat} {A : Addr} {D : Nat → Int} {i : Nat} {f : Nat → Int} {V : Int} (E : Env0 g h p n c A D) (hB : B ≤ h) (M : Mid w0 w B g h p n c A D i f V) (j : Nat) (x : Int) :
    Mid w0 (w.setCell ⟨h, j, none⟩ (.int .u32 x)) B g h p n c A D i (upd f j x) V := by
  have hs : (w.setCell ⟨h, j, none⟩ (.int .u32 x)).heap.size = w.heap.size := by simp [World.setCell]
  refine ⟨M.rd.set (Ne.symm E.gh) _, M.out.set j x, ?_, by rw [World.frozen?_setCell]; exact M.pz, by rw [hs]; exact M.ps, fun k hk => ?_, by rw [hs]; exact M.asz, M.kept.setCell (.inl (.inr rfl)) _, M.below.setCell hB _⟩
  · rw [World.cell?_setCell_other _ _ _ _ (fun e => E.hp (by injection e))]; exact M.pc
  · rw [World.cell?_setCell_other _ _ _ _ (fun e => E.ah (by rw [← add_block A k, ← e]))]; exact M.dc k hk
theorem Mid.drew {w0 w : World} {B g h p n c : Nat} {A : Addr} {D : Nat → Int} {i : Nat} {f : Nat → Int} {V : Int} (M : Mid w0 w B g h p n c A D i f V) : Mid w0 w.drew B g h p n c A D i f V :=
  ⟨M.rd.kept (Kept.drew (Kept.refl w (fun _ => False))) (fun h => h), M.out.kept (Kept.drew (Kept.refl w (fun _ => False))) (fun h => h), M.pc, M.pz, M.ps, M.dc, M.asz, M.kept.drew, M.below.drew⟩
theorem Mid.next {w0 w : World} {B g h p n c : Nat} {A : Addr} {D : Nat → Int} {i : Nat} {f : Nat → Int} {V : Int} (E : Env0 g h p n c A D) (hBg : B ≤ g) (hBp : B ≤ p) (hp0 : w0.heap.size ≤ p) (hBw : B ≤ w0.heap.size) (M : Mid w0 w B g h p n c A D i f V) (hi : i + 4 ≤ n) :
    Calls Tryd.prog 40 #[.iface 34 (.pointer (some ⟨g, 0, none⟩)), .pointer (some ⟨p, 0, none⟩)] w fun e w' => e = .returned (.tuple #[]) ∧ Mid w0 w' B g h p n c A D (i + 4) f (le4 (D i) (D (i + 1)) (D (i + 2)) (D (i + 3))) := by
  have hi0 : (i : Int).toNat = i := by omega
  refine (little_is g p n c A (i : Int) _ (D i) (D (i + 1)) (D (i + 2)) (D (i + 3)) w (E.db i (by omega)) (E.db (i + 1) (by omega)) (E.db (i + 2) (by omega)) (E.db (i + 3) (by omega)) (by omega) (by omega) E.nc E.big M.rd M.ps E.gp M.asz E.ag E.ap M.pc M.pz
    (by rw [hi0]; exact M.dc i (by omega)) (by rw [hi0]; exact M.dc (i + 1) (by omega)) (by rw [hi0]; exact M.dc (i + 2) (by omega)) (by rw [hi0]; exact M.dc (i + 3) (by omega))).mono ?_
  rintro e w' ⟨rfl, hr, hc, hz, hk, hb⟩
  refine ⟨rfl, ⟨by rw [show ((i + 4 : Nat) : Int) = (i : Int) + 4 by omega]; exact hr, M.out.kept hk (by rintro (h | h); exact E.gh h.symm; exact E.hp h), hc, hz, Nat.lt_of_lt_of_le M.ps hk.1, fun k hk2 => ?_, Nat.lt_of_lt_of_le M.asz hk.1, ?_, ?_⟩⟩
  · exact cell_kept (M.dc k hk2) hk (by rw [add_block]; rintro (h | h); exact E.ag h; exact E.ap h)
  · exact M.kept.then_ hk (fun k h => h.elim (fun h => .inl (.inl h)) (fun h => .inr (by omega)))
  · exact M.below.trans (hb B hBg hBp (Nat.le_trans hBw M.kept.1))
theorem Mid.go {w0 w : World} {B g h p n c : Nat} {A : Addr} {D : Nat → Int} {i : Nat} {f : Nat → Int} {V : Int} {Q : Ending → World → Prop} (E : Env0 g h p n c A D) (hBg : B ≤ g) (hBp : B ≤ p) (hp0 : w0.heap.size ≤ p) (hBw : B ≤ w0.heap.size) (M : Mid w0 w B g h p n c A D i f V) (hi : i + 4 ≤ n)
    (k : ∀ w' f' V', Aside0 (f' = f) → Aside0 (V' = le4 (D i) (D (i + 1)) (D (i + 2)) (D (i + 3))) → Mid w0 w' B g h p n c A D (i + 4) f' V' → Q (.returned (.tuple #[])) w') :
    Calls Tryd.prog 40 #[.iface 34 (.pointer (some ⟨g, 0, none⟩)), .pointer (some ⟨p, 0, none⟩)] w Q :=
  (M.next E hBg hBp hp0 hBw hi).mono fun e w' ⟨he, hm⟩ => he ▸ k w' _ _ ⟨rfl⟩ ⟨rfl⟩ hm
theorem Mid.end_ {w0 w : World} {B g h p n c : Nat} {A : Addr} {D : Nat → Int} {i : Nat} {f : Nat → Int} {V : Int} {P : (Nat → Int) → Prop} (M : Mid w0 w B g h p n c A D i f V) (k : P f) : ∃ F V, Mid w0 w B g h p n c A D i F V ∧ P F := ⟨f, V, M, k⟩
theorem Mid.at {w0 w : World} {B g h p n c : Nat} {A : Addr} {D : Nat → Int} {i : Nat} {f : Nat → Int} {V : Int} (M : Mid w0 w B g h p n c A D i f V) (j : Nat) (hj : j < 32) : ∃ y, w.cell? ⟨h, j, none⟩ = some (.int .u32 y) ∧ w.frozen? ⟨h, j, none⟩ = false ∧ Aside0 (y = f j) :=
  ⟨f j, (M.out.2 j hj).1, (M.out.2 j hj).2, ⟨rfl⟩⟩
end Go.Proofs.YtblmpfhjghcddaaDoor.QU
