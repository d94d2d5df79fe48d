/- Two rows of int16 in a record: what holds between appends. -/
import Derived.Test.YtjipnopadpedoaaDoorH1
import Derived.Test.YtjipnopadpedoaaDoorWInvWords
namespace Go.Proofs.YtjipnopadpedoaaDoor.QR
open Go.RowKit Go.Proofs.YtjipnopadpedoaaDoorW.PrintWords Go.Proofs.YtjipnopadpedoaaDoorW.PrintLast Go.Proofs.YtjipnopadpedoaaDoorW.PrintMore
set_option linter.unusedVariables false
set_option linter.unusedSimpArgs false
abbrev RI (w0 w : World) (v : Value) (xs : List Int) : Prop := Kd.R (Kd.int .i16) 28 w w0.heap.size (fun _ => True) v xs
def AP (u v : Value) : Prop := u.ownBlock = none ∨ u.ownBlock ≠ v.ownBlock
theorem AP.symm {u v : Value} (h : AP u v) : AP v u := by
  rcases h with h | h
  · cases hv : v.ownBlock with
    | none => exact .inl hv
    | some k => exact .inr (by rw [h, hv]; simp)
  · cases hv : v.ownBlock with
    | none => exact .inl hv
    | some k => exact .inr (fun e => h (by rw [← e]))
theorem AP.ne {u v : Value} (h : AP u v) : ∀ k, v.ownBlock = some k → some k ≠ u.ownBlock := fun k hk e => by
  rcases h with h | h
  · rw [h] at e; cases e
  · exact h (e.symm.trans hk.symm)
structure PW (w0 w : World) (g : Nat) (cD : Value) (eD : List Int) (cR : Value) (eR : List Int) (kD kR : Value) : Prop where
  bk : w.heap[g]? = some (.cells #[kD, kR] 47 (0, 0))
  rd : RI w0 w cD eD
  rr : RI w0 w cR eR
  ap : AP cD cR
  bl : Below w0.heap.size w0 w
  lo : w0.heap.size ≤ g
/-- A literal's row, apart from another one. -/
def LX (w0 w : World) (x : Value) (d : Int) (c : Value) : Prop := RI w0 w x [d] ∧ AP x c
theorem ri_not {w0 w : World} {g : Nat} {cs : Array Value} {v : Value} {xs : List Int} (hR : RI w0 w v xs) (h : w.heap[g]? = some (.cells cs 47 (0, 0))) : some g ≠ v.ownBlock := by
  intro e
  obtain ⟨cells, hc⟩ := own_typed (Kd.own_of_R hR) g e.symm
  rw [h] at hc
  have h2 := Option.some.inj hc
  have h3 : (47 : TypeId) = 28 := by injection h2
  exact absurd h3 (by decide)
variable {w0 w w1 : World} {g : Nat} {cD cR kD kR x v1 c : Value} {eD eR xs : List Int} {d : Int}
theorem PW.step (h : PW w0 w g cD eD cR eR kD kR) (hb : Below w.heap.size w w1) : PW w0 w1 g cD eD cR eR kD kR :=
  ⟨(hb.block _ (blk_lt h.bk)).trans h.bk, Kd.R_below h.rd hb, Kd.R_below h.rr hb, h.ap, h.bl.trans (hb.mono h.bl.size), h.lo⟩
theorem PW.grow0 (h : PW w0 w g cD eD cR eR kD kR) (hb : Below w0.heap.size w0 w1) (hg : w.grownBy w1 none) : PW w0 w1 g cD eD cR eR kD kR :=
  ⟨blk_grown h.bk hg (by simp), Kd.R_grown2 h.rd rfl hg (fun _ h => by cases h), Kd.R_grown2 h.rr rfl hg (fun _ h => by cases h), h.ap, hb, h.lo⟩
theorem PW.appD (h : PW w0 w g cD eD cR eR kD kR) (ho : RI w0 w1 v1 xs) (hb : Below w0.heap.size w0 w1) (hg : w.grownBy w1 cD.ownBlock) (hat : v1.ownBlock = cD.ownBlock ∨ ∃ b, v1.ownBlock = some b ∧ w.heap.size ≤ b) : PW w0 w1 g v1 xs cR eR kD kR := by
  refine ⟨blk_grown h.bk hg (ri_not h.rd h.bk), ho, Kd.R_grown2 h.rr rfl hg h.ap.symm.ne, ?_, hb, h.lo⟩
  rcases hat with e | ⟨b, e, hl⟩
  · unfold AP
    rw [e]
    exact h.ap
  · exact own_apart' (n := w.heap.size) (fun k hk => by rw [e] at hk; cases hk; exact hl) (Kd.R_lt h.rr)
theorem PW.appR (h : PW w0 w g cD eD cR eR kD kR) (ho : RI w0 w1 v1 xs) (hb : Below w0.heap.size w0 w1) (hg : w.grownBy w1 cR.ownBlock) (hat : v1.ownBlock = cR.ownBlock ∨ ∃ b, v1.ownBlock = some b ∧ w.heap.size ≤ b) : PW w0 w1 g cD eD v1 xs kD kR := by
  refine ⟨blk_grown h.bk hg (ri_not h.rr h.bk), Kd.R_grown2 h.rd rfl hg h.ap.ne, ho, ?_, hb, h.lo⟩
  rcases hat with e | ⟨b, e, hl⟩
  · unfold AP
    rw [e]
    exact h.ap
  · exact own_apart (n := w.heap.size) (Kd.R_lt h.rd) (fun k hk => by rw [e] at hk; cases hk; exact hl)
theorem ri_set (h : RI w0 w v1 xs) {cs : Array Value} (hb : w.heap[g]? = some (.cells cs 47 (0, 0))) (j : Nat) (u : Value) : RI w0 (w.setCell ⟨g, j, none⟩ u) v1 xs := Kd.R_set h hb (fun q hq => by rcases List.mem_cons.1 hq with rfl | hq; exact (by decide); cases hq) j u
theorem PW.setD (h : PW w0 w g cD eD cR eR kD kR) (u : Value) : PW w0 (w.setCell ⟨g, 0, none⟩ u) g cD eD cR eR u kR :=
  ⟨blk_set h.bk 0 u, ri_set h.rd h.bk 0 u, ri_set h.rr h.bk 0 u, h.ap, h.bl.setCell (p := ⟨g, 0, none⟩) h.lo u, h.lo⟩
theorem PW.setR (h : PW w0 w g cD eD cR eR kD kR) (u : Value) : PW w0 (w.setCell ⟨g, 1, none⟩ u) g cD eD cR eR kD u :=
  ⟨blk_set h.bk 1 u, ri_set h.rd h.bk 1 u, ri_set h.rr h.bk 1 u, h.ap, h.bl.setCell (p := ⟨g, 1, none⟩) h.lo u, h.lo⟩
theorem PW.c0 (h : PW w0 w g cD eD cR eR kD kR) : w.cell? ⟨g, 0, none⟩ = some kD := blk_cell h.bk 0
theorem PW.c1 (h : PW w0 w g cD eD cR eR kD kR) : w.cell? ⟨g, 1, none⟩ = some kR := blk_cell h.bk 1
theorem PW.fz (h : PW w0 w g cD eD cR eR kD kR) (k : Nat) : w.frozen? ⟨g, k, none⟩ = false := blk_frozen h.bk k
theorem LX.new {xsc : List Int} (ho : RI w0 w1 x [d]) (hat : ∃ b, x.ownBlock = some b ∧ w.heap.size ≤ b) (hc : RI w0 w c xsc) : LX w0 w1 x d c := by
  obtain ⟨b, e, hl⟩ := hat
  exact ⟨ho, own_apart' (n := w.heap.size) (fun k hk => by rw [e] at hk; cases hk; exact hl) (Kd.R_lt hc)⟩
theorem LX.grow0 (h : LX w0 w x d c) (hg : w.grownBy w1 none) : LX w0 w1 x d c := ⟨Kd.R_grown2 h.1 rfl hg (fun _ h => by cases h), h.2⟩
theorem LX.app (h : LX w0 w x d c) (hg : w.grownBy w1 c.ownBlock) (hat : v1.ownBlock = c.ownBlock ∨ ∃ b, v1.ownBlock = some b ∧ w.heap.size ≤ b) : LX w0 w1 x d v1 := by
  refine ⟨Kd.R_grown2 h.1 rfl hg h.2.ne, ?_⟩
  rcases hat with e | ⟨b, e, hl⟩
  · unfold AP
    rw [e]
    exact h.2
  · exact own_apart (n := w.heap.size) (Kd.R_lt h.1) (fun k hk => by rw [e] at hk; cases hk; exact hl)
theorem LX.set (h : LX w0 w x d c) {cs : Array Value} (hb : w.heap[g]? = some (.cells cs 47 (0, 0))) (j : Nat) (u : Value) : LX w0 (w.setCell ⟨g, j, none⟩ u) x d c := ⟨ri_set h.1 hb j u, h.2⟩
/-- The record of two rows. -/
def SR (w0 w : World) (g : Nat) (D R : List Int) : Prop := ∃ vD vR, PW w0 w g vD D vR R vD vR
theorem SR.step {D R : List Int} (h : SR w0 w g D R) (hb : Below w.heap.size w w1) : SR w0 w1 g D R := by
  obtain ⟨vD, vR, h⟩ := h
  exact ⟨vD, vR, h.step hb⟩
end Go.Proofs.YtjipnopadpedoaaDoor.QR
