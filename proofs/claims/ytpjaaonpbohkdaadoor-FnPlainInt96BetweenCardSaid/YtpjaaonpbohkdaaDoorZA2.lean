/- The reader of set bits: its state in memory, and what its methods that read the bytes do (backwards): eight bytes at once, or the last ones. -/
import Derived.Test.YtpjaaonpbohkdaaDoorA1
import Derived.StillTailTactics
import Derived.IntWalk
namespace Go.Proofs.YtpjaaonpbohkdaaDoor.QR
open Go.RowKit Go.Proofs.YtpjaaonpbohkdaaDoorW.PrintWords Go.Proofs.YtpjaaonpbohkdaaDoorW.PrintLast Go.Proofs.YtpjaaonpbohkdaaDoorW.PrintMore
set_option linter.unusedVariables false
set_option linter.unusedSimpArgs false
/-- The row lies in no block of Int96. -/
def Nz (w : World) (A : Option Addr) : Prop := ∀ ad, A = some ad → ∀ cs fz, w.heap[ad.block]? ≠ some (.cells cs 78 fz)
def IsS132 (w0 W : World) (g : Nat) (f0 : List Int) (f1 : Int) (f2 : Int) (f3 : Int) (f4 : Int) (f5 : Int) (f6 : Bool) (f7 : Int) : Prop := ∃ A0 c0, W.heap[g]? = some (.cells #[.slice A0 f0.length c0, .int .i64 f1, .int .i64 f2, .int .i64 f3, .int .u64 f4, .int .i32 f5, .bool f6, .int .u64 f7] 132 (0, 0)) ∧ w0.heap.size ≤ g ∧ (Kd.C (Kd.int .u8) w0 A0 f0.length f0 ∧ f0.length ≤ c0 ∧ Nz w0 A0)
theorem IsS132.grown {w0 W : World} {g : Nat} {f0 : List Int} {f1 : Int} {f2 : Int} {f3 : Int} {f4 : Int} {f5 : Int} {f6 : Bool} {f7 : Int} {W1 : World} {row : Option Nat} (h : IsS132 w0 W g f0 f1 f2 f3 f4 f5 f6 f7) (hw : W.grownBy W1 row) (hne : some g ≠ row) : IsS132 w0 W1 g f0 f1 f2 f3 f4 f5 f6 f7 := by
 obtain ⟨A0, c0, hb, hg, hr0⟩ := h
 exact ⟨A0, c0, blk_grown hb hw hne, hg, hr0⟩
theorem IsS132.own_neN {w0 W : World} {g : Nat} {f0 : List Int} {f1 : Int} {f2 : Int} {f3 : Int} {f4 : Int} {f5 : Int} {f6 : Bool} {f7 : Int} {α : Type} {d : Kd α} {e : Nat} {base : Nat} {ok : Nat → Prop} {v : Value} {xs : List α} (h : IsS132 w0 W g f0 f1 f2 f3 f4 f5 f6 f7) (ho : Kd.N d e W base ok v xs) (ht : e ≠ 132) : some g ≠ v.ownBlock := by
 obtain ⟨A0, c0, hb, hg, hr0⟩ := h
 exact Kd.N_ne ho hb ht
theorem IsS132.fresh {w0 W : World} {g : Nat} {f0 : List Int} {f1 : Int} {f2 : Int} {f3 : Int} {f4 : Int} {f5 : Int} {f6 : Bool} {f7 : Int} (h : IsS132 w0 W g f0 f1 f2 f3 f4 f5 f6 f7) : ∀ k, W.heap.size ≤ k → k ≠ g := by
 obtain ⟨A0, c0, hb, hg, hr0⟩ := h
 exact Kd.freshB hb
theorem IsS132.kept {w0 W : World} {g : Nat} {f0 : List Int} {f1 : Int} {f2 : Int} {f3 : Int} {f4 : Int} {f5 : Int} {f6 : Bool} {f7 : Int} {W1 : World} {S : Nat → Prop} (h : IsS132 w0 W g f0 f1 f2 f3 f4 f5 f6 f7) (hk : Kept W W1 S) (hne : ¬ S g) : IsS132 w0 W1 g f0 f1 f2 f3 f4 f5 f6 f7 := by
 obtain ⟨A0, c0, hb, hg, hr0⟩ := h
 exact ⟨A0, c0, blk_kept hb hk hne, hg, hr0⟩
theorem IsS132.below {w0 W : World} {g : Nat} {f0 : List Int} {f1 : Int} {f2 : Int} {f3 : Int} {f4 : Int} {f5 : Int} {f6 : Bool} {f7 : Int} {W1 : World} (h : IsS132 w0 W g f0 f1 f2 f3 f4 f5 f6 f7) (hw : Below W.heap.size W W1) : IsS132 w0 W1 g f0 f1 f2 f3 f4 f5 f6 f7 := h.grown (grown_of_below hw none) (by simp)
theorem IsS132.alloc {w0 W : World} {g : Nat} {f0 : List Int} {f1 : Int} {f2 : Int} {f3 : Int} {f4 : Int} {f5 : Int} {f6 : Bool} {f7 : Int} (h : IsS132 w0 W g f0 f1 f2 f3 f4 f5 f6 f7) (o : Obj) : IsS132 w0 (W.alloc o) g f0 f1 f2 f3 f4 f5 f6 f7 := h.below (below_alloc (Below.refl _ _) o)
theorem IsS132.drewN {w0 W : World} {g : Nat} {f0 : List Int} {f1 : Int} {f2 : Int} {f3 : Int} {f4 : Int} {f5 : Int} {f6 : Bool} {f7 : Int} (h : IsS132 w0 W g f0 f1 f2 f3 f4 f5 f6 f7) (m : Nat) : IsS132 w0 (W.drewN m) g f0 f1 f2 f3 f4 f5 f6 f7 := h
theorem IsS132.drew {w0 W : World} {g : Nat} {f0 : List Int} {f1 : Int} {f2 : Int} {f3 : Int} {f4 : Int} {f5 : Int} {f6 : Bool} {f7 : Int} (h : IsS132 w0 W g f0 f1 f2 f3 f4 f5 f6 f7) : IsS132 w0 W.drew g f0 f1 f2 f3 f4 f5 f6 f7 := h
theorem IsS132.at_ {w0 W : World} {g : Nat} {f0 : List Int} {f1 : Int} {f2 : Int} {f3 : Int} {f4 : Int} {f5 : Int} {f6 : Bool} {f7 : Int} {w' : World} {m : Nat} (hq : W.drewN m = w') (h : IsS132 w0 W g f0 f1 f2 f3 f4 f5 f6 f7) : IsS132 w0 w' g f0 f1 f2 f3 f4 f5 f6 f7 := by subst hq; exact IsS132.drewN h m
theorem IsS132.apart {w0 W : World} {g : Nat} {f0 : List Int} {f1 : Int} {f2 : Int} {f3 : Int} {f4 : Int} {f5 : Int} {f6 : Bool} {f7 : Int} {α : Type} {d : Kd α} {e : Nat} {base : Nat} {ok : Nat → Prop} {v : Value} {xs : List α} (h : IsS132 w0 W g f0 f1 f2 f3 f4 f5 f6 f7) (ho : d.R e W base ok v xs) (ht : ∀ q, q ∈ e :: d.E → q ≠ 132) : d.R e W base (fun k => ok k ∧ k ≠ g) v xs := by
 obtain ⟨A0, c0, hb, hg, hr0⟩ := h
 exact Kd.R_types ho hb ht
theorem IsS132.own_ne {w0 W : World} {g : Nat} {f0 : List Int} {f1 : Int} {f2 : Int} {f3 : Int} {f4 : Int} {f5 : Int} {f6 : Bool} {f7 : Int} {α : Type} {d : Kd α} {e : Nat} {base : Nat} {ok : Nat → Prop} {v : Value} {xs : List α} (h : IsS132 w0 W g f0 f1 f2 f3 f4 f5 f6 f7) (ho : d.R e W base ok v xs) (ht : e ≠ 132) : some g ≠ v.ownBlock := by
 obtain ⟨A0, c0, hb, hg, hr0⟩ := h
 exact Kd.R_ne ho hb ht
theorem IsS132.apartQ {w0 W : World} {g : Nat} {f0 : List Int} {f1 : Int} {f2 : Int} {f3 : Int} {f4 : Int} {f5 : Int} {f6 : Bool} {f7 : Int} {α : Type} {d : Kd α} {e : Nat} {base : Nat} {ok : Nat → Prop} {v : Value} {xs : List α} (h : IsS132 w0 W g f0 f1 f2 f3 f4 f5 f6 f7) (ho : d.Q e W base ok v xs) (ht : ∀ q, q ∈ e :: d.E → q ≠ 132) : d.Q e W base (fun k => ok k ∧ k ≠ g) v xs := by
 obtain ⟨A0, c0, hb, hg, hr0⟩ := h
 exact Kd.Q_types ho hb ht
theorem IsS132.own_neQ {w0 W : World} {g : Nat} {f0 : List Int} {f1 : Int} {f2 : Int} {f3 : Int} {f4 : Int} {f5 : Int} {f6 : Bool} {f7 : Int} {α : Type} {d : Kd α} {e : Nat} {base : Nat} {ok : Nat → Prop} {v : Value} {xs : List α} (h : IsS132 w0 W g f0 f1 f2 f3 f4 f5 f6 f7) (ho : d.Q e W base ok v xs) (ht : e ≠ 132) : some g ≠ v.ownBlock := by
 obtain ⟨A0, c0, hb, hg, hr0⟩ := h
 exact Kd.Q_ne ho hb ht
theorem IsS132.apartS {w0 W : World} {g : Nat} {f0 : List Int} {f1 : Int} {f2 : Int} {f3 : Int} {f4 : Int} {f5 : Int} {f6 : Bool} {f7 : Int} {α : Type} {d : Kd α} {e : Nat} {base : Nat} {ok : Nat → Prop} {v : Value} {xs : List α} (h : IsS132 w0 W g f0 f1 f2 f3 f4 f5 f6 f7) (ho : d.S e W base ok v xs) (ht : ∀ q, q ∈ e :: d.E → q ≠ 132) : d.S e W base (fun k => ok k ∧ k ≠ g) v xs := by
 obtain ⟨A0, c0, hb, hg, hr0⟩ := h
 exact Kd.S_types ho hb ht
theorem IsS132.own_neS {w0 W : World} {g : Nat} {f0 : List Int} {f1 : Int} {f2 : Int} {f3 : Int} {f4 : Int} {f5 : Int} {f6 : Bool} {f7 : Int} {α : Type} {d : Kd α} {e : Nat} {base : Nat} {ok : Nat → Prop} {v : Value} {xs : List α} (h : IsS132 w0 W g f0 f1 f2 f3 f4 f5 f6 f7) (ho : d.S e W base ok v xs) (ht : e ≠ 132) : some g ≠ v.ownBlock := by
 obtain ⟨A0, c0, hb, hg, hr0⟩ := h
 exact Kd.S_ne ho hb ht
theorem IsS132.lt {w0 W : World} {g : Nat} {f0 : List Int} {f1 : Int} {f2 : Int} {f3 : Int} {f4 : Int} {f5 : Int} {f6 : Bool} {f7 : Int} (h : IsS132 w0 W g f0 f1 f2 f3 f4 f5 f6 f7) : g < W.heap.size := by
 obtain ⟨A0, c0, hb, hg, hr0⟩ := h
 exact blk_lt hb
theorem IsS132.ge {w0 W : World} {g : Nat} {f0 : List Int} {f1 : Int} {f2 : Int} {f3 : Int} {f4 : Int} {f5 : Int} {f6 : Bool} {f7 : Int} (h : IsS132 w0 W g f0 f1 f2 f3 f4 f5 f6 f7) : w0.heap.size ≤ g := by
 obtain ⟨A0, c0, hb, hg, hr0⟩ := h
 exact hg
theorem IsS132.ne_blk {w0 W : World} {g : Nat} {f0 : List Int} {f1 : Int} {f2 : Int} {f3 : Int} {f4 : Int} {f5 : Int} {f6 : Bool} {f7 : Int} {a : Nat} {cs : Array Value} {t : TypeId} {fr : Nat × Nat} (h : IsS132 w0 W g f0 f1 f2 f3 f4 f5 f6 f7) (hb2 : W.heap[a]? = some (.cells cs t fr)) (ht : t ≠ 132) : g ≠ a := by
 obtain ⟨A0, c0, hb, hg, hr0⟩ := h
 rintro rfl
 rw [hb] at hb2
 injection hb2 with hb2
 injection hb2 with _ ht2
 exact ht ht2.symm
theorem IsS132.far {w0 W : World} {g : Nat} {f0 : List Int} {f1 : Int} {f2 : Int} {f3 : Int} {f4 : Int} {f5 : Int} {f6 : Bool} {f7 : Int} {p : Addr} (h : IsS132 w0 W g f0 f1 f2 f3 f4 f5 f6 f7) (hne : g ≠ p.block) (u : Value) : IsS132 w0 (W.setCell p u) g f0 f1 f2 f3 f4 f5 f6 f7 := by
 obtain ⟨A0, c0, hb, hg, hr0⟩ := h
 exact ⟨A0, c0, blk_far hb hne u, hg, hr0⟩
theorem cellS132_0 {W : World} {g : Nat} {A0 : Option Addr} {c0 : Nat} {f0 : List Int} {f1 : Int} {f2 : Int} {f3 : Int} {f4 : Int} {f5 : Int} {f6 : Bool} {f7 : Int} (h : W.heap[g]? = some (.cells #[.slice A0 f0.length c0, .int .i64 f1, .int .i64 f2, .int .i64 f3, .int .u64 f4, .int .i32 f5, .bool f6, .int .u64 f7] 132 (0, 0))) : W.cell? ⟨g, 0, none⟩ = some (.slice A0 f0.length c0) := (blk_cell h 0).trans rfl
theorem cellS132_1 {W : World} {g : Nat} {A0 : Option Addr} {c0 : Nat} {f0 : List Int} {f1 : Int} {f2 : Int} {f3 : Int} {f4 : Int} {f5 : Int} {f6 : Bool} {f7 : Int} (h : W.heap[g]? = some (.cells #[.slice A0 f0.length c0, .int .i64 f1, .int .i64 f2, .int .i64 f3, .int .u64 f4, .int .i32 f5, .bool f6, .int .u64 f7] 132 (0, 0))) : W.cell? ⟨g, 1, none⟩ = some (.int .i64 f1) := (blk_cell h 1).trans rfl
theorem IsS132.set_1 {w0 W : World} {g : Nat} {f0 : List Int} {f1 : Int} {f2 : Int} {f3 : Int} {f4 : Int} {f5 : Int} {f6 : Bool} {f7 : Int} (h : IsS132 w0 W g f0 f1 f2 f3 f4 f5 f6 f7) (x : Int) : IsS132 w0 (W.setCell ⟨g, 1, none⟩ (.int .i64 x)) g f0 x f2 f3 f4 f5 f6 f7 := by
 obtain ⟨A0, c0, hb, hg, hr0⟩ := h
 exact ⟨A0, c0, by simpa using blk_set hb 1 (.int .i64 x), hg, hr0⟩
theorem cellS132_2 {W : World} {g : Nat} {A0 : Option Addr} {c0 : Nat} {f0 : List Int} {f1 : Int} {f2 : Int} {f3 : Int} {f4 : Int} {f5 : Int} {f6 : Bool} {f7 : Int} (h : W.heap[g]? = some (.cells #[.slice A0 f0.length c0, .int .i64 f1, .int .i64 f2, .int .i64 f3, .int .u64 f4, .int .i32 f5, .bool f6, .int .u64 f7] 132 (0, 0))) : W.cell? ⟨g, 2, none⟩ = some (.int .i64 f2) := (blk_cell h 2).trans rfl
theorem IsS132.set_2 {w0 W : World} {g : Nat} {f0 : List Int} {f1 : Int} {f2 : Int} {f3 : Int} {f4 : Int} {f5 : Int} {f6 : Bool} {f7 : Int} (h : IsS132 w0 W g f0 f1 f2 f3 f4 f5 f6 f7) (x : Int) : IsS132 w0 (W.setCell ⟨g, 2, none⟩ (.int .i64 x)) g f0 f1 x f3 f4 f5 f6 f7 := by
 obtain ⟨A0, c0, hb, hg, hr0⟩ := h
 exact ⟨A0, c0, by simpa using blk_set hb 2 (.int .i64 x), hg, hr0⟩
theorem cellS132_3 {W : World} {g : Nat} {A0 : Option Addr} {c0 : Nat} {f0 : List Int} {f1 : Int} {f2 : Int} {f3 : Int} {f4 : Int} {f5 : Int} {f6 : Bool} {f7 : Int} (h : W.heap[g]? = some (.cells #[.slice A0 f0.length c0, .int .i64 f1, .int .i64 f2, .int .i64 f3, .int .u64 f4, .int .i32 f5, .bool f6, .int .u64 f7] 132 (0, 0))) : W.cell? ⟨g, 3, none⟩ = some (.int .i64 f3) := (blk_cell h 3).trans rfl
theorem IsS132.set_3 {w0 W : World} {g : Nat} {f0 : List Int} {f1 : Int} {f2 : Int} {f3 : Int} {f4 : Int} {f5 : Int} {f6 : Bool} {f7 : Int} (h : IsS132 w0 W g f0 f1 f2 f3 f4 f5 f6 f7) (x : Int) : IsS132 w0 (W.setCell ⟨g, 3, none⟩ (.int .i64 x)) g f0 f1 f2 x f4 f5 f6 f7 := by
 obtain ⟨A0, c0, hb, hg, hr0⟩ := h
 exact ⟨A0, c0, by simpa using blk_set hb 3 (.int .i64 x), hg, hr0⟩
theorem cellS132_4 {W : World} {g : Nat} {A0 : Option Addr} {c0 : Nat} {f0 : List Int} {f1 : Int} {f2 : Int} {f3 : Int} {f4 : Int} {f5 : Int} {f6 : Bool} {f7 : Int} (h : W.heap[g]? = some (.cells #[.slice A0 f0.length c0, .int .i64 f1, .int .i64 f2, .int .i64 f3, .int .u64 f4, .int .i32 f5, .bool f6, .int .u64 f7] 132 (0, 0))) : W.cell? ⟨g, 4, none⟩ = some (.int .u64 f4) := (blk_cell h 4).trans rfl
theorem IsS132.set_4 {w0 W : World} {g : Nat} {f0 : List Int} {f1 : Int} {f2 : Int} {f3 : Int} {f4 : Int} {f5 : Int} {f6 : Bool} {f7 : Int} (h : IsS132 w0 W g f0 f1 f2 f3 f4 f5 f6 f7) (x : Int) : IsS132 w0 (W.setCell ⟨g, 4, none⟩ (.int .u64 x)) g f0 f1 f2 f3 x f5 f6 f7 := by
 obtain ⟨A0, c0, hb, hg, hr0⟩ := h
 exact ⟨A0, c0, by simpa using blk_set hb 4 (.int .u64 x), hg, hr0⟩
theorem cellS132_5 {W : World} {g : Nat} {A0 : Option Addr} {c0 : Nat} {f0 : List Int} {f1 : Int} {f2 : Int} {f3 : Int} {f4 : Int} {f5 : Int} {f6 : Bool} {f7 : Int} (h : W.heap[g]? = some (.cells #[.slice A0 f0.length c0, .int .i64 f1, .int .i64 f2, .int .i64 f3, .int .u64 f4, .int .i32 f5, .bool f6, .int .u64 f7] 132 (0, 0))) : W.cell? ⟨g, 5, none⟩ = some (.int .i32 f5) := (blk_cell h 5).trans rfl
theorem IsS132.set_5 {w0 W : World} {g : Nat} {f0 : List Int} {f1 : Int} {f2 : Int} {f3 : Int} {f4 : Int} {f5 : Int} {f6 : Bool} {f7 : Int} (h : IsS132 w0 W g f0 f1 f2 f3 f4 f5 f6 f7) (x : Int) : IsS132 w0 (W.setCell ⟨g, 5, none⟩ (.int .i32 x)) g f0 f1 f2 f3 f4 x f6 f7 := by
 obtain ⟨A0, c0, hb, hg, hr0⟩ := h
 exact ⟨A0, c0, by simpa using blk_set hb 5 (.int .i32 x), hg, hr0⟩
theorem cellS132_6 {W : World} {g : Nat} {A0 : Option Addr} {c0 : Nat} {f0 : List Int} {f1 : Int} {f2 : Int} {f3 : Int} {f4 : Int} {f5 : Int} {f6 : Bool} {f7 : Int} (h : W.heap[g]? = some (.cells #[.slice A0 f0.length c0, .int .i64 f1, .int .i64 f2, .int .i64 f3, .int .u64 f4, .int .i32 f5, .bool f6, .int .u64 f7] 132 (0, 0))) : W.cell? ⟨g, 6, none⟩ = some (.bool f6) := (blk_cell h 6).trans rfl
theorem IsS132.set_6 {w0 W : World} {g : Nat} {f0 : List Int} {f1 : Int} {f2 : Int} {f3 : Int} {f4 : Int} {f5 : Int} {f6 : Bool} {f7 : Int} (h : IsS132 w0 W g f0 f1 f2 f3 f4 f5 f6 f7) (x : Bool) : IsS132 w0 (W.setCell ⟨g, 6, none⟩ (.bool x)) g f0 f1 f2 f3 f4 f5 x f7 := by
 obtain ⟨A0, c0, hb, hg, hr0⟩ := h
 exact ⟨A0, c0, by simpa using blk_set hb 6 (.bool x), hg, hr0⟩
theorem cellS132_7 {W : World} {g : Nat} {A0 : Option Addr} {c0 : Nat} {f0 : List Int} {f1 : Int} {f2 : Int} {f3 : Int} {f4 : Int} {f5 : Int} {f6 : Bool} {f7 : Int} (h : W.heap[g]? = some (.cells #[.slice A0 f0.length c0, .int .i64 f1, .int .i64 f2, .int .i64 f3, .int .u64 f4, .int .i32 f5, .bool f6, .int .u64 f7] 132 (0, 0))) : W.cell? ⟨g, 7, none⟩ = some (.int .u64 f7) := (blk_cell h 7).trans rfl
theorem IsS132.set_7 {w0 W : World} {g : Nat} {f0 : List Int} {f1 : Int} {f2 : Int} {f3 : Int} {f4 : Int} {f5 : Int} {f6 : Bool} {f7 : Int} (h : IsS132 w0 W g f0 f1 f2 f3 f4 f5 f6 f7) (x : Int) : IsS132 w0 (W.setCell ⟨g, 7, none⟩ (.int .u64 x)) g f0 f1 f2 f3 f4 f5 f6 x := by
 obtain ⟨A0, c0, hb, hg, hr0⟩ := h
 exact ⟨A0, c0, by simpa using blk_set hb 7 (.int .u64 x), hg, hr0⟩
theorem IsS132.new (w0 W : World) (A0 : Option Addr) (c0 : Nat) (f0 : List Int) (f1 : Int) (f2 : Int) (f3 : Int) (f4 : Int) (f5 : Int) (f6 : Bool) (f7 : Int) (hB : Below w0.heap.size w0 W) (hr0 : Kd.C (Kd.int .u8) w0 A0 f0.length f0 ∧ f0.length ≤ c0 ∧ Nz w0 A0) : IsS132 w0 (W.alloc (.cells #[.slice A0 f0.length c0, .int .i64 f1, .int .i64 f2, .int .i64 f3, .int .u64 f4, .int .i32 f5, .bool f6, .int .u64 f7] 132)) W.heap.size f0 f1 f2 f3 f4 f5 f6 f7 := ⟨A0, c0, by simpa using heap_alloc_new W _, hB.size, hr0⟩

/-! ### bitutils_baseSetBitRunReader_consumeBits: function 119 -/
end Go.Proofs.YtpjaaonpbohkdaaDoor.QR
/- (*baseSetBitRunReader).loadFull, backwards: the eight bytes ahead of the place. -/
namespace Go.Proofs.YtpjaaonpbohkdaaDoor.QR
open Go.RowKit Go.Proofs.YtpjaaonpbohkdaaDoorW.PrintWords Go.Proofs.YtpjaaonpbohkdaaDoorW.PrintLast Go.Proofs.YtpjaaonpbohkdaaDoorW.PrintMore
set_option linter.unusedVariables false
set_option linter.unusedSimpArgs false
def bytesOk (l : List Int) : Bool := l.all fun x => decide (0 ≤ x) && decide (x < 256)
theorem bytes_ok {l : List Int} (h : bytesOk l = true) (k : Int) : 0 ≤ rd l k ∧ rd l k < 256 := by
  by_cases hk : k.toNat < l.length
  · unfold bytesOk at h
    rw [List.all_eq_true] at h
    have := h l[k.toNat] (List.getElem_mem hk)
    simpa [rd, hk] using this
  · have : rd l k = 0 := by unfold rd; rw [List.getD_eq_getElem?_getD, List.getElem?_eq_none (by omega)]; rfl
    rw [this]; decide
theorem add_block (A : Addr) (m : Nat) : (A.add m).block = A.block := by simp only [Addr.add]; split <;> rfl
/-- A row of bytes: where it lies, what is read there. -/
theorem bytes_at {l : List Int} {w : World} {A0 : Option Addr} (h0 : 0 < l.length) (hr : Kd.C (Kd.int .u8) w A0 l.length l) : ∃ A : Addr, A0 = some A ∧ A.block < w.heap.size ∧ ∀ k, k < l.length → w.cell? (A.add k) = some (.int .u8 (rd l ((k : Nat) : Int))) := by
  obtain ⟨A, rfl, _⟩ := Kd.at_int hr 0 (Int.le_refl _) (by omega)
  have hc : ∀ k, k < l.length → w.cell? (A.add k) = some (.int .u8 (rd l ((k : Nat) : Int))) := by
    intro k hk
    obtain ⟨A', e, hc⟩ := Kd.at_int hr (k : Int) (by omega) (by omega)
    injection e with e
    subst e
    simpa using hc
  refine ⟨A, rfl, ?_, hc⟩
  have h := hc 0 h0
  have h2 := World.block_lt_of_cell? w _ h
  rwa [add_block] at h2
theorem KeepBut.trans' {w w1 w2 : World} {g : Nat} (h : KeepBut w w1 g none) (hb : Below w1.drew.heap.size w1.drew w2) : KeepBut w w2 g none :=
  ⟨Nat.le_trans h.1 hb.size, fun i hi hg hn => (hb.block i (Nat.lt_of_lt_of_le hi h.1)).trans (h.2 i hi hg hn)⟩
def word8 (l : List Int) (a : Int) : Int := QE.le8 (rd l a) (rd l (a + 1)) (rd l (a + 2)) (rd l (a + 3)) (rd l (a + 4)) (rd l (a + 5)) (rd l (a + 6)) (rd l (a + 7))
def bitutils_baseSetBitRunReader_loadFull.f (s0_0 : List Int) (s0_1 s0_2 s0_3 s0_4 s0_5 : Int) (s0_6 : Bool) (s0_7 : Int) : Option (Int × Int × Int × Int × Int × Int × Bool × Int) :=
  if s0_6 = true ∧ bytesOk s0_0 = true ∧ 8 ≤ s0_1 ∧ s0_1 ≤ s0_0.length ∧ s0_0.length ≤ 1000000 then some (word8 s0_0 (s0_1 - 8), s0_1 - 8, s0_2, s0_3, s0_4, s0_5, s0_6, s0_7) else none
set_option maxHeartbeats 4000000 in
set_option maxRecDepth 100000 in
theorem bitutils_baseSetBitRunReader_loadFull.calls (g : Nat) (s0_0 : List Int) (s0_1 : Int) (s0_2 : Int) (s0_3 : Int) (s0_4 : Int) (s0_5 : Int) (s0_6 : Bool) (s0_7 : Int) (r1 : Int) (r2 : Int) (r3 : Int) (r4 : Int) (r5 : Int) (r6 : Int) (r7 : Bool) (r8 : Int) (w0 w : World) (hI : IsS132 w0 w g s0_0 s0_1 s0_2 s0_3 s0_4 s0_5 s0_6 s0_7) (hB : Below w0.heap.size w0 w) (h : bitutils_baseSetBitRunReader_loadFull.f s0_0 s0_1 s0_2 s0_3 s0_4 s0_5 s0_6 s0_7 = some (r1, r2, r3, r4, r5, r6, r7, r8)) :
    Calls Tryd.prog 116 #[.pointer (some ⟨g, 0, none⟩)] w fun e w' => e = .returned (.int .u64 r1) ∧ IsS132 w0 w' g s0_0 r2 r3 r4 r5 r6 r7 r8 ∧ Below w0.heap.size w0 w' ∧ KeepBut w w' g none := by
  unfold bitutils_baseSetBitRunReader_loadFull.f at h
  by_cases hc : s0_6 = true ∧ bytesOk s0_0 = true ∧ 8 ≤ s0_1 ∧ s0_1 ≤ s0_0.length ∧ s0_0.length ≤ 1000000
  · rw [if_pos hc] at h
    have h2 := Option.some.inj h
    simp only [Prod.mk.injEq] at h2
    obtain ⟨rfl, rfl, rfl, rfl, rfl, rfl, rfl, rfl⟩ := h2
    obtain ⟨rfl, hbo, hp8, hpl, hl6⟩ := hc
    clear h
    obtain ⟨q, rfl⟩ : ∃ q : Nat, s0_1 = (q : Int) + 8 := ⟨(s0_1 - 8).toNat, by omega⟩
    obtain ⟨A0, c0, HG, hg, hC, hcap, _⟩ := id hI
    obtain ⟨a0, hA0, hbl, hcell0⟩ := bytes_at (by omega) hC
    subst hA0
    have hcell : ∀ k, k < 8 → w.cell? ((a0.add q).add k) = some (.int .u8 (rd s0_0 ((q + k : Nat) : Int))) := fun k hk => by
      rw [Addr.add_add, hB.cell (by rw [add_block]; exact hbl)]; exact hcell0 (q + k) (by omega)
    have hgB : a0.block ≠ g := by omega
    have hcq : ¬ c0 = q := by omega
    have hc1 : (q : Int) + 8 ≤ (c0 : Int) := by omega
    have hq1 : (q : Int) ≤ 1000000 := by omega
    have hq2 : (q : Int) + 8 ≤ 1000008 := by omega
    clear hp8 hpl hl6
    have hb := fun k => bytes_ok hbo k
    have k0 := cellS132_0 HG
    have k1 := cellS132_1 HG
    have k6 := cellS132_6 HG
    have z1 := blk_frozen HG 1
    have hlt := blk_lt HG
    have QI := Aside0.mk hI
    have QB := Aside0.mk hB
    have Qc := Aside0.mk hcell
    have Qb := Aside0.mk hb
    have mixed : Tryd.prog.follows .mixedOrders = true := by kernel_rfl
    clear hI hB HG hC hcell hcell0 hb hbo
    go_enter Tryd.func116, Tryd.ntmps116
    go_wp2
    have j0 : (w.setCell ⟨g, 1, none⟩ (.int .i64 (q : Int))).cell? ⟨g, 0, none⟩ = some (.slice (some a0) s0_0.length c0) := by rw [World.cell?_setCell_other _ _ _ _ (by simp)]; exact k0
    have j1 : (w.setCell ⟨g, 1, none⟩ (.int .i64 (q : Int))).cell? ⟨g, 1, none⟩ = some (.int .i64 (q : Int)) := World.cell?_setCell_same _ _ _ k1
    have j6 : (w.setCell ⟨g, 1, none⟩ (.int .i64 (q : Int))).cell? ⟨g, 6, none⟩ = some (.bool true) := by rw [World.cell?_setCell_other _ _ _ _ (by simp)]; exact k6
    have jc : ∀ k, k < 8 → (w.setCell ⟨g, 1, none⟩ (.int .i64 (q : Int))).cell? ((a0.add q).add k) = some (.int .u8 (rd s0_0 ((q + k : Nat) : Int))) := fun k hk => by
      rw [World.cell?_setCell_other _ _ _ _ (fun e => hgB (by have := congrArg Addr.block e; rw [add_block, add_block] at this; exact this.symm))]; exact Qc.out k hk
    have QI2 := Aside0.mk (IsS132.set_1 QI.out (q : Int))
    have QB2 := Aside0.mk (show Below w0.heap.size w0 (w.setCell ⟨g, 1, none⟩ (.int .i64 (q : Int))) from below_set QB.out hg)
    have QK2 := Aside0.mk (show KeepBut w (w.setCell ⟨g, 1, none⟩ (.int .i64 (q : Int))) g none from ⟨by simp [World.setCell], fun i _ hn _ => Below.heap_setCell w _ _ i hn⟩)
    have Qj := Aside0.mk jc
    clear k0 k1 k6 z1 hlt Qc QI QB jc
    generalize w.setCell ⟨g, 1, none⟩ (.int .i64 (q : Int)) = W2 at j0 j1 j6 Qj QI2 QB2 QK2 ⊢
    have hs1 : IntKind.i64.wrap ((q : Int) + 8) = (q : Int) + 8 := IntWalk.i64_in _ (by omega)
    have hs2 : ((q : Int) + 8).toNat = q + 8 := by omega
    have hs3 : 0 ≤ (q : Int) + 8 := by omega
    refine wp_region_still_tail 15 (by kernel_rfl) (by kernel_rfl) ?_
    simp only [List.take_succ_cons, List.take_zero, List.drop_succ_cons, List.drop_zero]
    change wpStill _ _ (World.drew W2) _ _ _
    repeat still_step
    refine wpStill_nil ?_
    change wpList _ _ _ _ _ (World.drew W2)
    have HU := Aside0.mk (QE.u64_is (a0.add q) 8 (c0 - q) _ _ _ _ _ _ _ _ W2.drew (by omega) (Qb.out _) (Qb.out _) (Qb.out _) (Qb.out _) (Qb.out _) (Qb.out _) (Qb.out _) (Qb.out _) (Qj.out 0 (by omega)) (Qj.out 1 (by omega)) (Qj.out 2 (by omega)) (Qj.out 3 (by omega)) (Qj.out 4 (by omega)) (Qj.out 5 (by omega)) (Qj.out 6 (by omega)) (Qj.out 7 (by omega)))
    have j6' : W2.drew.cell? ⟨g, 6, none⟩ = some (.bool true) := j6
    have hg2 : g < W2.drew.heap.size := IsS132.lt QI2.out
    have Qg := Aside0.mk hg2
    have Q6 := Aside0.mk j6'
    clear hs1 hs2 hs3 j0 j1 j6 j6' Qj Qb hg2
    go_wp2_with (go_at_call 89; refine HU.out.mono ?_; rintro e w3 ⟨rfl, hb3⟩; have m6 := (hb3.cell (p := ⟨g, 6, none⟩) Qg.out).trans Q6.out; have QB3 := Aside0.mk hb3; clear hb3)
    go_ret
    have hw : QE.le8 (rd s0_0 ((q + 0 : Nat) : Int)) (rd s0_0 ((q + 1 : Nat) : Int)) (rd s0_0 ((q + 2 : Nat) : Int)) (rd s0_0 ((q + 3 : Nat) : Int)) (rd s0_0 ((q + 4 : Nat) : Int)) (rd s0_0 ((q + 5 : Nat) : Int)) (rd s0_0 ((q + 6 : Nat) : Int)) (rd s0_0 ((q + 7 : Nat) : Int)) = word8 s0_0 ((q : Int) + 8 - 8) := by
      rw [show (q : Int) + 8 - 8 = (q : Int) by omega]; rfl
    refine ⟨congrArg (fun x => Ending.returned (Value.int .u64 x)) hw, ?_, ?_, ?_⟩
    · rw [show (q : Int) + 8 - 8 = (q : Int) by omega]; exact QI2.out.drew.below QB3.out
    · exact (QB2.out.drew).trans (QB3.out.mono QB2.out.size)
    · exact KeepBut.trans' QK2.out QB3.out
  · rw [if_neg hc] at h
    cases h
end Go.Proofs.YtpjaaonpbohkdaaDoor.QR
/- BytesForBits, LeastSignificantBitMask. -/
namespace Go.Proofs.YtpjaaonpbohkdaaDoor.QR
open Go.RowKit Go.Proofs.YtpjaaonpbohkdaaDoorW.PrintWords Go.Proofs.YtpjaaonpbohkdaaDoorW.PrintLast Go.Proofs.YtpjaaonpbohkdaaDoorW.PrintMore
set_option linter.unusedVariables false
set_option linter.unusedSimpArgs false
theorem bfb_is (n : Nat) (hn : (n : Int) ≤ 1000000) (w : World) : Calls Tryd.prog 92 #[.int .i64 (n : Int)] w fun e w' => e = .returned (.int .i64 (((n + 7) / 8 : Nat) : Int)) ∧ w = w' := by
  have h0 : 0 ≤ (n : Int) + 7 := by omega
  go_enter Tryd.func92, Tryd.ntmps92
  go_wp2
  go_ret
  refine ⟨congrArg (fun x => Ending.returned (Value.int .i64 x)) ?_, rfl⟩
  omega
theorem lsb_is (n : Nat) (h1 : (1 : Int) ≤ (n : Int)) (h2 : (n : Int) ≤ 63) (w : World) : Calls Tryd.prog 93 #[.int .i64 (n : Int)] w fun e w' => e = .returned (.int .u64 (2 ^ n - 1)) ∧ w = w' := by
  have h0 : (0 : Int) ≤ (n : Int) := by omega
  go_enter Tryd.func93, Tryd.ntmps93
  go_wp2
  go_ret
  have hp : (2 : Int) ^ n < 2 ^ 64 := by exact_mod_cast Nat.pow_lt_pow_right (by omega : 1 < 2) (show n < 64 by omega)
  have hp0 : (0 : Int) < 2 ^ n := Int.pow_pos (by omega)
  refine ⟨congrArg (fun x => Ending.returned (Value.int .u64 x)) ?_, rfl⟩
  rw [wraps_u64 _ (by omega) hp, wraps_u64 _ (by omega) (by omega)]
theorem heap_setCells (b : Nat) : ∀ (vs : List Value) (o : Nat) (w : World), (w.setCells b o vs).heap.size = w.heap.size ∧ ∀ i, i ≠ b → (w.setCells b o vs).heap[i]? = w.heap[i]?
  | [], o, w => ⟨rfl, fun _ _ => rfl⟩
  | v :: vs, o, w => by
    have h := heap_setCells b vs (o + 1) (w.setCell ⟨b, o, none⟩ v)
    exact ⟨h.1.trans (by simp [World.setCell]), fun i hi => (h.2 i hi).trans (Below.heap_setCell w ⟨b, o, none⟩ v i hi)⟩
theorem below_setCells {B b : Nat} {w0 : World} (hB : B ≤ b) : ∀ (vs : List Value) (o : Nat) (w : World), Below B w0 w → Below B w0 (w.setCells b o vs)
  | [], _, _, h => h
  | v :: vs, o, w, h => below_setCells hB vs (o + 1) _ (h.setCell hB v)
/-- The word that loadPartial makes of nb bytes from q on, for n bits behind o. -/
def pcell (l : List Int) (q : Int) (nb j : Nat) : Int := if j + nb < 8 then 0 else rd l (q + ((j + nb - 8 : Nat) : Int))
def partW (l : List Int) (q : Int) (nb : Nat) (o n : Nat) : Int :=
  Go.bits .andNot .u64 (IntKind.u64.wrap (QE.le8 (pcell l q nb 0) (pcell l q nb 1) (pcell l q nb 2) (pcell l q nb 3) (pcell l q nb 4) (pcell l q nb 5) (pcell l q nb 6) (pcell l q nb 7) * 2 ^ o)) (2 ^ (64 - n) - 1)
theorem pcell_ok {l : List Int} (h : bytesOk l = true) (q : Int) (nb j : Nat) : 0 ≤ pcell l q nb j ∧ pcell l q nb j < 256 := by
  unfold pcell
  split
  · decide
  · exact bytes_ok h _
end Go.Proofs.YtpjaaonpbohkdaaDoor.QR
