/- What readLittle does over a reader of bytes: the next four bytes, the least first, stand in the variable; the reader is four bytes further. -/
import Derived.Test.YtblmpfhjghcddaaDoorU1
namespace Go.Proofs.YtblmpfhjghcddaaDoor.QU
open Go.RowKit Go.Proofs.YtblmpfhjghcddaaDoorW.PrintWords Go.Proofs.YtblmpfhjghcddaaDoorW.PrintLast Go.Proofs.YtblmpfhjghcddaaDoorW.PrintMore
set_option linter.unusedVariables false
set_option linter.unusedSimpArgs false
theorem after_size (w : World) (g b : Nat) (i d0 d1 d2 d3 : Int) : (after w g b i d0 d1 d2 d3).heap.size = w.heap.size := by simp [after, World.setCell]
theorem after_frozen (w : World) (g b : Nat) (i d0 d1 d2 d3 : Int) (a : Addr) : (after w g b i d0 d1 d2 d3).frozen? a = w.frozen? a := by simp only [after, World.frozen?_setCell]
theorem after_far (w : World) (g b : Nat) (i d0 d1 d2 d3 : Int) (a : Addr) (h1 : a.block ≠ g) (h2 : a.block ≠ b) : (after w g b i d0 d1 d2 d3).cell? a = w.cell? a := by
  unfold after
  rw [World.cell?_setCell_other _ _ _ _ (fun e => h1 (by rw [← e])), World.cell?_setCell_other _ _ _ _ (fun e => h2 (by rw [← e])), World.cell?_setCell_other _ _ _ _ (fun e => h2 (by rw [← e])), World.cell?_setCell_other _ _ _ _ (fun e => h2 (by rw [← e])), World.cell?_setCell_other _ _ _ _ (fun e => h2 (by rw [← e])), World.cell?_setCell_other _ _ _ _ (fun e => h1 (by rw [← e]))]
theorem after_kept (w : World) (g b : Nat) (i d0 d1 d2 d3 : Int) : Kept w (after w g b i d0 d1 d2 d3) (fun k => k = g ∨ k = b) := by
  unfold after
  exact ((((((Kept.refl w _).setCell (.inl (.inl rfl)) _).setCell (.inl (.inr rfl)) _).setCell (.inl (.inr rfl)) _).setCell (.inl (.inr rfl)) _).setCell (.inl (.inr rfl)) _).setCell (.inl (.inl rfl)) _
theorem after_below (w : World) (g b B : Nat) (i d0 d1 d2 d3 : Int) (hg : B ≤ g) (hb : B ≤ b) : Below B w (after w g b i d0 d1 d2 d3) := by
  unfold after
  exact ((((((Below.refl B w).setCell hg _).setCell hb _).setCell hb _).setCell hb _).setCell hb _).setCell hg _
theorem after_cells {w : World} {g b n c : Nat} {A : Addr} {i : Int} {q x0 x1 x2 x3 : Value} (d0 d1 d2 d3 : Int) (hgb : g ≠ b)
    (g0 : w.cell? ⟨g, 0, none⟩ = some (.slice (some A) n c)) (g1 : w.cell? ⟨g, 1, none⟩ = some (.int .i64 i)) (g2 : w.cell? ⟨g, 2, none⟩ = some q)
    (b0 : w.cell? ⟨b, 0, none⟩ = some x0) (b1 : w.cell? ⟨b, 1, none⟩ = some x1) (b2 : w.cell? ⟨b, 2, none⟩ = some x2) (b3 : w.cell? ⟨b, 3, none⟩ = some x3) :
    (after w g b i d0 d1 d2 d3).cell? ⟨g, 0, none⟩ = some (.slice (some A) n c) ∧ (after w g b i d0 d1 d2 d3).cell? ⟨g, 1, none⟩ = some (.int .i64 (i + 4)) ∧ (after w g b i d0 d1 d2 d3).cell? ⟨g, 2, none⟩ = some (.int .i64 (-1)) ∧
      (after w g b i d0 d1 d2 d3).cell? ⟨b, 0, none⟩ = some (.int .u8 d0) ∧ (after w g b i d0 d1 d2 d3).cell? ⟨b, 1, none⟩ = some (.int .u8 d1) ∧ (after w g b i d0 d1 d2 d3).cell? ⟨b, 2, none⟩ = some (.int .u8 d2) ∧ (after w g b i d0 d1 d2 d3).cell? ⟨b, 3, none⟩ = some (.int .u8 d3) := by
  have hbg := Ne.symm hgb
  unfold after
  refine ⟨?_, ?_, ?_, ?_, ?_, ?_, ?_⟩ <;> simp [go_sem, g0, g1, g2, b0, b1, b2, b3, hgb, hbg]
/-- A reader over bytes: block g holds the bytes' place, how far it is, and what it read last. -/
structure Rd (w : World) (g : Nat) (A : Addr) (n c : Nat) (i : Int) : Prop where
  hg : g < w.heap.size
  g0 : w.cell? ⟨g, 0, none⟩ = some (.slice (some A) n c)
  g1 : w.cell? ⟨g, 1, none⟩ = some (.int .i64 i)
  g2 : ∃ q, w.cell? ⟨g, 2, none⟩ = some q
  gz1 : w.frozen? ⟨g, 1, none⟩ = false
  gz2 : w.frozen? ⟨g, 2, none⟩ = false
set_option maxHeartbeats 8000000 in
set_option maxRecDepth 100000 in
theorem little_is (g pb n c : Nat) (A : Addr) (i : Int) (x : Value) (d0 d1 d2 d3 : Int) (w : World) (hd0 : 0 ≤ d0 ∧ d0 < 256) (hd1 : 0 ≤ d1 ∧ d1 < 256) (hd2 : 0 ≤ d2 ∧ d2 < 256) (hd3 : 0 ≤ d3 ∧ d3 < 256) (hi : 0 ≤ i) (hin : i + 4 ≤ n) (hnc : n ≤ c) (hbig : n ≤ 9223372036854775807) (hr : Rd w g A n c i) (hp : pb < w.heap.size) (hgp : g ≠ pb) (hA : A.block < w.heap.size) (hAg : A.block ≠ g) (hAp : A.block ≠ pb)
    (p0 : w.cell? ⟨pb, 0, none⟩ = some x) (pz : w.frozen? ⟨pb, 0, none⟩ = false)
    (k0 : w.cell? (A.add i.toNat) = some (.int .u8 d0)) (k1 : w.cell? (A.add (i.toNat + 1)) = some (.int .u8 d1)) (k2 : w.cell? (A.add (i.toNat + 2)) = some (.int .u8 d2)) (k3 : w.cell? (A.add (i.toNat + 3)) = some (.int .u8 d3)) :
    Calls Tryd.prog 40 #[.iface 34 (.pointer (some ⟨g, 0, none⟩)), .pointer (some ⟨pb, 0, none⟩)] w fun e w' => e = .returned (.tuple #[]) ∧ Rd w' g A n c (i + 4) ∧ w'.cell? ⟨pb, 0, none⟩ = some (.int .u32 (le4 d0 d1 d2 d3)) ∧ w'.frozen? ⟨pb, 0, none⟩ = false ∧ Kept w w' (fun k => k = g ∨ k = pb) ∧ (∀ B, B ≤ g → B ≤ pb → B ≤ w.heap.size → Below B w w') := by
  obtain ⟨hg, g0, g1, ⟨q, g2⟩, gz1, gz2⟩ := hr
  have mixed : Tryd.prog.follows .mixedOrders = true := by kernel_rfl
  go_enter Tryd.func40, Tryd.ntmps40
  go_wp2_with fail
  obtain ⟨w1, hw1⟩ : ∃ w1, w1 = w.alloc (Obj.cells #[Value.int IntKind.u8 0, Value.int IntKind.u8 0, Value.int IntKind.u8 0, Value.int IntKind.u8 0] 47) := ⟨_, rfl⟩
  have HB1 : Below w.heap.size w w1 := by rw [hw1]; exact below_alloc (Below.refl _ _) _
  have s1 : w1.heap.size = w.heap.size + 1 := by rw [hw1]; simp
  rw [← hw1]
  have hgb : g ≠ w.heap.size := by omega
  have a0 := (HB1.cell (p := ⟨g, 0, none⟩) hg).trans g0
  have a1 := (HB1.cell (p := ⟨g, 1, none⟩) hg).trans g1
  have a2 := (HB1.cell (p := ⟨g, 2, none⟩) hg).trans g2
  have y0 : w1.cell? ⟨w.heap.size, 0, none⟩ = some (.int .u8 0) := by rw [hw1]; simp [go_sem]
  have y1 : w1.cell? ⟨w.heap.size, 1, none⟩ = some (.int .u8 0) := by rw [hw1]; simp [go_sem]
  have y2 : w1.cell? ⟨w.heap.size, 2, none⟩ = some (.int .u8 0) := by rw [hw1]; simp [go_sem]
  have y3 : w1.cell? ⟨w.heap.size, 3, none⟩ = some (.int .u8 0) := by rw [hw1]; simp [go_sem]
  have hAb : ∀ m : Nat, (A.add m).block = A.block := fun m => by unfold Addr.add; split <;> rfl
  refine (full_is g w.heap.size n c A i q _ _ _ _ d0 d1 d2 d3 w1 hi hin hnc hbig hgb hAg (by omega) a0 a1 a2 ((HB1.frozen (p := ⟨g, 1, none⟩) hg).trans gz1) ((HB1.frozen (p := ⟨g, 2, none⟩) hg).trans gz2) y0 y1 y2 y3
    (by rw [hw1]; simp [go_sem]) (by rw [hw1]; simp [go_sem]) (by rw [hw1]; simp [go_sem]) (by rw [hw1]; simp [go_sem])
    ((HB1.cell (by rw [hAb]; exact hA)).trans k0) ((HB1.cell (by rw [hAb]; exact hA)).trans k1) ((HB1.cell (by rw [hAb]; exact hA)).trans k2) ((HB1.cell (by rw [hAb]; exact hA)).trans k3)).mono ?_
  rintro e w2 ⟨rfl, m, hw2⟩
  have F := after_cells d0 d1 d2 d3 hgb a0 a1 a2 y0 y1 y2 y3
  have e0 : w2.cell? ⟨g, 0, none⟩ = some (.slice (some A) n c) := by rw [hw2, World.cell?_drewN]; exact F.1
  have e1 : w2.cell? ⟨g, 1, none⟩ = some (.int .i64 (i + 4)) := by rw [hw2, World.cell?_drewN]; exact F.2.1
  have e2 : w2.cell? ⟨g, 2, none⟩ = some (.int .i64 (-1)) := by rw [hw2, World.cell?_drewN]; exact F.2.2.1
  have v0 : w2.cell? ⟨w.heap.size, 0, none⟩ = some (.int .u8 d0) := by rw [hw2, World.cell?_drewN]; exact F.2.2.2.1
  have v1 : w2.cell? ⟨w.heap.size, 1, none⟩ = some (.int .u8 d1) := by rw [hw2, World.cell?_drewN]; exact F.2.2.2.2.1
  have v2 : w2.cell? ⟨w.heap.size, 2, none⟩ = some (.int .u8 d2) := by rw [hw2, World.cell?_drewN]; exact F.2.2.2.2.2.1
  have v3 : w2.cell? ⟨w.heap.size, 3, none⟩ = some (.int .u8 d3) := by rw [hw2, World.cell?_drewN]; exact F.2.2.2.2.2.2
  have hfz : ∀ a, w2.frozen? a = w1.frozen? a := fun a => by rw [hw2, World.frozen?_drewN]; exact after_frozen _ _ _ _ _ _ _ _ _
  have hfar : ∀ a : Addr, a.block ≠ g → a.block ≠ w.heap.size → w2.cell? a = w1.cell? a := fun a h1 h2 => by rw [hw2, World.cell?_drewN]; exact after_far _ _ _ _ _ _ _ _ _ h1 h2
  have K2 : Kept w w2 (fun k => k = g ∨ k = pb) := by
    refine (Kept.of_below HB1 _).then_ (S2 := fun k => k = g ∨ k = w.heap.size) ?_ (fun k hk => hk.elim (fun h => .inl (.inl h)) (fun h => .inr (by omega)))
    rw [hw2]; exact (after_kept _ _ _ _ _ _ _ _).drewN m
  have B2 : ∀ B, B ≤ g → B ≤ w.heap.size → Below B w w2 := fun B h1 h2 => (HB1.mono h2).trans (by rw [hw2]; exact pw_below_drewN (after_below _ _ _ _ _ _ _ _ _ h1 h2) m)
  have s2 : w.heap.size < w2.heap.size := by have := K2.1; have h := after_size w1 g w.heap.size i d0 d1 d2 d3; rw [hw2]; simp [h, s1]
  have p2 : w2.cell? ⟨pb, 0, none⟩ = some x := (hfar _ (by simp; omega) (by simp; omega)).trans ((HB1.cell (p := ⟨pb, 0, none⟩) hp).trans p0)
  have pz2 : w2.frozen? ⟨pb, 0, none⟩ = false := (hfz _).trans ((HB1.frozen (p := ⟨pb, 0, none⟩) hp).trans pz)
  clear hw2 F hw1 y0 y1 y2 y3 a0 a1 a2
  go_wp2
  go_region_with (go_at_call 42; (refine (u32_is w.heap.size 4 4 d0 d1 d2 d3 w2.drew (by omega) hd0 hd1 hd2 hd3 v0 v1 v2 v3).mono ?_; rintro e w3 ⟨rfl, hb3⟩; have hpl : pb < w2.drew.heap.size := Nat.lt_trans hp s2; have p3 := (hb3.cell (p := ⟨pb, 0, none⟩) hpl).trans p2; have pz3 := (hb3.frozen (p := ⟨pb, 0, none⟩) hpl).trans pz2))
  go_end0
  have hgl : g < w2.drew.heap.size := Nat.lt_trans hg s2
  have hne : ∀ o, (⟨pb, 0, none⟩ : Addr) ≠ ⟨g, o, none⟩ := fun o h => hgp (by injection h with h1 _ _; exact h1.symm)
  refine ⟨rfl, ⟨?_, ?_, ?_, ⟨.int .i64 (-1), ?_⟩, ?_, ?_⟩, ?_, ?_, ?_, ?_⟩
  · have h := hb3.size
    rw [show (w3.setCell ⟨pb, 0, none⟩ (.int .u32 (le4 d0 d1 d2 d3))).heap.size = w3.heap.size from by simp [World.setCell]]
    omega
  · rw [World.cell?_setCell_other _ _ _ _ (hne 0)]; exact (hb3.cell (p := ⟨g, 0, none⟩) hgl).trans e0
  · rw [World.cell?_setCell_other _ _ _ _ (hne 1)]; exact (hb3.cell (p := ⟨g, 1, none⟩) hgl).trans e1
  · rw [World.cell?_setCell_other _ _ _ _ (hne 2)]; exact (hb3.cell (p := ⟨g, 2, none⟩) hgl).trans e2
  · rw [World.frozen?_setCell]; exact (hb3.frozen (p := ⟨g, 1, none⟩) hgl).trans ((hfz _).trans ((HB1.frozen (p := ⟨g, 1, none⟩) hg).trans gz1))
  · rw [World.frozen?_setCell]; exact (hb3.frozen (p := ⟨g, 2, none⟩) hgl).trans ((hfz _).trans ((HB1.frozen (p := ⟨g, 2, none⟩) hg).trans gz2))
  · exact World.cell?_setCell_same _ _ _ p3
  · rw [World.frozen?_setCell]; exact pz3
  · exact (K2.drew.below hb3).setCell (.inl (.inr rfl)) _
  · intro B h1 h2 h3
    exact ((B2 B h1 h3).drew.trans (hb3.mono (Nat.le_trans h3 (Nat.le_of_lt s2)))).setCell h2 _
end Go.Proofs.YtblmpfhjghcddaaDoor.QU
