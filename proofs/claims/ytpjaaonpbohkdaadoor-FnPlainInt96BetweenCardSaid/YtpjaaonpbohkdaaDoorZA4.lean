/- (*baseSetBitRunReader).loadPartial, backwards: the last bytes ahead of the place, for fewer than 64 bits. -/
import Derived.Test.YtpjaaonpbohkdaaDoorZA2
namespace Go.Proofs.YtpjaaonpbohkdaaDoor.QR
open Go.RowKit Go.Proofs.YtpjaaonpbohkdaaDoorW.PrintWords Go.Proofs.YtpjaaonpbohkdaaDoorW.PrintLast Go.Proofs.YtpjaaonpbohkdaaDoorW.PrintMore
set_option linter.unusedVariables false
set_option linter.unusedSimpArgs false
set_option maxHeartbeats 8000000 in
set_option maxRecDepth 100000 in
theorem loadPartial_5 (g : Nat) (l : List Int) (s2 s3 s4 s5 s7 : Int) (q o n : Nat) (w0 w : World) (hI : IsS132 w0 w g l ((q : Int) + 5) s2 s3 s4 s5 true s7) (hB : Below w0.heap.size w0 w) (hbo : bytesOk l = true) (hq : q + 5 ≤ l.length) (hl : l.length ≤ 1000000) (ho : (o : Int) ≤ 7) (hn1 : 1 ≤ n) (hn2 : n ≤ 63) (hnb : (n + 7) / 8 = 5) :
    Calls Tryd.prog 83 #[.pointer (some ⟨g, 0, none⟩), .int .i8 (o : Int), .int .i64 (n : Int)] w fun e w' => e = .returned (.int .u64 (partW l (q : Int) 5 o n)) ∧ IsS132 w0 w' g l (q : Int) s2 s3 s4 s5 true s7 ∧ Below w0.heap.size w0 w' ∧ KeepBut w w' g none := by
  obtain ⟨A0, c0, HG, hg, hC, hcap, _⟩ := id hI
  obtain ⟨a0, hA0, hbl, hcell0⟩ := bytes_at (by omega) hC
  subst hA0
  have hlt := blk_lt HG
  have hne : w.heap.size ≠ g := by omega
  have k0 := cellS132_0 HG
  have k1 := cellS132_1 HG
  have k6 := cellS132_6 HG
  have z1 := blk_frozen HG 1
  have hbw : a0.block < w.heap.size := Nat.lt_of_lt_of_le hbl hB.size
  have hcell : ∀ k, k < 5 → w.cell? ((a0.add q).add k) = some (.int .u8 (rd l ((q + k : Nat) : Int))) := fun k hk => by
    rw [Addr.add_add, hB.cell (by rw [add_block]; exact hbl)]; exact hcell0 (q + k) (by omega)
  have hcq : ¬ c0 = q := by omega
  have hc1 : (q : Int) + 5 ≤ (c0 : Int) := by omega
  have hq1 : (q : Int) ≤ 1000000 := by omega
  have hn3 : (n : Int) ≤ 1000000 := by omega
  have hn4 : (1 : Int) ≤ (n : Int) := by omega
  have hn5 : (n : Int) ≤ 63 := by omega
  obtain ⟨W1, hW1⟩ : ∃ W1, W1 = w.alloc (.cells #[.int .u8 0, .int .u8 0, .int .u8 0, .int .u8 0, .int .u8 0, .int .u8 0, .int .u8 0, .int .u8 0] 117) := ⟨_, rfl⟩
  have B1 : Below w.heap.size w W1 := by rw [hW1]; exact below_alloc (Below.refl _ _) _
  have s1 : W1.heap.size = w.heap.size + 1 := by rw [hW1]; simp
  have m0 := (B1.cell (p := ⟨g, 0, none⟩) hlt).trans k0
  have m1 := (B1.cell (p := ⟨g, 1, none⟩) hlt).trans k1
  have m6 := (B1.cell (p := ⟨g, 6, none⟩) hlt).trans k6
  have y1 := (B1.frozen (p := ⟨g, 1, none⟩) hlt).trans z1
  have v0 : W1.cell? ⟨w.heap.size, 0, none⟩ = some (.int .u8 0) := by rw [hW1]; simp [go_sem]
  have v1 : W1.cell? ⟨w.heap.size, 1, none⟩ = some (.int .u8 0) := by rw [hW1]; simp [go_sem]
  have v2 : W1.cell? ⟨w.heap.size, 2, none⟩ = some (.int .u8 0) := by rw [hW1]; simp [go_sem]
  have v3 : W1.cell? ⟨w.heap.size, 3, none⟩ = some (.int .u8 0) := by rw [hW1]; simp [go_sem]
  have v4 : W1.cell? ⟨w.heap.size, 4, none⟩ = some (.int .u8 0) := by rw [hW1]; simp [go_sem]
  have v5 : W1.cell? ⟨w.heap.size, 5, none⟩ = some (.int .u8 0) := by rw [hW1]; simp [go_sem]
  have v6 : W1.cell? ⟨w.heap.size, 6, none⟩ = some (.int .u8 0) := by rw [hW1]; simp [go_sem]
  have v7 : W1.cell? ⟨w.heap.size, 7, none⟩ = some (.int .u8 0) := by rw [hW1]; simp [go_sem]
  have f0 : W1.frozen? ⟨w.heap.size, 0, none⟩ = false := by rw [hW1]; simp [go_sem]
  have f1 : W1.frozen? ⟨w.heap.size, 1, none⟩ = false := by rw [hW1]; simp [go_sem]
  have f2 : W1.frozen? ⟨w.heap.size, 2, none⟩ = false := by rw [hW1]; simp [go_sem]
  have f3 : W1.frozen? ⟨w.heap.size, 3, none⟩ = false := by rw [hW1]; simp [go_sem]
  have f4 : W1.frozen? ⟨w.heap.size, 4, none⟩ = false := by rw [hW1]; simp [go_sem]
  have f5 : W1.frozen? ⟨w.heap.size, 5, none⟩ = false := by rw [hW1]; simp [go_sem]
  have f6 : W1.frozen? ⟨w.heap.size, 6, none⟩ = false := by rw [hW1]; simp [go_sem]
  have f7 : W1.frozen? ⟨w.heap.size, 7, none⟩ = false := by rw [hW1]; simp [go_sem]
  have mcell : ∀ k, k < 5 → W1.cell? ((a0.add q).add k) = some (.int .u8 (rd l ((q + k : Nat) : Int))) := fun k hk => (B1.cell (by rw [add_block, add_block]; exact hbw)).trans (hcell k hk)
  have QI := Aside0.mk (hI.below B1)
  have QB := Aside0.mk (hB.trans (B1.mono hB.size))
  have QK := Aside0.mk (show KeepBut w W1 g none from ⟨B1.size, fun i hi _ _ => B1.block i hi⟩)
  have QC := Aside0.mk mcell
  have QP := Aside0.mk (fun j => pcell_ok hbo (q : Int) 5 j)
  have hgB : a0.block ≠ g := by omega
  have hhB : a0.block ≠ w.heap.size := by omega
  have QhB := Aside0.mk hB.size
  have QF := Aside0.mk (bfb_is n hn3)
  have QL := Aside0.mk (fun w => lsb_is (64 - n) (by omega) (by omega) w)
  have Qnb := Aside0.mk hnb
  have Qs := Aside0.mk s1
  have Qn := Aside0.mk (And.intro hn1 hn2)
  clear hI hB HG hC hcell hcell0 hbo k0 k1 k6 z1 hlt B1 s1 mcell hnb hn1 hn2 hq hl hcap hbw hbl hn3
  go_enter Tryd.func83, Tryd.ntmps83
  go_wp2_with fail
  rw [← hW1]
  clear hW1
  refine (QF.out _).mono ?_
  rintro e w' ⟨rfl, rfl⟩
  rw [Qnb.out]
  go_wp2
  have j0 : (W1.setCell ⟨g, 1, none⟩ (.int .i64 (q : Int))).cell? ⟨g, 0, none⟩ = some (.slice (some a0) l.length c0) := by rw [World.cell?_setCell_other _ _ _ _ (by simp)]; exact m0
  have j1 : (W1.setCell ⟨g, 1, none⟩ (.int .i64 (q : Int))).cell? ⟨g, 1, none⟩ = some (.int .i64 (q : Int)) := World.cell?_setCell_same _ _ _ m1
  have hnA : ∀ k, (⟨g, 1, none⟩ : Addr) ≠ ⟨w.heap.size, k, none⟩ := fun k e => hne (by injection e with e1; exact e1.symm)
  have QV := Aside0.mk (show ∀ k, k < 8 → (W1.setCell ⟨g, 1, none⟩ (.int .i64 (q : Int))).cell? ⟨w.heap.size, k, none⟩ = some (.int .u8 0) from fun k hk => by
    rw [World.cell?_setCell_other _ _ _ _ (hnA k)]
    match k, hk with
    | 0, _ => exact v0
    | 1, _ => exact v1
    | 2, _ => exact v2
    | 3, _ => exact v3
    | 4, _ => exact v4
    | 5, _ => exact v5
    | 6, _ => exact v6
    | 7, _ => exact v7)
  have QZ := Aside0.mk (show ∀ k, k < 8 → (W1.setCell ⟨g, 1, none⟩ (.int .i64 (q : Int))).frozen? ⟨w.heap.size, k, none⟩ = false from fun k hk => by
    rw [World.frozen?_setCell]
    match k, hk with
    | 0, _ => exact f0
    | 1, _ => exact f1
    | 2, _ => exact f2
    | 3, _ => exact f3
    | 4, _ => exact f4
    | 5, _ => exact f5
    | 6, _ => exact f6
    | 7, _ => exact f7)
  have QC2 := Aside0.mk (show ∀ k, k < 5 → (W1.setCell ⟨g, 1, none⟩ (.int .i64 (q : Int))).cell? ((a0.add q).add k) = some (.int .u8 (rd l ((q + k : Nat) : Int))) from fun k hk => by
    rw [World.cell?_setCell_other _ _ _ _ (fun e => hgB (by have := congrArg Addr.block e; rw [add_block, add_block] at this; exact this.symm))]; exact QC.out k hk)
  have QI2 := Aside0.mk (IsS132.set_1 QI.out (q : Int))
  have QB2 := Aside0.mk (show Below w0.heap.size w0 (W1.setCell ⟨g, 1, none⟩ (.int .i64 (q : Int))) from below_set QB.out hg)
  have QK2 := Aside0.mk (show KeepBut w (W1.setCell ⟨g, 1, none⟩ (.int .i64 (q : Int))) g none from ⟨Nat.le_trans QK.out.1 (by simp [World.setCell]), fun i hi hn hr => (Below.heap_setCell W1 _ _ i hn).trans (QK.out.2 i hi hn hr)⟩)
  have Qs2 := Aside0.mk (show (W1.setCell ⟨g, 1, none⟩ (.int .i64 (q : Int))).heap.size = w.heap.size + 1 from by simp [World.setCell, Qs.out])
  clear m0 m1 m6 y1 v0 v1 v2 v3 v4 v5 v6 v7 f0 f1 f2 f3 f4 f5 f6 f7 QC QI QB QK Qs hnA
  generalize W1.setCell ⟨g, 1, none⟩ (.int .i64 (q : Int)) = W2 at j0 j1 QV QZ QC2 QI2 QB2 QK2 Qs2 ⊢
  have hs1 : IntKind.i64.wrap ((q : Int) + 5) = (q : Int) + 5 := IntWalk.i64_in _ (by omega)
  have hs2 : ((q : Int) + 5).toNat = q + 5 := by omega
  have hs3 : 0 ≤ (q : Int) + 5 := by omega
  have hs4 : IntKind.i64.wrap (3 : Int) = 3 := IntWalk.i64_in _ (by omega)
  obtain ⟨W3, hW3⟩ : ∃ W3, W3 = W2.drew.setCells w.heap.size 3 [.int .u8 (rd l ((q + 0 : Nat) : Int)), .int .u8 (rd l ((q + 1 : Nat) : Int)), .int .u8 (rd l ((q + 2 : Nat) : Int)), .int .u8 (rd l ((q + 3 : Nat) : Int)), .int .u8 (rd l ((q + 4 : Nat) : Int))] := ⟨_, rfl⟩
  have hcp : (Builtin.copy_ #[23, 23] 3 #[.slice (some ⟨w.heap.size, 3, none⟩) 5 5, .slice (some (a0.add q)) 5 (c0 - q)]).run Tryd.prog W2.drew = .ok (.int .i64 5) W3 := by
    rw [hW3]
    refine run_copy_cells (P := Tryd.prog) W2.drew 23 23 3 5 w.heap.size 3 5 5 (a0.add q) 5 (c0 - q) [.int .u8 (rd l ((q + 0 : Nat) : Int)), .int .u8 (rd l ((q + 1 : Nat) : Int)), .int .u8 (rd l ((q + 2 : Nat) : Int)), .int .u8 (rd l ((q + 3 : Nat) : Int)), .int .u8 (rd l ((q + 4 : Nat) : Int))] Tryd.underlying23 (by kernel_rfl) rfl ?_ ?_ ?_ ?_
    · intro j v hv
      have hj : j < 5 := by have := (List.getElem?_eq_some_iff.1 hv).1; simpa using this
      refine (QC2.out j hj).trans ?_
      match j, hj with
      | 0, _ => exact hv
      | 1, _ => exact hv
      | 2, _ => exact hv
      | 3, _ => exact hv
      | 4, _ => exact hv
    · intro j hj
      exact Option.isSome_iff_exists.2 ⟨_, QV.out (3 + j) (by simp at hj; omega)⟩
    · intro j hj
      exact QZ.out (3 + j) (by simp at hj; omega)
    · intro v hv
      simp at hv
      rcases hv with rfl | rfl | rfl | rfl | rfl <;> rfl
  have HW := heap_setCells w.heap.size [.int .u8 (rd l ((q + 0 : Nat) : Int)), .int .u8 (rd l ((q + 1 : Nat) : Int)), .int .u8 (rd l ((q + 2 : Nat) : Int)), .int .u8 (rd l ((q + 3 : Nat) : Int)), .int .u8 (rd l ((q + 4 : Nat) : Int))] 3 W2.drew
  rw [← hW3] at HW
  have HC : ∀ j, j < 8 → W3.cell? ⟨w.heap.size, j, none⟩ = some (.int .u8 (pcell l (q : Int) 5 j)) := by
    intro j hj
    rw [hW3]
    match j, hj with
    | 0, _ => rw [World.cell?_setCells_out _ _ _ _ _ (fun _ _ => .inl (show (0 : Nat) < 3 by decide))]; exact QV.out 0 (by omega)
    | 1, _ => rw [World.cell?_setCells_out _ _ _ _ _ (fun _ _ => .inl (show (1 : Nat) < 3 by decide))]; exact QV.out 1 (by omega)
    | 2, _ => rw [World.cell?_setCells_out _ _ _ _ _ (fun _ _ => .inl (show (2 : Nat) < 3 by decide))]; exact QV.out 2 (by omega)
    | 3, _ => exact (World.cell?_setCells_in w.heap.size [.int .u8 (rd l ((q + 0 : Nat) : Int)), .int .u8 (rd l ((q + 1 : Nat) : Int)), .int .u8 (rd l ((q + 2 : Nat) : Int)), .int .u8 (rd l ((q + 3 : Nat) : Int)), .int .u8 (rd l ((q + 4 : Nat) : Int))] 3 W2.drew (fun k hk => Option.isSome_iff_exists.2 ⟨_, QV.out (3 + k) (by simp at hk; omega)⟩) 0 (by simp)).trans (by simp [pcell])
    | 4, _ => exact (World.cell?_setCells_in w.heap.size [.int .u8 (rd l ((q + 0 : Nat) : Int)), .int .u8 (rd l ((q + 1 : Nat) : Int)), .int .u8 (rd l ((q + 2 : Nat) : Int)), .int .u8 (rd l ((q + 3 : Nat) : Int)), .int .u8 (rd l ((q + 4 : Nat) : Int))] 3 W2.drew (fun k hk => Option.isSome_iff_exists.2 ⟨_, QV.out (3 + k) (by simp at hk; omega)⟩) 1 (by simp)).trans (by simp [pcell])
    | 5, _ => exact (World.cell?_setCells_in w.heap.size [.int .u8 (rd l ((q + 0 : Nat) : Int)), .int .u8 (rd l ((q + 1 : Nat) : Int)), .int .u8 (rd l ((q + 2 : Nat) : Int)), .int .u8 (rd l ((q + 3 : Nat) : Int)), .int .u8 (rd l ((q + 4 : Nat) : Int))] 3 W2.drew (fun k hk => Option.isSome_iff_exists.2 ⟨_, QV.out (3 + k) (by simp at hk; omega)⟩) 2 (by simp)).trans (by simp [pcell])
    | 6, _ => exact (World.cell?_setCells_in w.heap.size [.int .u8 (rd l ((q + 0 : Nat) : Int)), .int .u8 (rd l ((q + 1 : Nat) : Int)), .int .u8 (rd l ((q + 2 : Nat) : Int)), .int .u8 (rd l ((q + 3 : Nat) : Int)), .int .u8 (rd l ((q + 4 : Nat) : Int))] 3 W2.drew (fun k hk => Option.isSome_iff_exists.2 ⟨_, QV.out (3 + k) (by simp at hk; omega)⟩) 3 (by simp)).trans (by simp [pcell])
    | 7, _ => exact (World.cell?_setCells_in w.heap.size [.int .u8 (rd l ((q + 0 : Nat) : Int)), .int .u8 (rd l ((q + 1 : Nat) : Int)), .int .u8 (rd l ((q + 2 : Nat) : Int)), .int .u8 (rd l ((q + 3 : Nat) : Int)), .int .u8 (rd l ((q + 4 : Nat) : Int))] 3 W2.drew (fun k hk => Option.isSome_iff_exists.2 ⟨_, QV.out (3 + k) (by simp at hk; omega)⟩) 4 (by simp)).trans (by simp [pcell])
  have QW := Aside0.mk HW
  have QH := Aside0.mk HC
  have QW3 := Aside0.mk hW3
  clear HW HC hW3 QV QZ QC2
  refine wp_region_still_tail 18 (by kernel_rfl) (by kernel_rfl) ?_
  simp only [List.take_succ_cons, List.take_zero, List.drop_succ_cons, List.drop_zero]
  change wpStill _ _ (World.drew W2) _ _ _
  repeat still_step
  refine wpStill_nil ?_
  change wpList _ _ _ _ _ (World.drew W2)
  go_wp2
  have hs5 : IntKind.i64.wrap (64 - (n : Int)) = ((64 - n : Nat) : Int) := by rw [IntWalk.i64_in _ (by omega)]; have := Qn.out; omega
  have ho0 : (0 : Int) ≤ (o : Int) := by omega
  have HU := Aside0.mk (QE.u64_is ⟨w.heap.size, 0, none⟩ 8 8 _ _ _ _ _ _ _ _ W3.drew (by omega) (QP.out 0) (QP.out 1) (QP.out 2) (QP.out 3) (QP.out 4) (QP.out 5) (QP.out 6) (QP.out 7) (show W3.drew.cell? (Addr.add ⟨w.heap.size, 0, none⟩ 0) = some (.int .u8 (pcell l (q : Int) 5 0)) from by rw [show Addr.add ⟨w.heap.size, 0, none⟩ 0 = ⟨w.heap.size, 0, none⟩ from by simp [Addr.add]]; exact QH.out 0 (by omega)) (show W3.drew.cell? (Addr.add ⟨w.heap.size, 0, none⟩ 1) = some (.int .u8 (pcell l (q : Int) 5 1)) from by rw [show Addr.add ⟨w.heap.size, 0, none⟩ 1 = ⟨w.heap.size, 1, none⟩ from by simp [Addr.add]]; exact QH.out 1 (by omega)) (show W3.drew.cell? (Addr.add ⟨w.heap.size, 0, none⟩ 2) = some (.int .u8 (pcell l (q : Int) 5 2)) from by rw [show Addr.add ⟨w.heap.size, 0, none⟩ 2 = ⟨w.heap.size, 2, none⟩ from by simp [Addr.add]]; exact QH.out 2 (by omega)) (show W3.drew.cell? (Addr.add ⟨w.heap.size, 0, none⟩ 3) = some (.int .u8 (pcell l (q : Int) 5 3)) from by rw [show Addr.add ⟨w.heap.size, 0, none⟩ 3 = ⟨w.heap.size, 3, none⟩ from by simp [Addr.add]]; exact QH.out 3 (by omega)) (show W3.drew.cell? (Addr.add ⟨w.heap.size, 0, none⟩ 4) = some (.int .u8 (pcell l (q : Int) 5 4)) from by rw [show Addr.add ⟨w.heap.size, 0, none⟩ 4 = ⟨w.heap.size, 4, none⟩ from by simp [Addr.add]]; exact QH.out 4 (by omega)) (show W3.drew.cell? (Addr.add ⟨w.heap.size, 0, none⟩ 5) = some (.int .u8 (pcell l (q : Int) 5 5)) from by rw [show Addr.add ⟨w.heap.size, 0, none⟩ 5 = ⟨w.heap.size, 5, none⟩ from by simp [Addr.add]]; exact QH.out 5 (by omega)) (show W3.drew.cell? (Addr.add ⟨w.heap.size, 0, none⟩ 6) = some (.int .u8 (pcell l (q : Int) 5 6)) from by rw [show Addr.add ⟨w.heap.size, 0, none⟩ 6 = ⟨w.heap.size, 6, none⟩ from by simp [Addr.add]]; exact QH.out 6 (by omega)) (show W3.drew.cell? (Addr.add ⟨w.heap.size, 0, none⟩ 7) = some (.int .u8 (pcell l (q : Int) 5 7)) from by rw [show Addr.add ⟨w.heap.size, 0, none⟩ 7 = ⟨w.heap.size, 7, none⟩ from by simp [Addr.add]]; exact QH.out 7 (by omega)) )
  have QB3 := Aside0.mk (show Below w0.heap.size w0 W3.drew from by rw [QW3.out]; exact (below_setCells (by have := QB2.out.size; have := Qs2.out; have := QhB.out; omega) _ _ _ QB2.out.drew).drew)
  have QI3 := Aside0.mk (show IsS132 w0 W3.drew g l (q : Int) s2 s3 s4 s5 true s7 from (IsS132.kept QI2.out (S := fun k => k = w.heap.size) ⟨by rw [QW.out.1]; exact Nat.le_refl _, fun i _ hn => QW.out.2 i hn⟩ (fun e => hne e.symm)).drew)
  have QK3 := Aside0.mk (show KeepBut w W3.drew g none from ⟨Nat.le_trans QK2.out.1 (by show _ ≤ W3.heap.size; rw [QW.out.1]; exact Nat.le_refl _), fun i hi hn hr => (QW.out.2 i (Nat.ne_of_lt hi)).trans (QK2.out.2 i hi hn hr)⟩)
  clear hs1 hs2 hs3 hs4 j0 j1 hcp
  go_region_with (first | (go_at_call 89; refine HU.out.mono ?_; rintro e w4 ⟨rfl, hb4⟩; have QB4 := Aside0.mk hb4; clear hb4) | (go_at_call 93; refine (QL.out _).mono ?_; rintro e w5 ⟨rfl, rfl⟩))
  all_goals
    go_wp2
    go_ret
    refine ⟨rfl, QI3.out.below QB4.out, QB3.out.trans (QB4.out.mono QB3.out.size), ?_⟩
    exact ⟨Nat.le_trans QK3.out.1 QB4.out.size, fun i hi hg hn => (QB4.out.block i (Nat.lt_of_lt_of_le hi QK3.out.1)).trans (QK3.out.2 i hi hg hn)⟩
set_option maxHeartbeats 8000000 in
set_option maxRecDepth 100000 in
theorem loadPartial_6 (g : Nat) (l : List Int) (s2 s3 s4 s5 s7 : Int) (q o n : Nat) (w0 w : World) (hI : IsS132 w0 w g l ((q : Int) + 6) s2 s3 s4 s5 true s7) (hB : Below w0.heap.size w0 w) (hbo : bytesOk l = true) (hq : q + 6 ≤ l.length) (hl : l.length ≤ 1000000) (ho : (o : Int) ≤ 7) (hn1 : 1 ≤ n) (hn2 : n ≤ 63) (hnb : (n + 7) / 8 = 6) :
    Calls Tryd.prog 83 #[.pointer (some ⟨g, 0, none⟩), .int .i8 (o : Int), .int .i64 (n : Int)] w fun e w' => e = .returned (.int .u64 (partW l (q : Int) 6 o n)) ∧ IsS132 w0 w' g l (q : Int) s2 s3 s4 s5 true s7 ∧ Below w0.heap.size w0 w' ∧ KeepBut w w' g none := by
  obtain ⟨A0, c0, HG, hg, hC, hcap, _⟩ := id hI
  obtain ⟨a0, hA0, hbl, hcell0⟩ := bytes_at (by omega) hC
  subst hA0
  have hlt := blk_lt HG
  have hne : w.heap.size ≠ g := by omega
  have k0 := cellS132_0 HG
  have k1 := cellS132_1 HG
  have k6 := cellS132_6 HG
  have z1 := blk_frozen HG 1
  have hbw : a0.block < w.heap.size := Nat.lt_of_lt_of_le hbl hB.size
  have hcell : ∀ k, k < 6 → w.cell? ((a0.add q).add k) = some (.int .u8 (rd l ((q + k : Nat) : Int))) := fun k hk => by
    rw [Addr.add_add, hB.cell (by rw [add_block]; exact hbl)]; exact hcell0 (q + k) (by omega)
  have hcq : ¬ c0 = q := by omega
  have hc1 : (q : Int) + 6 ≤ (c0 : Int) := by omega
  have hq1 : (q : Int) ≤ 1000000 := by omega
  have hn3 : (n : Int) ≤ 1000000 := by omega
  have hn4 : (1 : Int) ≤ (n : Int) := by omega
  have hn5 : (n : Int) ≤ 63 := by omega
  obtain ⟨W1, hW1⟩ : ∃ W1, W1 = w.alloc (.cells #[.int .u8 0, .int .u8 0, .int .u8 0, .int .u8 0, .int .u8 0, .int .u8 0, .int .u8 0, .int .u8 0] 117) := ⟨_, rfl⟩
  have B1 : Below w.heap.size w W1 := by rw [hW1]; exact below_alloc (Below.refl _ _) _
  have s1 : W1.heap.size = w.heap.size + 1 := by rw [hW1]; simp
  have m0 := (B1.cell (p := ⟨g, 0, none⟩) hlt).trans k0
  have m1 := (B1.cell (p := ⟨g, 1, none⟩) hlt).trans k1
  have m6 := (B1.cell (p := ⟨g, 6, none⟩) hlt).trans k6
  have y1 := (B1.frozen (p := ⟨g, 1, none⟩) hlt).trans z1
  have v0 : W1.cell? ⟨w.heap.size, 0, none⟩ = some (.int .u8 0) := by rw [hW1]; simp [go_sem]
  have v1 : W1.cell? ⟨w.heap.size, 1, none⟩ = some (.int .u8 0) := by rw [hW1]; simp [go_sem]
  have v2 : W1.cell? ⟨w.heap.size, 2, none⟩ = some (.int .u8 0) := by rw [hW1]; simp [go_sem]
  have v3 : W1.cell? ⟨w.heap.size, 3, none⟩ = some (.int .u8 0) := by rw [hW1]; simp [go_sem]
  have v4 : W1.cell? ⟨w.heap.size, 4, none⟩ = some (.int .u8 0) := by rw [hW1]; simp [go_sem]
  have v5 : W1.cell? ⟨w.heap.size, 5, none⟩ = some (.int .u8 0) := by rw [hW1]; simp [go_sem]
  have v6 : W1.cell? ⟨w.heap.size, 6, none⟩ = some (.int .u8 0) := by rw [hW1]; simp [go_sem]
  have v7 : W1.cell? ⟨w.heap.size, 7, none⟩ = some (.int .u8 0) := by rw [hW1]; simp [go_sem]
  have f0 : W1.frozen? ⟨w.heap.size, 0, none⟩ = false := by rw [hW1]; simp [go_sem]
  have f1 : W1.frozen? ⟨w.heap.size, 1, none⟩ = false := by rw [hW1]; simp [go_sem]
  have f2 : W1.frozen? ⟨w.heap.size, 2, none⟩ = false := by rw [hW1]; simp [go_sem]
  have f3 : W1.frozen? ⟨w.heap.size, 3, none⟩ = false := by rw [hW1]; simp [go_sem]
  have f4 : W1.frozen? ⟨w.heap.size, 4, none⟩ = false := by rw [hW1]; simp [go_sem]
  have f5 : W1.frozen? ⟨w.heap.size, 5, none⟩ = false := by rw [hW1]; simp [go_sem]
  have f6 : W1.frozen? ⟨w.heap.size, 6, none⟩ = false := by rw [hW1]; simp [go_sem]
  have f7 : W1.frozen? ⟨w.heap.size, 7, none⟩ = false := by rw [hW1]; simp [go_sem]
  have mcell : ∀ k, k < 6 → W1.cell? ((a0.add q).add k) = some (.int .u8 (rd l ((q + k : Nat) : Int))) := fun k hk => (B1.cell (by rw [add_block, add_block]; exact hbw)).trans (hcell k hk)
  have QI := Aside0.mk (hI.below B1)
  have QB := Aside0.mk (hB.trans (B1.mono hB.size))
  have QK := Aside0.mk (show KeepBut w W1 g none from ⟨B1.size, fun i hi _ _ => B1.block i hi⟩)
  have QC := Aside0.mk mcell
  have QP := Aside0.mk (fun j => pcell_ok hbo (q : Int) 6 j)
  have hgB : a0.block ≠ g := by omega
  have hhB : a0.block ≠ w.heap.size := by omega
  have QhB := Aside0.mk hB.size
  have QF := Aside0.mk (bfb_is n hn3)
  have QL := Aside0.mk (fun w => lsb_is (64 - n) (by omega) (by omega) w)
  have Qnb := Aside0.mk hnb
  have Qs := Aside0.mk s1
  have Qn := Aside0.mk (And.intro hn1 hn2)
  clear hI hB HG hC hcell hcell0 hbo k0 k1 k6 z1 hlt B1 s1 mcell hnb hn1 hn2 hq hl hcap hbw hbl hn3
  go_enter Tryd.func83, Tryd.ntmps83
  go_wp2_with fail
  rw [← hW1]
  clear hW1
  refine (QF.out _).mono ?_
  rintro e w' ⟨rfl, rfl⟩
  rw [Qnb.out]
  go_wp2
  have j0 : (W1.setCell ⟨g, 1, none⟩ (.int .i64 (q : Int))).cell? ⟨g, 0, none⟩ = some (.slice (some a0) l.length c0) := by rw [World.cell?_setCell_other _ _ _ _ (by simp)]; exact m0
  have j1 : (W1.setCell ⟨g, 1, none⟩ (.int .i64 (q : Int))).cell? ⟨g, 1, none⟩ = some (.int .i64 (q : Int)) := World.cell?_setCell_same _ _ _ m1
  have hnA : ∀ k, (⟨g, 1, none⟩ : Addr) ≠ ⟨w.heap.size, k, none⟩ := fun k e => hne (by injection e with e1; exact e1.symm)
  have QV := Aside0.mk (show ∀ k, k < 8 → (W1.setCell ⟨g, 1, none⟩ (.int .i64 (q : Int))).cell? ⟨w.heap.size, k, none⟩ = some (.int .u8 0) from fun k hk => by
    rw [World.cell?_setCell_other _ _ _ _ (hnA k)]
    match k, hk with
    | 0, _ => exact v0
    | 1, _ => exact v1
    | 2, _ => exact v2
    | 3, _ => exact v3
    | 4, _ => exact v4
    | 5, _ => exact v5
    | 6, _ => exact v6
    | 7, _ => exact v7)
  have QZ := Aside0.mk (show ∀ k, k < 8 → (W1.setCell ⟨g, 1, none⟩ (.int .i64 (q : Int))).frozen? ⟨w.heap.size, k, none⟩ = false from fun k hk => by
    rw [World.frozen?_setCell]
    match k, hk with
    | 0, _ => exact f0
    | 1, _ => exact f1
    | 2, _ => exact f2
    | 3, _ => exact f3
    | 4, _ => exact f4
    | 5, _ => exact f5
    | 6, _ => exact f6
    | 7, _ => exact f7)
  have QC2 := Aside0.mk (show ∀ k, k < 6 → (W1.setCell ⟨g, 1, none⟩ (.int .i64 (q : Int))).cell? ((a0.add q).add k) = some (.int .u8 (rd l ((q + k : Nat) : Int))) from fun k hk => by
    rw [World.cell?_setCell_other _ _ _ _ (fun e => hgB (by have := congrArg Addr.block e; rw [add_block, add_block] at this; exact this.symm))]; exact QC.out k hk)
  have QI2 := Aside0.mk (IsS132.set_1 QI.out (q : Int))
  have QB2 := Aside0.mk (show Below w0.heap.size w0 (W1.setCell ⟨g, 1, none⟩ (.int .i64 (q : Int))) from below_set QB.out hg)
  have QK2 := Aside0.mk (show KeepBut w (W1.setCell ⟨g, 1, none⟩ (.int .i64 (q : Int))) g none from ⟨Nat.le_trans QK.out.1 (by simp [World.setCell]), fun i hi hn hr => (Below.heap_setCell W1 _ _ i hn).trans (QK.out.2 i hi hn hr)⟩)
  have Qs2 := Aside0.mk (show (W1.setCell ⟨g, 1, none⟩ (.int .i64 (q : Int))).heap.size = w.heap.size + 1 from by simp [World.setCell, Qs.out])
  clear m0 m1 m6 y1 v0 v1 v2 v3 v4 v5 v6 v7 f0 f1 f2 f3 f4 f5 f6 f7 QC QI QB QK Qs hnA
  generalize W1.setCell ⟨g, 1, none⟩ (.int .i64 (q : Int)) = W2 at j0 j1 QV QZ QC2 QI2 QB2 QK2 Qs2 ⊢
  have hs1 : IntKind.i64.wrap ((q : Int) + 6) = (q : Int) + 6 := IntWalk.i64_in _ (by omega)
  have hs2 : ((q : Int) + 6).toNat = q + 6 := by omega
  have hs3 : 0 ≤ (q : Int) + 6 := by omega
  have hs4 : IntKind.i64.wrap (2 : Int) = 2 := IntWalk.i64_in _ (by omega)
  obtain ⟨W3, hW3⟩ : ∃ W3, W3 = W2.drew.setCells w.heap.size 2 [.int .u8 (rd l ((q + 0 : Nat) : Int)), .int .u8 (rd l ((q + 1 : Nat) : Int)), .int .u8 (rd l ((q + 2 : Nat) : Int)), .int .u8 (rd l ((q + 3 : Nat) : Int)), .int .u8 (rd l ((q + 4 : Nat) : Int)), .int .u8 (rd l ((q + 5 : Nat) : Int))] := ⟨_, rfl⟩
  have hcp : (Builtin.copy_ #[23, 23] 3 #[.slice (some ⟨w.heap.size, 2, none⟩) 6 6, .slice (some (a0.add q)) 6 (c0 - q)]).run Tryd.prog W2.drew = .ok (.int .i64 6) W3 := by
    rw [hW3]
    refine run_copy_cells (P := Tryd.prog) W2.drew 23 23 3 5 w.heap.size 2 6 6 (a0.add q) 6 (c0 - q) [.int .u8 (rd l ((q + 0 : Nat) : Int)), .int .u8 (rd l ((q + 1 : Nat) : Int)), .int .u8 (rd l ((q + 2 : Nat) : Int)), .int .u8 (rd l ((q + 3 : Nat) : Int)), .int .u8 (rd l ((q + 4 : Nat) : Int)), .int .u8 (rd l ((q + 5 : Nat) : Int))] Tryd.underlying23 (by kernel_rfl) rfl ?_ ?_ ?_ ?_
    · intro j v hv
      have hj : j < 6 := by have := (List.getElem?_eq_some_iff.1 hv).1; simpa using this
      refine (QC2.out j hj).trans ?_
      match j, hj with
      | 0, _ => exact hv
      | 1, _ => exact hv
      | 2, _ => exact hv
      | 3, _ => exact hv
      | 4, _ => exact hv
      | 5, _ => exact hv
    · intro j hj
      exact Option.isSome_iff_exists.2 ⟨_, QV.out (2 + j) (by simp at hj; omega)⟩
    · intro j hj
      exact QZ.out (2 + j) (by simp at hj; omega)
    · intro v hv
      simp at hv
      rcases hv with rfl | rfl | rfl | rfl | rfl | rfl <;> rfl
  have HW := heap_setCells w.heap.size [.int .u8 (rd l ((q + 0 : Nat) : Int)), .int .u8 (rd l ((q + 1 : Nat) : Int)), .int .u8 (rd l ((q + 2 : Nat) : Int)), .int .u8 (rd l ((q + 3 : Nat) : Int)), .int .u8 (rd l ((q + 4 : Nat) : Int)), .int .u8 (rd l ((q + 5 : Nat) : Int))] 2 W2.drew
  rw [← hW3] at HW
  have HC : ∀ j, j < 8 → W3.cell? ⟨w.heap.size, j, none⟩ = some (.int .u8 (pcell l (q : Int) 6 j)) := by
    intro j hj
    rw [hW3]
    match j, hj with
    | 0, _ => rw [World.cell?_setCells_out _ _ _ _ _ (fun _ _ => .inl (show (0 : Nat) < 2 by decide))]; exact QV.out 0 (by omega)
    | 1, _ => rw [World.cell?_setCells_out _ _ _ _ _ (fun _ _ => .inl (show (1 : Nat) < 2 by decide))]; exact QV.out 1 (by omega)
    | 2, _ => exact (World.cell?_setCells_in w.heap.size [.int .u8 (rd l ((q + 0 : Nat) : Int)), .int .u8 (rd l ((q + 1 : Nat) : Int)), .int .u8 (rd l ((q + 2 : Nat) : Int)), .int .u8 (rd l ((q + 3 : Nat) : Int)), .int .u8 (rd l ((q + 4 : Nat) : Int)), .int .u8 (rd l ((q + 5 : Nat) : Int))] 2 W2.drew (fun k hk => Option.isSome_iff_exists.2 ⟨_, QV.out (2 + k) (by simp at hk; omega)⟩) 0 (by simp)).trans (by simp [pcell])
    | 3, _ => exact (World.cell?_setCells_in w.heap.size [.int .u8 (rd l ((q + 0 : Nat) : Int)), .int .u8 (rd l ((q + 1 : Nat) : Int)), .int .u8 (rd l ((q + 2 : Nat) : Int)), .int .u8 (rd l ((q + 3 : Nat) : Int)), .int .u8 (rd l ((q + 4 : Nat) : Int)), .int .u8 (rd l ((q + 5 : Nat) : Int))] 2 W2.drew (fun k hk => Option.isSome_iff_exists.2 ⟨_, QV.out (2 + k) (by simp at hk; omega)⟩) 1 (by simp)).trans (by simp [pcell])
    | 4, _ => exact (World.cell?_setCells_in w.heap.size [.int .u8 (rd l ((q + 0 : Nat) : Int)), .int .u8 (rd l ((q + 1 : Nat) : Int)), .int .u8 (rd l ((q + 2 : Nat) : Int)), .int .u8 (rd l ((q + 3 : Nat) : Int)), .int .u8 (rd l ((q + 4 : Nat) : Int)), .int .u8 (rd l ((q + 5 : Nat) : Int))] 2 W2.drew (fun k hk => Option.isSome_iff_exists.2 ⟨_, QV.out (2 + k) (by simp at hk; omega)⟩) 2 (by simp)).trans (by simp [pcell])
    | 5, _ => exact (World.cell?_setCells_in w.heap.size [.int .u8 (rd l ((q + 0 : Nat) : Int)), .int .u8 (rd l ((q + 1 : Nat) : Int)), .int .u8 (rd l ((q + 2 : Nat) : Int)), .int .u8 (rd l ((q + 3 : Nat) : Int)), .int .u8 (rd l ((q + 4 : Nat) : Int)), .int .u8 (rd l ((q + 5 : Nat) : Int))] 2 W2.drew (fun k hk => Option.isSome_iff_exists.2 ⟨_, QV.out (2 + k) (by simp at hk; omega)⟩) 3 (by simp)).trans (by simp [pcell])
    | 6, _ => exact (World.cell?_setCells_in w.heap.size [.int .u8 (rd l ((q + 0 : Nat) : Int)), .int .u8 (rd l ((q + 1 : Nat) : Int)), .int .u8 (rd l ((q + 2 : Nat) : Int)), .int .u8 (rd l ((q + 3 : Nat) : Int)), .int .u8 (rd l ((q + 4 : Nat) : Int)), .int .u8 (rd l ((q + 5 : Nat) : Int))] 2 W2.drew (fun k hk => Option.isSome_iff_exists.2 ⟨_, QV.out (2 + k) (by simp at hk; omega)⟩) 4 (by simp)).trans (by simp [pcell])
    | 7, _ => exact (World.cell?_setCells_in w.heap.size [.int .u8 (rd l ((q + 0 : Nat) : Int)), .int .u8 (rd l ((q + 1 : Nat) : Int)), .int .u8 (rd l ((q + 2 : Nat) : Int)), .int .u8 (rd l ((q + 3 : Nat) : Int)), .int .u8 (rd l ((q + 4 : Nat) : Int)), .int .u8 (rd l ((q + 5 : Nat) : Int))] 2 W2.drew (fun k hk => Option.isSome_iff_exists.2 ⟨_, QV.out (2 + k) (by simp at hk; omega)⟩) 5 (by simp)).trans (by simp [pcell])
  have QW := Aside0.mk HW
  have QH := Aside0.mk HC
  have QW3 := Aside0.mk hW3
  clear HW HC hW3 QV QZ QC2
  refine wp_region_still_tail 18 (by kernel_rfl) (by kernel_rfl) ?_
  simp only [List.take_succ_cons, List.take_zero, List.drop_succ_cons, List.drop_zero]
  change wpStill _ _ (World.drew W2) _ _ _
  repeat still_step
  refine wpStill_nil ?_
  change wpList _ _ _ _ _ (World.drew W2)
  go_wp2
  have hs5 : IntKind.i64.wrap (64 - (n : Int)) = ((64 - n : Nat) : Int) := by rw [IntWalk.i64_in _ (by omega)]; have := Qn.out; omega
  have ho0 : (0 : Int) ≤ (o : Int) := by omega
  have HU := Aside0.mk (QE.u64_is ⟨w.heap.size, 0, none⟩ 8 8 _ _ _ _ _ _ _ _ W3.drew (by omega) (QP.out 0) (QP.out 1) (QP.out 2) (QP.out 3) (QP.out 4) (QP.out 5) (QP.out 6) (QP.out 7) (show W3.drew.cell? (Addr.add ⟨w.heap.size, 0, none⟩ 0) = some (.int .u8 (pcell l (q : Int) 6 0)) from by rw [show Addr.add ⟨w.heap.size, 0, none⟩ 0 = ⟨w.heap.size, 0, none⟩ from by simp [Addr.add]]; exact QH.out 0 (by omega)) (show W3.drew.cell? (Addr.add ⟨w.heap.size, 0, none⟩ 1) = some (.int .u8 (pcell l (q : Int) 6 1)) from by rw [show Addr.add ⟨w.heap.size, 0, none⟩ 1 = ⟨w.heap.size, 1, none⟩ from by simp [Addr.add]]; exact QH.out 1 (by omega)) (show W3.drew.cell? (Addr.add ⟨w.heap.size, 0, none⟩ 2) = some (.int .u8 (pcell l (q : Int) 6 2)) from by rw [show Addr.add ⟨w.heap.size, 0, none⟩ 2 = ⟨w.heap.size, 2, none⟩ from by simp [Addr.add]]; exact QH.out 2 (by omega)) (show W3.drew.cell? (Addr.add ⟨w.heap.size, 0, none⟩ 3) = some (.int .u8 (pcell l (q : Int) 6 3)) from by rw [show Addr.add ⟨w.heap.size, 0, none⟩ 3 = ⟨w.heap.size, 3, none⟩ from by simp [Addr.add]]; exact QH.out 3 (by omega)) (show W3.drew.cell? (Addr.add ⟨w.heap.size, 0, none⟩ 4) = some (.int .u8 (pcell l (q : Int) 6 4)) from by rw [show Addr.add ⟨w.heap.size, 0, none⟩ 4 = ⟨w.heap.size, 4, none⟩ from by simp [Addr.add]]; exact QH.out 4 (by omega)) (show W3.drew.cell? (Addr.add ⟨w.heap.size, 0, none⟩ 5) = some (.int .u8 (pcell l (q : Int) 6 5)) from by rw [show Addr.add ⟨w.heap.size, 0, none⟩ 5 = ⟨w.heap.size, 5, none⟩ from by simp [Addr.add]]; exact QH.out 5 (by omega)) (show W3.drew.cell? (Addr.add ⟨w.heap.size, 0, none⟩ 6) = some (.int .u8 (pcell l (q : Int) 6 6)) from by rw [show Addr.add ⟨w.heap.size, 0, none⟩ 6 = ⟨w.heap.size, 6, none⟩ from by simp [Addr.add]]; exact QH.out 6 (by omega)) (show W3.drew.cell? (Addr.add ⟨w.heap.size, 0, none⟩ 7) = some (.int .u8 (pcell l (q : Int) 6 7)) from by rw [show Addr.add ⟨w.heap.size, 0, none⟩ 7 = ⟨w.heap.size, 7, none⟩ from by simp [Addr.add]]; exact QH.out 7 (by omega)) )
  have QB3 := Aside0.mk (show Below w0.heap.size w0 W3.drew from by rw [QW3.out]; exact (below_setCells (by have := QB2.out.size; have := Qs2.out; have := QhB.out; omega) _ _ _ QB2.out.drew).drew)
  have QI3 := Aside0.mk (show IsS132 w0 W3.drew g l (q : Int) s2 s3 s4 s5 true s7 from (IsS132.kept QI2.out (S := fun k => k = w.heap.size) ⟨by rw [QW.out.1]; exact Nat.le_refl _, fun i _ hn => QW.out.2 i hn⟩ (fun e => hne e.symm)).drew)
  have QK3 := Aside0.mk (show KeepBut w W3.drew g none from ⟨Nat.le_trans QK2.out.1 (by show _ ≤ W3.heap.size; rw [QW.out.1]; exact Nat.le_refl _), fun i hi hn hr => (QW.out.2 i (Nat.ne_of_lt hi)).trans (QK2.out.2 i hi hn hr)⟩)
  clear hs1 hs2 hs3 hs4 j0 j1 hcp
  go_region_with (first | (go_at_call 89; refine HU.out.mono ?_; rintro e w4 ⟨rfl, hb4⟩; have QB4 := Aside0.mk hb4; clear hb4) | (go_at_call 93; refine (QL.out _).mono ?_; rintro e w5 ⟨rfl, rfl⟩))
  all_goals
    go_wp2
    go_ret
    refine ⟨rfl, QI3.out.below QB4.out, QB3.out.trans (QB4.out.mono QB3.out.size), ?_⟩
    exact ⟨Nat.le_trans QK3.out.1 QB4.out.size, fun i hi hg hn => (QB4.out.block i (Nat.lt_of_lt_of_le hi QK3.out.1)).trans (QK3.out.2 i hi hg hn)⟩
end Go.Proofs.YtpjaaonpbohkdaaDoor.QR
/- (*baseSetBitRunReader).loadPartial, backwards: the last bytes ahead of the place, for fewer than 64 bits. -/
namespace Go.Proofs.YtpjaaonpbohkdaaDoor.QR
open Go.RowKit Go.Proofs.YtpjaaonpbohkdaaDoorW.PrintWords Go.Proofs.YtpjaaonpbohkdaaDoorW.PrintLast Go.Proofs.YtpjaaonpbohkdaaDoorW.PrintMore
set_option linter.unusedVariables false
set_option linter.unusedSimpArgs false
set_option maxHeartbeats 8000000 in
set_option maxRecDepth 100000 in
theorem loadPartial_7 (g : Nat) (l : List Int) (s2 s3 s4 s5 s7 : Int) (q o n : Nat) (w0 w : World) (hI : IsS132 w0 w g l ((q : Int) + 7) s2 s3 s4 s5 true s7) (hB : Below w0.heap.size w0 w) (hbo : bytesOk l = true) (hq : q + 7 ≤ l.length) (hl : l.length ≤ 1000000) (ho : (o : Int) ≤ 7) (hn1 : 1 ≤ n) (hn2 : n ≤ 63) (hnb : (n + 7) / 8 = 7) :
    Calls Tryd.prog 83 #[.pointer (some ⟨g, 0, none⟩), .int .i8 (o : Int), .int .i64 (n : Int)] w fun e w' => e = .returned (.int .u64 (partW l (q : Int) 7 o n)) ∧ IsS132 w0 w' g l (q : Int) s2 s3 s4 s5 true s7 ∧ Below w0.heap.size w0 w' ∧ KeepBut w w' g none := by
  obtain ⟨A0, c0, HG, hg, hC, hcap, _⟩ := id hI
  obtain ⟨a0, hA0, hbl, hcell0⟩ := bytes_at (by omega) hC
  subst hA0
  have hlt := blk_lt HG
  have hne : w.heap.size ≠ g := by omega
  have k0 := cellS132_0 HG
  have k1 := cellS132_1 HG
  have k6 := cellS132_6 HG
  have z1 := blk_frozen HG 1
  have hbw : a0.block < w.heap.size := Nat.lt_of_lt_of_le hbl hB.size
  have hcell : ∀ k, k < 7 → w.cell? ((a0.add q).add k) = some (.int .u8 (rd l ((q + k : Nat) : Int))) := fun k hk => by
    rw [Addr.add_add, hB.cell (by rw [add_block]; exact hbl)]; exact hcell0 (q + k) (by omega)
  have hcq : ¬ c0 = q := by omega
  have hc1 : (q : Int) + 7 ≤ (c0 : Int) := by omega
  have hq1 : (q : Int) ≤ 1000000 := by omega
  have hn3 : (n : Int) ≤ 1000000 := by omega
  have hn4 : (1 : Int) ≤ (n : Int) := by omega
  have hn5 : (n : Int) ≤ 63 := by omega
  obtain ⟨W1, hW1⟩ : ∃ W1, W1 = w.alloc (.cells #[.int .u8 0, .int .u8 0, .int .u8 0, .int .u8 0, .int .u8 0, .int .u8 0, .int .u8 0, .int .u8 0] 117) := ⟨_, rfl⟩
  have B1 : Below w.heap.size w W1 := by rw [hW1]; exact below_alloc (Below.refl _ _) _
  have s1 : W1.heap.size = w.heap.size + 1 := by rw [hW1]; simp
  have m0 := (B1.cell (p := ⟨g, 0, none⟩) hlt).trans k0
  have m1 := (B1.cell (p := ⟨g, 1, none⟩) hlt).trans k1
  have m6 := (B1.cell (p := ⟨g, 6, none⟩) hlt).trans k6
  have y1 := (B1.frozen (p := ⟨g, 1, none⟩) hlt).trans z1
  have v0 : W1.cell? ⟨w.heap.size, 0, none⟩ = some (.int .u8 0) := by rw [hW1]; simp [go_sem]
  have v1 : W1.cell? ⟨w.heap.size, 1, none⟩ = some (.int .u8 0) := by rw [hW1]; simp [go_sem]
  have v2 : W1.cell? ⟨w.heap.size, 2, none⟩ = some (.int .u8 0) := by rw [hW1]; simp [go_sem]
  have v3 : W1.cell? ⟨w.heap.size, 3, none⟩ = some (.int .u8 0) := by rw [hW1]; simp [go_sem]
  have v4 : W1.cell? ⟨w.heap.size, 4, none⟩ = some (.int .u8 0) := by rw [hW1]; simp [go_sem]
  have v5 : W1.cell? ⟨w.heap.size, 5, none⟩ = some (.int .u8 0) := by rw [hW1]; simp [go_sem]
  have v6 : W1.cell? ⟨w.heap.size, 6, none⟩ = some (.int .u8 0) := by rw [hW1]; simp [go_sem]
  have v7 : W1.cell? ⟨w.heap.size, 7, none⟩ = some (.int .u8 0) := by rw [hW1]; simp [go_sem]
  have f0 : W1.frozen? ⟨w.heap.size, 0, none⟩ = false := by rw [hW1]; simp [go_sem]
  have f1 : W1.frozen? ⟨w.heap.size, 1, none⟩ = false := by rw [hW1]; simp [go_sem]
  have f2 : W1.frozen? ⟨w.heap.size, 2, none⟩ = false := by rw [hW1]; simp [go_sem]
  have f3 : W1.frozen? ⟨w.heap.size, 3, none⟩ = false := by rw [hW1]; simp [go_sem]
  have f4 : W1.frozen? ⟨w.heap.size, 4, none⟩ = false := by rw [hW1]; simp [go_sem]
  have f5 : W1.frozen? ⟨w.heap.size, 5, none⟩ = false := by rw [hW1]; simp [go_sem]
  have f6 : W1.frozen? ⟨w.heap.size, 6, none⟩ = false := by rw [hW1]; simp [go_sem]
  have f7 : W1.frozen? ⟨w.heap.size, 7, none⟩ = false := by rw [hW1]; simp [go_sem]
  have mcell : ∀ k, k < 7 → W1.cell? ((a0.add q).add k) = some (.int .u8 (rd l ((q + k : Nat) : Int))) := fun k hk => (B1.cell (by rw [add_block, add_block]; exact hbw)).trans (hcell k hk)
  have QI := Aside0.mk (hI.below B1)
  have QB := Aside0.mk (hB.trans (B1.mono hB.size))
  have QK := Aside0.mk (show KeepBut w W1 g none from ⟨B1.size, fun i hi _ _ => B1.block i hi⟩)
  have QC := Aside0.mk mcell
  have QP := Aside0.mk (fun j => pcell_ok hbo (q : Int) 7 j)
  have hgB : a0.block ≠ g := by omega
  have hhB : a0.block ≠ w.heap.size := by omega
  have QhB := Aside0.mk hB.size
  have QF := Aside0.mk (bfb_is n hn3)
  have QL := Aside0.mk (fun w => lsb_is (64 - n) (by omega) (by omega) w)
  have Qnb := Aside0.mk hnb
  have Qs := Aside0.mk s1
  have Qn := Aside0.mk (And.intro hn1 hn2)
  clear hI hB HG hC hcell hcell0 hbo k0 k1 k6 z1 hlt B1 s1 mcell hnb hn1 hn2 hq hl hcap hbw hbl hn3
  go_enter Tryd.func83, Tryd.ntmps83
  go_wp2_with fail
  rw [← hW1]
  clear hW1
  refine (QF.out _).mono ?_
  rintro e w' ⟨rfl, rfl⟩
  rw [Qnb.out]
  go_wp2
  have j0 : (W1.setCell ⟨g, 1, none⟩ (.int .i64 (q : Int))).cell? ⟨g, 0, none⟩ = some (.slice (some a0) l.length c0) := by rw [World.cell?_setCell_other _ _ _ _ (by simp)]; exact m0
  have j1 : (W1.setCell ⟨g, 1, none⟩ (.int .i64 (q : Int))).cell? ⟨g, 1, none⟩ = some (.int .i64 (q : Int)) := World.cell?_setCell_same _ _ _ m1
  have hnA : ∀ k, (⟨g, 1, none⟩ : Addr) ≠ ⟨w.heap.size, k, none⟩ := fun k e => hne (by injection e with e1; exact e1.symm)
  have QV := Aside0.mk (show ∀ k, k < 8 → (W1.setCell ⟨g, 1, none⟩ (.int .i64 (q : Int))).cell? ⟨w.heap.size, k, none⟩ = some (.int .u8 0) from fun k hk => by
    rw [World.cell?_setCell_other _ _ _ _ (hnA k)]
    match k, hk with
    | 0, _ => exact v0
    | 1, _ => exact v1
    | 2, _ => exact v2
    | 3, _ => exact v3
    | 4, _ => exact v4
    | 5, _ => exact v5
    | 6, _ => exact v6
    | 7, _ => exact v7)
  have QZ := Aside0.mk (show ∀ k, k < 8 → (W1.setCell ⟨g, 1, none⟩ (.int .i64 (q : Int))).frozen? ⟨w.heap.size, k, none⟩ = false from fun k hk => by
    rw [World.frozen?_setCell]
    match k, hk with
    | 0, _ => exact f0
    | 1, _ => exact f1
    | 2, _ => exact f2
    | 3, _ => exact f3
    | 4, _ => exact f4
    | 5, _ => exact f5
    | 6, _ => exact f6
    | 7, _ => exact f7)
  have QC2 := Aside0.mk (show ∀ k, k < 7 → (W1.setCell ⟨g, 1, none⟩ (.int .i64 (q : Int))).cell? ((a0.add q).add k) = some (.int .u8 (rd l ((q + k : Nat) : Int))) from fun k hk => by
    rw [World.cell?_setCell_other _ _ _ _ (fun e => hgB (by have := congrArg Addr.block e; rw [add_block, add_block] at this; exact this.symm))]; exact QC.out k hk)
  have QI2 := Aside0.mk (IsS132.set_1 QI.out (q : Int))
  have QB2 := Aside0.mk (show Below w0.heap.size w0 (W1.setCell ⟨g, 1, none⟩ (.int .i64 (q : Int))) from below_set QB.out hg)
  have QK2 := Aside0.mk (show KeepBut w (W1.setCell ⟨g, 1, none⟩ (.int .i64 (q : Int))) g none from ⟨Nat.le_trans QK.out.1 (by simp [World.setCell]), fun i hi hn hr => (Below.heap_setCell W1 _ _ i hn).trans (QK.out.2 i hi hn hr)⟩)
  have Qs2 := Aside0.mk (show (W1.setCell ⟨g, 1, none⟩ (.int .i64 (q : Int))).heap.size = w.heap.size + 1 from by simp [World.setCell, Qs.out])
  clear m0 m1 m6 y1 v0 v1 v2 v3 v4 v5 v6 v7 f0 f1 f2 f3 f4 f5 f6 f7 QC QI QB QK Qs hnA
  generalize W1.setCell ⟨g, 1, none⟩ (.int .i64 (q : Int)) = W2 at j0 j1 QV QZ QC2 QI2 QB2 QK2 Qs2 ⊢
  have hs1 : IntKind.i64.wrap ((q : Int) + 7) = (q : Int) + 7 := IntWalk.i64_in _ (by omega)
  have hs2 : ((q : Int) + 7).toNat = q + 7 := by omega
  have hs3 : 0 ≤ (q : Int) + 7 := by omega
  have hs4 : IntKind.i64.wrap (1 : Int) = 1 := IntWalk.i64_in _ (by omega)
  obtain ⟨W3, hW3⟩ : ∃ W3, W3 = W2.drew.setCells w.heap.size 1 [.int .u8 (rd l ((q + 0 : Nat) : Int)), .int .u8 (rd l ((q + 1 : Nat) : Int)), .int .u8 (rd l ((q + 2 : Nat) : Int)), .int .u8 (rd l ((q + 3 : Nat) : Int)), .int .u8 (rd l ((q + 4 : Nat) : Int)), .int .u8 (rd l ((q + 5 : Nat) : Int)), .int .u8 (rd l ((q + 6 : Nat) : Int))] := ⟨_, rfl⟩
  have hcp : (Builtin.copy_ #[23, 23] 3 #[.slice (some ⟨w.heap.size, 1, none⟩) 7 7, .slice (some (a0.add q)) 7 (c0 - q)]).run Tryd.prog W2.drew = .ok (.int .i64 7) W3 := by
    rw [hW3]
    refine run_copy_cells (P := Tryd.prog) W2.drew 23 23 3 5 w.heap.size 1 7 7 (a0.add q) 7 (c0 - q) [.int .u8 (rd l ((q + 0 : Nat) : Int)), .int .u8 (rd l ((q + 1 : Nat) : Int)), .int .u8 (rd l ((q + 2 : Nat) : Int)), .int .u8 (rd l ((q + 3 : Nat) : Int)), .int .u8 (rd l ((q + 4 : Nat) : Int)), .int .u8 (rd l ((q + 5 : Nat) : Int)), .int .u8 (rd l ((q + 6 : Nat) : Int))] Tryd.underlying23 (by kernel_rfl) rfl ?_ ?_ ?_ ?_
    · intro j v hv
      have hj : j < 7 := by have := (List.getElem?_eq_some_iff.1 hv).1; simpa using this
      refine (QC2.out j hj).trans ?_
      match j, hj with
      | 0, _ => exact hv
      | 1, _ => exact hv
      | 2, _ => exact hv
      | 3, _ => exact hv
      | 4, _ => exact hv
      | 5, _ => exact hv
      | 6, _ => exact hv
    · intro j hj
      exact Option.isSome_iff_exists.2 ⟨_, QV.out (1 + j) (by simp at hj; omega)⟩
    · intro j hj
      exact QZ.out (1 + j) (by simp at hj; omega)
    · intro v hv
      simp at hv
      rcases hv with rfl | rfl | rfl | rfl | rfl | rfl | rfl <;> rfl
  have HW := heap_setCells w.heap.size [.int .u8 (rd l ((q + 0 : Nat) : Int)), .int .u8 (rd l ((q + 1 : Nat) : Int)), .int .u8 (rd l ((q + 2 : Nat) : Int)), .int .u8 (rd l ((q + 3 : Nat) : Int)), .int .u8 (rd l ((q + 4 : Nat) : Int)), .int .u8 (rd l ((q + 5 : Nat) : Int)), .int .u8 (rd l ((q + 6 : Nat) : Int))] 1 W2.drew
  rw [← hW3] at HW
  have HC : ∀ j, j < 8 → W3.cell? ⟨w.heap.size, j, none⟩ = some (.int .u8 (pcell l (q : Int) 7 j)) := by
    intro j hj
    rw [hW3]
    match j, hj with
    | 0, _ => rw [World.cell?_setCells_out _ _ _ _ _ (fun _ _ => .inl (show (0 : Nat) < 1 by decide))]; exact QV.out 0 (by omega)
    | 1, _ => exact (World.cell?_setCells_in w.heap.size [.int .u8 (rd l ((q + 0 : Nat) : Int)), .int .u8 (rd l ((q + 1 : Nat) : Int)), .int .u8 (rd l ((q + 2 : Nat) : Int)), .int .u8 (rd l ((q + 3 : Nat) : Int)), .int .u8 (rd l ((q + 4 : Nat) : Int)), .int .u8 (rd l ((q + 5 : Nat) : Int)), .int .u8 (rd l ((q + 6 : Nat) : Int))] 1 W2.drew (fun k hk => Option.isSome_iff_exists.2 ⟨_, QV.out (1 + k) (by simp at hk; omega)⟩) 0 (by simp)).trans (by simp [pcell])
    | 2, _ => exact (World.cell?_setCells_in w.heap.size [.int .u8 (rd l ((q + 0 : Nat) : Int)), .int .u8 (rd l ((q + 1 : Nat) : Int)), .int .u8 (rd l ((q + 2 : Nat) : Int)), .int .u8 (rd l ((q + 3 : Nat) : Int)), .int .u8 (rd l ((q + 4 : Nat) : Int)), .int .u8 (rd l ((q + 5 : Nat) : Int)), .int .u8 (rd l ((q + 6 : Nat) : Int))] 1 W2.drew (fun k hk => Option.isSome_iff_exists.2 ⟨_, QV.out (1 + k) (by simp at hk; omega)⟩) 1 (by simp)).trans (by simp [pcell])
    | 3, _ => exact (World.cell?_setCells_in w.heap.size [.int .u8 (rd l ((q + 0 : Nat) : Int)), .int .u8 (rd l ((q + 1 : Nat) : Int)), .int .u8 (rd l ((q + 2 : Nat) : Int)), .int .u8 (rd l ((q + 3 : Nat) : Int)), .int .u8 (rd l ((q + 4 : Nat) : Int)), .int .u8 (rd l ((q + 5 : Nat) : Int)), .int .u8 (rd l ((q + 6 : Nat) : Int))] 1 W2.drew (fun k hk => Option.isSome_iff_exists.2 ⟨_, QV.out (1 + k) (by simp at hk; omega)⟩) 2 (by simp)).trans (by simp [pcell])
    | 4, _ => exact (World.cell?_setCells_in w.heap.size [.int .u8 (rd l ((q + 0 : Nat) : Int)), .int .u8 (rd l ((q + 1 : Nat) : Int)), .int .u8 (rd l ((q + 2 : Nat) : Int)), .int .u8 (rd l ((q + 3 : Nat) : Int)), .int .u8 (rd l ((q + 4 : Nat) : Int)), .int .u8 (rd l ((q + 5 : Nat) : Int)), .int .u8 (rd l ((q + 6 : Nat) : Int))] 1 W2.drew (fun k hk => Option.isSome_iff_exists.2 ⟨_, QV.out (1 + k) (by simp at hk; omega)⟩) 3 (by simp)).trans (by simp [pcell])
    | 5, _ => exact (World.cell?_setCells_in w.heap.size [.int .u8 (rd l ((q + 0 : Nat) : Int)), .int .u8 (rd l ((q + 1 : Nat) : Int)), .int .u8 (rd l ((q + 2 : Nat) : Int)), .int .u8 (rd l ((q + 3 : Nat) : Int)), .int .u8 (rd l ((q + 4 : Nat) : Int)), .int .u8 (rd l ((q + 5 : Nat) : Int)), .int .u8 (rd l ((q + 6 : Nat) : Int))] 1 W2.drew (fun k hk => Option.isSome_iff_exists.2 ⟨_, QV.out (1 + k) (by simp at hk; omega)⟩) 4 (by simp)).trans (by simp [pcell])
    | 6, _ => exact (World.cell?_setCells_in w.heap.size [.int .u8 (rd l ((q + 0 : Nat) : Int)), .int .u8 (rd l ((q + 1 : Nat) : Int)), .int .u8 (rd l ((q + 2 : Nat) : Int)), .int .u8 (rd l ((q + 3 : Nat) : Int)), .int .u8 (rd l ((q + 4 : Nat) : Int)), .int .u8 (rd l ((q + 5 : Nat) : Int)), .int .u8 (rd l ((q + 6 : Nat) : Int))] 1 W2.drew (fun k hk => Option.isSome_iff_exists.2 ⟨_, QV.out (1 + k) (by simp at hk; omega)⟩) 5 (by simp)).trans (by simp [pcell])
    | 7, _ => exact (World.cell?_setCells_in w.heap.size [.int .u8 (rd l ((q + 0 : Nat) : Int)), .int .u8 (rd l ((q + 1 : Nat) : Int)), .int .u8 (rd l ((q + 2 : Nat) : Int)), .int .u8 (rd l ((q + 3 : Nat) : Int)), .int .u8 (rd l ((q + 4 : Nat) : Int)), .int .u8 (rd l ((q + 5 : Nat) : Int)), .int .u8 (rd l ((q + 6 : Nat) : Int))] 1 W2.drew (fun k hk => Option.isSome_iff_exists.2 ⟨_, QV.out (1 + k) (by simp at hk; omega)⟩) 6 (by simp)).trans (by simp [pcell])
  have QW := Aside0.mk HW
  have QH := Aside0.mk HC
  have QW3 := Aside0.mk hW3
  clear HW HC hW3 QV QZ QC2
  refine wp_region_still_tail 18 (by kernel_rfl) (by kernel_rfl) ?_
  simp only [List.take_succ_cons, List.take_zero, List.drop_succ_cons, List.drop_zero]
  change wpStill _ _ (World.drew W2) _ _ _
  repeat still_step
  refine wpStill_nil ?_
  change wpList _ _ _ _ _ (World.drew W2)
  go_wp2
  have hs5 : IntKind.i64.wrap (64 - (n : Int)) = ((64 - n : Nat) : Int) := by rw [IntWalk.i64_in _ (by omega)]; have := Qn.out; omega
  have ho0 : (0 : Int) ≤ (o : Int) := by omega
  have HU := Aside0.mk (QE.u64_is ⟨w.heap.size, 0, none⟩ 8 8 _ _ _ _ _ _ _ _ W3.drew (by omega) (QP.out 0) (QP.out 1) (QP.out 2) (QP.out 3) (QP.out 4) (QP.out 5) (QP.out 6) (QP.out 7) (show W3.drew.cell? (Addr.add ⟨w.heap.size, 0, none⟩ 0) = some (.int .u8 (pcell l (q : Int) 7 0)) from by rw [show Addr.add ⟨w.heap.size, 0, none⟩ 0 = ⟨w.heap.size, 0, none⟩ from by simp [Addr.add]]; exact QH.out 0 (by omega)) (show W3.drew.cell? (Addr.add ⟨w.heap.size, 0, none⟩ 1) = some (.int .u8 (pcell l (q : Int) 7 1)) from by rw [show Addr.add ⟨w.heap.size, 0, none⟩ 1 = ⟨w.heap.size, 1, none⟩ from by simp [Addr.add]]; exact QH.out 1 (by omega)) (show W3.drew.cell? (Addr.add ⟨w.heap.size, 0, none⟩ 2) = some (.int .u8 (pcell l (q : Int) 7 2)) from by rw [show Addr.add ⟨w.heap.size, 0, none⟩ 2 = ⟨w.heap.size, 2, none⟩ from by simp [Addr.add]]; exact QH.out 2 (by omega)) (show W3.drew.cell? (Addr.add ⟨w.heap.size, 0, none⟩ 3) = some (.int .u8 (pcell l (q : Int) 7 3)) from by rw [show Addr.add ⟨w.heap.size, 0, none⟩ 3 = ⟨w.heap.size, 3, none⟩ from by simp [Addr.add]]; exact QH.out 3 (by omega)) (show W3.drew.cell? (Addr.add ⟨w.heap.size, 0, none⟩ 4) = some (.int .u8 (pcell l (q : Int) 7 4)) from by rw [show Addr.add ⟨w.heap.size, 0, none⟩ 4 = ⟨w.heap.size, 4, none⟩ from by simp [Addr.add]]; exact QH.out 4 (by omega)) (show W3.drew.cell? (Addr.add ⟨w.heap.size, 0, none⟩ 5) = some (.int .u8 (pcell l (q : Int) 7 5)) from by rw [show Addr.add ⟨w.heap.size, 0, none⟩ 5 = ⟨w.heap.size, 5, none⟩ from by simp [Addr.add]]; exact QH.out 5 (by omega)) (show W3.drew.cell? (Addr.add ⟨w.heap.size, 0, none⟩ 6) = some (.int .u8 (pcell l (q : Int) 7 6)) from by rw [show Addr.add ⟨w.heap.size, 0, none⟩ 6 = ⟨w.heap.size, 6, none⟩ from by simp [Addr.add]]; exact QH.out 6 (by omega)) (show W3.drew.cell? (Addr.add ⟨w.heap.size, 0, none⟩ 7) = some (.int .u8 (pcell l (q : Int) 7 7)) from by rw [show Addr.add ⟨w.heap.size, 0, none⟩ 7 = ⟨w.heap.size, 7, none⟩ from by simp [Addr.add]]; exact QH.out 7 (by omega)) )
  have QB3 := Aside0.mk (show Below w0.heap.size w0 W3.drew from by rw [QW3.out]; exact (below_setCells (by have := QB2.out.size; have := Qs2.out; have := QhB.out; omega) _ _ _ QB2.out.drew).drew)
  have QI3 := Aside0.mk (show IsS132 w0 W3.drew g l (q : Int) s2 s3 s4 s5 true s7 from (IsS132.kept QI2.out (S := fun k => k = w.heap.size) ⟨by rw [QW.out.1]; exact Nat.le_refl _, fun i _ hn => QW.out.2 i hn⟩ (fun e => hne e.symm)).drew)
  have QK3 := Aside0.mk (show KeepBut w W3.drew g none from ⟨Nat.le_trans QK2.out.1 (by show _ ≤ W3.heap.size; rw [QW.out.1]; exact Nat.le_refl _), fun i hi hn hr => (QW.out.2 i (Nat.ne_of_lt hi)).trans (QK2.out.2 i hi hn hr)⟩)
  clear hs1 hs2 hs3 hs4 j0 j1 hcp
  go_region_with (first | (go_at_call 89; refine HU.out.mono ?_; rintro e w4 ⟨rfl, hb4⟩; have QB4 := Aside0.mk hb4; clear hb4) | (go_at_call 93; refine (QL.out _).mono ?_; rintro e w5 ⟨rfl, rfl⟩))
  all_goals
    go_wp2
    go_ret
    refine ⟨rfl, QI3.out.below QB4.out, QB3.out.trans (QB4.out.mono QB3.out.size), ?_⟩
    exact ⟨Nat.le_trans QK3.out.1 QB4.out.size, fun i hi hg hn => (QB4.out.block i (Nat.lt_of_lt_of_le hi QK3.out.1)).trans (QK3.out.2 i hi hg hn)⟩
set_option maxHeartbeats 8000000 in
set_option maxRecDepth 100000 in
theorem loadPartial_8 (g : Nat) (l : List Int) (s2 s3 s4 s5 s7 : Int) (q o n : Nat) (w0 w : World) (hI : IsS132 w0 w g l ((q : Int) + 8) s2 s3 s4 s5 true s7) (hB : Below w0.heap.size w0 w) (hbo : bytesOk l = true) (hq : q + 8 ≤ l.length) (hl : l.length ≤ 1000000) (ho : (o : Int) ≤ 7) (hn1 : 1 ≤ n) (hn2 : n ≤ 63) (hnb : (n + 7) / 8 = 8) :
    Calls Tryd.prog 83 #[.pointer (some ⟨g, 0, none⟩), .int .i8 (o : Int), .int .i64 (n : Int)] w fun e w' => e = .returned (.int .u64 (partW l (q : Int) 8 o n)) ∧ IsS132 w0 w' g l (q : Int) s2 s3 s4 s5 true s7 ∧ Below w0.heap.size w0 w' ∧ KeepBut w w' g none := by
  obtain ⟨A0, c0, HG, hg, hC, hcap, _⟩ := id hI
  obtain ⟨a0, hA0, hbl, hcell0⟩ := bytes_at (by omega) hC
  subst hA0
  have hlt := blk_lt HG
  have hne : w.heap.size ≠ g := by omega
  have k0 := cellS132_0 HG
  have k1 := cellS132_1 HG
  have k6 := cellS132_6 HG
  have z1 := blk_frozen HG 1
  have hbw : a0.block < w.heap.size := Nat.lt_of_lt_of_le hbl hB.size
  have hcell : ∀ k, k < 8 → w.cell? ((a0.add q).add k) = some (.int .u8 (rd l ((q + k : Nat) : Int))) := fun k hk => by
    rw [Addr.add_add, hB.cell (by rw [add_block]; exact hbl)]; exact hcell0 (q + k) (by omega)
  have hcq : ¬ c0 = q := by omega
  have hc1 : (q : Int) + 8 ≤ (c0 : Int) := by omega
  have hq1 : (q : Int) ≤ 1000000 := by omega
  have hn3 : (n : Int) ≤ 1000000 := by omega
  have hn4 : (1 : Int) ≤ (n : Int) := by omega
  have hn5 : (n : Int) ≤ 63 := by omega
  obtain ⟨W1, hW1⟩ : ∃ W1, W1 = w.alloc (.cells #[.int .u8 0, .int .u8 0, .int .u8 0, .int .u8 0, .int .u8 0, .int .u8 0, .int .u8 0, .int .u8 0] 117) := ⟨_, rfl⟩
  have B1 : Below w.heap.size w W1 := by rw [hW1]; exact below_alloc (Below.refl _ _) _
  have s1 : W1.heap.size = w.heap.size + 1 := by rw [hW1]; simp
  have m0 := (B1.cell (p := ⟨g, 0, none⟩) hlt).trans k0
  have m1 := (B1.cell (p := ⟨g, 1, none⟩) hlt).trans k1
  have m6 := (B1.cell (p := ⟨g, 6, none⟩) hlt).trans k6
  have y1 := (B1.frozen (p := ⟨g, 1, none⟩) hlt).trans z1
  have v0 : W1.cell? ⟨w.heap.size, 0, none⟩ = some (.int .u8 0) := by rw [hW1]; simp [go_sem]
  have v1 : W1.cell? ⟨w.heap.size, 1, none⟩ = some (.int .u8 0) := by rw [hW1]; simp [go_sem]
  have v2 : W1.cell? ⟨w.heap.size, 2, none⟩ = some (.int .u8 0) := by rw [hW1]; simp [go_sem]
  have v3 : W1.cell? ⟨w.heap.size, 3, none⟩ = some (.int .u8 0) := by rw [hW1]; simp [go_sem]
  have v4 : W1.cell? ⟨w.heap.size, 4, none⟩ = some (.int .u8 0) := by rw [hW1]; simp [go_sem]
  have v5 : W1.cell? ⟨w.heap.size, 5, none⟩ = some (.int .u8 0) := by rw [hW1]; simp [go_sem]
  have v6 : W1.cell? ⟨w.heap.size, 6, none⟩ = some (.int .u8 0) := by rw [hW1]; simp [go_sem]
  have v7 : W1.cell? ⟨w.heap.size, 7, none⟩ = some (.int .u8 0) := by rw [hW1]; simp [go_sem]
  have f0 : W1.frozen? ⟨w.heap.size, 0, none⟩ = false := by rw [hW1]; simp [go_sem]
  have f1 : W1.frozen? ⟨w.heap.size, 1, none⟩ = false := by rw [hW1]; simp [go_sem]
  have f2 : W1.frozen? ⟨w.heap.size, 2, none⟩ = false := by rw [hW1]; simp [go_sem]
  have f3 : W1.frozen? ⟨w.heap.size, 3, none⟩ = false := by rw [hW1]; simp [go_sem]
  have f4 : W1.frozen? ⟨w.heap.size, 4, none⟩ = false := by rw [hW1]; simp [go_sem]
  have f5 : W1.frozen? ⟨w.heap.size, 5, none⟩ = false := by rw [hW1]; simp [go_sem]
  have f6 : W1.frozen? ⟨w.heap.size, 6, none⟩ = false := by rw [hW1]; simp [go_sem]
  have f7 : W1.frozen? ⟨w.heap.size, 7, none⟩ = false := by rw [hW1]; simp [go_sem]
  have mcell : ∀ k, k < 8 → W1.cell? ((a0.add q).add k) = some (.int .u8 (rd l ((q + k : Nat) : Int))) := fun k hk => (B1.cell (by rw [add_block, add_block]; exact hbw)).trans (hcell k hk)
  have QI := Aside0.mk (hI.below B1)
  have QB := Aside0.mk (hB.trans (B1.mono hB.size))
  have QK := Aside0.mk (show KeepBut w W1 g none from ⟨B1.size, fun i hi _ _ => B1.block i hi⟩)
  have QC := Aside0.mk mcell
  have QP := Aside0.mk (fun j => pcell_ok hbo (q : Int) 8 j)
  have hgB : a0.block ≠ g := by omega
  have hhB : a0.block ≠ w.heap.size := by omega
  have QhB := Aside0.mk hB.size
  have QF := Aside0.mk (bfb_is n hn3)
  have QL := Aside0.mk (fun w => lsb_is (64 - n) (by omega) (by omega) w)
  have Qnb := Aside0.mk hnb
  have Qs := Aside0.mk s1
  have Qn := Aside0.mk (And.intro hn1 hn2)
  clear hI hB HG hC hcell hcell0 hbo k0 k1 k6 z1 hlt B1 s1 mcell hnb hn1 hn2 hq hl hcap hbw hbl hn3
  go_enter Tryd.func83, Tryd.ntmps83
  go_wp2_with fail
  rw [← hW1]
  clear hW1
  refine (QF.out _).mono ?_
  rintro e w' ⟨rfl, rfl⟩
  rw [Qnb.out]
  go_wp2
  have j0 : (W1.setCell ⟨g, 1, none⟩ (.int .i64 (q : Int))).cell? ⟨g, 0, none⟩ = some (.slice (some a0) l.length c0) := by rw [World.cell?_setCell_other _ _ _ _ (by simp)]; exact m0
  have j1 : (W1.setCell ⟨g, 1, none⟩ (.int .i64 (q : Int))).cell? ⟨g, 1, none⟩ = some (.int .i64 (q : Int)) := World.cell?_setCell_same _ _ _ m1
  have hnA : ∀ k, (⟨g, 1, none⟩ : Addr) ≠ ⟨w.heap.size, k, none⟩ := fun k e => hne (by injection e with e1; exact e1.symm)
  have QV := Aside0.mk (show ∀ k, k < 8 → (W1.setCell ⟨g, 1, none⟩ (.int .i64 (q : Int))).cell? ⟨w.heap.size, k, none⟩ = some (.int .u8 0) from fun k hk => by
    rw [World.cell?_setCell_other _ _ _ _ (hnA k)]
    match k, hk with
    | 0, _ => exact v0
    | 1, _ => exact v1
    | 2, _ => exact v2
    | 3, _ => exact v3
    | 4, _ => exact v4
    | 5, _ => exact v5
    | 6, _ => exact v6
    | 7, _ => exact v7)
  have QZ := Aside0.mk (show ∀ k, k < 8 → (W1.setCell ⟨g, 1, none⟩ (.int .i64 (q : Int))).frozen? ⟨w.heap.size, k, none⟩ = false from fun k hk => by
    rw [World.frozen?_setCell]
    match k, hk with
    | 0, _ => exact f0
    | 1, _ => exact f1
    | 2, _ => exact f2
    | 3, _ => exact f3
    | 4, _ => exact f4
    | 5, _ => exact f5
    | 6, _ => exact f6
    | 7, _ => exact f7)
  have QC2 := Aside0.mk (show ∀ k, k < 8 → (W1.setCell ⟨g, 1, none⟩ (.int .i64 (q : Int))).cell? ((a0.add q).add k) = some (.int .u8 (rd l ((q + k : Nat) : Int))) from fun k hk => by
    rw [World.cell?_setCell_other _ _ _ _ (fun e => hgB (by have := congrArg Addr.block e; rw [add_block, add_block] at this; exact this.symm))]; exact QC.out k hk)
  have QI2 := Aside0.mk (IsS132.set_1 QI.out (q : Int))
  have QB2 := Aside0.mk (show Below w0.heap.size w0 (W1.setCell ⟨g, 1, none⟩ (.int .i64 (q : Int))) from below_set QB.out hg)
  have QK2 := Aside0.mk (show KeepBut w (W1.setCell ⟨g, 1, none⟩ (.int .i64 (q : Int))) g none from ⟨Nat.le_trans QK.out.1 (by simp [World.setCell]), fun i hi hn hr => (Below.heap_setCell W1 _ _ i hn).trans (QK.out.2 i hi hn hr)⟩)
  have Qs2 := Aside0.mk (show (W1.setCell ⟨g, 1, none⟩ (.int .i64 (q : Int))).heap.size = w.heap.size + 1 from by simp [World.setCell, Qs.out])
  clear m0 m1 m6 y1 v0 v1 v2 v3 v4 v5 v6 v7 f0 f1 f2 f3 f4 f5 f6 f7 QC QI QB QK Qs hnA
  generalize W1.setCell ⟨g, 1, none⟩ (.int .i64 (q : Int)) = W2 at j0 j1 QV QZ QC2 QI2 QB2 QK2 Qs2 ⊢
  have hs1 : IntKind.i64.wrap ((q : Int) + 8) = (q : Int) + 8 := IntWalk.i64_in _ (by omega)
  have hs2 : ((q : Int) + 8).toNat = q + 8 := by omega
  have hs3 : 0 ≤ (q : Int) + 8 := by omega
  have hs4 : IntKind.i64.wrap (0 : Int) = 0 := IntWalk.i64_in _ (by omega)
  obtain ⟨W3, hW3⟩ : ∃ W3, W3 = W2.drew.setCells w.heap.size 0 [.int .u8 (rd l ((q + 0 : Nat) : Int)), .int .u8 (rd l ((q + 1 : Nat) : Int)), .int .u8 (rd l ((q + 2 : Nat) : Int)), .int .u8 (rd l ((q + 3 : Nat) : Int)), .int .u8 (rd l ((q + 4 : Nat) : Int)), .int .u8 (rd l ((q + 5 : Nat) : Int)), .int .u8 (rd l ((q + 6 : Nat) : Int)), .int .u8 (rd l ((q + 7 : Nat) : Int))] := ⟨_, rfl⟩
  have hcp : (Builtin.copy_ #[23, 23] 3 #[.slice (some ⟨w.heap.size, 0, none⟩) 8 8, .slice (some (a0.add q)) 8 (c0 - q)]).run Tryd.prog W2.drew = .ok (.int .i64 8) W3 := by
    rw [hW3]
    refine run_copy_cells (P := Tryd.prog) W2.drew 23 23 3 5 w.heap.size 0 8 8 (a0.add q) 8 (c0 - q) [.int .u8 (rd l ((q + 0 : Nat) : Int)), .int .u8 (rd l ((q + 1 : Nat) : Int)), .int .u8 (rd l ((q + 2 : Nat) : Int)), .int .u8 (rd l ((q + 3 : Nat) : Int)), .int .u8 (rd l ((q + 4 : Nat) : Int)), .int .u8 (rd l ((q + 5 : Nat) : Int)), .int .u8 (rd l ((q + 6 : Nat) : Int)), .int .u8 (rd l ((q + 7 : Nat) : Int))] Tryd.underlying23 (by kernel_rfl) rfl ?_ ?_ ?_ ?_
    · intro j v hv
      have hj : j < 8 := by have := (List.getElem?_eq_some_iff.1 hv).1; simpa using this
      refine (QC2.out j hj).trans ?_
      match j, hj with
      | 0, _ => exact hv
      | 1, _ => exact hv
      | 2, _ => exact hv
      | 3, _ => exact hv
      | 4, _ => exact hv
      | 5, _ => exact hv
      | 6, _ => exact hv
      | 7, _ => exact hv
    · intro j hj
      exact Option.isSome_iff_exists.2 ⟨_, QV.out (0 + j) (by simp at hj; omega)⟩
    · intro j hj
      exact QZ.out (0 + j) (by simp at hj; omega)
    · intro v hv
      simp at hv
      rcases hv with rfl | rfl | rfl | rfl | rfl | rfl | rfl | rfl <;> rfl
  have HW := heap_setCells w.heap.size [.int .u8 (rd l ((q + 0 : Nat) : Int)), .int .u8 (rd l ((q + 1 : Nat) : Int)), .int .u8 (rd l ((q + 2 : Nat) : Int)), .int .u8 (rd l ((q + 3 : Nat) : Int)), .int .u8 (rd l ((q + 4 : Nat) : Int)), .int .u8 (rd l ((q + 5 : Nat) : Int)), .int .u8 (rd l ((q + 6 : Nat) : Int)), .int .u8 (rd l ((q + 7 : Nat) : Int))] 0 W2.drew
  rw [← hW3] at HW
  have HC : ∀ j, j < 8 → W3.cell? ⟨w.heap.size, j, none⟩ = some (.int .u8 (pcell l (q : Int) 8 j)) := by
    intro j hj
    rw [hW3]
    match j, hj with
    | 0, _ => exact (World.cell?_setCells_in w.heap.size [.int .u8 (rd l ((q + 0 : Nat) : Int)), .int .u8 (rd l ((q + 1 : Nat) : Int)), .int .u8 (rd l ((q + 2 : Nat) : Int)), .int .u8 (rd l ((q + 3 : Nat) : Int)), .int .u8 (rd l ((q + 4 : Nat) : Int)), .int .u8 (rd l ((q + 5 : Nat) : Int)), .int .u8 (rd l ((q + 6 : Nat) : Int)), .int .u8 (rd l ((q + 7 : Nat) : Int))] 0 W2.drew (fun k hk => Option.isSome_iff_exists.2 ⟨_, QV.out (0 + k) (by simp at hk; omega)⟩) 0 (by simp)).trans (by simp [pcell])
    | 1, _ => exact (World.cell?_setCells_in w.heap.size [.int .u8 (rd l ((q + 0 : Nat) : Int)), .int .u8 (rd l ((q + 1 : Nat) : Int)), .int .u8 (rd l ((q + 2 : Nat) : Int)), .int .u8 (rd l ((q + 3 : Nat) : Int)), .int .u8 (rd l ((q + 4 : Nat) : Int)), .int .u8 (rd l ((q + 5 : Nat) : Int)), .int .u8 (rd l ((q + 6 : Nat) : Int)), .int .u8 (rd l ((q + 7 : Nat) : Int))] 0 W2.drew (fun k hk => Option.isSome_iff_exists.2 ⟨_, QV.out (0 + k) (by simp at hk; omega)⟩) 1 (by simp)).trans (by simp [pcell])
    | 2, _ => exact (World.cell?_setCells_in w.heap.size [.int .u8 (rd l ((q + 0 : Nat) : Int)), .int .u8 (rd l ((q + 1 : Nat) : Int)), .int .u8 (rd l ((q + 2 : Nat) : Int)), .int .u8 (rd l ((q + 3 : Nat) : Int)), .int .u8 (rd l ((q + 4 : Nat) : Int)), .int .u8 (rd l ((q + 5 : Nat) : Int)), .int .u8 (rd l ((q + 6 : Nat) : Int)), .int .u8 (rd l ((q + 7 : Nat) : Int))] 0 W2.drew (fun k hk => Option.isSome_iff_exists.2 ⟨_, QV.out (0 + k) (by simp at hk; omega)⟩) 2 (by simp)).trans (by simp [pcell])
    | 3, _ => exact (World.cell?_setCells_in w.heap.size [.int .u8 (rd l ((q + 0 : Nat) : Int)), .int .u8 (rd l ((q + 1 : Nat) : Int)), .int .u8 (rd l ((q + 2 : Nat) : Int)), .int .u8 (rd l ((q + 3 : Nat) : Int)), .int .u8 (rd l ((q + 4 : Nat) : Int)), .int .u8 (rd l ((q + 5 : Nat) : Int)), .int .u8 (rd l ((q + 6 : Nat) : Int)), .int .u8 (rd l ((q + 7 : Nat) : Int))] 0 W2.drew (fun k hk => Option.isSome_iff_exists.2 ⟨_, QV.out (0 + k) (by simp at hk; omega)⟩) 3 (by simp)).trans (by simp [pcell])
    | 4, _ => exact (World.cell?_setCells_in w.heap.size [.int .u8 (rd l ((q + 0 : Nat) : Int)), .int .u8 (rd l ((q + 1 : Nat) : Int)), .int .u8 (rd l ((q + 2 : Nat) : Int)), .int .u8 (rd l ((q + 3 : Nat) : Int)), .int .u8 (rd l ((q + 4 : Nat) : Int)), .int .u8 (rd l ((q + 5 : Nat) : Int)), .int .u8 (rd l ((q + 6 : Nat) : Int)), .int .u8 (rd l ((q + 7 : Nat) : Int))] 0 W2.drew (fun k hk => Option.isSome_iff_exists.2 ⟨_, QV.out (0 + k) (by simp at hk; omega)⟩) 4 (by simp)).trans (by simp [pcell])
    | 5, _ => exact (World.cell?_setCells_in w.heap.size [.int .u8 (rd l ((q + 0 : Nat) : Int)), .int .u8 (rd l ((q + 1 : Nat) : Int)), .int .u8 (rd l ((q + 2 : Nat) : Int)), .int .u8 (rd l ((q + 3 : Nat) : Int)), .int .u8 (rd l ((q + 4 : Nat) : Int)), .int .u8 (rd l ((q + 5 : Nat) : Int)), .int .u8 (rd l ((q + 6 : Nat) : Int)), .int .u8 (rd l ((q + 7 : Nat) : Int))] 0 W2.drew (fun k hk => Option.isSome_iff_exists.2 ⟨_, QV.out (0 + k) (by simp at hk; omega)⟩) 5 (by simp)).trans (by simp [pcell])
    | 6, _ => exact (World.cell?_setCells_in w.heap.size [.int .u8 (rd l ((q + 0 : Nat) : Int)), .int .u8 (rd l ((q + 1 : Nat) : Int)), .int .u8 (rd l ((q + 2 : Nat) : Int)), .int .u8 (rd l ((q + 3 : Nat) : Int)), .int .u8 (rd l ((q + 4 : Nat) : Int)), .int .u8 (rd l ((q + 5 : Nat) : Int)), .int .u8 (rd l ((q + 6 : Nat) : Int)), .int .u8 (rd l ((q + 7 : Nat) : Int))] 0 W2.drew (fun k hk => Option.isSome_iff_exists.2 ⟨_, QV.out (0 + k) (by simp at hk; omega)⟩) 6 (by simp)).trans (by simp [pcell])
    | 7, _ => exact (World.cell?_setCells_in w.heap.size [.int .u8 (rd l ((q + 0 : Nat) : Int)), .int .u8 (rd l ((q + 1 : Nat) : Int)), .int .u8 (rd l ((q + 2 : Nat) : Int)), .int .u8 (rd l ((q + 3 : Nat) : Int)), .int .u8 (rd l ((q + 4 : Nat) : Int)), .int .u8 (rd l ((q + 5 : Nat) : Int)), .int .u8 (rd l ((q + 6 : Nat) : Int)), .int .u8 (rd l ((q + 7 : Nat) : Int))] 0 W2.drew (fun k hk => Option.isSome_iff_exists.2 ⟨_, QV.out (0 + k) (by simp at hk; omega)⟩) 7 (by simp)).trans (by simp [pcell])
  have QW := Aside0.mk HW
  have QH := Aside0.mk HC
  have QW3 := Aside0.mk hW3
  clear HW HC hW3 QV QZ QC2
  refine wp_region_still_tail 18 (by kernel_rfl) (by kernel_rfl) ?_
  simp only [List.take_succ_cons, List.take_zero, List.drop_succ_cons, List.drop_zero]
  change wpStill _ _ (World.drew W2) _ _ _
  repeat still_step
  refine wpStill_nil ?_
  change wpList _ _ _ _ _ (World.drew W2)
  go_wp2
  have hs5 : IntKind.i64.wrap (64 - (n : Int)) = ((64 - n : Nat) : Int) := by rw [IntWalk.i64_in _ (by omega)]; have := Qn.out; omega
  have ho0 : (0 : Int) ≤ (o : Int) := by omega
  have HU := Aside0.mk (QE.u64_is ⟨w.heap.size, 0, none⟩ 8 8 _ _ _ _ _ _ _ _ W3.drew (by omega) (QP.out 0) (QP.out 1) (QP.out 2) (QP.out 3) (QP.out 4) (QP.out 5) (QP.out 6) (QP.out 7) (show W3.drew.cell? (Addr.add ⟨w.heap.size, 0, none⟩ 0) = some (.int .u8 (pcell l (q : Int) 8 0)) from by rw [show Addr.add ⟨w.heap.size, 0, none⟩ 0 = ⟨w.heap.size, 0, none⟩ from by simp [Addr.add]]; exact QH.out 0 (by omega)) (show W3.drew.cell? (Addr.add ⟨w.heap.size, 0, none⟩ 1) = some (.int .u8 (pcell l (q : Int) 8 1)) from by rw [show Addr.add ⟨w.heap.size, 0, none⟩ 1 = ⟨w.heap.size, 1, none⟩ from by simp [Addr.add]]; exact QH.out 1 (by omega)) (show W3.drew.cell? (Addr.add ⟨w.heap.size, 0, none⟩ 2) = some (.int .u8 (pcell l (q : Int) 8 2)) from by rw [show Addr.add ⟨w.heap.size, 0, none⟩ 2 = ⟨w.heap.size, 2, none⟩ from by simp [Addr.add]]; exact QH.out 2 (by omega)) (show W3.drew.cell? (Addr.add ⟨w.heap.size, 0, none⟩ 3) = some (.int .u8 (pcell l (q : Int) 8 3)) from by rw [show Addr.add ⟨w.heap.size, 0, none⟩ 3 = ⟨w.heap.size, 3, none⟩ from by simp [Addr.add]]; exact QH.out 3 (by omega)) (show W3.drew.cell? (Addr.add ⟨w.heap.size, 0, none⟩ 4) = some (.int .u8 (pcell l (q : Int) 8 4)) from by rw [show Addr.add ⟨w.heap.size, 0, none⟩ 4 = ⟨w.heap.size, 4, none⟩ from by simp [Addr.add]]; exact QH.out 4 (by omega)) (show W3.drew.cell? (Addr.add ⟨w.heap.size, 0, none⟩ 5) = some (.int .u8 (pcell l (q : Int) 8 5)) from by rw [show Addr.add ⟨w.heap.size, 0, none⟩ 5 = ⟨w.heap.size, 5, none⟩ from by simp [Addr.add]]; exact QH.out 5 (by omega)) (show W3.drew.cell? (Addr.add ⟨w.heap.size, 0, none⟩ 6) = some (.int .u8 (pcell l (q : Int) 8 6)) from by rw [show Addr.add ⟨w.heap.size, 0, none⟩ 6 = ⟨w.heap.size, 6, none⟩ from by simp [Addr.add]]; exact QH.out 6 (by omega)) (show W3.drew.cell? (Addr.add ⟨w.heap.size, 0, none⟩ 7) = some (.int .u8 (pcell l (q : Int) 8 7)) from by rw [show Addr.add ⟨w.heap.size, 0, none⟩ 7 = ⟨w.heap.size, 7, none⟩ from by simp [Addr.add]]; exact QH.out 7 (by omega)) )
  have QB3 := Aside0.mk (show Below w0.heap.size w0 W3.drew from by rw [QW3.out]; exact (below_setCells (by have := QB2.out.size; have := Qs2.out; have := QhB.out; omega) _ _ _ QB2.out.drew).drew)
  have QI3 := Aside0.mk (show IsS132 w0 W3.drew g l (q : Int) s2 s3 s4 s5 true s7 from (IsS132.kept QI2.out (S := fun k => k = w.heap.size) ⟨by rw [QW.out.1]; exact Nat.le_refl _, fun i _ hn => QW.out.2 i hn⟩ (fun e => hne e.symm)).drew)
  have QK3 := Aside0.mk (show KeepBut w W3.drew g none from ⟨Nat.le_trans QK2.out.1 (by show _ ≤ W3.heap.size; rw [QW.out.1]; exact Nat.le_refl _), fun i hi hn hr => (QW.out.2 i (Nat.ne_of_lt hi)).trans (QK2.out.2 i hi hn hr)⟩)
  clear hs1 hs2 hs3 hs4 j0 j1 hcp
  go_region_with (first | (go_at_call 89; refine HU.out.mono ?_; rintro e w4 ⟨rfl, hb4⟩; have QB4 := Aside0.mk hb4; clear hb4) | (go_at_call 93; refine (QL.out _).mono ?_; rintro e w5 ⟨rfl, rfl⟩))
  all_goals
    go_wp2
    go_ret
    refine ⟨rfl, QI3.out.below QB4.out, QB3.out.trans (QB4.out.mono QB3.out.size), ?_⟩
    exact ⟨Nat.le_trans QK3.out.1 QB4.out.size, fun i hi hg hn => (QB4.out.block i (Nat.lt_of_lt_of_le hi QK3.out.1)).trans (QK3.out.2 i hi hg hn)⟩
end Go.Proofs.YtpjaaonpbohkdaaDoor.QR
