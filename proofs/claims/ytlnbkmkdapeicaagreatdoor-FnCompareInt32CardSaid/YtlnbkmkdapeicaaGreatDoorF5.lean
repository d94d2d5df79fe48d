/- Numbers of 32 bits are read from a row of bytes: getOne, GetAt, GetData. -/
import Derived.Test.YtlnbkmkdapeicaaGreatDoorF4
namespace Go.Proofs.YtlnbkmkdapeicaaGreatDoor.QR
open Go.RowKit Go.Proofs.YtlnbkmkdapeicaaGreatDoorW.PrintWords Go.Proofs.YtlnbkmkdapeicaaGreatDoorW.PrintLast Go.Proofs.YtlnbkmkdapeicaaGreatDoorW.PrintMore
set_option linter.unusedVariables false
set_option linter.unusedSimpArgs false
set_option maxHeartbeats 8000000 in
set_option maxRecDepth 100000 in
theorem g1_is (A : Addr) (n c : Nat) (y0 y1 y2 y3 : Int) (w : World) (hn : 4 ≤ n) (h0 : 0 ≤ y0 ∧ y0 < 256) (h1 : 0 ≤ y1 ∧ y1 < 256) (h2 : 0 ≤ y2 ∧ y2 < 256) (h3 : 0 ≤ y3 ∧ y3 < 256)
    (c0 : w.cell? (A.add 0) = some (.int .u8 y0)) (c1 : w.cell? (A.add 1) = some (.int .u8 y1)) (c2 : w.cell? (A.add 2) = some (.int .u8 y2)) (c3 : w.cell? (A.add 3) = some (.int .u8 y3)) :
    Calls Tryz.prog 79 #[.slice (some A) n c] w fun e w' => e = .returned (.int .i32 (IntKind.i32.wrap (QE.le4 y0 y1 y2 y3))) ∧ Below w.heap.size w w' := by
  have ap79 : ∀ (p : Addr) (w : World), (Instr.typeAssert (.iface 78 (.pointer (some p))) 20 79 true).run Tryz.prog w = .ok (.tuple #[.pointer none, .bool false]) w := fun p w => by kernel_rfl
  have ap80 : ∀ (p : Addr) (w : World), (Instr.typeAssert (.iface 78 (.pointer (some p))) 20 80 true).run Tryz.prog w = .ok (.tuple #[.pointer none, .bool false]) w := fun p w => by kernel_rfl
  have ap81 : ∀ (p : Addr) (w : World), (Instr.typeAssert (.iface 78 (.pointer (some p))) 20 81 true).run Tryz.prog w = .ok (.tuple #[.pointer none, .bool false]) w := fun p w => by kernel_rfl
  have ap82 : ∀ (p : Addr) (w : World), (Instr.typeAssert (.iface 78 (.pointer (some p))) 20 82 true).run Tryz.prog w = .ok (.tuple #[.pointer none, .bool false]) w := fun p w => by kernel_rfl
  have ap83 : ∀ (p : Addr) (w : World), (Instr.typeAssert (.iface 78 (.pointer (some p))) 20 83 true).run Tryz.prog w = .ok (.tuple #[.pointer none, .bool false]) w := fun p w => by kernel_rfl
  have ap78 : ∀ (p : Addr) (w : World), (Instr.typeAssert (.iface 78 (.pointer (some p))) 20 78 true).run Tryz.prog w = .ok (.tuple #[.pointer (some p), .bool true]) w := fun p w => by kernel_rfl
  have ap84 : ∀ (p : Addr) (w : World), (Instr.typeAssert (.iface 78 (.pointer (some p))) 20 84 true).run Tryz.prog w = .ok (.tuple #[.pointer none, .bool false]) w := fun p w => by kernel_rfl
  have ap85 : ∀ (p : Addr) (w : World), (Instr.typeAssert (.iface 78 (.pointer (some p))) 20 85 true).run Tryz.prog w = .ok (.tuple #[.pointer none, .bool false]) w := fun p w => by kernel_rfl
  have ap86 : ∀ (p : Addr) (w : World), (Instr.typeAssert (.iface 78 (.pointer (some p))) 20 86 true).run Tryz.prog w = .ok (.tuple #[.pointer none, .bool false]) w := fun p w => by kernel_rfl
  have ap87 : ∀ (p : Addr) (w : World), (Instr.typeAssert (.iface 78 (.pointer (some p))) 20 87 true).run Tryz.prog w = .ok (.tuple #[.pointer none, .bool false]) w := fun p w => by kernel_rfl
  have ap88 : ∀ (p : Addr) (w : World), (Instr.typeAssert (.iface 78 (.pointer (some p))) 20 88 true).run Tryz.prog w = .ok (.tuple #[.pointer none, .bool false]) w := fun p w => by kernel_rfl
  have ap89 : ∀ (p : Addr) (w : World), (Instr.typeAssert (.iface 78 (.pointer (some p))) 20 89 true).run Tryz.prog w = .ok (.tuple #[.pointer none, .bool false]) w := fun p w => by kernel_rfl
  have ap90 : ∀ (p : Addr) (w : World), (Instr.typeAssert (.iface 78 (.pointer (some p))) 20 90 true).run Tryz.prog w = .ok (.tuple #[.pointer none, .bool false]) w := fun p w => by kernel_rfl
  have ap91 : ∀ (p : Addr) (w : World), (Instr.typeAssert (.iface 78 (.pointer (some p))) 20 91 true).run Tryz.prog w = .ok (.tuple #[.pointer none, .bool false]) w := fun p w => by kernel_rfl
  have ap92 : ∀ (p : Addr) (w : World), (Instr.typeAssert (.iface 78 (.pointer (some p))) 20 92 true).run Tryz.prog w = .ok (.tuple #[.pointer none, .bool false]) w := fun p w => by kernel_rfl
  have ap93 : ∀ (p : Addr) (w : World), (Instr.typeAssert (.iface 78 (.pointer (some p))) 20 93 true).run Tryz.prog w = .ok (.tuple #[.pointer none, .bool false]) w := fun p w => by kernel_rfl
  have ap94 : ∀ (p : Addr) (w : World), (Instr.typeAssert (.iface 78 (.pointer (some p))) 20 94 true).run Tryz.prog w = .ok (.tuple #[.pointer none, .bool false]) w := fun p w => by kernel_rfl
  have ap95 : ∀ (p : Addr) (w : World), (Instr.typeAssert (.iface 78 (.pointer (some p))) 20 95 true).run Tryz.prog w = .ok (.tuple #[.pointer none, .bool false]) w := fun p w => by kernel_rfl
  have ap96 : ∀ (p : Addr) (w : World), (Instr.typeAssert (.iface 78 (.pointer (some p))) 20 96 true).run Tryz.prog w = .ok (.tuple #[.pointer none, .bool false]) w := fun p w => by kernel_rfl
  have ap97 : ∀ (p : Addr) (w : World), (Instr.typeAssert (.iface 78 (.pointer (some p))) 20 97 true).run Tryz.prog w = .ok (.tuple #[.pointer none, .bool false]) w := fun p w => by kernel_rfl
  have ap98 : ∀ (p : Addr) (w : World), (Instr.typeAssert (.iface 78 (.pointer (some p))) 20 98 true).run Tryz.prog w = .ok (.tuple #[.pointer none, .bool false]) w := fun p w => by kernel_rfl
  have ap99 : ∀ (p : Addr) (w : World), (Instr.typeAssert (.iface 78 (.pointer (some p))) 20 99 true).run Tryz.prog w = .ok (.tuple #[.pointer none, .bool false]) w := fun p w => by kernel_rfl
  have ap123 : ∀ (p : Addr) (w : World), (Instr.typeAssert (.iface 78 (.pointer (some p))) 20 123 true).run Tryz.prog w = .ok (.tuple #[.pointer none, .bool false]) w := fun p w => by kernel_rfl
  have ap126 : ∀ (p : Addr) (w : World), (Instr.typeAssert (.iface 78 (.pointer (some p))) 20 126 true).run Tryz.prog w = .ok (.tuple #[.pointer none, .bool false]) w := fun p w => by kernel_rfl
  have ap131 : ∀ (p : Addr) (w : World), (Instr.typeAssert (.iface 78 (.pointer (some p))) 20 131 true).run Tryz.prog w = .ok (.tuple #[.pointer none, .bool false]) w := fun p w => by kernel_rfl
  have hU := QE.u32_is A n c y0 y1 y2 y3 (w.alloc (.cells #[.int .i32 0] 21)) hn h0 h1 h2 h3 (cell?_alloc_old _ c0) (cell?_alloc_old _ c1) (cell?_alloc_old _ c2) (cell?_alloc_old _ c3)
  obtain ⟨x, hx⟩ : ∃ x, x = QE.le4 y0 y1 y2 y3 := ⟨_, rfl⟩
  rw [← hx] at hU ⊢
  have QU := Aside0.mk hU
  clear hU hx h0 h1 h2 h3 c0 c1 c2 c3
  go_enter Tryz.func79, Tryz.ntmps79
  go_wp2_with (go_at_call 86; go_must (refine QU.out.mono ?_); go_must (rintro e w2 ⟨rfl, hb⟩; have g2 := (hb.block w.heap.size (by rw [World.size_alloc]; omega)).trans (blk_new w _); have k2 := blk_cell g2 0; have z2 := blk_frozen g2 0; have QB := Aside0.mk ((b2 w (.cells #[.int .i32 0] 21)).trans (hb.mono (b2 w _).size)); clear hb g2))
  go_ret
  exact ⟨congrArg (fun v => Ending.returned (Value.int .i32 v)) (show wrap32 x = IntKind.i32.wrap x by simp [IntKind.wrap_i32, wrap32]), QB.out.setCell (Nat.le_refl _) _⟩
set_option maxHeartbeats 8000000 in
set_option maxRecDepth 100000 in
theorem ga_is (A : Option Addr) (l : List Int) (c i : Nat) (w : World) (hC : Cu w A l) (hc : l.length ≤ c) (hl : l.length ≤ 1000000) (hbo : bytesOk l = true) (hi : 4 * i + 4 ≤ l.length) :
    Calls Tryz.prog 69 #[.slice A l.length c, .int .i64 (i : Int)] w fun e w' => e = .returned (.int .i32 (IntKind.i32.wrap (w4 l i))) ∧ Below w.heap.size w w' := by
  obtain ⟨ad, rfl, _⟩ := hC.2.2 (by omega)
  have QS := Aside0.mk (so_is w)
  have QC := Aside0.mk (And.intro hC (And.intro hi hbo))
  obtain ⟨N, hN⟩ : ∃ N, N = l.length := ⟨_, rfl⟩
  rw [← hN] at hc hl hi ⊢
  obtain ⟨m, hm⟩ : ∃ m, m = 4 * i := ⟨_, rfl⟩
  have Qm := Aside0.mk (And.intro hm hN)
  have h1 : ((i : Int) * 4) = (m : Int) := by omega
  have h3 : IntKind.i64.wrap (m : Int) = (m : Int) := IntWalk.i64_in _ (by omega)
  have h3b : IntKind.i64.wrap ((m : Int) + 4) = (m : Int) + 4 := IntWalk.i64_in _ (by omega)
  have hii : (i : Int) ≤ 1000000 := by omega
  have h4 : (m : Int) + 4 ≤ (c : Int) := by omega
  have h4n : m + 4 ≤ c := by omega
  have h5 : (m : Int) ≤ (m : Int) + 4 := by omega
  have h6 : ¬ (c - m = 0) := by omega
  have h6b : ¬ c = m := by omega
  have h7 : ((m : Int) + 4).toNat = m + 4 := by omega
  have h8 : m + 4 - m = 4 := by omega
  have h9 : (0 : Int) ≤ (m : Int) + 4 := by omega
  have h10 : m ≤ m + 4 := by omega
  have h11 : m ≤ c := by omega
  clear hC hN hc hl hbo hi hm
  have QG := Aside0.mk (fun w1 (hb : Below w.heap.size w w1) => show Calls Tryz.prog 79 #[.slice (some (ad.add m)) 4 (c - m)] w1 fun e w' => e = .returned (.int .i32 (IntKind.i32.wrap (w4 l i))) ∧ Below w1.heap.size w1 w' from by
    have hC1 : Cu w1 (some ad) l := Kd.C_below QC.out.1 hb
    have cell : ∀ j, j < 4 → w1.cell? ((ad.add m).add j) = some (.int .u8 (rd l ((4 * i + j : Nat) : Int))) := by
      intro j hj
      obtain ⟨ad2, e, h⟩ := Kd.at_int hC1 ((4 * i + j : Nat) : Int) (by omega) (by have := QC.out.2.1; omega)
      cases e
      rw [add_add, Qm.out.1]
      exact h
    exact g1_is (ad.add m) 4 (c - m) _ _ _ _ w1 (Nat.le_refl _) (bytes_ok QC.out.2.2 _) (bytes_ok QC.out.2.2 _) (bytes_ok QC.out.2.2 _) (bytes_ok QC.out.2.2 _) (cell 0 (by omega)) (cell 1 (by omega)) (cell 2 (by omega)) (cell 3 (by omega)))
  generalize w4 l i = x at QG ⊢
  clear QC Qm
  go_enter Tryz.func69, Tryz.ntmps69
  go_wp2_with (first | (go_at_call 22; refine QS.out.mono ?_; rintro e w1 ⟨rfl, hb⟩; have Q1 := Aside0.mk hb; clear hb) | (go_at_call 79; go_must (refine (QG.out _ Q1.out).mono ?_); rintro e w5 ⟨rfl, hb⟩; have Q5 := Aside0.mk (Q1.out.trans (hb.mono Q1.out.size)); clear hb))
  go_ret
  exact ⟨rfl, Q5.out⟩
/-- The first m numbers of a row of bytes. -/
def elsI (l : List Int) (m : Nat) : List Int := (List.range m).map fun i => IntKind.i32.wrap (w4 l i)
theorem elsI_len (l : List Int) (m : Nat) : (elsI l m).length = m := by simp [elsI]
def cI (xs : List Int) : List Value := xs.map (.int .i32)
def rowAt (l : List Int) (m i : Nat) : List Value := cI (elsI l i) ++ List.replicate (m - i) (.int .i32 0)
theorem rowAt_len {l : List Int} {m i : Nat} (h : i ≤ m) : (rowAt l m i).length = m := by unfold rowAt cI; rw [List.length_append, List.length_map, elsI_len, List.length_replicate]; omega
theorem rowAt_zero (l : List Int) (m : Nat) : rowAt l m 0 = List.replicate m (.int .i32 0) := by simp [rowAt, cI, elsI]
theorem rowAt_end (l : List Int) (m : Nat) : rowAt l m m = cI (elsI l m) := by simp [rowAt]
theorem rowAt_set {l : List Int} {m i : Nat} (h : i < m) : (rowAt l m i).set i (.int .i32 (IntKind.i32.wrap (w4 l i))) = rowAt l m (i + 1) := by
  unfold rowAt cI
  rw [List.set_append_right _ _ (by rw [List.length_map, elsI_len]; exact Nat.le_refl _), List.length_map, elsI_len, Nat.sub_self, show m - i = (m - (i + 1)) + 1 by omega, List.replicate_succ, List.set_cons_zero]
  simp [elsI, List.range_succ]
theorem infoE : (Tryz.prog.info? 21).map (fun i => (i.zero, i.size, i.bytes)) = some (some (.int .i32 0), 1, 4) := by kernel_rfl
theorem made_is (z : Value) (n : Nat) : madeCells #[z] n = (List.replicate n z).toArray := by
  rw [← Array.toList_inj]
  apply List.ext_getElem
  · simp [madeCells]
  · intro i h1 h2
    simp [madeCells, Nat.mod_one]
set_option maxHeartbeats 8000000 in
set_option maxRecDepth 100000 in
theorem gd_is (A : Option Addr) (l : List Int) (c m : Nat) (w : World) (hC : Cu w A l) (hc : l.length ≤ c) (hl : l.length ≤ 1000000) (hbo : bytesOk l = true) (hm : l.length = 4 * m) :
    Calls Tryz.prog 65 #[.slice A l.length c] w fun e w' => ∃ g, e = .returned (.slice (some ⟨g, 0, none⟩) m m) ∧ w.heap.size ≤ g ∧ w'.heap[g]? = some (.cells (cI (elsI l m)).toArray 21 (0, 0)) ∧ Below w.heap.size w w' := by
  have hmk := print_make_of (P := Tryz.prog) 148 21 (.int .i32 0) 4 Tryz.underlying148 infoE rfl (by omega) m (by omega)
  have QS := Aside0.mk (so_is w)
  have QC := Aside0.mk hC
  have Qh := Aside0.mk (show l.length ≤ c ∧ bytesOk l = true ∧ l.length = 4 * m ∧ l.length ≤ 1000000 from ⟨hc, hbo, hm, hl⟩)
  obtain ⟨n, hn⟩ : ∃ n, n = l.length := ⟨_, rfl⟩
  rw [← hn] at hc hl hm ⊢
  have Qn := Aside0.mk hn
  have hq : Int.tdiv (n : Int) 4 = (m : Int) := by rw [Int.tdiv_eq_ediv_of_nonneg (by omega)]; omega
  have hmi : (m : Int) ≤ 1000000 := by omega
  clear hC hbo hn hc hm hl
  go_enter Tryz.func65, Tryz.ntmps65
  go_upto_region 2 with (go_at_call 22; refine QS.out.mono ?_; rintro e w0 ⟨rfl, hb⟩; have Q0 := Aside0.mk hb; clear hb)
  obtain ⟨W1, hW1⟩ : ∃ W1, W1 = w0.alloc (.cells (madeCells #[(.int .i32 0 : Value)] m) 21) := ⟨_, rfl⟩
  obtain ⟨g, hg⟩ : ∃ g, g = w0.heap.size := ⟨_, rfl⟩
  have g1 : W1.heap[g]? = some (.cells (rowAt l m 0).toArray 21 (0, 0)) := by rw [hW1, hg, made_is, rowAt_zero]; exact blk_new w0 _
  have hb1 : Below w.heap.size w W1 := by rw [hW1]; exact Q0.out.alloc Q0.out.size _
  rw [← hW1, ← hg]
  have Qg := Aside0.mk (show w.heap.size ≤ g by rw [hg]; exact Q0.out.size)
  clear hW1 hmk hq QS hg Q0
  have G1 := Aside0.mk g1
  have B1 := Aside0.mk hb1
  clear g1 hb1
  go_wp2_with fail
  go_loopg [12] m (fun kq v12 w' => ∃ i : Nat, v12 = .int .i64 (i : Int) ∧ Aside0 (i + kq = m) ∧ Aside0 (w'.heap[g]? = some (.cells (rowAt l m i).toArray 21 (0, 0))) ∧ Aside0 (Below w.heap.size w w'))
  case atStart => exact ⟨0, rfl, ⟨by omega⟩, G1, B1⟩
  case round =>
    obtain ⟨i, rfl, HA, HG, HB⟩ := hrel
    clear G1 B1
    rcases Nat.eq_zero_or_pos gk with h0 | h0
    · have hi : ((i : Int) < (m : Int)) = False := by have := HA.out; simp; omega
      go_wp2
      go_ret
      obtain rfl : i = m := by have := HA.out; omega
      exact ⟨g, rfl, Qg.out, by rw [← rowAt_end]; exact HG.out, HB.out⟩
    · have hi : (i : Int) < (m : Int) := by have := HA.out; omega
      have hi2 : i < m := by omega
      have QI := Aside0.mk hi2
      obtain ⟨k1, rfl⟩ : ∃ k1, gk = k1 + 1 := ⟨gk - 1, by omega⟩
      have kb := (blk_cell HG.out i).trans (show (rowAt l m i).toArray[i]? = some (.int .i32 0) by
        rw [List.getElem?_toArray]
        unfold rowAt cI
        rw [List.getElem?_append_right (by rw [List.length_map, elsI_len]; exact Nat.le_refl _), List.length_map, elsI_len, Nat.sub_self, List.getElem?_replicate, if_pos (by omega)])
      have zb := blk_frozen HG.out i
      have QV := Aside0.mk (ga_is A l c i wr (Kd.C_below QC.out HB.out) Qh.out.1 Qh.out.2.2.2 Qh.out.2.1 (by
        have := Qh.out.2.2.1
        have h2 : 4 * (i + 1) ≤ 4 * m := Nat.mul_le_mul_left _ hi2
        omega))
      rw [← Qn.out] at QV
      obtain ⟨v, hv⟩ : ∃ v, v = IntKind.i32.wrap (w4 l i) := ⟨_, rfl⟩
      rw [← hv] at QV
      have Qv := Aside0.mk hv
      clear h0 hv
      go_wp2_with (go_at_call 69; refine QV.out.mono ?_; rintro e w2 ⟨rfl, hb⟩; have g2 := (hb.block g (blk_lt HG.out)).trans HG.out; have G2 := Aside0.mk g2; have B2 := Aside0.mk (HB.out.trans (hb.mono HB.out.size)); have kb2 : w2.cell? ⟨g, i, none⟩ = some (.int .i32 0) := (blk_cell g2 i).trans ((blk_cell HG.out i).symm.trans kb); have zb2 := blk_frozen g2 i; clear hb g2)
      go_roundg k1
      case rel =>
        refine ⟨i + 1, rfl, ⟨by have := HA.out; omega⟩, ⟨?_⟩, ⟨B2.out.setCell Qg.out _⟩⟩
        have h := blk_set G2.out i (.int .i32 v)
        rw [← rowAt_set QI.out, ← Qv.out]
        simpa using h
      · omega
end Go.Proofs.YtlnbkmkdapeicaaGreatDoor.QR
