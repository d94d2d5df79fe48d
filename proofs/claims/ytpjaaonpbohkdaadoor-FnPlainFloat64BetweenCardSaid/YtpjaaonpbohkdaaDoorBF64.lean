/- One value read plainly: its width, its bytes. -/
import Derived.Test.YtpjaaonpbohkdaaDoorA7
import Derived.BigQuiet
import Derived.BigRegion
import Derived.Deep.QuietTactic
import Derived.Test.YtpjaaonpbohkdaaDoorA8
namespace Go.Proofs.YtpjaaonpbohkdaaDoor.QR
open Go.RowKit Go.Proofs.YtpjaaonpbohkdaaDoorW.PrintWords Go.Proofs.YtpjaaonpbohkdaaDoorW.PrintLast Go.Proofs.YtpjaaonpbohkdaaDoorW.PrintMore
set_option linter.unusedVariables false
set_option linter.unusedSimpArgs false
namespace F64
def ek (x : Int) : Nat := x.toNat
def mkv (x : Int) : Value := .float .f64 (ek x)
theorem mkv_sl (x : Int) : Sl (mkv x) := ⟨rfl, fun y h => by unfold mkv at h; cases h⟩
def zero : Value := .float .f64 0
theorem zero_sl : Sl zero := ⟨rfl, fun y h => by unfold zero at h; cases h⟩
set_option maxHeartbeats 8000000 in
set_option maxRecDepth 100000 in
theorem wo_is (w : World) : Calls Tryd.prog 70 #[] w fun e w' => e = .returned (.int .i64 8) ∧ w' = w := by
  have as21 : ∀ w : World, (Instr.typeAssert (.iface 47 (.float .f64 0)) 20 21 true).run Tryd.prog w = .ok (.tuple #[.int .i32 0, .bool false]) w := fun w => by kernel_rfl
  have as85 : ∀ w : World, (Instr.typeAssert (.iface 47 (.float .f64 0)) 20 85 true).run Tryd.prog w = .ok (.tuple #[.float .f32 0, .bool false]) w := fun w => by kernel_rfl
  have as2 : ∀ w : World, (Instr.typeAssert (.iface 47 (.float .f64 0)) 20 2 true).run Tryd.prog w = .ok (.tuple #[.int .i64 0, .bool false]) w := fun w => by kernel_rfl
  have as47 : ∀ w : World, (Instr.typeAssert (.iface 47 (.float .f64 0)) 20 47 true).run Tryd.prog w = .ok (.tuple #[.float .f64 0, .bool true]) w := fun w => by kernel_rfl
  go_enter Tryd.func70, Tryd.ntmps70
  go_wp2
  go_ret
  exact ⟨rfl, rfl⟩
set_option maxHeartbeats 8000000 in
set_option maxRecDepth 100000 in
theorem rb_is (n : Nat) (hn : n ≤ 1000000) (w : World) : Calls Tryd.prog 59 #[.int .i64 (n : Int)] w fun e w' => e = .returned (.int .i64 ((8 * n : Nat) : Int)) ∧ w' = w := by
  have Q := Aside0.mk (fun w => wo_is w)
  have hni : (n : Int) ≤ 1000000 := by omega
  have hm : (n : Int) * 8 = ((8 * n : Nat) : Int) := by omega
  have hw : IntKind.i64.wrap ((8 * n : Nat) : Int) = ((8 * n : Nat) : Int) := IntWalk.i64_in _ (by omega)
  clear hn
  go_enter Tryd.func59, Tryd.ntmps59
  go_wp2_with (go_at_call 70; refine (Q.out _).mono ?_; rintro e w' ⟨rfl, rfl⟩)
  go_ret
  first | exact ⟨rfl, rfl⟩ | exact ⟨congrArg (fun x => Ending.returned (Value.int .i64 x)) (by omega), rfl⟩
set_option maxHeartbeats 8000000 in
set_option maxRecDepth 100000 in
theorem gv_is (A : Option Addr) (l : List Int) (c i : Nat) (w : World) (hC : Cu w A l) (hc : l.length ≤ c) (hl : l.length ≤ 1000000) (hbo : bytesOk l = true) (hi : 8 * i + 8 ≤ l.length) :
    Calls Tryd.prog 81 #[.slice A l.length c, .int .i64 (i : Int)] w fun e w' => e = .returned (mkv (w8 l i)) ∧ Below w.heap.size w w' := by
  have ap146 : ∀ (p : Addr) (w : World), (Instr.typeAssert (.iface 145 (.pointer (some p))) 20 146 true).run Tryd.prog w = .ok (.tuple #[.pointer none, .bool false]) w := fun p w => by kernel_rfl
  have ap150 : ∀ (p : Addr) (w : World), (Instr.typeAssert (.iface 145 (.pointer (some p))) 20 150 true).run Tryd.prog w = .ok (.tuple #[.pointer none, .bool false]) w := fun p w => by kernel_rfl
  have ap152 : ∀ (p : Addr) (w : World), (Instr.typeAssert (.iface 145 (.pointer (some p))) 20 152 true).run Tryd.prog w = .ok (.tuple #[.pointer none, .bool false]) w := fun p w => by kernel_rfl
  have ap145 : ∀ (p : Addr) (w : World), (Instr.typeAssert (.iface 145 (.pointer (some p))) 20 145 true).run Tryd.prog w = .ok (.tuple #[.pointer (some p), .bool true]) w := fun p w => by kernel_rfl
  have ap155 : ∀ (p : Addr) (w : World), (Instr.typeAssert (.iface 145 (.pointer (some p))) 20 155 true).run Tryd.prog w = .ok (.tuple #[.pointer none, .bool false]) w := fun p w => by kernel_rfl
  have hst := store_flt
  have hf := f32_of
  have hf2 := f64_of
  obtain ⟨ad, rfl, _⟩ := hC.2.2 (by omega)
  have hii : (i : Int) ≤ 1000000 := by omega
  have QC := Aside0.mk hC
  have Qh := Aside0.mk (show l.length ≤ c ∧ bytesOk l = true ∧ 8 * i + 8 ≤ l.length from ⟨hc, hbo, hi⟩)
  obtain ⟨n, hn⟩ : ∃ n, n = l.length := ⟨_, rfl⟩
  rw [← hn] at hc hl hi ⊢
  have Qn := Aside0.mk hn
  obtain ⟨m, hm⟩ : ∃ m, m = 8 * i := ⟨_, rfl⟩
  have Qm := Aside0.mk hm
  have h1 : ((8 : Int) * (i : Int)) = (m : Int) := by omega
  have h2 : (m : Int) ≤ (n : Int) := by omega
  have h3 : IntKind.i64.wrap (m : Int) = (m : Int) := IntWalk.i64_in _ (by omega)
  have h4 : (n : Int) ≤ (c : Int) := by omega
  have h5 : ¬ c = m := by omega
  have h6 : ¬ (c - m = 0) := by omega
  have h8 : m ≤ n := by omega
  clear hC hbo hn hl hi hm
  go_enter Tryd.func81, Tryd.ntmps81
  go_upto_region 4 with (fail)
  obtain ⟨W1, hW1⟩ : ∃ W1, W1 = w.alloc (.cells #[zero] 47) := ⟨_, rfl⟩
  have g1 : W1.heap[w.heap.size]? = some (.cells #[zero] 47 (0, 0)) := by rw [hW1]; exact blk_new w _
  have hb1 : Below w.heap.size w W1 := by rw [hW1]; exact (Below.refl w.heap.size w).alloc (Nat.le_refl _) _
  have hW1' : w.alloc (.cells #[.float .f64 0] 47) = W1 := hW1.symm
  rw [hW1']
  clear hW1 hW1'
  have G1 := Aside0.mk g1
  have B1 := Aside0.mk hb1
  have hC1 : Cu W1.drew (some ad) l := Kd.C_below QC.out hb1.drew
  have cell : ∀ j, j < 8 → W1.drew.cell? ((ad.add m).add j) = some (.int .u8 (rd l ((8 * i + j : Nat) : Int))) := by
    intro j hj
    obtain ⟨ad2, e, h⟩ := Kd.at_int hC1 ((8 * i + j : Nat) : Int) (by omega) (by have := Qh.out; omega)
    cases e
    rw [add_add, Qm.out]
    exact h
  have byt : ∀ j, 0 ≤ rd l j ∧ rd l j < 256 := fun j => bytes_ok Qh.out.2.1 j
  obtain ⟨X, hX⟩ : ∃ X, X = w8 l i := ⟨_, rfl⟩
  have QX := Aside0.mk hX
  have HU := Aside0.mk (show Calls Tryd.prog 89 #[.agg #[], .slice (some (ad.add m)) (n - m) (c - m)] W1.drew fun e w' => e = .returned (.int .u64 X) ∧ Below W1.drew.heap.size W1.drew w' by
    rw [hX]
    exact QE.u64_is (ad.add m) (n - m) (c - m) _ _ _ _ _ _ _ _ W1.drew (by have := Qh.out; have := Qn.out; have := Qm.out; omega) (byt _) (byt _) (byt _) (byt _) (byt _) (byt _) (byt _) (byt _) (cell 0 (by omega)) (cell 1 (by omega)) (cell 2 (by omega)) (cell 3 (by omega)) (cell 4 (by omega)) (cell 5 (by omega)) (cell 6 (by omega)) (cell 7 (by omega)))
  have k0 : W1.cell? ⟨w.heap.size, 0, none⟩ = some zero := blk_cell g1 0
  have k00 : (#[zero] : Array Value)[0]? = some zero := rfl
  have z0 := blk_frozen g1 0
  clear g1 hb1 hC1 cell byt QC hc hii hX
  refine wp_noP ?_
  go_region_with (go_at_call 89; refine HU.out.mono ?_; rintro e w5 ⟨rfl, hb5⟩; have QB5 := Aside0.mk hb5; have g5 := (hb5.block w.heap.size (blk_lt G1.out)).trans G1.out; have k5 := (blk_cell g5 0).trans k00; have z5 := blk_frozen g5 0; clear hb5 g5)
  refine noP_normal ?_
  obtain ⟨W6, hW6⟩ : ∃ W6, W6 = w5.setCell ⟨w.heap.size, 0, none⟩ (mkv X) := ⟨_, rfl⟩
  have k6 : W6.cell? ⟨w.heap.size, 0, none⟩ = some (mkv X) := by rw [hW6]; simp [go_sem, k5]
  have z6 : W6.frozen? ⟨w.heap.size, 0, none⟩ = false := by rw [hW6]; simp [go_sem, z5]
  have hB6 : Below w.heap.size w W6 := by
    rw [hW6]
    have h := B1.out.trans ((show Below W1.heap.size W1 w5 from ⟨QB5.out.os, QB5.out.tape, QB5.out.output, QB5.out.size, QB5.out.block⟩).mono B1.out.size)
    exact h.setCell (Nat.le_refl _) _
  have hW6' : w5.setCell ⟨w.heap.size, 0, none⟩ (.float .f64 X.toNat) = W6 := hW6.symm
  rw [hW6']
  have QB6 := Aside0.mk hB6
  clear hW6 hW6' hB6 k5 z5 k0 z0 k00 QB5 B1 G1 HU
  replace k6 : W6.cell? ⟨w.heap.size, 0, none⟩ = some (.float .f64 X.toNat) := k6
  go_wp2
  refine bodyPost_ret (v := .float .f64 X.toNat) (by first | (simp [results, Tryd.results81, go_sem, k6]; done) | (simp [results, Tryd.results81, go_sem, k6]; rfl) | (simp [results, Tryd.results81, go_sem, k6, wrap32, wrap64, IntKind.wrap_i32, IntKind.wrap_i64]; done)) rfl ?_
  exact ⟨by rw [QX.out]; rfl, QB6.out.setCell (Nat.le_refl _) _⟩
end F64
end Go.Proofs.YtpjaaonpbohkdaaDoor.QR
/- Values read plainly into a row: fromBytes, copyFrom. -/
namespace Go.Proofs.YtpjaaonpbohkdaaDoor.QR
open Go.RowKit Go.Proofs.YtpjaaonpbohkdaaDoorW.PrintWords Go.Proofs.YtpjaaonpbohkdaaDoorW.PrintLast Go.Proofs.YtpjaaonpbohkdaaDoorW.PrintMore
set_option linter.unusedVariables false
set_option linter.unusedSimpArgs false
namespace F64
/-- The first m values of a row of bytes. -/
def els (l : List Int) (m : Nat) : List Value := (List.range m).map fun i => mkv (w8 l i)
theorem els_len (l : List Int) (m : Nat) : (els l m).length = m := by simp [els]
theorem els_sl (l : List Int) (m : Nat) : ∀ u ∈ els l m, Sl u := by
  intro u hu
  obtain ⟨i, _, rfl⟩ := List.mem_map.1 hu
  exact mkv_sl _
def rowAt (l : List Int) (m i : Nat) : List Value := els l i ++ List.replicate (m - i) zero
theorem rowAt_len {l : List Int} {m i : Nat} (h : i ≤ m) : (rowAt l m i).length = m := by unfold rowAt; rw [List.length_append, els_len, List.length_replicate]; omega
theorem rowAt_zero (l : List Int) (m : Nat) : rowAt l m 0 = List.replicate m zero := by simp [rowAt, els]
theorem rowAt_end (l : List Int) (m : Nat) : rowAt l m m = els l m := by simp [rowAt]
theorem rowAt_set {l : List Int} {m i : Nat} (h : i < m) : (rowAt l m i).set i (mkv (w8 l i)) = rowAt l m (i + 1) := by
  unfold rowAt
  rw [List.set_append_right _ _ (by rw [els_len]; exact Nat.le_refl _), els_len, Nat.sub_self, show m - i = (m - (i + 1)) + 1 by omega, List.replicate_succ, List.set_cons_zero]
  simp [els, List.range_succ]
theorem infoE : (Tryd.prog.info? 47).map (fun i => (i.zero, i.size, i.bytes)) = some (some (.float .f64 0), 1, 8) := by kernel_rfl
theorem made_is (n : Nat) : madeCells #[(.float .f64 0 : Value)] n = (List.replicate n zero).toArray := by
  rw [← Array.toList_inj]
  apply List.ext_getElem
  · simp [madeCells]
  · intro i h1 h2
    simp [madeCells, Nat.mod_one, zero]
set_option maxHeartbeats 8000000 in
set_option maxRecDepth 100000 in
theorem fb_is (A : Option Addr) (l : List Int) (c m : Nat) (w : World) (hC : Cu w A l) (hc : l.length ≤ c) (hl : l.length ≤ 1000000) (hbo : bytesOk l = true) (hm : l.length = 8 * m) :
    Calls Tryd.prog 71 #[.slice A l.length c] w fun e w' => ∃ g, e = .returned (.slice (some ⟨g, 0, none⟩) m m) ∧ w.heap.size ≤ g ∧ w'.heap[g]? = some (.cells (els l m).toArray 47 (0, 0)) ∧ Below w.heap.size w w' := by
  have hmk := print_make_of (P := Tryd.prog) 92 47 (.float .f64 0) 8 Tryd.underlying92 infoE rfl (by omega) m (by omega)
  have hst := store_flt
  have QR := Aside0.mk (fun w => rb_is 1 (by omega) w)
  have QC := Aside0.mk hC
  have Qh := Aside0.mk (show l.length ≤ c ∧ bytesOk l = true ∧ l.length = 8 * m ∧ l.length ≤ 1000000 from ⟨hc, hbo, hm, hl⟩)
  obtain ⟨n, hn⟩ : ∃ n, n = l.length := ⟨_, rfl⟩
  rw [← hn] at hc hl hm ⊢
  have Qn := Aside0.mk hn
  have hq : Int.tdiv (n : Int) 8 = (m : Int) := by rw [Int.tdiv_eq_ediv_of_nonneg (by omega)]; omega
  have hmi : (m : Int) ≤ 1000000 := by omega
  clear hC hbo hn hc hm hl
  go_enter Tryd.func71, Tryd.ntmps71
  go_upto_region 2 with (go_at_call 59; refine (QR.out _).mono ?_; rintro e w' ⟨rfl, hw⟩; subst w')
  obtain ⟨W1, hW1⟩ : ∃ W1, W1 = w.alloc (.cells (madeCells #[(.float .f64 0 : Value)] m) 47) := ⟨_, rfl⟩
  have g1 : W1.heap[w.heap.size]? = some (.cells (rowAt l m 0).toArray 47 (0, 0)) := by rw [hW1, made_is, rowAt_zero]; exact blk_new w _
  have hb1 : Below w.heap.size w W1 := by rw [hW1]; exact (Below.refl w.heap.size w).alloc (Nat.le_refl _) _
  rw [← hW1]
  clear hW1 hmk hq QR
  have G1 := Aside0.mk g1
  have B1 := Aside0.mk hb1
  clear g1 hb1
  go_wp2_with fail
  go_loopg [12] m (fun kq v12 w' => ∃ i : Nat, v12 = .int .i64 (i : Int) ∧ Aside0 (i + kq = m) ∧ Aside0 (w'.heap[w.heap.size]? = some (.cells (rowAt l m i).toArray 47 (0, 0))) ∧ Aside0 (Below w.heap.size w w'))
  case atStart => exact ⟨0, rfl, ⟨by omega⟩, G1, B1⟩
  case round =>
    obtain ⟨i, rfl, HA, HG, HB⟩ := hrel
    clear G1 B1
    rcases Nat.eq_zero_or_pos gk with h0 | h0
    · have hi : ((i : Int) < (m : Int)) = False := by have := HA.out; simp; omega
      go_wp2
      go_ret
      obtain rfl : i = m := by have := HA.out; omega
      exact ⟨w.heap.size, rfl, Nat.le_refl _, by rw [← rowAt_end]; exact HG.out, HB.out⟩
    · have hi : (i : Int) < (m : Int) := by have := HA.out; omega
      have hi2 : i < m := by omega
      have QI := Aside0.mk hi2
      obtain ⟨k1, rfl⟩ : ∃ k1, gk = k1 + 1 := ⟨gk - 1, by omega⟩
      have hr : i < (rowAt l m i).length := by rw [rowAt_len (by omega)]; exact hi2
      have kb := (blk_cell HG.out i).trans (show (rowAt l m i).toArray[i]? = some zero by
        rw [List.getElem?_toArray]
        unfold rowAt
        rw [List.getElem?_append_right (by rw [els_len]; exact Nat.le_refl _), els_len, Nat.sub_self, List.getElem?_replicate, if_pos (by omega)])
      have zb := blk_frozen HG.out i
      have QV := Aside0.mk (gv_is A l c i wr (Kd.C_below QC.out HB.out) Qh.out.1 Qh.out.2.2.2 Qh.out.2.1 (by
        have := Qh.out.2.2.1
        have h2 : 8 * (i + 1) ≤ 8 * m := Nat.mul_le_mul_left _ hi2
        omega))
      rw [← Qn.out] at QV
      unfold mkv at QV
      obtain ⟨v, hv⟩ : ∃ v, v = ek (w8 l i) := ⟨_, rfl⟩
      rw [← hv] at QV
      have Qv := Aside0.mk (show mkv (w8 l i) = .float .f64 v by unfold mkv; rw [hv])
      clear h0 hr hv
      go_wp2_with (go_at_call 81; refine QV.out.mono ?_; rintro e w2 ⟨rfl, hb⟩; have g2 := (hb.block w.heap.size (blk_lt HG.out)).trans HG.out; have G2 := Aside0.mk g2; have B2 := Aside0.mk (HB.out.trans (hb.mono HB.out.size)); have kb2 : w2.cell? ⟨w.heap.size, i, none⟩ = some zero := ((hb.cell (p := ⟨w.heap.size, i, none⟩) (blk_lt HG.out)).trans kb); have zb2 := blk_frozen g2 i; clear hb g2)
      go_roundg k1
      case rel =>
        refine ⟨i + 1, rfl, ⟨by have := HA.out; omega⟩, ⟨?_⟩, ⟨B2.out.setCell (Nat.le_refl _) _⟩⟩
        have h := blk_set G2.out i (.float .f64 v)
        rw [← rowAt_set QI.out, Qv.out]
        simpa using h
      · omega
end F64
end Go.Proofs.YtpjaaonpbohkdaaDoor.QR
/- Values read plainly into a row: copyFrom; Decode. -/
namespace Go.Proofs.YtpjaaonpbohkdaaDoor.QR
open Go.RowKit Go.Proofs.YtpjaaonpbohkdaaDoorW.PrintWords Go.Proofs.YtpjaaonpbohkdaaDoorW.PrintLast Go.Proofs.YtpjaaonpbohkdaaDoorW.PrintMore
set_option linter.unusedVariables false
set_option linter.unusedSimpArgs false
namespace F64
set_option maxHeartbeats 8000000 in
set_option maxRecDepth 100000 in
theorem cf_is (bk cb : Nat) (us : List Value) (A : Option Addr) (l : List Int) (c m : Nat) (w : World) (hb : w.heap[bk]? = some (.cells us.toArray 47 (0, 0))) (hmu : m ≤ us.length) (hC : Cu w A l) (hc : l.length ≤ c) (hl : l.length ≤ 1000000) (hbo : bytesOk l = true) (hm : l.length = 8 * m) :
    Calls Tryd.prog 60 #[.slice (some ⟨bk, 0, none⟩) m cb, .slice A l.length c] w fun e w' => e = .returned (.tuple #[]) ∧ ∃ wv, Vw w wv w' bk 47 (els l m ++ us.drop m) := by
  have QF := Aside0.mk (fb_is A l c m w hC hc hl hbo hm)
  have QV := Aside0.mk (Vw.start hb)
  have Qm := Aside0.mk hmu
  obtain ⟨n, hn⟩ : ∃ n, n = l.length := ⟨_, rfl⟩
  rw [← hn] at QF ⊢
  clear hb hmu hC hc hl hbo hm hn
  go_enter Tryd.func60, Tryd.ntmps60
  go_wp2_with (go_at_call 71; refine QF.out.mono ?_; rintro e w1 ⟨g, rfl, h1, h2, h3⟩; have V1 := Aside0.mk (QV.out.step h3); have hcp := copy2_eq (P := Tryd.prog) 92 92 3 47 (by kernel_rfl) (by kernel_rfl) bk g m m cb m us (els l m) V1.out.now h2 (els_sl _ _) Qm.out (Nat.le_refl _) (els_len _ _).symm; clear h1 h2 h3)
  go_end0
  refine ⟨rfl, w.setCells bk 0 (els l m), ?_⟩
  have h := sets_below V1.out 0 (els l m) (by rw [els_len]; have := Qm.out; omega)
  rw [els_len, List.take_zero, List.nil_append, Nat.zero_add] at h
  exact h
/-- What a decoder that reads plainly holds: how many values, what is left to read; no reader yet. -/
def Dc (w : World) (gd nv : Nat) (tl : Int) (D : List Int) : Prop := ∃ A c, w.heap[gd]? = some (.cells #[.int .i64 (nv : Int), .slice A D.length c, .int .i64 tl, .nilIface] 56 (0, 0)) ∧ D.length ≤ c ∧ Cu w A D
theorem rd_take {l : List Int} {N : Nat} {k : Nat} (h : k < N) : rd (l.take N) ((k : Nat) : Int) = rd l ((k : Nat) : Int) := by
  unfold rd
  rw [Int.toNat_natCast, List.getD_eq_getElem?_getD, List.getD_eq_getElem?_getD, List.getElem?_take, if_pos h]
theorem els_take (l : List Int) (m : Nat) : els (l.take (8 * m)) m = els l m := by
  unfold els
  apply List.map_congr_left
  intro i hi
  have hi2 : i < m := List.mem_range.1 hi
  have h2 : 8 * (i + 1) ≤ 8 * m := Nat.mul_le_mul_left _ hi2
  unfold w8
  rw [rd_take (by omega), rd_take (by omega), rd_take (by omega), rd_take (by omega), rd_take (by omega), rd_take (by omega), rd_take (by omega), rd_take (by omega)]
set_option maxHeartbeats 8000000 in
set_option maxRecDepth 100000 in
theorem dec_is (gd bk m cb nv : Nat) (tl : Int) (D : List Int) (vs : List Value) (w : World) (hb : w.heap[bk]? = some (.cells vs.toArray 47 (0, 0))) (hne : gd ≠ bk) (hsl : ∀ u ∈ vs, Sl u) (hD : Dc w gd nv tl D)
    (hmv : m ≤ vs.length) (hmb : m ≤ cb) (hmn : m ≤ nv) (hm : 8 * m ≤ D.length) (hnv : nv ≤ 1000000) (hlen : D.length ≤ 1000000) (hbo : bytesOk D = true) :
    Calls Tryd.prog 47 #[.pointer (some ⟨gd, 0, none⟩), .slice (some ⟨bk, 0, none⟩) m cb] w fun e w' => e = .returned (.tuple #[.int .i64 (m : Int), .nilIface]) ∧ w'.heap[bk]? = some (.cells (els D m ++ vs.drop m).toArray 47 (0, 0)) ∧ (∃ v0 v1, w'.heap[gd]? = some (.cells #[.int .i64 v0, v1, .int .i64 tl, .nilIface] 56 (0, 0)) ∧ Sl v1) ∧ Fr w w' bk gd := by
  have hmm : min (m : Int) (nv : Int) = (m : Int) := by omega
  obtain ⟨A, c, hg, hc, hC⟩ := hD
  have Qg := Aside0.mk hg
  have k0 := blk_cell hg 0
  have k1 := blk_cell hg 1
  have z0 := blk_frozen hg 0
  have z1 := blk_frozen hg 1
  simp only [List.getElem?_toArray, List.getElem?_cons_succ, List.getElem?_cons_zero] at k0 k1
  have QR := Aside0.mk (fun w => rb_is m (by omega) w)
  have Qh := Aside0.mk (show m ≤ vs.length ∧ m ≤ cb ∧ gd ≠ bk ∧ 8 * m ≤ D.length ∧ D.length ≤ c ∧ bytesOk D = true ∧ D.length ≤ 1000000 ∧ nv ≤ 1000000 from ⟨hmv, hmb, hne, hm, hc, hbo, hlen, hnv⟩)
  have Qb := Aside0.mk hb
  have Qs := Aside0.mk hsl
  have QC := Aside0.mk hC
  obtain ⟨N, hN⟩ : ∃ N, N = 8 * m := ⟨_, rfl⟩
  rw [← hN] at QR
  have QN := Aside0.mk hN
  obtain ⟨dl, hdl⟩ : ∃ dl, dl = D.length := ⟨_, rfl⟩
  rw [← hdl] at k1
  have Qdl := Aside0.mk hdl
  have hmn2 : (m : Int) ≤ (nv : Int) := by omega
  have e1 : ((dl : Int) < (N : Int)) = False := by simp; omega
  have e2 : ((2147483647 : Int) < (N : Int)) = False := by simp; omega
  have e1' : decide ((dl : Int) < (N : Int)) = false := decide_eq_false (by omega)
  have e2' : decide ((2147483647 : Int) < (N : Int)) = false := decide_eq_false (by omega)
  have e3 : (m : Int) ≤ (cb : Int) := by omega
  have e4 : (N : Int) ≤ (c : Int) := by omega
  have e5 : N ≤ c := by omega
  have e6 : (N : Int) ≤ (dl : Int) := by omega
  have e7 : (dl : Int) ≤ (c : Int) := by omega
  have e8 : (nv : Int) ≤ 1000000 := by omega
  clear hb hne hsl hg hC hmv hmb hmn hm hnv hlen hbo hc hN hdl
  go_enter Tryd.func47, Tryd.ntmps47
  go_upto_region 5 with (go_at_call 59; refine (QR.out _).mono ?_; rintro e w' ⟨rfl, hw⟩; subst w')
  refine wp_region_still_tail 10 (by kernel_rfl) (by kernel_rfl) ?_
  simp only [List.take_succ_cons, List.take_zero, List.drop_succ_cons, List.drop_zero]
  change wpStill _ _ (World.drew w) _ _ _
  repeat still_step
  refine wpStill_nil ?_
  change wpList _ _ _ _ _ (World.drew w)
  have hlt : (D.take N).length = N := by rw [List.length_take]; have := Qh.out; have := QN.out; omega
  have hCF := cf_is bk cb vs A (D.take N) c m w.drew (show w.drew.heap[bk]? = some (.cells vs.toArray 47 (0, 0)) from Qb.out) Qh.out.1 (by
      have h := Kd.C_take (show Kd.C (Kd.int .u8) w.drew A D.length D from Kd.C_below QC.out (Below.refl w.heap.size w).drew) (m := N) (by have := Qh.out; have := QN.out; omega)
      exact h) (by rw [hlt]; exact e5) (by rw [hlt]; have := Qh.out; have := QN.out; omega) (by
      have h := Qh.out.2.2.2.2.2.1
      unfold bytesOk at h ⊢
      rw [List.all_eq_true] at h ⊢
      exact fun x hx => h x (List.mem_of_mem_take hx)) (by rw [hlt]; exact QN.out)
  rw [hlt, show els (D.take N) m = els D m by rw [QN.out]; exact els_take D m] at hCF
  have QF := Aside0.mk hCF
  clear hCF hlt k0 k1 z0 z1
  go_upto_region 6 with (go_at_call 60; refine QF.out.mono ?_; rintro e w2 ⟨rfl, wv, hv⟩; have V2 := Aside0.mk (show Vw w wv w2 bk 47 (els D m ++ vs.drop m) from ⟨hv.size, hv.blk, hv.far, hv.os, hv.tape, hv.output, hv.bel⟩); clear hv)
  have hgl : gd < wv.heap.size := by rw [V2.out.size]; exact blk_lt Qg.out
  have g2 : w2.heap[gd]? = some (.cells #[.int .i64 (nv : Int), .slice A dl c, .int .i64 tl, .nilIface] 56 (0, 0)) := by
    have h := (V2.out.bel.block gd hgl).trans ((V2.out.far gd Qh.out.2.2.1).trans Qg.out)
    rw [Qdl.out]; exact h
  have k0 := blk_cell g2 0
  have k1 := blk_cell g2 1
  have z0 := blk_frozen g2 0
  have z1 := blk_frozen g2 1
  simp only [List.getElem?_toArray, List.getElem?_cons_succ, List.getElem?_cons_zero] at k0 k1
  have G2 := Aside0.mk g2
  have hgb : gd ≠ bk := Qh.out.2.2.1
  have fin : ∀ v1 : Value, Sl v1 → (((w2.setCell ⟨gd, 1, none⟩ v1).setCell ⟨gd, 0, none⟩ (.int .i64 ((nv : Int) - (m : Int)))).heap[bk]? = some (.cells (els D m ++ vs.drop m).toArray 47 (0, 0)) ∧ (∃ v0 v1', ((w2.setCell ⟨gd, 1, none⟩ v1).setCell ⟨gd, 0, none⟩ (.int .i64 ((nv : Int) - (m : Int)))).heap[gd]? = some (.cells #[.int .i64 v0, v1', .int .i64 tl, .nilIface] 56 (0, 0)) ∧ Sl v1') ∧ Fr w ((w2.setCell ⟨gd, 1, none⟩ v1).setCell ⟨gd, 0, none⟩ (.int .i64 ((nv : Int) - (m : Int)))) bk gd) := by
    intro v1 hv1
    refine ⟨?_, ⟨(nv : Int) - (m : Int), v1, ?_, hv1⟩, ((V2.out.fr gd).set gd 1 _ (.inr rfl)).set gd 0 _ (.inr rfl)⟩
    · rw [Below.heap_setCell _ _ _ _ (Ne.symm hgb), Below.heap_setCell _ _ _ _ (Ne.symm hgb)]
      exact V2.out.now
    · have h1 := blk_set G2.out 1 v1
      have h2 := blk_set h1 0 (.int .i64 ((nv : Int) - (m : Int)))
      simpa using h2
  have Qfin := Aside0.mk fin
  have QC2 := Aside0.mk (And.intro QC.out (And.intro Qdl.out (And.intro QN.out Qh.out)))
  clear fin g2 hgl hgb QF QR Qg Qb Qs QC Qh QN Qdl V2 G2
  rcases A with _ | ad
  · have hd0 : dl = 0 := by
      have := QC2.out
      rcases Nat.eq_zero_or_pos D.length with h | h
      · omega
      · obtain ⟨ad, h1, _⟩ := this.1.2.2 h
        cases h1
    subst hd0
    obtain rfl : N = 0 := by omega
    go_wp2
    refine bodyPost_ret (v := .tuple #[.int .i64 (m : Int), .nilIface]) (by simp [results, Tryd.results47, go_sem]) rfl ?_
    exact ⟨rfl, Qfin.out _ ⟨rfl, fun x h => by cases h⟩⟩
  · by_cases hcN : c = N
    · have hcb : c - N = 0 := by omega
      go_wp2
      refine bodyPost_ret (v := .tuple #[.int .i64 (m : Int), .nilIface]) (by simp [results, Tryd.results47, go_sem]) rfl ?_
      exact ⟨rfl, Qfin.out _ ⟨rfl, fun x h => by cases h⟩⟩
    · go_wp2
      refine bodyPost_ret (v := .tuple #[.int .i64 (m : Int), .nilIface]) (by simp [results, Tryd.results47, go_sem]) rfl ?_
      exact ⟨rfl, Qfin.out _ ⟨rfl, fun x h => by cases h⟩⟩
end F64
end Go.Proofs.YtpjaaonpbohkdaaDoor.QR
/- Values are read plainly and spread over the set bits: DecodeSpaced. -/
namespace Go.Proofs.YtpjaaonpbohkdaaDoor.QR
open Go.RowKit Go.Proofs.YtpjaaonpbohkdaaDoorW.PrintWords Go.Proofs.YtpjaaonpbohkdaaDoorW.PrintLast Go.Proofs.YtpjaaonpbohkdaaDoorW.PrintMore
set_option linter.unusedVariables false
set_option linter.unusedSimpArgs false
namespace F64
/-- At a set bit stands the value of its number. -/
def Sp (us : List Value) (D : List Int) (b : Nat → Bool) (f n : Nat) : Prop := ∀ i, i < n → b (f + i) = true → us[i]? = some (mkv (w8 D (rk b f i)))
theorem els_get (l : List Int) (m i : Nat) (h : i < m) : (els l m)[i]? = some (mkv (w8 l i)) := by simp [els, h]
theorem sp_of {D : List Int} {b : Nat → Bool} {f n : Nat} {vs us : List Value} (h : Exp b f n (els D (rk b f n) ++ vs) us) : Sp us D b f n := by
  intro i hi hb
  have hlt := rk_lt b f i hb n hi
  rw [h.2 i hi hb, List.getElem?_append_left (by rw [els_len]; exact hlt), els_get _ _ _ hlt]
set_option maxHeartbeats 8000000 in
set_option maxRecDepth 100000 in
theorem dsp_is (gd bk n cb nv : Nat) (tl : Int) (D : List Int) (vs : List Value) (A : Option Addr) (l : List Int) (cap f : Nat) (w : World) (hb : w.heap[bk]? = some (.cells vs.toArray 47 (0, 0))) (hsl : ∀ u ∈ vs, Sl u) (hne : gd ≠ bk) (hD : Dc w gd nv tl D)
    (hvn : n ≤ vs.length) (hnc : n ≤ cb) (hvc : cb ≤ vs.length) (hnv : n ≤ nv) (hnv2 : nv ≤ 1000000) (hDl : 8 * rk (bt1 l) f n ≤ D.length) (hDl2 : D.length ≤ 1000000) (hDb : bytesOk D = true)
    (hC : Cu w A l) (hcap : l.length ≤ cap) (hbo : bytesOk l = true) (hll : l.length ≤ 1000000) (hfl : f + n ≤ 8 * l.length) (hfl2 : f + n ≤ 1000000) :
    Calls Tryd.prog 24 #[.pointer (some ⟨gd, 0, none⟩), .slice (some ⟨bk, 0, none⟩) n cb, .int .i64 ((n : Int) - (rk (bt1 l) f n : Int)), .slice A l.length cap, .int .i64 (f : Int)] w fun e w' => e = .returned (.tuple #[.int .i64 (n : Int), .nilIface]) ∧ ∃ us, w'.heap[bk]? = some (.cells us.toArray 47 (0, 0)) ∧ us.length = vs.length ∧ Sp us D (bt1 l) f n ∧ Fr w w' bk gd := by
  have hKn := rk_le (bt1 l) f n
  obtain ⟨DA, dc, hDg, _, _⟩ := id hD
  have Qdec := Aside0.mk (dec_is gd bk (rk (bt1 l) f n) cb nv tl D vs w hb hne hsl hD (by omega) (by omega) (by omega) hDl hnv2 hDl2 hDb)
  have QG := Aside0.mk (And.intro hDg hne)
  obtain ⟨K0, hK0⟩ : ∃ K0, K0 = rk (bt1 l) f n := ⟨_, rfl⟩
  rw [← hK0] at Qdec hKn ⊢
  have QK0 := Aside0.mk hK0
  have Qb := Aside0.mk (And.intro hb hsl)
  have QC := Aside0.mk (show Cu w A l ∧ l.length ≤ cap ∧ bytesOk l = true ∧ l.length ≤ 1000000 ∧ f + n ≤ 8 * l.length ∧ f + n ≤ 1000000 from ⟨hC, hcap, hbo, hll, hfl, hfl2⟩)
  have Qn := Aside0.mk (show n ≤ vs.length ∧ n ≤ cb ∧ cb ≤ vs.length ∧ K0 ≤ n from ⟨hvn, hnc, hvc, hKn⟩)
  have hsub : (n : Int) - ((n : Int) - (K0 : Int)) = (K0 : Int) := by omega
  have hni : (n : Int) ≤ 1000000 := by omega
  have hk1 : (K0 : Int) ≤ (cb : Int) := by omega
  have hk2 : K0 ≤ cb := by omega
  clear hb hsl hne hD hvn hnc hvc hnv hnv2 hDl hDl2 hDb hC hcap hbo hll hfl hfl2 hK0 hDg
  go_enter Tryd.func24, Tryd.ntmps24
  go_upto_region 2 with (fail)
  try rw [hsub]
  clear hsub
  go_upto_region 8 with (go_at_call 47; refine Qdec.out.mono ?_; rintro e w1 ⟨rfl, h1, ⟨v0, v1, h2, h3⟩, h4⟩; have H1 := Aside0.mk (And.intro h1 (And.intro h2 (And.intro h3 h4))); clear h1 h2 h3 h4)
  obtain ⟨us0, hus0⟩ : ∃ us0, us0 = els D K0 ++ vs.drop K0 := ⟨_, rfl⟩
  rw [← hus0] at H1
  have hlen0 : us0.length = vs.length := by rw [hus0, List.length_append, els_len, List.length_drop]; have := Qn.out; omega
  have hsl0 : ∀ u ∈ us0, Sl u := by
    intro u hu
    rw [hus0] at hu
    rcases List.mem_append.1 hu with h | h
    · exact els_sl _ _ u h
    · exact Qb.out.2 u (List.mem_of_mem_drop h)
  have Q0 := Aside0.mk (And.intro hus0 (And.intro hlen0 hsl0))
  have hC1 : Cu w1 A l := by
    refine Cu.fr H1.out.2.2.2 QC.out.1 Qb.out.1 (sl_nb Qb.out.2) QG.out.1 ?_
    intro u hu x e
    subst e
    simp at hu
  have QR := Aside0.mk (rev_is A l cap f n w1 hC1 QC.out.2.1 QC.out.2.2.1 QC.out.2.2.2.1 QC.out.2.2.2.2.1 QC.out.2.2.2.2.2)
  clear hus0 hlen0 hsl0 hC1
  by_cases hKn2 : K0 = n
  · have e0 : (n : Int) - (K0 : Int) = 0 := by omega
    go_wp2
    refine bodyPost_ret (v := .tuple #[.int .i64 (n : Int), .nilIface]) (by simp [results, Tryd.results24, go_sem]) rfl ?_
    refine ⟨rfl, us0, H1.out.1, Q0.out.2.1, ?_, H1.out.2.2.2⟩
    intro i hi hb
    have hr := rk_full (bt1 l) f n (by rw [← QK0.out]; exact hKn2) i (by omega)
    rw [hr, Q0.out.1, List.getElem?_append_left (by rw [els_len]; omega), els_get _ _ _ (by omega)]
  have e0 : ¬ ((n : Int) - (K0 : Int) = 0) := by omega
  have e0' : ((n : Int) - (K0 : Int) == 0) = false := by simpa using e0
  have e1 : (n : Int) - ((n : Int) - (K0 : Int)) = (K0 : Int) := by omega
  have k3 := blk_cell H1.out.2.1 3
  simp only [List.getElem?_toArray, List.getElem?_cons_succ, List.getElem?_cons_zero] at k3
  go_wp2_with (go_at_call 49; refine QR.out.mono ?_; rintro e w2 ⟨g, r, c, rfl, h1, h2, h3, h4, h5⟩; have g2 := (h3.block gd (blk_lt H1.out.2.1)).trans H1.out.2.1; have k3b := blk_cell g2 3; have z3b := blk_frozen g2 3; simp only [List.getElem?_toArray, List.getElem?_cons_succ, List.getElem?_cons_zero] at k3b; have H2 := Aside0.mk (And.intro h1 (And.intro h2 (And.intro h3 (And.intro h4 g2)))); clear h1 h2 h3 h4 h5 g2)
  have mixed : Tryd.prog.follows .mixedOrders = true := by kernel_rfl
  have e10 : (.int .i64 (K0 : Int) : Value) = .int .i64 ((rk (bt1 l) f n : Nat) : Int) := by rw [← QK0.out]
  obtain ⟨I, hI⟩ : ∃ I : Value, I = .iface 123 (.pointer (some ⟨g, 0, none⟩)) := ⟨_, rfl⟩
  have hs4 : ∀ u ∈ [(.int .i64 v0 : Value), v1, .int .i64 tl, .nilIface], Sl u := by
    intro u hu
    simp only [List.mem_cons, List.not_mem_nil, or_false] at hu
    rcases hu with rfl | rfl | rfl | rfl
    · exact ⟨rfl, fun x h => by cases h⟩
    · exact H1.out.2.2.1
    · exact ⟨rfl, fun x h => by cases h⟩
    · exact ⟨rfl, fun x h => by cases h⟩
  have hV0 : Vw w1 w1 w2 gd 56 [(.int .i64 v0 : Value), v1, .int .i64 tl, .nilIface] := (Vw.start H1.out.2.1).step H2.out.2.2.1
  have hV1 := set_below hV0 3 I (by simp)
  have hR1 := rs_set1 hV0 hs4 H2.out.1 3 I
  obtain ⟨wb, hwb⟩ : ∃ wb, wb = w1.setCell ⟨gd, 3, none⟩ I := ⟨_, rfl⟩
  obtain ⟨w3, hw3⟩ : ∃ w3, w3 = w2.setCell ⟨gd, 3, none⟩ I := ⟨_, rfl⟩
  rw [← hwb, ← hw3] at hV1 hR1
  have hbk : wb.heap[bk]? = some (.cells us0.toArray 47 (0, 0)) := by rw [hwb, Below.heap_setCell _ _ _ _ (Ne.symm QG.out.2)]; exact H1.out.1
  have hgd : wb.heap[gd]? = some (.cells #[.int .i64 v0, v1, .int .i64 tl, I] 56 (0, 0)) := by simpa using hV1.blk
  have hFb : Fr w wb bk gd := by rw [hwb]; exact H1.out.2.2.2.set gd 3 _ (.inr rfl)
  have hV3 : Vw wb wb w3 bk 47 us0 := (Vw.start hbk).step hV1.bel
  rw [hI] at hgd
  rw [hI] at hw3
  rw [← hw3, e10]
  have QV := Aside0.mk hV3
  have QS := Aside0.mk (And.intro hR1 H2.out.2.1)
  have QB := Aside0.mk (And.intro hgd hFb)
  clear hV0 hV1 hR1 hwb hw3 hbk hgd hFb hV3 hs4 hI H2 QR e10 k3 k3b z3b e0 e0' e1 hKn2 hk1 hk2
  go_loopg [16] n (fun kq v16 w' => ∃ (r1 c1 : Nat) (wv : World) (us : List Value), v16 = .int .i64 ((rk (bt1 l) f kq : Nat) : Int) ∧ Aside0 (r1 + c1 = kq ∧ kq ≤ n) ∧ Aside0 (RS wv w' g l f n r1 c1) ∧ Aside0 (Vw wb wv w' bk 47 us) ∧ Aside0 (Inv (bt1 l) f n kq us0 us) ∧ Aside0 (∀ u ∈ us, Sl u))
  case atStart => exact ⟨r, c, wb, us0, rfl, ⟨QS.out.2, Nat.le_refl _⟩, ⟨QS.out.1⟩, QV, ⟨inv_start _ _ _ _⟩, ⟨Q0.out.2.2⟩⟩
  case round =>
    obtain ⟨r1, c1, wv, us, rfl, HA, HS, HV, HI, HL⟩ := hrel
    clear QS QV
    have HN := Aside0.mk (nr_is g l f n r1 c1 wv wr HS.out HV.out.bel)
    have hle := nr_le (bt1 l) f gk
    have hrkS := nr_rk (bt1 l) f gk
    have hrle := rk_le (bt1 l) f (nrS (bt1 l) f gk)
    rw [HA.out.1] at HN
    obtain ⟨S, hS⟩ : ∃ S, S = nrS (bt1 l) f gk := ⟨_, rfl⟩
    obtain ⟨M, hM⟩ : ∃ M, M = nrN (bt1 l) f gk := ⟨_, rfl⟩
    obtain ⟨K, hK⟩ : ∃ K, K = rk (bt1 l) f S := ⟨_, rfl⟩
    rw [← hS] at HN hle hrkS hrle
    rw [← hM] at HN hle hrkS
    rw [← hK] at hrkS hrle
    rw [hrkS]
    have hgk : gk ≤ n := HA.out.2
    have hSi : (S : Int) ≤ 1000000 := by omega
    have hMi : (M : Int) ≤ 1000000 := by omega
    have hKi : (K : Int) ≤ 1000000 := by omega
    have hKM : ((K + M : Nat) : Int) - (M : Int) = (K : Int) := by omega
    have QSM := Aside0.mk (show S = nrS (bt1 l) f gk ∧ M = nrN (bt1 l) f gk ∧ K = rk (bt1 l) f S ∧ S + M ≤ gk ∧ K ≤ S from ⟨hS, hM, hK, by omega, hrle⟩)
    have hgl : gd < wv.heap.size := by rw [HV.out.size]; exact blk_lt QB.out.1
    have g2 := (HV.out.bel.block gd hgl).trans ((HV.out.far gd QG.out.2).trans QB.out.1)
    have k3 := blk_cell g2 3
    simp only [List.getElem?_toArray, List.getElem?_cons_succ, List.getElem?_cons_zero] at k3
    clear hS hM hK hle hrkS hrle hgk HS hgl g2
    go_wp2_with fail
    refine HN.out.mono ?_
    rintro e w4 ⟨rfl, r2, c2, ⟨h1, h2, h3⟩, h4⟩
    have H1b := Aside0.mk h1
    have HV2 := Aside0.mk (HV.out.step h2)
    have H4 := Aside0.mk h4
    clear h1 h2 h3 h4 HN HV k3
    by_cases hM0 : M = 0
    · subst hM0
      go_wp2
      refine bodyPost_ret (v := .tuple #[.int .i64 (n : Int), .nilIface]) (by simp [results, Tryd.results24, go_sem]) rfl ?_
      have hx := inv_none HI.out QSM.out.2.1.symm
      have hv := HV2.out.alloc (.cells #[.int .i64 (S : Int), .int .i64 0] 100)
      refine ⟨rfl, us, hv.now, hx.1.trans Q0.out.2.1, sp_of (vs := vs.drop K0) (by rw [← QK0.out, ← Q0.out.1]; exact hx), QB.out.2.trans (hv.fr gd)⟩
    have hM1 : ¬ ((M : Int) = 0) := by omega
    have hM2 : ((M : Int) == 0) = false := by simpa using hM1
    have hKM2 : (K : Int) + (M : Int) - (M : Int) = (K : Int) := by omega
    go_upto_region 17 with (fail)
    obtain ⟨W3, hW3⟩ : ∃ W3, W3 = w4.alloc (.cells #[.int .i64 (S : Int), .int .i64 (M : Int)] 100) := ⟨_, rfl⟩
    have a0 : W3.cell? ⟨w4.heap.size, 0, none⟩ = some (.int .i64 (S : Int)) := by rw [hW3]; exact blk_cell (blk_new w4 _) 0
    have a1 : W3.cell? ⟨w4.heap.size, 1, none⟩ = some (.int .i64 (M : Int)) := by rw [hW3]; exact blk_cell (blk_new w4 _) 1
    have HV3 : Vw wb wv W3 bk 47 us := by rw [hW3]; exact HV2.out.alloc _
    have H13 : RS wv W3 g l f n r2 c2 := by rw [hW3]; exact H1b.out.below (Below.alloc (Below.refl _ _) (Nat.le_refl _) _)
    rw [← hW3]
    have HV3 := Aside0.mk HV3
    have H13 := Aside0.mk H13
    clear hW3 H1b HV2
    have hs1 : (0 : Int) ≤ (S : Int) := Int.natCast_nonneg S
    have hs2 : (S : Int) ≤ (n : Int) := by have := QSM.out; have := HA.out; omega
    have hs3 : (n : Int) ≤ (cb : Int) := by have := Qn.out; omega
    have hs4 : (K : Int) + (M : Int) ≤ (cb : Int) := by have := QSM.out; have := HA.out; have := Qn.out; omega
    have hs5 : (K : Int) ≤ (K : Int) + (M : Int) := by omega
    have hs6 : S ≤ n := by omega
    have hs7 : n ≤ cb := by omega
    have hs8 : K + M ≤ cb := by omega
    have hs9 : ¬ cb = S := by have := QSM.out; have := HA.out; have := Qn.out; omega
    have hs10 : ¬ cb = K := by have := QSM.out; have := HA.out; have := Qn.out; omega
    have hs11 : ((K : Int) + (M : Int)).toNat = K + M := by omega
    have hs12 : K + M - K = M := by omega
    have hs13 : (0 : Int) ≤ (K : Int) + (M : Int) := by omega
    have hs14 : IntKind.i64.wrap ((K : Int) + (M : Int)) = (K : Int) + (M : Int) := IntWalk.i64_in _ (by omega)
    have hs15 : K ≤ K + M := by omega
    refine wp_region_still_tail 11 (by kernel_rfl) (by kernel_rfl) ?_
    simp only [List.take_succ_cons, List.take_zero, List.drop_succ_cons, List.drop_zero]
    change wpStill _ _ (World.drew W3) _ _ _
    repeat still_step
    refine wpStill_nil ?_
    change wpList _ _ _ _ _ (World.drew W3)
    refine op_copy rfl (.tmp 80) (.tmp 87) 92 92 47 rfl (by kernel_rfl) (by kernel_rfl) bk S K M (n - S) (cb - S) (cb - K) us rfl rfl HV3.out.now HL.out ?_ ?_ ?_ ?_
    · have := HI.out.1; have := Qn.out; have := Q0.out.2.1; omega
    · have := QSM.out; have := HA.out; omega
    · have := HI.out.1; have := Qn.out; have := QSM.out; have := HA.out; have := Q0.out.2.1; omega
    obtain ⟨seg, hseg⟩ : ∃ seg, seg = (us.drop K).take M := ⟨_, rfl⟩
    have hsl : seg.length = M := by rw [hseg, List.length_take, List.length_drop]; have := HI.out.1; have := Qn.out; have := QSM.out; have := HA.out; have := Q0.out.2.1; omega
    have HV3d : Vw wb wv W3.drew bk 47 us := HV3.out.step HV3.out.bel.drew
    have HV4 := sets_below HV3d S seg (by rw [hsl]; have := HI.out.1; have := Qn.out; have := QSM.out; have := HA.out; have := Q0.out.2.1; omega)
    have H14 := rs_sets HV3d HL.out H13.out.drew S seg
    have hmv : us.take S ++ seg ++ us.drop (S + seg.length) = moved us K S M := by rw [hsl, hseg]; rfl
    rw [hmv] at HV4
    rw [← hseg]
    generalize W3.drew.setCells bk S seg = W4 at *
    generalize wv.setCells bk S seg = wv4 at *
    have HV4 := Aside0.mk HV4
    have H14 := Aside0.mk H14
    clear hs1 hs2 hs3 hs4 hs5 hs6 hs7 hs8 hs9 hs10 hs11 hs12 hs13 hs14 hs15 a0 a1 hsl hmv HV3d hseg
    go_wp2
    go_roundg S
    case rel =>
      refine ⟨r2, c2, wv4, moved us K S M, ?_, ⟨H4.out.trans QSM.out.1.symm, ?_⟩, H14, HV4, ⟨?_⟩, ⟨moved_all HL.out _ _ _⟩⟩
      · rw [← QSM.out.2.2.1]
      · have := QSM.out; have := HA.out; omega
      · have h := inv_copy HI.out HA.out.2 (by have := HI.out.1; have := Qn.out; have := Q0.out.2.1; omega)
        rw [← QSM.out.1, ← QSM.out.2.1, ← QSM.out.2.2.1] at h
        exact h
    · have := QSM.out; omega
end F64
end Go.Proofs.YtpjaaonpbohkdaaDoor.QR
/- Decoders of numbers are made, and given their data; a number as a value. -/
namespace Go.Proofs.YtpjaaonpbohkdaaDoor.QR
open Go.RowKit Go.Proofs.YtpjaaonpbohkdaaDoorW.PrintWords Go.Proofs.YtpjaaonpbohkdaaDoorW.PrintLast Go.Proofs.YtpjaaonpbohkdaaDoorW.PrintMore
set_option linter.unusedVariables false
set_option linter.unusedSimpArgs false
namespace F64
def num (x : Int) : Int := ((ek x : Nat) : Int)
set_option maxHeartbeats 8000000 in
set_option maxRecDepth 100000 in
theorem val_is (x : Int) (w : World) : Calls Tryd.prog 25 #[mkv x] w fun e w' => e = .returned (.agg #[.bool false, .int .u64 (num x), .string ⟨#[]⟩, .slice none 0 0]) ∧ Below w.heap.size w w' := by
  have hf := f32_bits
  have hf2 := f64_bits
  have hn : num x = (fun x : Int => ((ek x : Nat) : Int)) x := rfl
  simp only at hn
  rw [hn]
  unfold mkv
  generalize ek x = v
  go_enter Tryd.func25, Tryd.ntmps25
  go_wp2
  refine bodyPost_ret (v := .agg #[.bool false, .int .u64 ((v : Int)), .string ⟨#[]⟩, .slice none 0 0]) (results_cell_row rfl _ _ w.heap.size 33 #[.bool false, .int .u64 ((v : Int)), .string ⟨#[]⟩, .slice none 0 0] (0, 0) _ rfl (blk_new w _) Tryd.underlying33 rfl (by kernel_rfl)) rfl ?_
  exact ⟨rfl, b2 w _⟩
set_option maxHeartbeats 8000000 in
set_option maxRecDepth 100000 in
theorem npd_is (w : World) : Calls Tryd.prog 20 #[] w fun e w' => ∃ g, e = .returned (.pointer (some ⟨g, 0, none⟩)) ∧ w.heap.size ≤ g ∧ w'.heap[g]? = some (.cells #[.int .i64 0, .slice none 0 0, .int .i64 0, .nilIface] 56 (0, 0)) ∧ Below w.heap.size w w' := by
  have Q := Aside0.mk (ndb_is w)
  go_enter Tryd.func20, Tryd.ntmps20
  go_wp2_with (go_at_call 45; refine Q.out.mono ?_; rintro e w1 ⟨rfl, hb⟩; have QB := Aside0.mk hb; clear hb)
  go_ret
  exact ⟨w1.heap.size, rfl, QB.out.size, blk_new w1 _, QB.out.alloc QB.out.size _⟩
set_option maxHeartbeats 8000000 in
set_option maxRecDepth 100000 in
theorem setd_is (g : Nat) (tl nv : Int) (A : Option Addr) (m c : Nat) (w : World) (v0 v1 : Value) (hg : w.heap[g]? = some (.cells #[v0, v1, .int .i64 tl, .nilIface] 56 (0, 0))) : Calls Tryd.prog 21 #[.pointer (some ⟨g, 0, none⟩), .int .i64 nv, .slice A m c] w fun e w' => e = .returned .nilIface ∧ w'.heap[g]? = some (.cells #[.int .i64 nv, .slice A m c, .int .i64 tl, .nilIface] 56 (0, 0)) ∧ Fr w w' g g := by
  have k0 := blk_cell hg 0
  have k1 := blk_cell hg 1
  have z0 := blk_frozen hg 0
  have z1 := blk_frozen hg 1
  simp only [List.getElem?_toArray, List.getElem?_cons_succ, List.getElem?_cons_zero] at k0 k1
  have Q := Aside0.mk hg
  clear hg
  go_enter Tryd.func21, Tryd.ntmps21
  go_wp2
  go_ret
  refine ⟨rfl, ?_, ((Fr.refl w g g).set g 1 _ (.inl rfl)).set g 0 _ (.inl rfl)⟩
  have h1 := blk_set Q.out 1 (.slice A m c)
  have h2 := blk_set h1 0 (.int .i64 nv)
  simpa using h2
end F64
end Go.Proofs.YtpjaaonpbohkdaaDoor.QR
