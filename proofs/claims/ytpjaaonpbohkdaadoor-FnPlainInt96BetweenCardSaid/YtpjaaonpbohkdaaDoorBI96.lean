/- One number of 96 bits read plainly: its width, its bytes. -/
import Derived.Test.YtpjaaonpbohkdaaDoorZA7
import Derived.Deep.MidRow
import Derived.BigQuiet
import Derived.BigRegion
import Derived.Deep.QuietTactic
import Derived.Test.YtpjaaonpbohkdaaDoorZA8
namespace Go.Proofs.YtpjaaonpbohkdaaDoor.QR
open Go.RowKit Go.Proofs.YtpjaaonpbohkdaaDoorW.PrintWords Go.Proofs.YtpjaaonpbohkdaaDoorW.PrintLast Go.Proofs.YtpjaaonpbohkdaaDoorW.PrintMore
set_option linter.unusedVariables false
set_option linter.unusedSimpArgs false
namespace I96
def zero : List Int := List.replicate 12 0
/-- The bytes of the number at place i. -/
def chunk (l : List Int) (i : Nat) : List Int := (l.drop (12 * i)).take 12
theorem chunk_len {l : List Int} {i : Nat} (h : 12 * i + 12 ≤ l.length) : (chunk l i).length = 12 := by unfold chunk; rw [List.length_take, List.length_drop]; omega
def agg12 (u : List Int) : Value := .agg (u.map (Value.int .u8)).toArray
set_option maxHeartbeats 8000000 in
set_option maxRecDepth 100000 in
theorem wo_is (w : World) : Calls Tryd.prog 77 #[] w fun e w' => e = .returned (.int .i64 12) ∧ Below w.heap.size w w' := by
  have as21 : ∀ (v : Value) (w : World), (Instr.typeAssert (.iface 78 v) 20 21 true).run Tryd.prog w = .ok (.tuple #[.int .i32 0, .bool false]) w := fun v w => by kernel_rfl
  have as85 : ∀ (v : Value) (w : World), (Instr.typeAssert (.iface 78 v) 20 85 true).run Tryd.prog w = .ok (.tuple #[.float .f32 0, .bool false]) w := fun v w => by kernel_rfl
  have as2 : ∀ (v : Value) (w : World), (Instr.typeAssert (.iface 78 v) 20 2 true).run Tryd.prog w = .ok (.tuple #[.int .i64 0, .bool false]) w := fun v w => by kernel_rfl
  have as47 : ∀ (v : Value) (w : World), (Instr.typeAssert (.iface 78 v) 20 47 true).run Tryd.prog w = .ok (.tuple #[.float .f64 0, .bool false]) w := fun v w => by kernel_rfl
  go_enter Tryd.func77, Tryd.ntmps77
  go_wp2
  go_ret
  exact ⟨rfl, (Below.refl w.heap.size w).alloc (Nat.le_refl _) _⟩
set_option maxHeartbeats 8000000 in
set_option maxRecDepth 100000 in
theorem rb_is (n : Nat) (hn : n ≤ 1000000) (w : World) : Calls Tryd.prog 66 #[.int .i64 (n : Int)] w fun e w' => e = .returned (.int .i64 ((12 * n : Nat) : Int)) ∧ Below w.heap.size w w' := by
  have Q := Aside0.mk (fun w => wo_is w)
  have hni : (n : Int) ≤ 1000000 := by omega
  have hm : (n : Int) * 12 = ((12 * n : Nat) : Int) := by omega
  have hw : IntKind.i64.wrap ((12 * n : Nat) : Int) = ((12 * n : Nat) : Int) := IntWalk.i64_in _ (by omega)
  clear hn
  go_enter Tryd.func66, Tryd.ntmps66
  go_wp2_with (go_at_call 77; refine (Q.out _).mono ?_; rintro e w' ⟨rfl, hb⟩; have QB := Aside0.mk hb; clear hb)
  go_ret
  first | exact ⟨rfl, QB.out⟩ | exact ⟨congrArg (fun x => Ending.returned (Value.int .i64 x)) (by omega), QB.out⟩
theorem zero_len : zero.length = 12 := rfl
theorem src_chunk {W : World} {ad : Addr} {l : List Int} {i : Nat} (hC : Cu W (some ad) l) (h : 12 * i + 12 ≤ l.length) : ∀ j v, (flatC [chunk l i])[j]? = some v → W.cell? ((ad.add (12 * i)).add j) = some v := by
  intro j v hv
  rw [flatC_one, List.getElem?_map] at hv
  unfold chunk at hv
  rw [List.getElem?_take] at hv
  split at hv
  · rename_i hj
    rw [List.getElem?_drop, List.getElem?_eq_getElem (by omega)] at hv
    obtain ⟨ad2, e, h3⟩ := Kd.at_int hC ((12 * i + j : Nat) : Int) (by omega) (by omega)
    cases e
    rw [add_add, show 12 * i + j = ((12 * i + j : Nat) : Int).toNat by rfl, h3]
    have : rd l ((12 * i + j : Nat) : Int) = l[12 * i + j]'(by omega) := by
      unfold rd
      rw [Int.toNat_natCast, List.getD_eq_getElem?_getD, List.getElem?_eq_getElem (by omega)]
      rfl
    rw [this]
    exact hv
  · cases hv
theorem op_copy_eq {P : Program} {ops : Array Oper} {rest : List Oper} {o : Oper} {a : Act} {Q : Exit → Act → World → Prop} {W W' : World} (hgd : o.guard = none) (s x : Operand) (t t' : TypeId)
    (ho : o.op = .call { callee := .builtin .copy, args := #[s, x], argTypes := #[t, t'] }) (v1 v2 r : Value) (hs : a.eval s = v1) (hx : a.eval x = v2)
    (hr : (Builtin.copy_ #[t, t'] o.type #[v1, v2]).run P W = .ok r W')
    (h : wpList P ops Q rest (a.put o.dst r) W') : wpList P ops Q (o :: rest) a W := by
  refine wpList_plain hgd fun K' hK => ?_
  unfold Oper.wp execOp
  simp only [ho, resolve, invoke, builtin, Sem.run_bind, Sem.run_pure, Result.andThen_ok, List.map_toArray, List.map_cons, List.map_nil, hs, hx, hr]
  exact hK _ _ h
set_option maxHeartbeats 8000000 in
set_option maxRecDepth 100000 in
theorem gv_is (A : Option Addr) (l : List Int) (c i : Nat) (w : World) (hC : Cu w A l) (hc : l.length ≤ c) (hl : l.length ≤ 1000000) (hi : 12 * i + 12 ≤ l.length) :
    Calls Tryd.prog 86 #[.slice A l.length c, .int .i64 (i : Int)] w fun e w' => e = .returned (agg12 (chunk l i)) ∧ Below w.heap.size w w' := by
  have ap146 : ∀ (p : Addr) (w : World), (Instr.typeAssert (.iface 155 (.pointer (some p))) 20 146 true).run Tryd.prog w = .ok (.tuple #[.pointer none, .bool false]) w := fun p w => by kernel_rfl
  have ap150 : ∀ (p : Addr) (w : World), (Instr.typeAssert (.iface 155 (.pointer (some p))) 20 150 true).run Tryd.prog w = .ok (.tuple #[.pointer none, .bool false]) w := fun p w => by kernel_rfl
  have ap152 : ∀ (p : Addr) (w : World), (Instr.typeAssert (.iface 155 (.pointer (some p))) 20 152 true).run Tryd.prog w = .ok (.tuple #[.pointer none, .bool false]) w := fun p w => by kernel_rfl
  have ap145 : ∀ (p : Addr) (w : World), (Instr.typeAssert (.iface 155 (.pointer (some p))) 20 145 true).run Tryd.prog w = .ok (.tuple #[.pointer none, .bool false]) w := fun p w => by kernel_rfl
  have ap155 : ∀ (p : Addr) (w : World), (Instr.typeAssert (.iface 155 (.pointer (some p))) 20 155 true).run Tryd.prog w = .ok (.tuple #[.pointer (some p), .bool true]) w := fun p w => by kernel_rfl
  obtain ⟨ad, rfl, _⟩ := hC.2.2 (by omega)
  have hii : (i : Int) ≤ 1000000 := by omega
  have QC := Aside0.mk hC
  have Qh := Aside0.mk (show l.length ≤ c ∧ 12 * i + 12 ≤ l.length from ⟨hc, hi⟩)
  obtain ⟨n, hn⟩ : ∃ n, n = l.length := ⟨_, rfl⟩
  rw [← hn] at hc hl hi ⊢
  have Qn := Aside0.mk hn
  obtain ⟨m, hm⟩ : ∃ m, m = 12 * i := ⟨_, rfl⟩
  have Qm := Aside0.mk hm
  have h1 : ((12 : Int) * (i : Int)) = (m : Int) := by omega
  have h2 : (m : Int) ≤ (n : Int) := by omega
  have h3 : IntKind.i64.wrap (m : Int) = (m : Int) := IntWalk.i64_in _ (by omega)
  have h4 : (n : Int) ≤ (c : Int) := by omega
  have h5 : ¬ c = m := by omega
  have h6 : ¬ (c - m = 0) := by omega
  have h8 : m ≤ n := by omega
  clear hC hn hl hi hm
  go_enter Tryd.func86, Tryd.ntmps86
  go_upto_region 16 with (fail)
  obtain ⟨W1, hW1⟩ : ∃ W1, W1 = w.alloc (.cells (flatC [zero]).toArray 78) := ⟨_, rfl⟩
  have g1 : W1.heap[w.heap.size]? = some (.cells (flatC [zero]).toArray 78 (0, 0)) := by rw [hW1]; exact blk_new w _
  have hb1 : Below w.heap.size w W1 := by rw [hW1]; exact (Below.refl w.heap.size w).alloc (Nat.le_refl _) _
  have hW1' : w.alloc (.cells #[.int .u8 0, .int .u8 0, .int .u8 0, .int .u8 0, .int .u8 0, .int .u8 0, .int .u8 0, .int .u8 0, .int .u8 0, .int .u8 0, .int .u8 0, .int .u8 0] 78) = W1 := hW1.symm
  rw [hW1']
  clear hW1 hW1'
  have G1 := Aside0.mk g1
  have B1 := Aside0.mk hb1
  clear g1 hb1
  refine wp_region_still_tail 7 (by kernel_rfl) (by kernel_rfl) ?_
  simp only [List.take_succ_cons, List.take_zero, List.drop_succ_cons, List.drop_zero]
  change wpStill _ _ (World.drew W1) _ _ _
  repeat still_step
  refine wpStill_nil ?_
  change wpList _ _ _ _ _ (World.drew W1)
  have hcp := run_copy_cells (P := Tryd.prog) W1.drew 23 23 3 5 w.heap.size 0 12 12 (ad.add m) (n - m) (c - m) (flatC [chunk l i]) (by kernel_rfl) (by kernel_rfl)
    (by rw [flatC_one, List.length_map, chunk_len Qh.out.2]; have := Qh.out; have := Qn.out; have := Qm.out; exact (Nat.min_eq_right (by omega)).symm)
    (by rw [Qm.out]; exact src_chunk (Kd.C_below QC.out B1.out.drew) Qh.out.2)
    (fun j hj => by
      rw [flatC_one, List.length_map, chunk_len Qh.out.2] at hj
      rw [blk_cell (show W1.drew.heap[w.heap.size]? = _ from G1.out), List.getElem?_toArray, List.getElem?_eq_getElem (by rw [flatC_one, List.length_map, zero_len]; omega)]; rfl)
    (fun j _ => blk_frozen (show W1.drew.heap[w.heap.size]? = _ from G1.out) _) (flatC_one' _)
  refine op_copy_eq rfl (.tmp 64) (.tmp 68) 23 23 rfl (.slice (some ⟨w.heap.size, 0, none⟩) 12 12) (.slice (some (ad.add m)) (n - m) (c - m)) _ rfl rfl hcp ?_
  have hV := sets_below (Vw.start (show W1.drew.heap[w.heap.size]? = _ from G1.out)) 0 (flatC [chunk l i]) (by rw [flatC_one, flatC_one, List.length_map, List.length_map, chunk_len Qh.out.2, zero_len]; omega)
  rw [show (flatC [zero]).take 0 ++ flatC [chunk l i] ++ (flatC [zero]).drop (0 + (flatC [chunk l i]).length) = flatC [chunk l i] by
    rw [List.take_zero, List.nil_append, List.drop_eq_nil_of_le (by rw [flatC_one, flatC_one, List.length_map, List.length_map, chunk_len Qh.out.2, zero_len]; omega), List.append_nil]] at hV
  have hl12 : (flatC [chunk l i]).length = 12 := by rw [flatC_one, List.length_map, chunk_len Qh.out.2]
  obtain ⟨C, hC⟩ : ∃ C, C = flatC [chunk l i] := ⟨_, rfl⟩
  have hagg : agg12 (chunk l i) = .agg C.toArray := by rw [hC, flatC_one]; rfl
  have Qagg := Aside0.mk hagg
  rw [← hC] at hV hl12 hcp ⊢
  have h1C : ∀ v ∈ C, v.oneCell' = true := by rw [hC]; exact flatC_one' _
  have hB2 : Below w.heap.size w (W1.drew.setCells w.heap.size 0 C) := B1.out.drew.trans ((hV.below (B := w.heap.size) (Nat.le_refl _)).mono (Nat.le_refl _))
  generalize W1.drew.setCells w.heap.size 0 C = W2 at hV hB2 ⊢
  have g2 := hV.now
  have hrg : W2.rangeAt w.heap.size 0 C := fun j v hv => (blk_cell g2 (0 + j)).trans (by simpa using hv)
  have hth : W2.there w.heap.size 0 C.toArray.size := fun j hj => ⟨by rw [blk_cell g2]; simp at hj ⊢; omega, blk_frozen g2 _⟩
  have hV3 := sets_below (Vw.start g2) 0 C (by omega)
  rw [show C.take 0 ++ C ++ C.drop (0 + C.length) = C by rw [List.take_zero, List.nil_append, List.drop_eq_nil_of_le (by omega), List.append_nil]] at hV3
  have hB3 : Below w.heap.size w (W2.setCells w.heap.size 0 C) := hB2.trans ((hV3.below (B := w.heap.size) (Nat.le_refl _)).mono (Nat.le_refl _))
  have Q3 := Aside0.mk (And.intro hV3.now (And.intro hB3 hl12))
  have QL := Aside0.mk (And.intro hrg (And.intro hth h1C))
  clear hV hcp hC hagg hB2 g2 hV3 hB3 G1 B1 hl12 hrg hth h1C
  go_upto_region 17 with (fail)
  refine wp_region_lit ?_
  refine wpList_load_mid rfl 78 (.tmp 4) rfl w.heap.size 0 rfl C (.array 12 5) QL.out.1 (by kernel_rfl) rfl (by rw [Q3.out.2.2]; kernel_rfl) ?_
  refine wpList_store_mid rfl 78 (.tmp 4) (.tmp 70) rfl w.heap.size 0 C.toArray rfl rfl QL.out.2.1 (by rw [List.size_toArray, Q3.out.2.2]; kernel_rfl) (all_oneCell_toArray QL.out.2.2) ?_
  rw [show C.toArray.toList = C from rfl]
  generalize W2.setCells w.heap.size 0 C = W3 at Q3 ⊢
  clear QL
  go_wp2
  refine bodyPost_ret (v := .agg C.toArray) (results_cell_row rfl _ _ w.heap.size 78 C.toArray (0, 0) (.array 12 5) rfl Q3.out.1 (by kernel_rfl) rfl (by rw [List.size_toArray, Q3.out.2.2]; kernel_rfl)) rfl ?_
  exact ⟨congrArg Ending.returned Qagg.out.symm, Q3.out.2.1⟩
end I96
end Go.Proofs.YtpjaaonpbohkdaaDoor.QR
/- Numbers of 96 bits read plainly into a row: fromBytes. -/
namespace Go.Proofs.YtpjaaonpbohkdaaDoor.QR
open Go.RowKit Go.Proofs.YtpjaaonpbohkdaaDoorW.PrintWords Go.Proofs.YtpjaaonpbohkdaaDoorW.PrintLast Go.Proofs.YtpjaaonpbohkdaaDoorW.PrintMore
set_option linter.unusedVariables false
set_option linter.unusedSimpArgs false
namespace I96
/-- The first m values of a row of bytes. -/
def els (l : List Int) (m : Nat) : List (List Int) := (List.range m).map fun i => chunk l i
theorem els_len (l : List Int) (m : Nat) : (els l m).length = m := by simp [els]
theorem els_12 (l : List Int) (m : Nat) (h : 12 * m ≤ l.length) : all12 (els l m) := by
  intro u hu
  obtain ⟨i, hi, rfl⟩ := List.mem_map.1 hu
  have h2 : i < m := List.mem_range.1 hi
  have h3 : 12 * (i + 1) ≤ 12 * m := Nat.mul_le_mul_left _ h2
  exact chunk_len (by omega)
theorem zeros_12 (n : Nat) : all12 (List.replicate n zero) := fun u hu => by rw [List.eq_of_mem_replicate hu]; rfl
def rowAt (l : List Int) (m i : Nat) : List (List Int) := els l i ++ List.replicate (m - i) zero
theorem rowAt_len {l : List Int} {m i : Nat} (h : i ≤ m) : (rowAt l m i).length = m := by unfold rowAt; rw [List.length_append, els_len, List.length_replicate]; omega
theorem rowAt_12 {l : List Int} {m i : Nat} (h : 12 * m ≤ l.length) (hi : i ≤ m) : all12 (rowAt l m i) := by
  have h3 : 12 * i ≤ 12 * m := Nat.mul_le_mul_left _ hi
  exact all12_app (els_12 l i (by omega)) (zeros_12 _)
theorem rowAt_zero (l : List Int) (m : Nat) : rowAt l m 0 = List.replicate m zero := by simp [rowAt, els]
theorem rowAt_end (l : List Int) (m : Nat) : rowAt l m m = els l m := by simp [rowAt]
theorem rowAt_put {l : List Int} {m i : Nat} (h : i < m) : (rowAt l m i).take i ++ [chunk l i] ++ (rowAt l m i).drop (i + 1) = rowAt l m (i + 1) := by
  unfold rowAt
  rw [List.take_append_of_le_length (by rw [els_len]; exact Nat.le_refl _), List.take_of_length_le (by rw [els_len]; exact Nat.le_refl _), List.drop_append, List.drop_eq_nil_of_le (by rw [els_len]; omega), els_len, List.nil_append, List.drop_replicate, show m - i - (i + 1 - i) = m - (i + 1) by omega]
  simp [els, List.range_succ]
theorem infoE : (Tryd.prog.info? 78).map (fun i => (i.zero, i.size, i.bytes)) = some (some (agg12 zero), 12, 12) := by kernel_rfl
theorem rep_flat : ∀ n : Nat, flatC (List.replicate n zero) = List.replicate (n * 12) (.int .u8 0)
  | 0 => rfl
  | k + 1 => by
    rw [List.replicate_succ, show (zero :: List.replicate k zero) = [zero] ++ List.replicate k zero from rfl, flatC_app, rep_flat k, show flatC [zero] = List.replicate 12 (.int .u8 0) from rfl, List.replicate_append_replicate, show 12 + k * 12 = (k + 1) * 12 by omega]
theorem zero12 : ∀ i : Fin 12, (flatC [zero]).toArray[i.1]! = .int .u8 0
  | 0 => rfl | 1 => rfl | 2 => rfl | 3 => rfl | 4 => rfl | 5 => rfl | 6 => rfl | 7 => rfl | 8 => rfl | 9 => rfl | 10 => rfl | 11 => rfl
theorem made_is (n : Nat) : madeCells (flatC [zero]).toArray (n * 12) = (flatC (List.replicate n zero)).toArray := by
  rw [rep_flat, ← Array.toList_inj]
  apply List.ext_getElem
  · simp [madeCells]
  · intro i h1 h2
    have := zero12 ⟨i % 12, Nat.mod_lt _ (by decide)⟩
    simp only [madeCells, Array.getElem_toList, Array.getElem_map, Array.getElem_range]
    rw [show (flatC [zero]).toArray.size = 12 from rfl]
    simp only at this
    rw [this]
    simp
theorem make_is (m : Nat) (hm : m * 12 ≤ 281474976710656) : ∀ W : World, (Instr.makeSlice 112 (.int .i64 (m : Int)) (.int .i64 (m : Int))).run Tryd.prog W = .ok (.slice (some ⟨W.heap.size, 0, none⟩) m m) (W.alloc (.cells (flatC (List.replicate m zero)).toArray 78)) := by
  intro W
  have hi := infoE
  cases hq : Tryd.prog.info? 78 with
  | none => simp [hq] at hi
  | some i =>
    rw [hq] at hi
    simp only [Option.map_some, Option.some.injEq, Prod.mk.injEq] at hi
    obtain ⟨h1, h2, h3⟩ := hi
    have h := run_make (P := Tryd.prog) W 112 78 i (agg12 zero) (by kernel_rfl) hq h1 .i64 .i64 (m : Int) (m : Int) (by omega) (Int.le_refl _) (by rw [h3]; omega) (by omega)
    rw [Int.toNat_natCast, h2] at h
    rw [h, ← made_is]
    rfl
theorem gate_op {P : Program} {ops : Array Oper} {rest : List Oper} {o : Oper} {a : Act} {Q : Exit → Act → World → Prop} {W : World} {x : Op} (_ho : o.op = x) (h : wpList P ops Q (o :: rest) a W) : wpList P ops Q (o :: rest) a W := h
theorem agg_cells (u : List Int) : agg12 u = .agg (flatC [u]).toArray := by rw [flatC_one]; rfl
set_option maxHeartbeats 8000000 in
set_option maxRecDepth 100000 in
theorem fb_is (A : Option Addr) (l : List Int) (c m : Nat) (w : World) (hC : Cu w A l) (hc : l.length ≤ c) (hl : l.length ≤ 1000000) (hm : l.length = 12 * m) :
    Calls Tryd.prog 78 #[.slice A l.length c] w fun e w' => ∃ g, e = .returned (.slice (some ⟨g, 0, none⟩) m m) ∧ w.heap.size ≤ g ∧ w'.heap[g]? = some (.cells (flatC (els l m)).toArray 78 (0, 0)) ∧ Below w.heap.size w w' := by
  have hmk := make_is m (by omega)
  have QR := Aside0.mk (fun w => rb_is 1 (by omega) w)
  have QC := Aside0.mk hC
  have Qh := Aside0.mk (show l.length ≤ c ∧ l.length = 12 * m ∧ l.length ≤ 1000000 from ⟨hc, hm, hl⟩)
  obtain ⟨n, hn⟩ : ∃ n, n = l.length := ⟨_, rfl⟩
  rw [← hn] at hc hl hm ⊢
  have Qn := Aside0.mk hn
  have hq : Int.tdiv (n : Int) 12 = (m : Int) := by rw [Int.tdiv_eq_ediv_of_nonneg (by omega)]; omega
  have hmi : (m : Int) ≤ 1000000 := by omega
  clear hC hn hc hm hl
  go_enter Tryd.func78, Tryd.ntmps78
  go_upto_region 2 with (go_at_call 66; refine (QR.out _).mono ?_; rintro e w0 ⟨rfl, hb⟩; have QB0 := Aside0.mk hb; clear hb)
  obtain ⟨W1, hW1⟩ : ∃ W1, W1 = w0.alloc (.cells (flatC (List.replicate m zero)).toArray 78) := ⟨_, rfl⟩
  have g1 : W1.heap[w0.heap.size]? = some (.cells (flatC (rowAt l m 0)).toArray 78 (0, 0)) := by rw [hW1, rowAt_zero]; exact blk_new w0 _
  have hb1 : Below w.heap.size w W1 := by rw [hW1]; exact QB0.out.alloc QB0.out.size _
  obtain ⟨g, hg⟩ : ∃ g, g = w0.heap.size := ⟨_, rfl⟩
  rw [← hg] at g1
  rw [← hW1, ← hg]
  have Qg := Aside0.mk (show w.heap.size ≤ g by rw [hg]; exact QB0.out.size)
  clear hW1 hmk hq QR hg QB0
  have G1 := Aside0.mk g1
  have B1 := Aside0.mk hb1
  clear g1 hb1
  go_wp2_with fail
  go_loopg [12] m (fun kq v12 w' => ∃ i : Nat, v12 = .int .i64 (i : Int) ∧ Aside0 (i + kq = m) ∧ Aside0 (w'.heap[g]? = some (.cells (flatC (rowAt l m i)).toArray 78 (0, 0))) ∧ Aside0 (Below w.heap.size w w'))
  case atStart => exact ⟨0, rfl, ⟨by omega⟩, G1, B1⟩
  case round =>
    obtain ⟨i, rfl, HA, HG, HB⟩ := hrel
    clear G1 B1
    rcases Nat.eq_zero_or_pos gk with h0 | h0
    · have hi : ((i : Int) < (m : Int)) = False := by have := HA.out; simp; omega
      go_wp2
      go_ret
      obtain rfl : i = m := by have := HA.out; omega
      exact ⟨g, rfl, Qg.out, by rw [← rowAt_end]; exact HG.out, HB.out⟩
    · have hi : (i : Int) < (m : Int) := by have := HA.out; omega
      have hi2 : i < m := by omega
      have QI := Aside0.mk hi2
      obtain ⟨k1, rfl⟩ : ∃ k1, gk = k1 + 1 := ⟨gk - 1, by omega⟩
      have QV := Aside0.mk (gv_is A l c i wr (Kd.C_below QC.out HB.out) Qh.out.1 Qh.out.2.2 (by
        have := Qh.out.2.1
        have h2 : 12 * (i + 1) ≤ 12 * m := Nat.mul_le_mul_left _ hi2
        omega))
      rw [← Qn.out, agg_cells] at QV
      have Q12 := Aside0.mk (show all12 (rowAt l m i) ∧ (rowAt l m i).length = m ∧ (chunk l i).length = 12 from ⟨rowAt_12 (by have := Qh.out; omega) (Nat.le_of_lt hi2), rowAt_len (Nat.le_of_lt hi2), chunk_len (by
        have := Qh.out.2.1
        have h2 : 12 * (i + 1) ≤ 12 * m := Nat.mul_le_mul_left _ hi2
        omega)⟩)
      have hcl : (flatC [chunk l i]).length = 12 := by rw [flatC_one, List.length_map, Q12.out.2.2]
      obtain ⟨C, hC⟩ : ∃ C, C = flatC [chunk l i] := ⟨_, rfl⟩
      rw [← hC] at QV hcl
      have QCC := Aside0.mk (And.intro hC hcl)
      clear h0 hC hcl
      go_wp2_with (first | (go_at_call 86; refine QV.out.mono ?_; rintro e w2 ⟨rfl, hb⟩; have g2 := (hb.block g (blk_lt HG.out)).trans HG.out; have G2 := Aside0.mk g2; have B2 := Aside0.mk (HB.out.trans (hb.mono HB.out.size)); clear hb g2 HG HB QV) | ((with_reducible refine gate_op (x := .store 78 (.tmp 20) (.tmp 19)) rfl ?_); refine wpList_store_mid rfl 78 (.tmp 20) (.tmp 19) rfl g (12 * i) C.toArray (by first | rfl | (show Value.pointer _ = _; simp [Addr.add]; done) | (show Value.pointer _ = _; simp [Addr.add, Nat.mul_comm])) rfl (fun j hj => ⟨by rw [blk_cell G2.out, List.getElem?_toArray, List.getElem?_eq_getElem (by rw [flatC_len Q12.out.1, Q12.out.2.1]; rw [List.size_toArray, QCC.out.2] at hj; have := QI.out; omega)]; rfl, blk_frozen G2.out _⟩) (by rw [List.size_toArray, QCC.out.2]; kernel_rfl) (all_oneCell_toArray (by rw [QCC.out.1]; exact flatC_one' _)) ?_))
      have hV := sets_belowN (Vw.start G2.out) Q12.out.1 i [chunk l i] (by intro u hu; rw [List.mem_singleton.1 hu]; exact Q12.out.2.2) (by rw [Q12.out.2.1]; have := QI.out; show i + 1 ≤ m; omega)
      rw [show (rowAt l m i).take i ++ [chunk l i] ++ (rowAt l m i).drop (i + [chunk l i].length) = rowAt l m (i + 1) from rowAt_put QI.out, ← QCC.out.1] at hV
      have B3 := Aside0.mk (B2.out.trans ((hV.below (B := w.heap.size) Qg.out).mono (Nat.le_refl _)))
      have G3 := Aside0.mk hV.now
      generalize w2.setCells g (12 * i) C = w3 at B3 G3 ⊢
      clear hV
      go_roundg k1
      case rel => exact ⟨i + 1, rfl, ⟨by have := HA.out; omega⟩, G3, B3⟩
      · omega
end I96
end Go.Proofs.YtpjaaonpbohkdaaDoor.QR
/- Numbers of 96 bits read plainly into a row: copyFrom; Decode. -/
namespace Go.Proofs.YtpjaaonpbohkdaaDoor.QR
open Go.RowKit Go.Proofs.YtpjaaonpbohkdaaDoorW.PrintWords Go.Proofs.YtpjaaonpbohkdaaDoorW.PrintLast Go.Proofs.YtpjaaonpbohkdaaDoorW.PrintMore
set_option linter.unusedVariables false
set_option linter.unusedSimpArgs false
namespace I96
set_option maxHeartbeats 8000000 in
set_option maxRecDepth 100000 in
theorem cf_is (bk cb : Nat) (us : List (List Int)) (A : Option Addr) (l : List Int) (c m : Nat) (w : World) (hb : w.heap[bk]? = some (.cells (flatC us).toArray 78 (0, 0))) (ha : all12 us) (hmu : m ≤ us.length) (hC : Cu w A l) (hc : l.length ≤ c) (hl : l.length ≤ 1000000) (hm : l.length = 12 * m) :
    Calls Tryd.prog 67 #[.slice (some ⟨bk, 0, none⟩) m cb, .slice A l.length c] w fun e w' => e = .returned (.tuple #[]) ∧ ∃ wv, Vw w wv w' bk 78 (flatC (els l m ++ us.drop m)) := by
  have QF := Aside0.mk (fb_is A l c m w hC hc hl hm)
  have QV := Aside0.mk (Vw.start hb)
  have Qm := Aside0.mk (And.intro hmu (And.intro ha (show 12 * m ≤ l.length by omega)))
  obtain ⟨n, hn⟩ : ∃ n, n = l.length := ⟨_, rfl⟩
  rw [← hn] at QF ⊢
  clear hb hmu ha hC hc hl hm hn
  go_enter Tryd.func67, Tryd.ntmps67
  go_wp2_with (go_at_call 78; refine QF.out.mono ?_; rintro e w1 ⟨g, rfl, h1, h2, h3⟩; have V1 := Aside0.mk (QV.out.step h3); have hcp := copyz (P := Tryd.prog) 112 112 3 (by kernel_rfl) (by kernel_rfl) bk 0 m cb m m ⟨g, 0, none⟩ us (els l m) V1.out.now Qm.out.2.1 (els_12 l m Qm.out.2.2) (fun j v hv => by rw [show (Addr.add ⟨g, 0, none⟩ j : Addr) = ⟨g, 0 + j, none⟩ by rw [Nat.zero_add]; simp [Addr.add]; exact fun h => h.symm]; exact (blk_cell h2 (0 + j)).trans (by simpa using hv)) (els_len l m).symm (Nat.le_refl _) (by have := Qm.out; omega); clear h1 h2 h3)
  go_end0
  refine ⟨rfl, w.setCells bk (12 * 0) (flatC (els l m)), ?_⟩
  have h := sets_belowN V1.out Qm.out.2.1 0 (els l m) (els_12 l m Qm.out.2.2) (by rw [els_len]; have := Qm.out; omega)
  rw [els_len, List.take_zero, List.nil_append, Nat.zero_add] at h
  exact h
/-- What a decoder that reads plainly holds: how many values, what is left to read; no reader yet. -/
def Dc (w : World) (gd nv : Nat) (tl : Int) (D : List Int) : Prop := ∃ A c, w.heap[gd]? = some (.cells #[.int .i64 (nv : Int), .slice A D.length c, .int .i64 tl, .nilIface] 79 (0, 0)) ∧ D.length ≤ c ∧ Cu w A D
theorem rd_take {l : List Int} {N : Nat} {k : Nat} (h : k < N) : rd (l.take N) ((k : Nat) : Int) = rd l ((k : Nat) : Int) := by
  unfold rd
  rw [Int.toNat_natCast, List.getD_eq_getElem?_getD, List.getD_eq_getElem?_getD, List.getElem?_take, if_pos h]
theorem els_take (l : List Int) (m : Nat) : els (l.take (12 * m)) m = els l m := by
  unfold els
  apply List.map_congr_left
  intro i hi
  have hi2 : i < m := List.mem_range.1 hi
  have h2 : 12 * (i + 1) ≤ 12 * m := Nat.mul_le_mul_left _ hi2
  unfold chunk
  rw [List.drop_take, List.take_take, show min 12 (12 * m - 12 * i) = 12 by omega]
set_option maxHeartbeats 8000000 in
set_option maxRecDepth 100000 in
theorem dec_is (gd bk m cb nv : Nat) (tl : Int) (D : List Int) (vs : List (List Int)) (w : World) (hb : w.heap[bk]? = some (.cells (flatC vs).toArray 78 (0, 0))) (hne : gd ≠ bk) (ha : all12 vs) (hD : Dc w gd nv tl D)
    (hmv : m ≤ vs.length) (hmb : m ≤ cb) (hmn : m ≤ nv) (hm : 12 * m ≤ D.length) (hnv : nv ≤ 1000000) (hlen : D.length ≤ 1000000)  :
    Calls Tryd.prog 56 #[.pointer (some ⟨gd, 0, none⟩), .slice (some ⟨bk, 0, none⟩) m cb] w fun e w' => e = .returned (.tuple #[.int .i64 (m : Int), .nilIface]) ∧ w'.heap[bk]? = some (.cells (flatC (els D m ++ vs.drop m)).toArray 78 (0, 0)) ∧ (∃ v0 v1, w'.heap[gd]? = some (.cells #[.int .i64 v0, v1, .int .i64 tl, .nilIface] 79 (0, 0)) ∧ Sl v1) ∧ Fr w w' bk gd := by
  have hmm : min (m : Int) (nv : Int) = (m : Int) := by omega
  obtain ⟨A, c, hg, hc, hC⟩ := hD
  have Qg := Aside0.mk hg
  have k0 := blk_cell hg 0
  have k1 := blk_cell hg 1
  have z0 := blk_frozen hg 0
  have z1 := blk_frozen hg 1
  simp only [List.getElem?_toArray, List.getElem?_cons_succ, List.getElem?_cons_zero] at k0 k1
  have QR := Aside0.mk (fun w => rb_is m (by omega) w)
  have Qh := Aside0.mk (show m ≤ vs.length ∧ m ≤ cb ∧ gd ≠ bk ∧ 12 * m ≤ D.length ∧ D.length ≤ c ∧ all12 vs ∧ D.length ≤ 1000000 ∧ nv ≤ 1000000 from ⟨hmv, hmb, hne, hm, hc, ha, hlen, hnv⟩)
  have Qb := Aside0.mk hb
  have QC := Aside0.mk hC
  obtain ⟨N, hN⟩ : ∃ N, N = 12 * m := ⟨_, rfl⟩
  rw [← hN] at QR
  have QN := Aside0.mk hN
  obtain ⟨dl, hdl⟩ : ∃ dl, dl = D.length := ⟨_, rfl⟩
  rw [← hdl] at k1
  have Qdl := Aside0.mk hdl
  have hmn2 : (m : Int) ≤ (nv : Int) := by omega
  have e1 : ((dl : Int) < (N : Int)) = False := by simp; omega
  have e2 : ((2147483647 : Int) < (N : Int)) = False := by simp; omega
  have e1' : decide ((dl : Int) < (N : Int)) = false := decide_eq_false (by omega)
  have e2' : decide ((2147483647 : Int) < (N : Int)) = false := decide_eq_false (by omega)
  have e3 : (m : Int) ≤ (cb : Int) := by omega
  have e4 : (N : Int) ≤ (c : Int) := by omega
  have e5 : N ≤ c := by omega
  have e6 : (N : Int) ≤ (dl : Int) := by omega
  have e7 : (dl : Int) ≤ (c : Int) := by omega
  have e8 : (nv : Int) ≤ 1000000 := by omega
  clear hb hne ha hg hC hmv hmb hmn hm hnv hlen hc hN hdl
  go_enter Tryd.func56, Tryd.ntmps56
  go_upto_region 5 with (go_at_call 66; refine (QR.out _).mono ?_; rintro e w0 ⟨rfl, hb0⟩; have B0 := Aside0.mk hb0; have g0 := (hb0.block gd (blk_lt Qg.out)).trans Qg.out; have n0 := blk_cell g0 0; have n1 := blk_cell g0 1; have y0 := blk_frozen g0 0; have y1 := blk_frozen g0 1; simp only [List.getElem?_toArray, List.getElem?_cons_succ, List.getElem?_cons_zero] at n0 n1; have G0 := Aside0.mk g0; have Qb0 := Aside0.mk ((hb0.block bk (blk_lt Qb.out)).trans Qb.out); rw [← Qdl.out] at n1; clear hb0 g0)
  refine wp_region_still_tail 10 (by kernel_rfl) (by kernel_rfl) ?_
  simp only [List.take_succ_cons, List.take_zero, List.drop_succ_cons, List.drop_zero]
  change wpStill _ _ (World.drew w0) _ _ _
  repeat still_step
  refine wpStill_nil ?_
  change wpList _ _ _ _ _ (World.drew w0)
  have hlt : (D.take N).length = N := by rw [List.length_take]; have := Qh.out; have := QN.out; omega
  have hCF := cf_is bk cb vs A (D.take N) c m w0.drew (show w0.drew.heap[bk]? = some (.cells (flatC vs).toArray 78 (0, 0)) from Qb0.out) Qh.out.2.2.2.2.2.1 Qh.out.1 (by
      have h := Kd.C_take (show Kd.C (Kd.int .u8) w0.drew A D.length D from Kd.C_below QC.out B0.out.drew) (m := N) (by have := Qh.out; have := QN.out; omega)
      exact h) (by rw [hlt]; exact e5) (by rw [hlt]; have := Qh.out; have := QN.out; omega) (by rw [hlt]; exact QN.out)
  rw [hlt, show els (D.take N) m = els D m by rw [QN.out]; exact els_take D m] at hCF
  have QF := Aside0.mk hCF
  clear hCF hlt k0 k1 z0 z1 n0 n1 y0 y1
  go_upto_region 6 with (go_at_call 67; refine QF.out.mono ?_; rintro e w2 ⟨rfl, wv, hv⟩; have V2 := Aside0.mk (show Vw w0 wv w2 bk 78 (flatC (els D m ++ vs.drop m)) from ⟨hv.size, hv.blk, hv.far, hv.os, hv.tape, hv.output, hv.bel⟩); clear hv)
  have hgl : gd < wv.heap.size := by rw [V2.out.size]; exact blk_lt G0.out
  have g2 : w2.heap[gd]? = some (.cells #[.int .i64 (nv : Int), .slice A dl c, .int .i64 tl, .nilIface] 79 (0, 0)) := by
    have h := (V2.out.bel.block gd hgl).trans ((V2.out.far gd Qh.out.2.2.1).trans G0.out)
    rw [Qdl.out]; exact h
  have k0 := blk_cell g2 0
  have k1 := blk_cell g2 1
  have z0 := blk_frozen g2 0
  have z1 := blk_frozen g2 1
  simp only [List.getElem?_toArray, List.getElem?_cons_succ, List.getElem?_cons_zero] at k0 k1
  have G2 := Aside0.mk g2
  have hgb : gd ≠ bk := Qh.out.2.2.1
  have fin : ∀ v1 : Value, Sl v1 → (((w2.setCell ⟨gd, 1, none⟩ v1).setCell ⟨gd, 0, none⟩ (.int .i64 ((nv : Int) - (m : Int)))).heap[bk]? = some (.cells (flatC (els D m ++ vs.drop m)).toArray 78 (0, 0)) ∧ (∃ v0 v1', ((w2.setCell ⟨gd, 1, none⟩ v1).setCell ⟨gd, 0, none⟩ (.int .i64 ((nv : Int) - (m : Int)))).heap[gd]? = some (.cells #[.int .i64 v0, v1', .int .i64 tl, .nilIface] 79 (0, 0)) ∧ Sl v1') ∧ Fr w ((w2.setCell ⟨gd, 1, none⟩ v1).setCell ⟨gd, 0, none⟩ (.int .i64 ((nv : Int) - (m : Int)))) bk gd) := by
    intro v1 hv1
    refine ⟨?_, ⟨(nv : Int) - (m : Int), v1, ?_, hv1⟩, ((((Fr.refl w bk gd).step B0.out).trans (V2.out.fr gd)).set gd 1 _ (.inr rfl)).set gd 0 _ (.inr rfl)⟩
    · rw [Below.heap_setCell _ _ _ _ (Ne.symm hgb), Below.heap_setCell _ _ _ _ (Ne.symm hgb)]
      exact V2.out.now
    · have h1 := blk_set G2.out 1 v1
      have h2 := blk_set h1 0 (.int .i64 ((nv : Int) - (m : Int)))
      simpa using h2
  have Qfin := Aside0.mk fin
  have QC2 := Aside0.mk (And.intro QC.out (And.intro Qdl.out (And.intro QN.out Qh.out)))
  clear fin g2 hgl hgb QF QR Qg Qb QC Qh QN Qdl V2 G2 G0 B0 Qb0
  rcases A with _ | ad
  · have hd0 : dl = 0 := by
      have := QC2.out
      rcases Nat.eq_zero_or_pos D.length with h | h
      · omega
      · obtain ⟨ad, h1, _⟩ := this.1.2.2 h
        cases h1
    subst hd0
    obtain rfl : N = 0 := by omega
    go_wp2
    refine bodyPost_ret (v := .tuple #[.int .i64 (m : Int), .nilIface]) (by simp [results, Tryd.results56, go_sem]) rfl ?_
    exact ⟨rfl, Qfin.out _ ⟨rfl, fun x h => by cases h⟩⟩
  · by_cases hcN : c = N
    · have hcb : c - N = 0 := by omega
      go_wp2
      refine bodyPost_ret (v := .tuple #[.int .i64 (m : Int), .nilIface]) (by simp [results, Tryd.results56, go_sem]) rfl ?_
      exact ⟨rfl, Qfin.out _ ⟨rfl, fun x h => by cases h⟩⟩
    · go_wp2
      refine bodyPost_ret (v := .tuple #[.int .i64 (m : Int), .nilIface]) (by simp [results, Tryd.results56, go_sem]) rfl ?_
      exact ⟨rfl, Qfin.out _ ⟨rfl, fun x h => by cases h⟩⟩
end I96
end Go.Proofs.YtpjaaonpbohkdaaDoor.QR
/- Numbers of 96 bits are read plainly and spread over the set bits: DecodeSpaced. -/
namespace Go.Proofs.YtpjaaonpbohkdaaDoor.QR
open Go.RowKit Go.Proofs.YtpjaaonpbohkdaaDoorW.PrintWords Go.Proofs.YtpjaaonpbohkdaaDoorW.PrintLast Go.Proofs.YtpjaaonpbohkdaaDoorW.PrintMore
set_option linter.unusedVariables false
set_option linter.unusedSimpArgs false
namespace I96
/-- At a set bit stands the value of its number. -/
def Sp (us : List (List Int)) (D : List Int) (b : Nat → Bool) (f n : Nat) : Prop := ∀ i, i < n → b (f + i) = true → us[i]? = some (chunk D (rk b f i))
theorem els_get (l : List Int) (m i : Nat) (h : i < m) : (els l m)[i]? = some (chunk l i) := by simp [els, h]
theorem sp_of {D : List Int} {b : Nat → Bool} {f n : Nat} {vs us : List (List Int)} (h : Exp b f n (els D (rk b f n) ++ vs) us) : Sp us D b f n := by
  intro i hi hb
  have hlt := rk_lt b f i hb n hi
  rw [h.2 i hi hb, List.getElem?_append_left (by rw [els_len]; exact hlt), els_get _ _ _ hlt]
theorem Cu.frz {w w' : World} {bk gd : Nat} (h : Fr w w' bk gd) {A : Option Addr} {l : List Int} (hC : Cu w A l) (h1 : ∀ ad, A = some ad → 0 < l.length → ad.block ≠ bk) {cs' : Array Value} {ty' : TypeId} {fz' : Nat × Nat} (h2 : w.heap[gd]? = some (.cells cs' ty' fz')) (n2 : ∀ u ∈ cs', ∀ x, u ≠ .int .u8 x) : Cu w' A l := by
  refine hC.keep (fun ad hA hl => h.far ad.block ?_ (h1 ad hA hl) (hC.ne h2 n2 ad hA hl))
  obtain ⟨ad2, h3, h4⟩ := Kd.at_int hC 0 (Int.le_refl _) (by omega)
  rw [hA] at h3
  cases h3
  unfold World.cell? at h4
  rw [add_block] at h4
  split at h4
  · rename_i e
    exact (Array.getElem?_eq_some_iff.1 e).1
  · cases h4
theorem Cu.lt {w : World} {A : Option Addr} {l : List Int} (hC : Cu w A l) (hl : 0 < l.length) : ∀ ad, A = some ad → ad.block < w.heap.size := by
  intro ad hA
  obtain ⟨ad2, h3, h4⟩ := Kd.at_int hC 0 (Int.le_refl _) (by omega)
  rw [hA] at h3
  cases h3
  unfold World.cell? at h4
  rw [add_block] at h4
  split at h4
  · rename_i e
    exact (Array.getElem?_eq_some_iff.1 e).1
  · cases h4
theorem Nz.frz {w w' : World} {bk gd : Nat} (h : Fr w w' bk gd) {A : Option Addr} {l : List Int} (hC : Cu w A l) (hl : 0 < l.length) (hz : Nz w A) (h1 : ∀ ad, A = some ad → 0 < l.length → ad.block ≠ bk) {cs' : Array Value} {ty' : TypeId} {fz' : Nat × Nat} (h2 : w.heap[gd]? = some (.cells cs' ty' fz')) (n2 : ∀ u ∈ cs', ∀ x, u ≠ .int .u8 x) : Nz w' A := by
  intro ad hA cs fz
  rw [h.far ad.block (Cu.lt hC hl ad hA) (h1 ad hA hl) (hC.ne h2 n2 ad hA hl)]
  exact hz ad hA cs fz
set_option maxHeartbeats 8000000 in
set_option maxRecDepth 100000 in
theorem dsp_is (gd bk n cb nv : Nat) (tl : Int) (D : List Int) (vs : List (List Int)) (A : Option Addr) (l : List Int) (cap f : Nat) (w : World) (hb : w.heap[bk]? = some (.cells (flatC vs).toArray 78 (0, 0))) (ha : all12 vs) (hne : gd ≠ bk) (hD : Dc w gd nv tl D)
    (hvn : n ≤ vs.length) (hnc : n ≤ cb) (hvc : cb ≤ vs.length) (hnv : n ≤ nv) (hnv2 : nv ≤ 1000000) (hDl : 12 * rk (bt1 l) f n ≤ D.length) (hDl2 : D.length ≤ 1000000)
    (hC : Cu w A l) (hz : Nz w A) (hl0 : 0 < l.length) (hcap : l.length ≤ cap) (hbo : bytesOk l = true) (hll : l.length ≤ 1000000) (hfl : f + n ≤ 8 * l.length) (hfl2 : f + n ≤ 1000000) :
    Calls Tryd.prog 39 #[.pointer (some ⟨gd, 0, none⟩), .slice (some ⟨bk, 0, none⟩) n cb, .int .i64 ((n : Int) - (rk (bt1 l) f n : Int)), .slice A l.length cap, .int .i64 (f : Int)] w fun e w' => e = .returned (.tuple #[.int .i64 (n : Int), .nilIface]) ∧ ∃ us, w'.heap[bk]? = some (.cells (flatC us).toArray 78 (0, 0)) ∧ all12 us ∧ us.length = vs.length ∧ Sp us D (bt1 l) f n ∧ Fr w w' bk gd := by
  have hKn := rk_le (bt1 l) f n
  obtain ⟨DA, dc, hDg, _, _⟩ := id hD
  have Qdec := Aside0.mk (dec_is gd bk (rk (bt1 l) f n) cb nv tl D vs w hb hne ha hD (by omega) (by omega) (by omega) hDl hnv2 hDl2)
  have QG := Aside0.mk (And.intro hDg hne)
  obtain ⟨K0, hK0⟩ : ∃ K0, K0 = rk (bt1 l) f n := ⟨_, rfl⟩
  rw [← hK0] at Qdec hKn ⊢
  have QK0 := Aside0.mk hK0
  have Qb := Aside0.mk (And.intro hb (And.intro ha (And.intro hz hl0)))
  have QDl := Aside0.mk hDl
  have QC := Aside0.mk (show Cu w A l ∧ l.length ≤ cap ∧ bytesOk l = true ∧ l.length ≤ 1000000 ∧ f + n ≤ 8 * l.length ∧ f + n ≤ 1000000 from ⟨hC, hcap, hbo, hll, hfl, hfl2⟩)
  have Qn := Aside0.mk (show n ≤ vs.length ∧ n ≤ cb ∧ cb ≤ vs.length ∧ K0 ≤ n from ⟨hvn, hnc, hvc, hKn⟩)
  have hsub : (n : Int) - ((n : Int) - (K0 : Int)) = (K0 : Int) := by omega
  have hni : (n : Int) ≤ 1000000 := by omega
  have hk1 : (K0 : Int) ≤ (cb : Int) := by omega
  have hk2 : K0 ≤ cb := by omega
  clear hb ha hz hl0 hne hD hvn hnc hvc hnv hnv2 hDl hDl2 hC hcap hbo hll hfl hfl2 hK0 hDg
  go_enter Tryd.func39, Tryd.ntmps39
  go_upto_region 2 with (fail)
  try rw [hsub]
  clear hsub
  go_upto_region 8 with (go_at_call 56; refine Qdec.out.mono ?_; rintro e w1 ⟨rfl, h1, ⟨v0, v1, h2, h3⟩, h4⟩; have H1 := Aside0.mk (And.intro h1 (And.intro h2 (And.intro h3 h4))); clear h1 h2 h3 h4)
  obtain ⟨us0, hus0⟩ : ∃ us0, us0 = els D K0 ++ vs.drop K0 := ⟨_, rfl⟩
  rw [← hus0] at H1
  have hlen0 : us0.length = vs.length := by rw [hus0, List.length_append, els_len, List.length_drop]; have := Qn.out; omega
  have ha0 : all12 us0 := by
    rw [hus0]
    exact all12_app (els_12 D K0 (by have := QDl.out; rw [QK0.out]; exact this)) (all12_drop Qb.out.2.1 _)
  have Q0 := Aside0.mk (And.intro hus0 (And.intro hlen0 ha0))
  have nbk : ∀ ad, A = some ad → 0 < l.length → ad.block ≠ bk := fun ad hA _ => nz_ne Qb.out.1 Qb.out.2.2.1 ad hA
  have nb4 : ∀ u ∈ (#[.int .i64 (nv : Int), .slice DA D.length dc, .int .i64 tl, .nilIface] : Array Value), ∀ x, u ≠ .int .u8 x := by intro u hu x e; subst e; simp at hu
  have hC1 : Cu w1 A l := Cu.frz H1.out.2.2.2 QC.out.1 nbk QG.out.1 nb4
  have hz1 : Nz w1 A := Nz.frz H1.out.2.2.2 QC.out.1 Qb.out.2.2.2 Qb.out.2.2.1 nbk QG.out.1 nb4
  have QR := Aside0.mk (rev_is A l cap f n w1 hC1 ⟨QC.out.2.1, hz1⟩ QC.out.2.2.1 QC.out.2.2.2.1 QC.out.2.2.2.2.1 QC.out.2.2.2.2.2)
  clear hus0 hlen0 ha0 hC1 hz1 nbk nb4
  by_cases hKn2 : K0 = n
  · have e0 : (n : Int) - (K0 : Int) = 0 := by omega
    go_wp2
    refine bodyPost_ret (v := .tuple #[.int .i64 (n : Int), .nilIface]) (by simp [results, Tryd.results39, go_sem]) rfl ?_
    refine ⟨rfl, us0, H1.out.1, Q0.out.2.2, Q0.out.2.1, ?_, H1.out.2.2.2⟩
    intro i hi hb
    have hr := rk_full (bt1 l) f n (by rw [← QK0.out]; exact hKn2) i (by omega)
    rw [hr, Q0.out.1, List.getElem?_append_left (by rw [els_len]; omega), els_get _ _ _ (by omega)]
  have e0 : ¬ ((n : Int) - (K0 : Int) = 0) := by omega
  have e0' : ((n : Int) - (K0 : Int) == 0) = false := by simpa using e0
  have e1 : (n : Int) - ((n : Int) - (K0 : Int)) = (K0 : Int) := by omega
  have k3 := blk_cell H1.out.2.1 3
  simp only [List.getElem?_toArray, List.getElem?_cons_succ, List.getElem?_cons_zero] at k3
  go_wp2_with (go_at_call 49; refine QR.out.mono ?_; rintro e w2 ⟨g, r, c, rfl, h1, h2, h3, h4, h5⟩; have g2 := (h3.block gd (blk_lt H1.out.2.1)).trans H1.out.2.1; have k3b := blk_cell g2 3; have z3b := blk_frozen g2 3; simp only [List.getElem?_toArray, List.getElem?_cons_succ, List.getElem?_cons_zero] at k3b; have H2 := Aside0.mk (And.intro h1 (And.intro h2 (And.intro h3 (And.intro h4 g2)))); clear h1 h2 h3 h4 h5 g2)
  have mixed : Tryd.prog.follows .mixedOrders = true := by kernel_rfl
  have e10 : (.int .i64 (K0 : Int) : Value) = .int .i64 ((rk (bt1 l) f n : Nat) : Int) := by rw [← QK0.out]
  obtain ⟨I, hI⟩ : ∃ I : Value, I = .iface 123 (.pointer (some ⟨g, 0, none⟩)) := ⟨_, rfl⟩
  have hs4 : ∀ u ∈ [(.int .i64 v0 : Value), v1, .int .i64 tl, .nilIface], Sl u := by
    intro u hu
    simp only [List.mem_cons, List.not_mem_nil, or_false] at hu
    rcases hu with rfl | rfl | rfl | rfl
    · exact ⟨rfl, fun x h => by cases h⟩
    · exact H1.out.2.2.1
    · exact ⟨rfl, fun x h => by cases h⟩
    · exact ⟨rfl, fun x h => by cases h⟩
  have hV0 : Vw w1 w1 w2 gd 79 [(.int .i64 v0 : Value), v1, .int .i64 tl, .nilIface] := (Vw.start H1.out.2.1).step H2.out.2.2.1
  have hV1 := set_below hV0 3 I (by simp)
  have hR1 := rs_set1 hV0 hs4 H2.out.1 3 I (by simp)
  obtain ⟨wb, hwb⟩ : ∃ wb, wb = w1.setCell ⟨gd, 3, none⟩ I := ⟨_, rfl⟩
  obtain ⟨w3, hw3⟩ : ∃ w3, w3 = w2.setCell ⟨gd, 3, none⟩ I := ⟨_, rfl⟩
  rw [← hwb, ← hw3] at hV1 hR1
  have hbk : wb.heap[bk]? = some (.cells (flatC us0).toArray 78 (0, 0)) := by rw [hwb, Below.heap_setCell _ _ _ _ (Ne.symm QG.out.2)]; exact H1.out.1
  have hgd : wb.heap[gd]? = some (.cells #[.int .i64 v0, v1, .int .i64 tl, I] 79 (0, 0)) := by simpa using hV1.blk
  have hFb : Fr w wb bk gd := by rw [hwb]; exact H1.out.2.2.2.set gd 3 _ (.inr rfl)
  have hV3 : Vw wb wb w3 bk 78 (flatC us0) := (Vw.start hbk).step hV1.bel
  rw [hI] at hgd
  rw [hI] at hw3
  rw [← hw3, e10]
  have QV := Aside0.mk hV3
  have QS := Aside0.mk (And.intro hR1 H2.out.2.1)
  have QB := Aside0.mk (And.intro hgd hFb)
  clear hV0 hV1 hR1 hwb hw3 hbk hgd hFb hV3 hs4 hI H2 QR e10 k3 k3b z3b e0 e0' e1 hKn2 hk1 hk2
  go_loopg [16] n (fun kq v16 w' => ∃ (r1 c1 : Nat) (wv : World) (us : List (List Int)), v16 = .int .i64 ((rk (bt1 l) f kq : Nat) : Int) ∧ Aside0 (r1 + c1 = kq ∧ kq ≤ n) ∧ Aside0 (RS wv w' g l f n r1 c1) ∧ Aside0 (Vw wb wv w' bk 78 (flatC us)) ∧ Aside0 (Inv (bt1 l) f n kq us0 us) ∧ Aside0 (all12 us))
  case atStart => exact ⟨r, c, wb, us0, rfl, ⟨QS.out.2, Nat.le_refl _⟩, ⟨QS.out.1⟩, QV, ⟨inv_start _ _ _ _⟩, ⟨Q0.out.2.2⟩⟩
  case round =>
    obtain ⟨r1, c1, wv, us, rfl, HA, HS, HV, HI, HL⟩ := hrel
    clear QS QV
    have HN := Aside0.mk (nr_is g l f n r1 c1 wv wr HS.out HV.out.bel)
    have hle := nr_le (bt1 l) f gk
    have hrkS := nr_rk (bt1 l) f gk
    have hrle := rk_le (bt1 l) f (nrS (bt1 l) f gk)
    rw [HA.out.1] at HN
    obtain ⟨S, hS⟩ : ∃ S, S = nrS (bt1 l) f gk := ⟨_, rfl⟩
    obtain ⟨M, hM⟩ : ∃ M, M = nrN (bt1 l) f gk := ⟨_, rfl⟩
    obtain ⟨K, hK⟩ : ∃ K, K = rk (bt1 l) f S := ⟨_, rfl⟩
    rw [← hS] at HN hle hrkS hrle
    rw [← hM] at HN hle hrkS
    rw [← hK] at hrkS hrle
    rw [hrkS]
    have hgk : gk ≤ n := HA.out.2
    have hSi : (S : Int) ≤ 1000000 := by omega
    have hMi : (M : Int) ≤ 1000000 := by omega
    have hKi : (K : Int) ≤ 1000000 := by omega
    have hKM : ((K + M : Nat) : Int) - (M : Int) = (K : Int) := by omega
    have QSM := Aside0.mk (show S = nrS (bt1 l) f gk ∧ M = nrN (bt1 l) f gk ∧ K = rk (bt1 l) f S ∧ S + M ≤ gk ∧ K ≤ S from ⟨hS, hM, hK, by omega, hrle⟩)
    have hgl : gd < wv.heap.size := by rw [HV.out.size]; exact blk_lt QB.out.1
    have g2 := (HV.out.bel.block gd hgl).trans ((HV.out.far gd QG.out.2).trans QB.out.1)
    have k3 := blk_cell g2 3
    simp only [List.getElem?_toArray, List.getElem?_cons_succ, List.getElem?_cons_zero] at k3
    clear hS hM hK hle hrkS hrle hgk HS hgl g2
    go_wp2_with fail
    refine HN.out.mono ?_
    rintro e w4 ⟨rfl, r2, c2, ⟨h1, h2, h3⟩, h4⟩
    have H1b := Aside0.mk h1
    have HV2 := Aside0.mk (HV.out.step h2)
    have H4 := Aside0.mk h4
    clear h1 h2 h3 h4 HN HV k3
    by_cases hM0 : M = 0
    · subst hM0
      go_wp2
      refine bodyPost_ret (v := .tuple #[.int .i64 (n : Int), .nilIface]) (by simp [results, Tryd.results39, go_sem]) rfl ?_
      have hx := inv_none HI.out QSM.out.2.1.symm
      have hv := HV2.out.alloc (.cells #[.int .i64 (S : Int), .int .i64 0] 100)
      refine ⟨rfl, us, hv.now, HL.out, hx.1.trans Q0.out.2.1, sp_of (vs := vs.drop K0) (by rw [← QK0.out, ← Q0.out.1]; exact hx), QB.out.2.trans (hv.fr gd)⟩
    have hM1 : ¬ ((M : Int) = 0) := by omega
    have hM2 : ((M : Int) == 0) = false := by simpa using hM1
    have hKM2 : (K : Int) + (M : Int) - (M : Int) = (K : Int) := by omega
    go_upto_region 17 with (fail)
    obtain ⟨W3, hW3⟩ : ∃ W3, W3 = w4.alloc (.cells #[.int .i64 (S : Int), .int .i64 (M : Int)] 100) := ⟨_, rfl⟩
    have a0 : W3.cell? ⟨w4.heap.size, 0, none⟩ = some (.int .i64 (S : Int)) := by rw [hW3]; exact blk_cell (blk_new w4 _) 0
    have a1 : W3.cell? ⟨w4.heap.size, 1, none⟩ = some (.int .i64 (M : Int)) := by rw [hW3]; exact blk_cell (blk_new w4 _) 1
    have HV3 : Vw wb wv W3 bk 78 (flatC us) := by rw [hW3]; exact HV2.out.alloc _
    have H13 : RS wv W3 g l f n r2 c2 := by rw [hW3]; exact H1b.out.below (Below.alloc (Below.refl _ _) (Nat.le_refl _) _)
    rw [← hW3]
    have HV3 := Aside0.mk HV3
    have H13 := Aside0.mk H13
    clear hW3 H1b HV2
    have hs1 : (0 : Int) ≤ (S : Int) := Int.natCast_nonneg S
    have hs2 : (S : Int) ≤ (n : Int) := by have := QSM.out; have := HA.out; omega
    have hs3 : (n : Int) ≤ (cb : Int) := by have := Qn.out; omega
    have hs4 : (K : Int) + (M : Int) ≤ (cb : Int) := by have := QSM.out; have := HA.out; have := Qn.out; omega
    have hs5 : (K : Int) ≤ (K : Int) + (M : Int) := by omega
    have hs6 : S ≤ n := by omega
    have hs7 : n ≤ cb := by omega
    have hs8 : K + M ≤ cb := by omega
    have hs9 : ¬ cb = S := by have := QSM.out; have := HA.out; have := Qn.out; omega
    have hs10 : ¬ cb = K := by have := QSM.out; have := HA.out; have := Qn.out; omega
    have hs11 : ((K : Int) + (M : Int)).toNat = K + M := by omega
    have hs12 : K + M - K = M := by omega
    have hs13 : (0 : Int) ≤ (K : Int) + (M : Int) := by omega
    have hs14 : IntKind.i64.wrap ((K : Int) + (M : Int)) = (K : Int) + (M : Int) := IntWalk.i64_in _ (by omega)
    have hs15 : K ≤ K + M := by omega
    refine wp_region_still_tail 11 (by kernel_rfl) (by kernel_rfl) ?_
    simp only [List.take_succ_cons, List.take_zero, List.drop_succ_cons, List.drop_zero]
    change wpStill _ _ (World.drew W3) _ _ _
    repeat still_step
    refine wpStill_nil ?_
    change wpList _ _ _ _ _ (World.drew W3)
    obtain ⟨seg, hseg⟩ : ∃ seg, seg = (us.drop K).take M := ⟨_, rfl⟩
    have hul : us.length = vs.length := HI.out.1.trans Q0.out.2.1
    have hsl : seg.length = M := by rw [hseg, List.length_take, List.length_drop]; have := Qn.out; have := QSM.out; have := HA.out; omega
    have hsa : all12 seg := by rw [hseg]; exact all12_take (all12_drop HL.out _) _
    have HV3d : Vw wb wv W3.drew bk 78 (flatC us) := HV3.out.step HV3.out.bel.drew
    have hsrc : ∀ j v, (flatC seg)[j]? = some v → W3.drew.cell? ((⟨bk, 12 * K, none⟩ : Addr).add j) = some v := by
      intro j v hv
      rw [show ((⟨bk, 12 * K, none⟩ : Addr).add j) = ⟨bk, 12 * K + j, none⟩ by simp [Addr.add]]
      rw [hseg, ← flatC_take (all12_drop HL.out _) M (by rw [List.length_drop]; have := Qn.out; have := QSM.out; have := HA.out; omega), ← flatC_drop HL.out K (by have := Qn.out; have := QSM.out; have := HA.out; omega), List.getElem?_take] at hv
      split at hv
      · rw [List.getElem?_drop] at hv
        exact (blk_cell HV3d.now (12 * K + j)).trans (by simpa using hv)
      · cases hv
    have hcp := copyz (P := Tryd.prog) (W := W3.drew) 112 112 3 (by kernel_rfl) (by kernel_rfl) bk S (n - S) (cb - S) M (cb - K) ⟨bk, 12 * K, none⟩ us seg HV3d.now HL.out hsa hsrc hsl.symm (by have := QSM.out; have := HA.out; omega) (by have := Qn.out; have := QSM.out; have := HA.out; omega)
    refine op_copy_eq rfl (.tmp 80) (.tmp 87) 112 112 rfl (.slice (some ⟨bk, 12 * S, none⟩) (n - S) (cb - S)) (.slice (some ⟨bk, 12 * K, none⟩) M (cb - K)) _ (by first | rfl | (show Value.slice _ _ _ = _; simp [Nat.mul_comm])) (by first | rfl | (show Value.slice _ _ _ = _; simp [Nat.mul_comm])) hcp ?_
    have HV4 := sets_belowN HV3d HL.out S seg hsa (by rw [hsl]; have := Qn.out; have := QSM.out; have := HA.out; omega)
    have H14 := rs_setsN HV3d H13.out.drew (12 * S) (flatC seg) (by rw [flatC_len hsa, flatC_len HL.out, hsl]; have := Qn.out; have := QSM.out; have := HA.out; omega)
    have hmv : us.take S ++ seg ++ us.drop (S + seg.length) = moved us K S M := by rw [hsl, hseg]; rfl
    rw [hmv] at HV4
    generalize W3.drew.setCells bk (12 * S) (flatC seg) = W4 at *
    generalize wv.setCells bk (12 * S) (flatC seg) = wv4 at *
    have HV4 := Aside0.mk HV4
    have H14 := Aside0.mk H14
    clear hs1 hs2 hs3 hs4 hs5 hs6 hs7 hs8 hs9 hs10 hs11 hs12 hs13 hs14 hs15 a0 a1 hsl hmv HV3d hseg hul hsa hsrc hcp
    go_wp2
    go_roundg S
    case rel =>
      refine ⟨r2, c2, wv4, moved us K S M, ?_, ⟨H4.out.trans QSM.out.1.symm, ?_⟩, H14, HV4, ⟨?_⟩, ⟨moved_all HL.out _ _ _⟩⟩
      · rw [← QSM.out.2.2.1]
      · have := QSM.out; have := HA.out; omega
      · have h := inv_copy HI.out HA.out.2 (by have := HI.out.1; have := Qn.out; have := Q0.out.2.1; omega)
        rw [← QSM.out.1, ← QSM.out.2.1, ← QSM.out.2.2.1] at h
        exact h
    · have := QSM.out; omega
end I96
end Go.Proofs.YtpjaaonpbohkdaaDoor.QR
/- Decoders of numbers of 96 bits are made, and given their data; a number as a value. -/
namespace Go.Proofs.YtpjaaonpbohkdaaDoor.QR
open Go.RowKit Go.Proofs.YtpjaaonpbohkdaaDoorW.PrintWords Go.Proofs.YtpjaaonpbohkdaaDoorW.PrintLast Go.Proofs.YtpjaaonpbohkdaaDoorW.PrintMore
set_option linter.unusedVariables false
set_option linter.unusedSimpArgs false
namespace I96
theorem blk_C {W : World} {g : Nat} {u : List Int} (hg : W.heap[g]? = some (.cells (flatC [u]).toArray 78 (0, 0))) (h : u.length ≤ 9223372036854775807) : Cu W (some ⟨g, 0, none⟩) u := by
  refine Kd.C_of_reads (d := (0 : Int)) (enc := Value.int .u8) ⟨rfl, h, fun _ => ⟨_, rfl, fun j hj => ?_⟩⟩
  rw [show ((⟨g, 0, none⟩ : Addr).add j) = ⟨g, j, none⟩ by simp [Addr.add]; exact fun h => h.symm]
  rw [blk_cell hg j, flatC_one, List.getElem?_toArray, List.getElem?_map, List.getElem?_eq_getElem hj]
  simp [rdOf, List.getD_eq_getElem?_getD, hj]
set_option maxHeartbeats 8000000 in
set_option maxRecDepth 100000 in
theorem val_is (u : List Int) (h12 : u.length = 12) (w : World) : Calls Tryd.prog 40 #[agg12 u] w fun e w' => e = .returned (.agg #[.bool false, .int .u64 0, .string (strOfNums u), .slice none 0 0]) ∧ Below w.heap.size w w' := by
  have hC := blk_C (W := (w.alloc (.cells (flatC [u]).toArray 78)).alloc (.cells #[.bool false, .int .u64 0, .string ⟨#[]⟩, .slice none 0 0] 33)) (g := w.heap.size) (u := u) (blk_alloc (blk_new w _) _) (by omega)
  have hcv := Kd.C_string (P := Tryd.prog) (src := 23) (dst := 9) (e := 5) (c := 12) (by kernel_rfl) (by kernel_rfl) (by kernel_rfl) hC
  rw [h12] at hcv
  rw [agg_cells]
  obtain ⟨C, hCC⟩ : ∃ C, C = flatC [u] := ⟨_, rfl⟩
  rw [← hCC] at hcv ⊢
  have Q := Aside0.mk hcv
  clear hC hcv hCC
  go_enter Tryd.func40, Tryd.ntmps40
  go_upto_region 1 with (fail)
  have hcv := Q.out
  go_wp2
  have hsz : (w.alloc (.cells C.toArray 78)).heap.size = w.heap.size + 1 := World.size_alloc ..
  have hb := blk_new (w.alloc (.cells C.toArray 78)) (.cells #[.bool false, .int .u64 0, .string (strOfNums u), .slice none 0 0] 33)
  rw [hsz] at hb
  refine bodyPost_ret (v := .agg #[.bool false, .int .u64 0, .string (strOfNums u), .slice none 0 0]) (results_cell_row rfl _ _ (w.heap.size + 1) 33 #[.bool false, .int .u64 0, .string (strOfNums u), .slice none 0 0] (0, 0) _ rfl hb Tryd.underlying33 rfl (by kernel_rfl)) rfl ?_
  exact ⟨rfl, b3 w _ _⟩
set_option maxHeartbeats 8000000 in
set_option maxRecDepth 100000 in
theorem npd_is (w : World) : Calls Tryd.prog 37 #[] w fun e w' => ∃ g, e = .returned (.pointer (some ⟨g, 0, none⟩)) ∧ w.heap.size ≤ g ∧ w'.heap[g]? = some (.cells #[.int .i64 0, .slice none 0 0, .int .i64 0, .nilIface] 79 (0, 0)) ∧ Below w.heap.size w w' := by
  have Q := Aside0.mk (ndb_is w)
  go_enter Tryd.func37, Tryd.ntmps37
  go_wp2_with (go_at_call 45; refine Q.out.mono ?_; rintro e w1 ⟨rfl, hb⟩; have QB := Aside0.mk hb; clear hb)
  go_ret
  exact ⟨w1.heap.size, rfl, QB.out.size, blk_new w1 _, QB.out.alloc QB.out.size _⟩
set_option maxHeartbeats 8000000 in
set_option maxRecDepth 100000 in
theorem setd_is (g : Nat) (tl nv : Int) (A : Option Addr) (m c : Nat) (w : World) (v0 v1 : Value) (hg : w.heap[g]? = some (.cells #[v0, v1, .int .i64 tl, .nilIface] 79 (0, 0))) : Calls Tryd.prog 21 #[.pointer (some ⟨g, 0, none⟩), .int .i64 nv, .slice A m c] w fun e w' => e = .returned .nilIface ∧ w'.heap[g]? = some (.cells #[.int .i64 nv, .slice A m c, .int .i64 tl, .nilIface] 79 (0, 0)) ∧ Fr w w' g g := by
  have k0 := blk_cell hg 0
  have k1 := blk_cell hg 1
  have z0 := blk_frozen hg 0
  have z1 := blk_frozen hg 1
  simp only [List.getElem?_toArray, List.getElem?_cons_succ, List.getElem?_cons_zero] at k0 k1
  have Q := Aside0.mk hg
  clear hg
  go_enter Tryd.func21, Tryd.ntmps21
  go_wp2
  go_ret
  refine ⟨rfl, ?_, ((Fr.refl w g g).set g 1 _ (.inl rfl)).set g 0 _ (.inl rfl)⟩
  have h1 := blk_set Q.out 1 (.slice A m c)
  have h2 := blk_set h1 0 (.int .i64 nv)
  simpa using h2
end I96
end Go.Proofs.YtpjaaonpbohkdaaDoor.QR
