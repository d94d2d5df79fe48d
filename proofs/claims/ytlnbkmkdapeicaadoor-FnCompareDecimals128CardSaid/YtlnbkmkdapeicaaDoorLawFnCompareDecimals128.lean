/- The law FnCompareDecimals128 of the program: whatever comes in, it answers true; what came in reads as it did. -/
import Derived.Test.YtlnbkmkdapeicaaDoorF23d
import Derived.Test.YtlnbkmkdapeicaaDoorF22d
import Derived.Test.YtlnbkmkdapeicaaDoorRows
import Derived.Test.YtlnbkmkdapeicaaDoorTie
import Derived.Test.YtlnbkmkdapeicaaDoorCards
import Derived.WalkKit
import Derived.LaidMore
import Derived.Deep.DeepHandedRow
import Derived.Deep.DeepWitnessRowRef
import Derived.SevenTiedAt
import Derived.ProofKit
import Derived.OpenShut
import Derived.OpenVars
import Derived.ChangeVars
import Derived.ShutString
import Derived.ChangeOld
import Derived.Below
import Derived.SizedLaws
namespace Go.Proofs.YtlnbkmkdapeicaaDoor.fnCompareDecimals128
open Go.ChangeShapes Go.WideShapes Go.ChangeAt Go.RowKit Go.Proofs.YtlnbkmkdapeicaaDoorW.PrintWords
set_option linter.unusedVariables false
theorem own : ownKnob Tryd.prog.godebug = none := by kernel_rfl
theorem laidOut : laidOutB Tryd.prog = true := by kernel_rfl
/-- The door's own heap meets the condition. -/
theorem door_met (os : Os) (args : Array Value) : laidMetH Tryd.prog Rows.fnCompareDecimals128Row.laid ((World.doorLaid Tryd.prog 400 os).forCall (fun _ _ => 0) ⟨#[], args, []⟩).memory :=
  laidMetH_of_parts3 (fuel := 8) (laidMet_of_run' 8 (by kernel_rfl) (by kernel_rfl)) (by kernel_rfl) (by kernel_rfl)
theorem reads (os : Os) {H : Type} (enc : TypeId × Value → H) : ∃ places, DataW.whole enc Tryd.prog ((World.doorLaid Tryd.prog 400 os).forCall (fun _ _ => 0) ⟨#[], #[.int .i64 0, .int .i64 0, .slice none 0 0, .slice none 0 0, .slice none 0 0, .int .i64 0], []⟩).memory Tryd.f3.params.toList Rows.fnCompareDecimals128Spec.vars false (#[.int .i64 0, .int .i64 0, .slice none 0 0, .slice none 0 0, .slice none 0 0, .int .i64 0] : Array Value).toList 8 = some ([.lit (.int .i64 0), .lit (.int .i64 0), .nil, .nil, .nil, .lit (.int .i64 0)], [Rows.laid_given_example_pub_arrowroot_pub_arrow_arrow_bitutil_BitMask, Rows.laid_given_example_pub_arrowroot_pub_arrow_arrow_bitutil_FlippedBitMask], places) :=
  ⟨MemPlace.row ⟨2, 0, none⟩ 8 ++ MemPlace.row ⟨3, 0, none⟩ 8, by kernel_rfl⟩
set_option maxRecDepth 100000 in
theorem lifted (os : Os) (started : os.Started) (H : Type) (enc : TypeId × Value → H) (F : Stop.Interp) :
    ReturnsInHanded {} Tryd.checked os 3 .any ((OpenSpec.ofChange Rows.fnCompareDecimals128Spec).preRow enc Tryd.prog Tryd.f3 Rows.fnCompareDecimals128Row.domain false Rows.fnCompareDecimals128Row.laid) (((OpenSpec.ofChange Rows.fnCompareDecimals128Spec).at F).post enc Tryd.prog Tryd.f3 false true false false) := by
  obtain ⟨places, hx⟩ := reads os enc
  refine returnsInHanded_of_row (C := Tryd.checked) (s := OpenSpec.ofChange Rows.fnCompareDecimals128Spec) own started (by kernel_rfl) Tryd.func3
    (witness_row_atRef (enc := enc) (C := Tryd.checked) false (World.doorLaid Tryd.prog 400 os) #[.int .i64 0, .int .i64 0, .slice none 0 0, .slice none 0 0, .slice none 0 0, .int .i64 0] rfl (by kernel_rfl) (by kernel_rfl) (by kernel_rfl)
      (OpenSpec.preRow_of_cond 8 hx (by kernel_rfl) (fun k hk => by cases hk) (by kernel_rfl) (door_met os _))) ?_
  intro W base args ds gs before hval0 hW _ _ _ hL _ _
  have hval : ∀ (j : Nat) t v, Tryd.f3.params[j]? = some t → args[j]? = some v → Value.okWide Tryd.prog W .any base t v := hval0
  have hW' := hW
  obtain ⟨p, q, hA0, hV, rfl, hfz, hnd⟩ := hW
  have hA : DataW.TrodAll enc Tryd.prog W 0 (fun _ => true) true Tryd.f3.params.toList args.toList ds p := hA0
  rw [Tryd.params3] at hA hval
  obtain ⟨v0, vs0, d0, ds0, p0, q0, hargs, rfl, rfl, h0, r0⟩ := trodAll_cons hA
  obtain ⟨v1, vs1, d1, ds1, p1, q1, rfl, rfl, rfl, h1, r1⟩ := trodAll_cons r0
  obtain ⟨v2, vs2, d2, ds2, p2, q2, rfl, rfl, rfl, h2, r2⟩ := trodAll_cons r1
  obtain ⟨v3, vs3, d3, ds3, p3, q3, rfl, rfl, rfl, h3, r3⟩ := trodAll_cons r2
  obtain ⟨v4, vs4, d4, ds4, p4, q4, rfl, rfl, rfl, h4, r4⟩ := trodAll_cons r3
  obtain ⟨v5, vs5, d5, ds5, p5, q5, rfl, rfl, rfl, h5, r5⟩ := trodAll_cons r4
  obtain ⟨rfl, rfl, rfl⟩ := trodAll_nil r5
  obtain rfl : args = #[v0, v1, v2, v3, v4, v5] := by cases args; simp_all
  have hV0 := hV
  obtain ⟨g0, g1, rfl⟩ : ∃ g0 g1, gs = [g0, g1] := by
    cases gs with
    | nil => exact hV.elim
    | cons a r =>
      obtain ⟨_, _, _, _, _, _, _, _, _, _, hr, _⟩ := hV
      cases r with
      | nil => exact hr.elim
      | cons b r2 =>
        obtain ⟨_, _, _, _, _, _, _, _, _, _, hr2, _⟩ := hr
        cases r2 with
        | nil => exact ⟨a, b, rfl⟩
        | cons _ _ => exact hr2.elim
  obtain ⟨a0, rfl, rfl, rfl, w0⟩ := open_int Tryd.underlying3 (hval 0 3 v0 rfl rfl) h0
  obtain ⟨a1, rfl, rfl, rfl, w1⟩ := open_int Tryd.underlying3 (hval 1 3 v1 rfl rfl) h1
  obtain ⟨a2, len2, cap2, rfl⟩ := okWide_slice Tryd.underlying22 (hval 2 22 v2 rfl rfl)
  have k2 := h2
  have lt2 : ∀ x ∈ p2, x.block < W.heap.size := by obtain ⟨m, hm⟩ := k2; exact DataW.trod_lt m _ _ _ hm
  obtain ⟨z2, e2, lc2, w2, b2⟩ : ∃ l : List (List Int), l.length = len2 ∧ len2 ≤ cap2 ∧ Kd.C (Kd.slice 27 (Kd.int .u64)) W a2 l.length l ∧ QR.Us l := by
    obtain ⟨fuel, hf⟩ := h2
    exact QR.rows_of fuel _ _ a2 len2 cap2 (by simp [Value.cells]) hf
  obtain ⟨a3, len3, cap3, rfl⟩ := okWide_slice Tryd.underlying22 (hval 3 22 v3 rfl rfl)
  have k3 := h3
  have lt3 : ∀ x ∈ p3, x.block < W.heap.size := by obtain ⟨m, hm⟩ := k3; exact DataW.trod_lt m _ _ _ hm
  obtain ⟨z3, e3, lc3, w3, b3⟩ : ∃ l : List (List Int), l.length = len3 ∧ len3 ≤ cap3 ∧ Kd.C (Kd.slice 27 (Kd.int .u64)) W a3 l.length l ∧ QR.Us l := by
    obtain ⟨fuel, hf⟩ := h3
    exact QR.rows_of fuel _ _ a3 len3 cap3 (by simp [Value.cells]) hf
  obtain ⟨a4, len4, cap4, rfl⟩ := okWide_slice Tryd.underlying23 (hval 4 23 v4 rfl rfl)
  have k4 := h4
  have lt4 : ∀ x ∈ p4, x.block < W.heap.size := by obtain ⟨m, hm⟩ := k4; exact DataW.trod_lt m _ _ _ hm
  obtain ⟨z4, e4, lc4, w4, b4⟩ : ∃ l : List Int, l.length = len4 ∧ len4 ≤ cap4 ∧ QR.Cu W a4 l ∧ QR.bytesOk l = true := by
    obtain ⟨fuel, hf⟩ := h4
    exact QR.bytes_of fuel (.slice a4 len4 cap4) _ _ a4 len4 cap4 (by simp [Value.cells]) hf
  obtain ⟨a5, rfl, rfl, rfl, w5⟩ := open_int Tryd.underlying3 (hval 5 3 v5 rfl rfl) h5
  clear hA0 hval0
  subst e2
  subst e3
  subst e4
  refine (QR.law_is a0 a1 a2 cap2 z2 a3 cap3 z3 a4 cap4 z4 a5 W w2 w3 w4 lc2 lc3 lc4 b2 b3 b4 (QR.bm_of hL)).mono fun e W' ⟨he, bel⟩ => ?_
  subst he
  exact ⟨_, rfl, _, _, _, [], _, _, hW', trodAll_mk1 (shut_bool Tryd.underlying4 _), (trodAll_cons_mk (shut_int Tryd.underlying3 w0) (trodAll_cons_mk (shut_int Tryd.underlying3 w1) (trodAll_cons_mk (Below.trod laidOut (by kernel_rfl) (of_decide_eq_true (by kernel_rfl)) k2 bel lt2) (trodAll_cons_mk (Below.trod laidOut (by kernel_rfl) (of_decide_eq_true (by kernel_rfl)) k3 bel lt3) (trodAll_cons_mk (Below.trod laidOut (by kernel_rfl) (of_decide_eq_true (by kernel_rfl)) k4 bel lt4) (trodAll_cons_mk (shut_int Tryd.underlying3 w5) trodAll_mk0)))))), Below.trodVars laidOut bel (by kernel_rfl) hV0, bel.frame _, fun h => by cases h⟩
theorem over : Rows.fnCompareDecimals128Row.holds Tryd.pinned (OpenSpec.ofChange Rows.fnCompareDecimals128Spec) :=
  OpenClaim.holds_of_cond 3 Tryd.f3 rfl rfl rfl rfl rfl rfl rfl ⟨rfl, rfl, rfl, rfl, rfl⟩ rfl rfl rfl rfl rfl (by kernel_rfl) Tryd.func3 (by kernel_rfl)
    (of_decide_eq_true (by kernel_rfl)) (by unfold Func.isWrapper; first | (rw [if_pos (by decide +kernel)]; kernel_rfl) | (rw [if_neg (by decide +kernel)]; exact ⟨rfl, rfl⟩))
    (fun os started H enc _ F => by rw [OpenClaim.pre_eq_preRow]; exact lifted os started H enc F)
/-- No parameter wants a stand-in. -/
theorem plain (f : FuncId) (fn : Func) (hf : Tryd.pinned.checked.prog.funcNamed "given.example/pub-arrowroot/laws.FnCompareDecimals128" = some f) (hfn : Tryd.pinned.checked.prog.funcs[f]? = some fn) :
    true = Tryd.pinned.checked.prog.looks [] ∧ ∀ (j : Nat) t, fn.params[j]? = some t → Tryd.pinned.checked.prog.wantsStandIn t = false := by
  obtain rfl : f = 3 := Option.some.inj ((show Tryd.prog.funcNamed "given.example/pub-arrowroot/laws.FnCompareDecimals128" = some 3 by kernel_rfl).symm.trans hf) |>.symm
  obtain rfl : fn = Tryd.f3 := (Option.some.inj (Tryd.func3.symm.trans hfn)).symm
  refine ⟨by kernel_rfl, fun j t ht => ?_⟩
  have hall : (Tryd.f3.params.toList.all fun u => !Tryd.prog.wantsStandIn u) = true := by kernel_rfl
  have hm : t ∈ Tryd.f3.params.toList := Array.mem_toList_iff.2 (Array.mem_of_getElem? ht)
  exact (show Tryd.prog.wantsStandIn t = false by simpa using List.all_eq_true.1 hall t hm)
/-- The tied card. -/
theorem proved : Rows.FnCompareDecimals128CardSaid :=
  Claim7.holds_tied_plain_at .later [] _ _ _ _ over (fun _ h => by cases h) (by kernel_rfl) (fun _ h => by cases h) fnCompareDecimals128_row_tie rfl ⟨rfl, rfl⟩ (by kernel_rfl) rfl plain (by kernel_rfl)
#print axioms proved
end Go.Proofs.YtlnbkmkdapeicaaDoor.fnCompareDecimals128
namespace Go.Proofs.YtlnbkmkdapeicaaDoor
/-- The card, under a short name, for the claim. -/
theorem fnCompareDecimals128_holds : Rows.FnCompareDecimals128CardSaid := fnCompareDecimals128.proved
end Go.Proofs.YtlnbkmkdapeicaaDoor
