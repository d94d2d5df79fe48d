/- The row: the law's walk over its opened arguments. -/
import Derived.Test.YtmiafomaglijgaaRows
import Derived.Test.YtmiafomaglijgaaL29
import Derived.WalkKit
import Derived.ProofKit
import Derived.OpenShut
import Derived.ShutString
import Derived.ChangeOld
import Derived.Below
import Derived.SizedLaws
namespace Go.Proofs.Ytmiafomaglijgaa.fnRoundFloat32To
open Go.ChangeShapes Go.WideShapes Go.ChangeAt Go.RowKit
open Go.ChangeMaps (open_string shut_string)
set_option linter.unusedVariables false
theorem own : ownKnob Try.prog.godebug = none := by kernel_rfl
theorem nat_of (a : Int) (h : 0 ≤ a) : ∃ b : Nat, a = (b : Int) := ⟨a.toNat, by omega⟩
set_option maxRecDepth 100000 in
theorem lifted (os : Os) (started : os.Started) (H : Type) (enc : TypeId × Value → H) :
  ReturnsInHanded {} Try.checked os 3 .any (Rows.fnRoundFloat32ToSpec.pre6 enc Try.prog Try.f3 Rows.fnRoundFloat32ToRow.domain false) (Rows.fnRoundFloat32ToSpec.post enc Try.prog Try.f3 false true false false) := by
 refine returnsInHanded_of_change_sized (C := Try.checked) own started (by kernel_rfl) Try.func3
  (ChangeSpec.witness6 (enc := enc) (C := Try.checked) false ⟨#[], #[.int .u32 0, .int .u32 0, .int .i64 0], []⟩ 3 (by kernel_rfl) (by kernel_rfl) (by kernel_rfl) (by kernel_rfl)) ?_
 intro W base args ds gs before hval0 hW hcnd hsz0 _
 have hsz : (DataW.weightsEach Try.prog (Try.f3.params.toList ++ Rows.fnRoundFloat32ToSpec.plain.varTypes Try.prog) (ds ++ gs)).all (· ≤ reachBytes) = true := hsz0
 have hval : ∀ (j : Nat) t v, Try.f3.params[j]? = some t → args[j]? = some v → Value.okWide Try.prog W .any base t v := hval0
 have hW' := hW
 obtain ⟨p, q, hA0, hV, rfl, hfz, hnd⟩ := hW
 have hA : DataW.TrodAll enc Try.prog W 0 (fun _ => true) true Try.f3.params.toList args.toList ds p := hA0
 rw [Try.params3] at hA hval hsz
 obtain ⟨v0, vs0, d0, ds0, p0, q0, hargs, rfl, rfl, h0, r0⟩ := trodAll_cons hA
 obtain ⟨v1, vs1, d1, ds1, p1, q1, rfl, rfl, rfl, h1, r1⟩ := trodAll_cons r0
 obtain ⟨v2, vs2, d2, ds2, p2, q2, rfl, rfl, rfl, h2, r2⟩ := trodAll_cons r1
 obtain ⟨rfl, rfl, rfl⟩ := trodAll_nil r2
 obtain rfl : args = #[v0, v1, v2] := by cases args; simp_all
 obtain ⟨rfl, rfl⟩ := trodVars_none hV
 obtain ⟨a0, rfl, rfl, rfl, w0⟩ := open_int Try.underlying22 (hval 0 22 v0 rfl rfl) h0
 obtain ⟨a1, rfl, rfl, rfl, w1⟩ := open_int Try.underlying22 (hval 1 22 v1 rfl rfl) h1
 obtain ⟨a2, rfl, rfl, rfl, w2⟩ := open_int Try.underlying3 (hval 2 3 v2 rfl rfl) h2
 clear hA0 hval0 hsz0 hsz
 have n0 := nat_of a0 (Go.bounds_u32 w0).1
 have n1 := nat_of a1 (Go.bounds_u32 w1).1
 obtain ⟨b0, rfl⟩ := n0
 obtain ⟨b1, rfl⟩ := n1
 refine (QR.law_is b0 b1 a2 W).mono fun e W' ⟨he, bel⟩ => ?_
 subst he
 exact ⟨_, rfl, _, _, _, [], _, [], hW', trodAll_mk1 (shut_bool Try.underlying4 _), (trodAll_cons_mk (shut_int Try.underlying22 w0) (trodAll_cons_mk (shut_int Try.underlying22 w1) (trodAll_cons_mk (shut_int Try.underlying3 w2) trodAll_mk0))), rfl, bel.frame _, fun h => by cases h⟩
theorem over : Rows.fnRoundFloat32ToRow.holds Try.pinned (OpenSpec.ofChange Rows.fnRoundFloat32ToSpec) :=
 OpenClaim.holds_of_wide 3 Try.f3 rfl rfl rfl rfl rfl rfl rfl ⟨rfl, rfl, rfl, rfl, rfl⟩ rfl rfl rfl rfl rfl (by kernel_rfl) Try.func3 (by kernel_rfl)
  (of_decide_eq_true (by kernel_rfl)) (by unfold Func.isWrapper; first | (rw [if_pos (by decide +kernel)]; kernel_rfl) | (rw [if_neg (by decide +kernel)]; exact ⟨rfl, rfl⟩))
  (fun os started H enc _ => lifted os started H enc)
theorem proved : Rows.FnRoundFloat32ToSaid := over
#print axioms proved
end Go.Proofs.Ytmiafomaglijgaa.fnRoundFloat32To
namespace Go.Proofs.Ytmiafomaglijgaa
/-- The row, under a short name, for the claim. -/
theorem fnRoundFloat32To_holds : Rows.FnRoundFloat32ToSaid := fnRoundFloat32To.proved
end Go.Proofs.Ytmiafomaglijgaa
