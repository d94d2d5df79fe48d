/- The functions of floats that have no Go text, and the plain ones over them: Floor, Ceil, Trunc. -/
import Derived.Test.YtmiafomaglijgaaL6
import Derived.Test.YtmiafomaglijgaaChecked
import Derived.Test.YtmiafomaglijgaaWMore
import Derived.Test.YtmiafomaglijgaaWLast
import Derived.Laws.Externs
import Derived.Laws.FloatArith
import Derived.WalkKit
import Derived.ProofKit
import Derived.KernelRfl
namespace Go.Proofs.Ytmiafomaglijgaa.QR
open Ieee Go.Proofs.Ytmiafomaglijgaa.Fl Go.RowKit Go.Proofs.YtmiafomaglijgaaW.PrintWords Go.Proofs.YtmiafomaglijgaaW.PrintLast Go.Proofs.YtmiafomaglijgaaW.PrintMore
set_option linter.unusedVariables false
set_option linter.unusedSimpArgs false
theorem f32_of (x : Int) (w : World) : (callFunc 6 #[.int .u32 x]).run Try.prog w = .ok (.value (.float .f32 x.toNat)) w := by
  rw [run_callFunc_extern (fn := Try.f6) (e := Extern.MathFloatBits.float32frombits) (by kernel_rfl) (by kernel_rfl) (by kernel_rfl) (by kernel_rfl) (by kernel_rfl)]
  rfl
theorem f64_of (x : Int) (w : World) : (callFunc 18 #[.int .u64 x]).run Try.prog w = .ok (.value (.float .f64 x.toNat)) w := by
  rw [run_callFunc_extern (fn := Try.f18) (e := Extern.MathFloatBits.float64frombits) (by kernel_rfl) (by kernel_rfl) (by kernel_rfl) (by kernel_rfl) (by kernel_rfl)]
  rfl
theorem f32_bits (x : Nat) (w : World) : (callFunc 5 #[.float .f32 x]).run Try.prog w = .ok (.value (.int .u32 (x : Int))) w := by
  rw [run_callFunc_extern (fn := Try.f5) (e := Extern.MathFloatBits.float32bits) (by kernel_rfl) (by kernel_rfl) (by kernel_rfl) (by kernel_rfl) (by kernel_rfl)]
  rfl
theorem f64_bits (x : Nat) (w : World) : (callFunc 19 #[.float .f64 x]).run Try.prog w = .ok (.value (.int .u64 (x : Int))) w := by
  rw [run_callFunc_extern (fn := Try.f19) (e := Extern.MathFloatBits.float64bits) (by kernel_rfl) (by kernel_rfl) (by kernel_rfl) (by kernel_rfl) (by kernel_rfl)]
  rfl
/-- A word of 64 bits made whole. -/
def whl (way : Toward) (x : Nat) : Nat := F64.write ((F64.read x).integral way)
theorem toInt_is (name : String) (way : Toward) (x : Nat) (hx : (F64.read x).isNaN = false) (w : World) : (Extern.MathFloor.toIntegral name way #[.float .f64 x]).run Try.prog w = .ok (.float .f64 (whl way x)) w := by
  have key : ∀ d : Datum, d.isNaN = false → F64.read x = d → (Extern.MathFloor.toIntegral name way #[.float .f64 x]).run Try.prog w = .ok (.float .f64 (F64.write (d.integral way))) w := by
    intro d hd he
    have e : Extern.MathFloor.toIntegral name way #[.float .f64 x] = (match F64.read x with
      | .nan s t => if FloatKind.f64.format.quiet t = t then pure (.float .f64 x) else do
        let kept ← choose (.extern "math.Floor,Ceil,Trunc,RoundToEven.signallingNaN kept" 2)
        pure (.float .f64 (if kept == 1 then x else FloatKind.f64.encode (.nan s (FloatKind.f64.format.quiet t))))
      | d => pure (.float .f64 (FloatKind.f64.encode (d.integral way)))) := rfl
    rw [e, he]
    cases d with
    | nan s t => cases hd
    | number s m i => rfl
    | infinity s => rfl
  exact key _ hx rfl
theorem floor_of (x : Nat) (hx : (F64.read x).isNaN = false) (w : World) : (callFunc 20 #[.float .f64 x]).run Try.prog w = .ok (.value (.float .f64 (whl .down x))) w := by
  rw [run_callFunc_extern (fn := Try.f20) (e := Extern.MathFloor.toIntegral "math.archFloor" .down) (by kernel_rfl) (by kernel_rfl) (by kernel_rfl) (by kernel_rfl) (by kernel_rfl), toInt_is _ _ _ hx]
  rfl
theorem ceil_of (x : Nat) (hx : (F64.read x).isNaN = false) (w : World) : (callFunc 45 #[.float .f64 x]).run Try.prog w = .ok (.value (.float .f64 (whl .up x))) w := by
  rw [run_callFunc_extern (fn := Try.f45) (e := Extern.MathFloor.toIntegral "math.archCeil" .up) (by kernel_rfl) (by kernel_rfl) (by kernel_rfl) (by kernel_rfl) (by kernel_rfl), toInt_is _ _ _ hx]
  rfl
theorem trunc_of (x : Nat) (hx : (F64.read x).isNaN = false) (w : World) : (callFunc 47 #[.float .f64 x]).run Try.prog w = .ok (.value (.float .f64 (whl .zero x))) w := by
  rw [run_callFunc_extern (fn := Try.f47) (e := Extern.MathFloor.toIntegral "math.archTrunc" .zero) (by kernel_rfl) (by kernel_rfl) (by kernel_rfl) (by kernel_rfl) (by kernel_rfl), toInt_is _ _ _ hx]
  rfl
theorem even_of (x : Nat) (hx : (F64.read x).isNaN = false) (w : World) : (callFunc 36 #[.float .f64 x]).run Try.prog w = .ok (.value (.float .f64 (whl .even x))) w := by
  rw [run_callFunc_extern (fn := Try.f36) (e := Extern.MathFloor.toIntegral "math.RoundToEven" .even) (by kernel_rfl) (by kernel_rfl) (by kernel_rfl) (by kernel_rfl) (by kernel_rfl), toInt_is _ _ _ hx]
  rfl
set_option maxHeartbeats 8000000 in
set_option maxRecDepth 100000 in
theorem flr_is (x : Nat) (hx : (F64.read x).isNaN = false) (w : World) : Calls Try.prog 13 #[.float .f64 x] w fun e w' => e = .returned (.float .f64 (whl .down x)) ∧ Below w.heap.size w w' := by
  have h := floor_of x hx
  clear hx
  go_enter Try.func13, Try.ntmps13
  go_wp2
  go_ret
  exact ⟨rfl, Below.refl _ _⟩
set_option maxHeartbeats 8000000 in
set_option maxRecDepth 100000 in
theorem cel_is (x : Nat) (hx : (F64.read x).isNaN = false) (w : World) : Calls Try.prog 26 #[.float .f64 x] w fun e w' => e = .returned (.float .f64 (whl .up x)) ∧ Below w.heap.size w w' := by
  have h := ceil_of x hx
  clear hx
  go_enter Try.func26, Try.ntmps26
  go_wp2
  go_ret
  exact ⟨rfl, Below.refl _ _⟩
set_option maxHeartbeats 8000000 in
set_option maxRecDepth 100000 in
theorem trn_is (x : Nat) (hx : (F64.read x).isNaN = false) (w : World) : Calls Try.prog 28 #[.float .f64 x] w fun e w' => e = .returned (.float .f64 (whl .zero x)) ∧ Below w.heap.size w w' := by
  have h := trunc_of x hx
  clear hx
  go_enter Try.func28, Try.ntmps28
  go_wp2
  go_ret
  exact ⟨rfl, Below.refl _ _⟩
end Go.Proofs.Ytmiafomaglijgaa.QR
