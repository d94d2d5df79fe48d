/- SizeOf of int32. -/
import Derived.Test.YtjipnopadpedoaaDoorH1
namespace Go.Proofs.YtjipnopadpedoaaDoor.QR
open Go.RowKit Go.Proofs.YtjipnopadpedoaaDoorW.PrintWords Go.Proofs.YtjipnopadpedoaaDoorW.PrintLast Go.Proofs.YtjipnopadpedoaaDoorW.PrintMore
set_option linter.unusedVariables false
set_option linter.unusedSimpArgs false
set_option maxHeartbeats 8000000 in
set_option maxRecDepth 100000 in
theorem sz0_is (w : World) : Calls Tryd.prog 26 #[] w fun e w' => e = .returned (.int .i64 4) ∧ Below w.heap.size w w' := by
  have ap85 : ∀ (p : Addr) (w : World), (Instr.typeAssert (.iface 84 (.pointer (some p))) 20 85 true).run Tryd.prog w = .ok (.tuple #[.pointer none, .bool false]) w := fun p w => by kernel_rfl
  have ap86 : ∀ (p : Addr) (w : World), (Instr.typeAssert (.iface 84 (.pointer (some p))) 20 86 true).run Tryd.prog w = .ok (.tuple #[.pointer none, .bool false]) w := fun p w => by kernel_rfl
  have ap87 : ∀ (p : Addr) (w : World), (Instr.typeAssert (.iface 84 (.pointer (some p))) 20 87 true).run Tryd.prog w = .ok (.tuple #[.pointer none, .bool false]) w := fun p w => by kernel_rfl
  have ap88 : ∀ (p : Addr) (w : World), (Instr.typeAssert (.iface 84 (.pointer (some p))) 20 88 true).run Tryd.prog w = .ok (.tuple #[.pointer none, .bool false]) w := fun p w => by kernel_rfl
  have ap89 : ∀ (p : Addr) (w : World), (Instr.typeAssert (.iface 84 (.pointer (some p))) 20 89 true).run Tryd.prog w = .ok (.tuple #[.pointer none, .bool false]) w := fun p w => by kernel_rfl
  have ap84 : ∀ (p : Addr) (w : World), (Instr.typeAssert (.iface 84 (.pointer (some p))) 20 84 true).run Tryd.prog w = .ok (.tuple #[.pointer (some p), .bool true]) w := fun p w => by kernel_rfl
  have ap90 : ∀ (p : Addr) (w : World), (Instr.typeAssert (.iface 84 (.pointer (some p))) 20 90 true).run Tryd.prog w = .ok (.tuple #[.pointer none, .bool false]) w := fun p w => by kernel_rfl
  have ap91 : ∀ (p : Addr) (w : World), (Instr.typeAssert (.iface 84 (.pointer (some p))) 20 91 true).run Tryd.prog w = .ok (.tuple #[.pointer none, .bool false]) w := fun p w => by kernel_rfl
  have ap92 : ∀ (p : Addr) (w : World), (Instr.typeAssert (.iface 84 (.pointer (some p))) 20 92 true).run Tryd.prog w = .ok (.tuple #[.pointer none, .bool false]) w := fun p w => by kernel_rfl
  have ap93 : ∀ (p : Addr) (w : World), (Instr.typeAssert (.iface 84 (.pointer (some p))) 20 93 true).run Tryd.prog w = .ok (.tuple #[.pointer none, .bool false]) w := fun p w => by kernel_rfl
  have ap94 : ∀ (p : Addr) (w : World), (Instr.typeAssert (.iface 84 (.pointer (some p))) 20 94 true).run Tryd.prog w = .ok (.tuple #[.pointer none, .bool false]) w := fun p w => by kernel_rfl
  have ap95 : ∀ (p : Addr) (w : World), (Instr.typeAssert (.iface 84 (.pointer (some p))) 20 95 true).run Tryd.prog w = .ok (.tuple #[.pointer none, .bool false]) w := fun p w => by kernel_rfl
  go_enter Tryd.func26, Tryd.ntmps26
  go_wp2
  go_ret
  exact ⟨rfl, b2 w _⟩
theorem sz_is (w : World) : Calls Tryd.prog 23 #[] w fun e w' => e = .returned (.int .i64 4) ∧ Below w.heap.size w w' := by
  have Q := Aside0.mk (sz0_is w)
  go_enter Tryd.func23, Tryd.ntmps23
  go_wp2_with (go_at_call 26; (with_reducible refine Calls.mono Q.out ?_); rintro e w1 ⟨rfl, hb⟩; have B := Aside0.mk hb; clear hb)
  go_ret
  exact ⟨rfl, B.out⟩
end Go.Proofs.YtjipnopadpedoaaDoor.QR
