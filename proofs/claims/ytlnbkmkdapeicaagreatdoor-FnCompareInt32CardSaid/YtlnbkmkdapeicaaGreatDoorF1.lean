/- binary.LittleEndian.Uint32 of four bytes. -/
import Derived.Test.YtlnbkmkdapeicaaGreatDoorWMore
import Derived.Test.YtlnbkmkdapeicaaGreatDoorProg
import Derived.Lib.Walk
import Derived.WalkKit
import Derived.Deep.QuietTactic
import Derived.BigQuiet
import Derived.WideLaws
import Derived.KernelRfl
import Derived.Lib.Endian
import Derived.Lib.EndianBits
import Derived.RegionTactic
import Derived.Deep.Draws
import Derived.Shelf.RegionOpenPlain
import Derived.Stop.LaidErr
import Derived.Laws.IdiomCopy
namespace Go.Proofs.YtlnbkmkdapeicaaGreatDoor.QE
open Go.RowKit Go.Proofs.YtlnbkmkdapeicaaGreatDoorW.PrintWords Go.Proofs.YtlnbkmkdapeicaaGreatDoorW.PrintLast Go.Proofs.YtlnbkmkdapeicaaGreatDoorW.PrintMore
set_option linter.unusedVariables false
set_option linter.unusedSimpArgs false
def le4 (b0 b1 b2 b3 : Int) : Int := b0 + b1 * 256 + b2 * 65536 + b3 * 16777216
set_option maxHeartbeats 8000000 in
set_option maxRecDepth 100000 in
theorem u32_is (A : Addr) (n c : Nat) (b0 b1 b2 b3 : Int) (w : World) (hn : 4 ≤ n) (h0 : 0 ≤ b0 ∧ b0 < 256) (h1 : 0 ≤ b1 ∧ b1 < 256) (h2 : 0 ≤ b2 ∧ b2 < 256) (h3 : 0 ≤ b3 ∧ b3 < 256)
    (c0 : w.cell? (A.add 0) = some (.int .u8 b0)) (c1 : w.cell? (A.add 1) = some (.int .u8 b1)) (c2 : w.cell? (A.add 2) = some (.int .u8 b2)) (c3 : w.cell? (A.add 3) = some (.int .u8 b3)) :
    Calls Tryz.prog 86 #[.agg #[], .slice (some A) n c] w fun e w' => e = .returned (.int .u32 (le4 b0 b1 b2 b3)) ∧ Below w.heap.size w w' := by
  have hz : A.add 0 = A := by simp [Addr.add]
  rw [hz] at c0
  have hq : ∀ k, A.add (k + 1) = ⟨A.block, A.off + (k + 1), none⟩ := fun k => by simp [Addr.add]
  rw [show A.add 1 = ⟨A.block, A.off + 1, none⟩ from hq 0] at c1
  rw [show A.add 2 = ⟨A.block, A.off + 2, none⟩ from hq 1] at c2
  rw [show A.add 3 = ⟨A.block, A.off + 3, none⟩ from hq 2] at c3
  have d0 := cell?_alloc_old (.cells #[] 101) c0
  have e0 : (w.alloc (.cells #[] 101)).drew.cell? A = some (.int .u8 b0) := d0
  have d1 := cell?_alloc_old (.cells #[] 101) c1
  have e1 : (w.alloc (.cells #[] 101)).drew.cell? ⟨A.block, A.off + 1, none⟩ = some (.int .u8 b1) := d1
  have d2 := cell?_alloc_old (.cells #[] 101) c2
  have e2 : (w.alloc (.cells #[] 101)).drew.cell? ⟨A.block, A.off + 2, none⟩ = some (.int .u8 b2) := d2
  have d3 := cell?_alloc_old (.cells #[] 101) c3
  have e3 : (w.alloc (.cells #[] 101)).drew.cell? ⟨A.block, A.off + 3, none⟩ = some (.int .u8 b3) := d3
  have mixed : Tryz.prog.follows .mixedOrders = true := by kernel_rfl
  clear hz hq c0 c1 c2 c3
  go_enter Tryz.func86, Tryz.ntmps86
  go_wp2
  go_quiet ((fail))
  go_wp2
  go_ret
  refine ⟨?_, pw_below_drewN ((Below.refl _ w).alloc (Nat.le_refl _) _) _⟩
  simp (disch := omega) only [u32_or8, u32_or16, u32_or24]
  rfl
end Go.Proofs.YtlnbkmkdapeicaaGreatDoor.QE
