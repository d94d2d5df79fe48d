/- binary.LittleEndian.Uint32 of four bytes. -/
import Derived.Test.YtlnbkmkdapeicaaDoorWMore
import Derived.Test.YtlnbkmkdapeicaaDoorProg
import Derived.Lib.Walk
import Derived.WalkKit
import Derived.Deep.QuietTactic
import Derived.BigQuiet
import Derived.WideLaws
import Derived.KernelRfl
import Derived.Lib.Endian
import Derived.Lib.EndianBits
import Derived.RegionTactic
import Derived.Deep.Draws
import Derived.Shelf.RegionOpenPlain
import Derived.Stop.LaidErr
import Derived.Laws.IdiomCopy
namespace Go.Proofs.YtlnbkmkdapeicaaDoor.QE
open Go.RowKit Go.Proofs.YtlnbkmkdapeicaaDoorW.PrintWords Go.Proofs.YtlnbkmkdapeicaaDoorW.PrintLast Go.Proofs.YtlnbkmkdapeicaaDoorW.PrintMore
set_option linter.unusedVariables false
set_option linter.unusedSimpArgs false
def le4 (b0 b1 b2 b3 : Int) : Int := b0 + b1 * 256 + b2 * 65536 + b3 * 16777216
def le8 (b0 b1 b2 b3 b4 b5 b6 b7 : Int) : Int := b0 + b1 * 256 + b2 * 65536 + b3 * 16777216 + b4 * 4294967296 + b5 * 1099511627776 + b6 * 281474976710656 + b7 * 72057594037927936
set_option maxHeartbeats 8000000 in
set_option maxRecDepth 100000 in
theorem u64_is (A : Addr) (n c : Nat) (b0 b1 b2 b3 b4 b5 b6 b7 : Int) (w : World) (hn : 8 ≤ n) (h0 : 0 ≤ b0 ∧ b0 < 256) (h1 : 0 ≤ b1 ∧ b1 < 256) (h2 : 0 ≤ b2 ∧ b2 < 256) (h3 : 0 ≤ b3 ∧ b3 < 256) (h4 : 0 ≤ b4 ∧ b4 < 256) (h5 : 0 ≤ b5 ∧ b5 < 256) (h6 : 0 ≤ b6 ∧ b6 < 256) (h7 : 0 ≤ b7 ∧ b7 < 256)
    (c0 : w.cell? (A.add 0) = some (.int .u8 b0)) (c1 : w.cell? (A.add 1) = some (.int .u8 b1)) (c2 : w.cell? (A.add 2) = some (.int .u8 b2)) (c3 : w.cell? (A.add 3) = some (.int .u8 b3))
    (c4 : w.cell? (A.add 4) = some (.int .u8 b4)) (c5 : w.cell? (A.add 5) = some (.int .u8 b5)) (c6 : w.cell? (A.add 6) = some (.int .u8 b6)) (c7 : w.cell? (A.add 7) = some (.int .u8 b7)) :
    Calls Tryd.prog 79 #[.agg #[], .slice (some A) n c] w fun e w' => e = .returned (.int .u64 (le8 b0 b1 b2 b3 b4 b5 b6 b7)) ∧ Below w.heap.size w w' := by
  have hz : A.add 0 = A := by simp [Addr.add]
  rw [hz] at c0
  have hq : ∀ k, A.add (k + 1) = ⟨A.block, A.off + (k + 1), none⟩ := fun k => by simp [Addr.add]
  rw [show A.add 1 = ⟨A.block, A.off + 1, none⟩ from hq 0] at c1
  rw [show A.add 2 = ⟨A.block, A.off + 2, none⟩ from hq 1] at c2
  rw [show A.add 3 = ⟨A.block, A.off + 3, none⟩ from hq 2] at c3
  rw [show A.add 4 = ⟨A.block, A.off + 4, none⟩ from hq 3] at c4
  rw [show A.add 5 = ⟨A.block, A.off + 5, none⟩ from hq 4] at c5
  rw [show A.add 6 = ⟨A.block, A.off + 6, none⟩ from hq 5] at c6
  rw [show A.add 7 = ⟨A.block, A.off + 7, none⟩ from hq 6] at c7
  have d0 := cell?_alloc_old (.cells #[] 103) c0
  have e0 : (w.alloc (.cells #[] 103)).drew.cell? A = some (.int .u8 b0) := d0
  have d1 := cell?_alloc_old (.cells #[] 103) c1
  have e1 : (w.alloc (.cells #[] 103)).drew.cell? ⟨A.block, A.off + 1, none⟩ = some (.int .u8 b1) := d1
  have d2 := cell?_alloc_old (.cells #[] 103) c2
  have e2 : (w.alloc (.cells #[] 103)).drew.cell? ⟨A.block, A.off + 2, none⟩ = some (.int .u8 b2) := d2
  have d3 := cell?_alloc_old (.cells #[] 103) c3
  have e3 : (w.alloc (.cells #[] 103)).drew.cell? ⟨A.block, A.off + 3, none⟩ = some (.int .u8 b3) := d3
  have d4 := cell?_alloc_old (.cells #[] 103) c4
  have e4 : (w.alloc (.cells #[] 103)).drew.cell? ⟨A.block, A.off + 4, none⟩ = some (.int .u8 b4) := d4
  have d5 := cell?_alloc_old (.cells #[] 103) c5
  have e5 : (w.alloc (.cells #[] 103)).drew.cell? ⟨A.block, A.off + 5, none⟩ = some (.int .u8 b5) := d5
  have d6 := cell?_alloc_old (.cells #[] 103) c6
  have e6 : (w.alloc (.cells #[] 103)).drew.cell? ⟨A.block, A.off + 6, none⟩ = some (.int .u8 b6) := d6
  have d7 := cell?_alloc_old (.cells #[] 103) c7
  have e7 : (w.alloc (.cells #[] 103)).drew.cell? ⟨A.block, A.off + 7, none⟩ = some (.int .u8 b7) := d7
  have mixed : Tryd.prog.follows .mixedOrders = true := by kernel_rfl
  clear hz hq c0 c1 c2 c3 c4 c5 c6 c7
  go_enter Tryd.func79, Tryd.ntmps79
  go_wp2
  go_quiet ((fail))
  go_wp2
  go_ret
  refine ⟨?_, pw_below_drewN ((Below.refl _ w).alloc (Nat.le_refl _) _) _⟩
  simp (disch := omega) only [u64_or8, u64_or16, u64_or24, u64_or32, u64_or40, u64_or48, u64_or56]
  rfl
end Go.Proofs.YtlnbkmkdapeicaaDoor.QE
