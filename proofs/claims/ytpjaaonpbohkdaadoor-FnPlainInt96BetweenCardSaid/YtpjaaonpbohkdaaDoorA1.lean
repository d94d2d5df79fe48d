/- math/bits.Len64 and LeadingZeros64: the number of bits of a number of 64 bits, and how many are ahead of the first one that is set. -/
import Derived.Test.YtpjaaonpbohkdaaDoorWMore
import Derived.Test.YtpjaaonpbohkdaaDoorProg
import Derived.Lib.Walk
import Derived.WalkKit
import Derived.Deep.QuietTactic
import Derived.BigQuiet
import Derived.WideLaws
import Derived.KernelRfl
import Derived.Lib.Endian
import Derived.Lib.EndianBits
import Derived.RegionTactic
import Derived.Deep.Draws
import Derived.Shelf.RegionOpenPlain
import Derived.Stop.LaidErr
import Derived.Laws.IdiomCopy
namespace Go.Proofs.YtpjaaonpbohkdaaDoor.QE
open Go.RowKit Go.Proofs.YtpjaaonpbohkdaaDoorW.PrintWords Go.Proofs.YtpjaaonpbohkdaaDoorW.PrintLast Go.Proofs.YtpjaaonpbohkdaaDoorW.PrintMore
set_option linter.unusedVariables false
set_option linter.unusedSimpArgs false
def len (x : Nat) : Nat := if x = 0 then 0 else Nat.log2 x + 1
theorem len_div (x n : Nat) (h : 2 ^ n ≤ x) : len x = n + len (x / 2 ^ n) := by
  have hp : 0 < 2 ^ n := Nat.pow_pos (by decide)
  have hx : x ≠ 0 := by omega
  have hd : x / 2 ^ n ≠ 0 := by
    have := (Nat.le_div_iff_mul_le hp).2 (by simpa using h : 1 * 2 ^ n ≤ x)
    omega
  unfold len
  rw [if_neg hx, if_neg hd]
  have h2 := (Nat.log2_eq_iff hd).1 rfl
  have : x.log2 = (x / 2 ^ n).log2 + n := by
    refine (Nat.log2_eq_iff hx).2 ⟨?_, ?_⟩
    · rw [Nat.pow_add]; exact (Nat.le_div_iff_mul_le hp).1 h2.1
    · have := (Nat.div_lt_iff_lt_mul hp).1 h2.2
      rw [show (x / 2 ^ n).log2 + n + 1 = (x / 2 ^ n).log2 + 1 + n by omega, Nat.pow_add]
      exact this
  omega
theorem len_le (x k : Nat) (h : x < 2 ^ k) : len x ≤ k := by
  unfold len
  split
  · omega
  · rename_i hx
    have := (Nat.log2_lt hx).2 h
    omega
def tab8 : ByteArray := ⟨#[0, 1, 2, 2, 3, 3, 3, 3, 4, 4, 4, 4, 4, 4, 4, 4, 5, 5, 5, 5, 5, 5, 5, 5, 5, 5, 5, 5, 5, 5, 5, 5, 6, 6, 6, 6, 6, 6, 6, 6, 6, 6, 6, 6, 6, 6, 6, 6, 6, 6, 6, 6, 6, 6, 6, 6, 6, 6, 6, 6, 6, 6, 6, 6, 7, 7, 7, 7, 7, 7, 7, 7, 7, 7, 7, 7, 7, 7, 7, 7, 7, 7, 7, 7, 7, 7, 7, 7, 7, 7, 7, 7, 7, 7, 7, 7, 7, 7, 7, 7, 7, 7, 7, 7, 7, 7, 7, 7, 7, 7, 7, 7, 7, 7, 7, 7, 7, 7, 7, 7, 7, 7, 7, 7, 7, 7, 7, 7, 8, 8, 8, 8, 8, 8, 8, 8, 8, 8, 8, 8, 8, 8, 8, 8, 8, 8, 8, 8, 8, 8, 8, 8, 8, 8, 8, 8, 8, 8, 8, 8, 8, 8, 8, 8, 8, 8, 8, 8, 8, 8, 8, 8, 8, 8, 8, 8, 8, 8, 8, 8, 8, 8, 8, 8, 8, 8, 8, 8, 8, 8, 8, 8, 8, 8, 8, 8, 8, 8, 8, 8, 8, 8, 8, 8, 8, 8, 8, 8, 8, 8, 8, 8, 8, 8, 8, 8, 8, 8, 8, 8, 8, 8, 8, 8, 8, 8, 8, 8, 8, 8, 8, 8, 8, 8, 8, 8, 8, 8, 8, 8, 8, 8, 8, 8, 8, 8, 8, 8, 8, 8, 8, 8, 8, 8, 8, 8]⟩
theorem tab8_size : tab8.size = 256 := by decide +kernel
theorem tab8_is : ∀ k : Fin 256, (bt tab8 (k.val : Int)) = (len k.val : Int) := by decide +kernel
theorem tab8_at (y : Int) (h : 0 ≤ y ∧ y < 256) (hs : y.toNat < tab8.size) : wrap64 ((tab8[y.toNat]'hs).toNat : Int) = (len y.toNat : Int) := by
  obtain ⟨n, rfl⟩ := Int.eq_ofNat_of_zero_le h.1
  have h2 : bt tab8 (n : Int) = (len n : Int) := tab8_is ⟨n, by omega⟩
  have hl := len_le n 8 (by omega)
  have e : bt tab8 (n : Int) = ((tab8[(n : Int).toNat]'hs).toNat : Int) := by unfold bt; rw [dif_pos hs]
  rw [← e]
  simp only [Int.toNat_natCast]
  rw [h2]
  unfold wrap64
  omega
theorem ret_i64 {a b : Int} (h : a = b) : Ending.returned (.int .i64 a) = .returned (.int .i64 b) := by rw [h]
set_option maxRecDepth 100000 in
theorem len64_111 (x : Int) (h0 : 0 ≤ x) (h1 : x < 18446744073709551616) (ha : 4294967296 ≤ x) (hb : 65536 ≤ x / 4294967296) (hc : 256 ≤ x / 4294967296 / 65536) (w : World) : Calls Tryd.prog 122 #[.int .u64 x] w fun e w' => e = .returned (.int .i64 (56 + (len (x / 4294967296 / 65536 / 256).toNat : Int))) ∧ w = w' := by
  have hy : 0 ≤ x / 4294967296 / 65536 / 256 ∧ x / 4294967296 / 65536 / 256 < 256 := by omega
  have H := Aside0.mk hy
  clear hy
  go_enter Tryd.func122, Tryd.ntmps122
  go_wp2
  go_ret
  refine ⟨ret_i64 ?_, rfl⟩
  have hl := len_le (x / 4294967296 / 65536 / 256).toNat 8 (by have := H.out; omega)
  have hs : (x / 4294967296 / 65536 / 256).toNat < tab8.size := by rw [tab8_size]; have := H.out; omega
  have ht := tab8_at (x / 4294967296 / 65536 / 256) H.out hs
  generalize len (x / 4294967296 / 65536 / 256).toNat = L at ht hl ⊢
  refine (congrArg (fun z => wrap64 (56 + z)) ht).trans ?_
  unfold wrap64
  omega
set_option maxRecDepth 100000 in
theorem len64_110 (x : Int) (h0 : 0 ≤ x) (h1 : x < 18446744073709551616) (ha : 4294967296 ≤ x) (hb : 65536 ≤ x / 4294967296) (hc : x / 4294967296 / 65536 < 256) (w : World) : Calls Tryd.prog 122 #[.int .u64 x] w fun e w' => e = .returned (.int .i64 (48 + (len (x / 4294967296 / 65536).toNat : Int))) ∧ w = w' := by
  have hy : 0 ≤ x / 4294967296 / 65536 ∧ x / 4294967296 / 65536 < 256 := by omega
  have H := Aside0.mk hy
  clear hy
  go_enter Tryd.func122, Tryd.ntmps122
  go_wp2
  go_ret
  refine ⟨ret_i64 ?_, rfl⟩
  have hl := len_le (x / 4294967296 / 65536).toNat 8 (by have := H.out; omega)
  have hs : (x / 4294967296 / 65536).toNat < tab8.size := by rw [tab8_size]; have := H.out; omega
  have ht := tab8_at (x / 4294967296 / 65536) H.out hs
  generalize len (x / 4294967296 / 65536).toNat = L at ht hl ⊢
  refine (congrArg (fun z => wrap64 (48 + z)) ht).trans ?_
  unfold wrap64
  omega
set_option maxRecDepth 100000 in
theorem len64_101 (x : Int) (h0 : 0 ≤ x) (h1 : x < 18446744073709551616) (ha : 4294967296 ≤ x) (hb : x / 4294967296 < 65536) (hc : 256 ≤ x / 4294967296) (w : World) : Calls Tryd.prog 122 #[.int .u64 x] w fun e w' => e = .returned (.int .i64 (40 + (len (x / 4294967296 / 256).toNat : Int))) ∧ w = w' := by
  have hy : 0 ≤ x / 4294967296 / 256 ∧ x / 4294967296 / 256 < 256 := by omega
  have H := Aside0.mk hy
  clear hy
  go_enter Tryd.func122, Tryd.ntmps122
  go_wp2
  go_ret
  refine ⟨ret_i64 ?_, rfl⟩
  have hl := len_le (x / 4294967296 / 256).toNat 8 (by have := H.out; omega)
  have hs : (x / 4294967296 / 256).toNat < tab8.size := by rw [tab8_size]; have := H.out; omega
  have ht := tab8_at (x / 4294967296 / 256) H.out hs
  generalize len (x / 4294967296 / 256).toNat = L at ht hl ⊢
  refine (congrArg (fun z => wrap64 (40 + z)) ht).trans ?_
  unfold wrap64
  omega
set_option maxRecDepth 100000 in
theorem len64_100 (x : Int) (h0 : 0 ≤ x) (h1 : x < 18446744073709551616) (ha : 4294967296 ≤ x) (hb : x / 4294967296 < 65536) (hc : x / 4294967296 < 256) (w : World) : Calls Tryd.prog 122 #[.int .u64 x] w fun e w' => e = .returned (.int .i64 (32 + (len (x / 4294967296).toNat : Int))) ∧ w = w' := by
  have hy : 0 ≤ x / 4294967296 ∧ x / 4294967296 < 256 := by omega
  have H := Aside0.mk hy
  clear hy
  go_enter Tryd.func122, Tryd.ntmps122
  go_wp2
  go_ret
  refine ⟨ret_i64 ?_, rfl⟩
  have hl := len_le (x / 4294967296).toNat 8 (by have := H.out; omega)
  have hs : (x / 4294967296).toNat < tab8.size := by rw [tab8_size]; have := H.out; omega
  have ht := tab8_at (x / 4294967296) H.out hs
  generalize len (x / 4294967296).toNat = L at ht hl ⊢
  refine (congrArg (fun z => wrap64 (32 + z)) ht).trans ?_
  unfold wrap64
  omega
set_option maxRecDepth 100000 in
theorem len64_011 (x : Int) (h0 : 0 ≤ x) (h1 : x < 18446744073709551616) (ha : x < 4294967296) (hb : 65536 ≤ x) (hc : 256 ≤ x / 65536) (w : World) : Calls Tryd.prog 122 #[.int .u64 x] w fun e w' => e = .returned (.int .i64 (24 + (len (x / 65536 / 256).toNat : Int))) ∧ w = w' := by
  have hy : 0 ≤ x / 65536 / 256 ∧ x / 65536 / 256 < 256 := by omega
  have H := Aside0.mk hy
  clear hy
  go_enter Tryd.func122, Tryd.ntmps122
  go_wp2
  go_ret
  refine ⟨ret_i64 ?_, rfl⟩
  have hl := len_le (x / 65536 / 256).toNat 8 (by have := H.out; omega)
  have hs : (x / 65536 / 256).toNat < tab8.size := by rw [tab8_size]; have := H.out; omega
  have ht := tab8_at (x / 65536 / 256) H.out hs
  generalize len (x / 65536 / 256).toNat = L at ht hl ⊢
  refine (congrArg (fun z => wrap64 (24 + z)) ht).trans ?_
  unfold wrap64
  omega
set_option maxRecDepth 100000 in
theorem len64_010 (x : Int) (h0 : 0 ≤ x) (h1 : x < 18446744073709551616) (ha : x < 4294967296) (hb : 65536 ≤ x) (hc : x / 65536 < 256) (w : World) : Calls Tryd.prog 122 #[.int .u64 x] w fun e w' => e = .returned (.int .i64 (16 + (len (x / 65536).toNat : Int))) ∧ w = w' := by
  have hy : 0 ≤ x / 65536 ∧ x / 65536 < 256 := by omega
  have H := Aside0.mk hy
  clear hy
  go_enter Tryd.func122, Tryd.ntmps122
  go_wp2
  go_ret
  refine ⟨ret_i64 ?_, rfl⟩
  have hl := len_le (x / 65536).toNat 8 (by have := H.out; omega)
  have hs : (x / 65536).toNat < tab8.size := by rw [tab8_size]; have := H.out; omega
  have ht := tab8_at (x / 65536) H.out hs
  generalize len (x / 65536).toNat = L at ht hl ⊢
  refine (congrArg (fun z => wrap64 (16 + z)) ht).trans ?_
  unfold wrap64
  omega
set_option maxRecDepth 100000 in
theorem len64_001 (x : Int) (h0 : 0 ≤ x) (h1 : x < 18446744073709551616) (ha : x < 4294967296) (hb : x < 65536) (hc : 256 ≤ x) (w : World) : Calls Tryd.prog 122 #[.int .u64 x] w fun e w' => e = .returned (.int .i64 (8 + (len (x / 256).toNat : Int))) ∧ w = w' := by
  have hy : 0 ≤ x / 256 ∧ x / 256 < 256 := by omega
  have H := Aside0.mk hy
  clear hy
  go_enter Tryd.func122, Tryd.ntmps122
  go_wp2
  go_ret
  refine ⟨ret_i64 ?_, rfl⟩
  have hl := len_le (x / 256).toNat 8 (by have := H.out; omega)
  have hs : (x / 256).toNat < tab8.size := by rw [tab8_size]; have := H.out; omega
  have ht := tab8_at (x / 256) H.out hs
  generalize len (x / 256).toNat = L at ht hl ⊢
  refine (congrArg (fun z => wrap64 (8 + z)) ht).trans ?_
  unfold wrap64
  omega
set_option maxRecDepth 100000 in
theorem len64_000 (x : Int) (h0 : 0 ≤ x) (h1 : x < 18446744073709551616) (ha : x < 4294967296) (hb : x < 65536) (hc : x < 256) (w : World) : Calls Tryd.prog 122 #[.int .u64 x] w fun e w' => e = .returned (.int .i64 (0 + (len (x).toNat : Int))) ∧ w = w' := by
  have hy : 0 ≤ x ∧ x < 256 := by omega
  have H := Aside0.mk hy
  clear hy
  go_enter Tryd.func122, Tryd.ntmps122
  go_wp2
  go_ret
  refine ⟨ret_i64 ?_, rfl⟩
  have hl := len_le (x).toNat 8 (by have := H.out; omega)
  have hs : (x).toNat < tab8.size := by rw [tab8_size]; have := H.out; omega
  have ht := tab8_at (x) H.out hs
  generalize len (x).toNat = L at ht hl ⊢
  refine (congrArg wrap64 ht).trans ?_
  unfold wrap64
  omega
theorem len64_is (x : Nat) (hx : x < 18446744073709551616) (w : World) : Calls Tryd.prog 122 #[.int .u64 (x : Int)] w fun e w' => e = .returned (.int .i64 (len x : Int)) ∧ w = w' := by
  have step : ∀ (d y : Nat) (z : Int), z.toNat = y → len x = d + len y → ∀ (e : Ending) (w' : World), (e = Ending.returned (.int .i64 ((d : Int) + (len z.toNat : Int))) ∧ w = w') → (e = Ending.returned (.int .i64 (len x : Int)) ∧ w = w') := by
    rintro d y z rfl h e w' ⟨rfl, rfl⟩
    exact ⟨ret_i64 (by rw [h]; omega), rfl⟩
  by_cases a : 4294967296 ≤ x
  · have la : len x = 32 + len (x / 4294967296) := len_div x 32 a
    by_cases b : 65536 ≤ x / 4294967296
    · have lb : len (x / 4294967296) = 16 + len (x / 4294967296 / 65536) := len_div (x / 4294967296) 16 b
      by_cases c : 256 ≤ x / 4294967296 / 65536
      · have lc : len (x / 4294967296 / 65536) = 8 + len (x / 4294967296 / 65536 / 256) := len_div (x / 4294967296 / 65536) 8 c
        exact (len64_111 x (by omega) (by omega) (by omega) (by omega) (by omega) w).mono (step 56 (x / 4294967296 / 65536 / 256) _ (by omega) (by rw [la, lb, lc]; omega))
      · exact (len64_110 x (by omega) (by omega) (by omega) (by omega) (by omega) w).mono (step 48 (x / 4294967296 / 65536) _ (by omega) (by rw [la, lb]; omega))
    · by_cases c : 256 ≤ x / 4294967296
      · have lc : len (x / 4294967296) = 8 + len (x / 4294967296 / 256) := len_div (x / 4294967296) 8 c
        exact (len64_101 x (by omega) (by omega) (by omega) (by omega) (by omega) w).mono (step 40 (x / 4294967296 / 256) _ (by omega) (by rw [la, lc]; omega))
      · exact (len64_100 x (by omega) (by omega) (by omega) (by omega) (by omega) w).mono (step 32 (x / 4294967296) _ (by omega) (by rw [la]))
  · by_cases b : 65536 ≤ x
    · have lb : len x = 16 + len (x / 65536) := len_div x 16 b
      by_cases c : 256 ≤ x / 65536
      · have lc : len (x / 65536) = 8 + len (x / 65536 / 256) := len_div (x / 65536) 8 c
        exact (len64_011 x (by omega) (by omega) (by omega) (by omega) (by omega) w).mono (step 24 (x / 65536 / 256) _ (by omega) (by rw [lb, lc]; omega))
      · exact (len64_010 x (by omega) (by omega) (by omega) (by omega) (by omega) w).mono (step 16 (x / 65536) _ (by omega) (by rw [lb]))
    · by_cases c : 256 ≤ x
      · have lc : len x = 8 + len (x / 256) := len_div x 8 c
        exact (len64_001 x (by omega) (by omega) (by omega) (by omega) (by omega) w).mono (step 8 (x / 256) _ (by omega) (by rw [lc]))
      · exact (len64_000 x (by omega) (by omega) (by omega) (by omega) (by omega) w).mono (step 0 x _ (by omega) (by omega))
def lz (x : Nat) : Nat := 64 - len x
theorem lz64_is (x : Nat) (hx : x < 18446744073709551616) (w : World) : Calls Tryd.prog 120 #[.int .u64 (x : Int)] w fun e w' => e = .returned (.int .i64 (lz x : Int)) ∧ w = w' := by
  have hl := len_le x 64 hx
  have H := Aside0.mk hl
  have C := Aside0.mk (len64_is x hx w)
  clear hl hx
  go_enter Tryd.func120, Tryd.ntmps120
  go_wp2_with (go_at_call 122; refine C.out.mono ?_; rintro e w' ⟨rfl, rfl⟩)
  go_ret
  refine ⟨ret_i64 ?_, rfl⟩
  have := H.out
  unfold lz wrap64
  omega
end Go.Proofs.YtpjaaonpbohkdaaDoor.QE
/- binary.LittleEndian.Uint64 of eight bytes. -/
namespace Go.Proofs.YtpjaaonpbohkdaaDoor.QE
open Go.RowKit Go.Proofs.YtpjaaonpbohkdaaDoorW.PrintWords Go.Proofs.YtpjaaonpbohkdaaDoorW.PrintLast Go.Proofs.YtpjaaonpbohkdaaDoorW.PrintMore
set_option linter.unusedVariables false
set_option linter.unusedSimpArgs false
def le8 (b0 b1 b2 b3 b4 b5 b6 b7 : Int) : Int := b0 + b1 * 256 + b2 * 65536 + b3 * 16777216 + b4 * 4294967296 + b5 * 1099511627776 + b6 * 281474976710656 + b7 * 72057594037927936
set_option maxHeartbeats 8000000 in
set_option maxRecDepth 100000 in
theorem u64_is (A : Addr) (n c : Nat) (b0 b1 b2 b3 b4 b5 b6 b7 : Int) (w : World) (hn : 8 ≤ n) (h0 : 0 ≤ b0 ∧ b0 < 256) (h1 : 0 ≤ b1 ∧ b1 < 256) (h2 : 0 ≤ b2 ∧ b2 < 256) (h3 : 0 ≤ b3 ∧ b3 < 256) (h4 : 0 ≤ b4 ∧ b4 < 256) (h5 : 0 ≤ b5 ∧ b5 < 256) (h6 : 0 ≤ b6 ∧ b6 < 256) (h7 : 0 ≤ b7 ∧ b7 < 256)
    (c0 : w.cell? (A.add 0) = some (.int .u8 b0)) (c1 : w.cell? (A.add 1) = some (.int .u8 b1)) (c2 : w.cell? (A.add 2) = some (.int .u8 b2)) (c3 : w.cell? (A.add 3) = some (.int .u8 b3))
    (c4 : w.cell? (A.add 4) = some (.int .u8 b4)) (c5 : w.cell? (A.add 5) = some (.int .u8 b5)) (c6 : w.cell? (A.add 6) = some (.int .u8 b6)) (c7 : w.cell? (A.add 7) = some (.int .u8 b7)) :
    Calls Tryd.prog 89 #[.agg #[], .slice (some A) n c] w fun e w' => e = .returned (.int .u64 (le8 b0 b1 b2 b3 b4 b5 b6 b7)) ∧ Below w.heap.size w w' := by
  have hz : A.add 0 = A := by simp [Addr.add]
  rw [hz] at c0
  have hq : ∀ k, A.add (k + 1) = ⟨A.block, A.off + (k + 1), none⟩ := fun k => by simp [Addr.add]
  rw [show A.add 1 = ⟨A.block, A.off + 1, none⟩ from hq 0] at c1
  rw [show A.add 2 = ⟨A.block, A.off + 2, none⟩ from hq 1] at c2
  rw [show A.add 3 = ⟨A.block, A.off + 3, none⟩ from hq 2] at c3
  rw [show A.add 4 = ⟨A.block, A.off + 4, none⟩ from hq 3] at c4
  rw [show A.add 5 = ⟨A.block, A.off + 5, none⟩ from hq 4] at c5
  rw [show A.add 6 = ⟨A.block, A.off + 6, none⟩ from hq 5] at c6
  rw [show A.add 7 = ⟨A.block, A.off + 7, none⟩ from hq 6] at c7
  have d0 := cell?_alloc_old (.cells #[] 148) c0
  have e0 : (w.alloc (.cells #[] 148)).drew.cell? A = some (.int .u8 b0) := d0
  have d1 := cell?_alloc_old (.cells #[] 148) c1
  have e1 : (w.alloc (.cells #[] 148)).drew.cell? ⟨A.block, A.off + 1, none⟩ = some (.int .u8 b1) := d1
  have d2 := cell?_alloc_old (.cells #[] 148) c2
  have e2 : (w.alloc (.cells #[] 148)).drew.cell? ⟨A.block, A.off + 2, none⟩ = some (.int .u8 b2) := d2
  have d3 := cell?_alloc_old (.cells #[] 148) c3
  have e3 : (w.alloc (.cells #[] 148)).drew.cell? ⟨A.block, A.off + 3, none⟩ = some (.int .u8 b3) := d3
  have d4 := cell?_alloc_old (.cells #[] 148) c4
  have e4 : (w.alloc (.cells #[] 148)).drew.cell? ⟨A.block, A.off + 4, none⟩ = some (.int .u8 b4) := d4
  have d5 := cell?_alloc_old (.cells #[] 148) c5
  have e5 : (w.alloc (.cells #[] 148)).drew.cell? ⟨A.block, A.off + 5, none⟩ = some (.int .u8 b5) := d5
  have d6 := cell?_alloc_old (.cells #[] 148) c6
  have e6 : (w.alloc (.cells #[] 148)).drew.cell? ⟨A.block, A.off + 6, none⟩ = some (.int .u8 b6) := d6
  have d7 := cell?_alloc_old (.cells #[] 148) c7
  have e7 : (w.alloc (.cells #[] 148)).drew.cell? ⟨A.block, A.off + 7, none⟩ = some (.int .u8 b7) := d7
  have mixed : Tryd.prog.follows .mixedOrders = true := by kernel_rfl
  clear hz hq c0 c1 c2 c3 c4 c5 c6 c7
  go_enter Tryd.func89, Tryd.ntmps89
  go_wp2
  go_quiet ((fail))
  go_wp2
  go_ret
  refine ⟨?_, pw_below_drewN ((Below.refl _ w).alloc (Nat.le_refl _) _) _⟩
  simp (disch := omega) only [u64_or8, u64_or16, u64_or24, u64_or32, u64_or40, u64_or48, u64_or56]
  rfl
end Go.Proofs.YtpjaaonpbohkdaaDoor.QE
/- binary.LittleEndian.Uint32 of four bytes. -/
namespace Go.Proofs.YtpjaaonpbohkdaaDoor.QE
open Go.RowKit Go.Proofs.YtpjaaonpbohkdaaDoorW.PrintWords Go.Proofs.YtpjaaonpbohkdaaDoorW.PrintLast Go.Proofs.YtpjaaonpbohkdaaDoorW.PrintMore
set_option linter.unusedVariables false
set_option linter.unusedSimpArgs false
def le4 (b0 b1 b2 b3 : Int) : Int := b0 + b1 * 256 + b2 * 65536 + b3 * 16777216
set_option maxHeartbeats 8000000 in
set_option maxRecDepth 100000 in
theorem u32_is (A : Addr) (n c : Nat) (b0 b1 b2 b3 : Int) (w : World) (hn : 4 ≤ n) (h0 : 0 ≤ b0 ∧ b0 < 256) (h1 : 0 ≤ b1 ∧ b1 < 256) (h2 : 0 ≤ b2 ∧ b2 < 256) (h3 : 0 ≤ b3 ∧ b3 < 256)
    (c0 : w.cell? (A.add 0) = some (.int .u8 b0)) (c1 : w.cell? (A.add 1) = some (.int .u8 b1)) (c2 : w.cell? (A.add 2) = some (.int .u8 b2)) (c3 : w.cell? (A.add 3) = some (.int .u8 b3)) :
    Calls Tryd.prog 88 #[.agg #[], .slice (some A) n c] w fun e w' => e = .returned (.int .u32 (le4 b0 b1 b2 b3)) ∧ Below w.heap.size w w' := by
  have hz : A.add 0 = A := by simp [Addr.add]
  rw [hz] at c0
  have hq : ∀ k, A.add (k + 1) = ⟨A.block, A.off + (k + 1), none⟩ := fun k => by simp [Addr.add]
  rw [show A.add 1 = ⟨A.block, A.off + 1, none⟩ from hq 0] at c1
  rw [show A.add 2 = ⟨A.block, A.off + 2, none⟩ from hq 1] at c2
  rw [show A.add 3 = ⟨A.block, A.off + 3, none⟩ from hq 2] at c3
  have d0 := cell?_alloc_old (.cells #[] 148) c0
  have e0 : (w.alloc (.cells #[] 148)).drew.cell? A = some (.int .u8 b0) := d0
  have d1 := cell?_alloc_old (.cells #[] 148) c1
  have e1 : (w.alloc (.cells #[] 148)).drew.cell? ⟨A.block, A.off + 1, none⟩ = some (.int .u8 b1) := d1
  have d2 := cell?_alloc_old (.cells #[] 148) c2
  have e2 : (w.alloc (.cells #[] 148)).drew.cell? ⟨A.block, A.off + 2, none⟩ = some (.int .u8 b2) := d2
  have d3 := cell?_alloc_old (.cells #[] 148) c3
  have e3 : (w.alloc (.cells #[] 148)).drew.cell? ⟨A.block, A.off + 3, none⟩ = some (.int .u8 b3) := d3
  have mixed : Tryd.prog.follows .mixedOrders = true := by kernel_rfl
  clear hz hq c0 c1 c2 c3
  go_enter Tryd.func88, Tryd.ntmps88
  go_wp2
  go_quiet ((fail))
  go_wp2
  go_ret
  refine ⟨?_, pw_below_drewN ((Below.refl _ w).alloc (Nat.le_refl _) _) _⟩
  simp (disch := omega) only [u32_or8, u32_or16, u32_or24]
  rfl
end Go.Proofs.YtpjaaonpbohkdaaDoor.QE
