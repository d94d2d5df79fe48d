/- What the reader's methods do that the print does not take, in the print's form: loadPartial, LeadingZeros64; TrailingZeros64 is not come to. -/
import Derived.Test.YtpjaaonpbohkdaaDoorZA3
import Derived.Test.YtpjaaonpbohkdaaDoorZA4
import Derived.Deep.Cut
namespace Go.Proofs.YtpjaaonpbohkdaaDoor.QR
open Go.RowKit Go.Proofs.YtpjaaonpbohkdaaDoorW.PrintWords Go.Proofs.YtpjaaonpbohkdaaDoorW.PrintLast Go.Proofs.YtpjaaonpbohkdaaDoorW.PrintMore
set_option linter.unusedVariables false
set_option linter.unusedSimpArgs false
def bitutils_baseSetBitRunReader_loadPartial.f (s0_0 : List Int) (s0_1 s0_2 s0_3 s0_4 s0_5 : Int) (s0_6 : Bool) (s0_7 : Int) (a1 a2 : Int) : Option (Int × Int × Int × Int × Int × Int × Bool × Int) :=
  if s0_6 = true ∧ bytesOk s0_0 = true ∧ 0 ≤ a1 ∧ a1 ≤ 7 ∧ 1 ≤ a2 ∧ a2 ≤ 63 ∧ (a2 + 7) / 8 ≤ s0_1 ∧ s0_1 ≤ s0_0.length ∧ s0_0.length ≤ 1000000 then
    some (partW s0_0 (s0_1 - (a2 + 7) / 8) ((a2 + 7) / 8).toNat a1.toNat a2.toNat, s0_1 - (a2 + 7) / 8, s0_2, s0_3, s0_4, s0_5, s0_6, s0_7) else none
theorem bitutils_baseSetBitRunReader_loadPartial.calls (g : Nat) (s0_0 : List Int) (s0_1 : Int) (s0_2 : Int) (s0_3 : Int) (s0_4 : Int) (s0_5 : Int) (s0_6 : Bool) (s0_7 : Int) (a1 : Int) (a2 : Int) (r1 : Int) (r2 : Int) (r3 : Int) (r4 : Int) (r5 : Int) (r6 : Int) (r7 : Bool) (r8 : Int) (w0 w : World) (hI : IsS132 w0 w g s0_0 s0_1 s0_2 s0_3 s0_4 s0_5 s0_6 s0_7) (hB : Below w0.heap.size w0 w) (h : bitutils_baseSetBitRunReader_loadPartial.f s0_0 s0_1 s0_2 s0_3 s0_4 s0_5 s0_6 s0_7 a1 a2 = some (r1, r2, r3, r4, r5, r6, r7, r8)) :
    Calls Tryd.prog 83 #[.pointer (some ⟨g, 0, none⟩), .int .i8 a1, .int .i64 a2] w fun e w' => e = .returned (.int .u64 r1) ∧ IsS132 w0 w' g s0_0 r2 r3 r4 r5 r6 r7 r8 ∧ Below w0.heap.size w0 w' ∧ KeepBut w w' g none := by
  unfold bitutils_baseSetBitRunReader_loadPartial.f at h
  by_cases hc : s0_6 = true ∧ bytesOk s0_0 = true ∧ 0 ≤ a1 ∧ a1 ≤ 7 ∧ 1 ≤ a2 ∧ a2 ≤ 63 ∧ (a2 + 7) / 8 ≤ s0_1 ∧ s0_1 ≤ s0_0.length ∧ s0_0.length ≤ 1000000
  · rw [if_pos hc] at h
    have h2 := Option.some.inj h
    simp only [Prod.mk.injEq] at h2
    obtain ⟨rfl, rfl, rfl, rfl, rfl, rfl, rfl, rfl⟩ := h2
    clear h
    obtain ⟨rfl, hbo, ho0, ho7, hn1, hn63, hp, hpl, hl⟩ := hc
    obtain ⟨o, rfl⟩ := Int.eq_ofNat_of_zero_le ho0
    obtain ⟨n, rfl⟩ := Int.eq_ofNat_of_zero_le (show 0 ≤ a2 by omega)
    obtain ⟨nb, hnb⟩ : ∃ nb : Nat, ((n : Int) + 7) / 8 = nb := ⟨(n + 7) / 8, by omega⟩
    have hnb2 : (n + 7) / 8 = nb := by omega
    obtain ⟨q, rfl⟩ : ∃ q : Nat, s0_1 = (q : Int) + nb := ⟨(s0_1 - nb).toNat, by omega⟩
    rw [hnb, show (q : Int) + nb - nb = (q : Int) by omega, Int.toNat_natCast, Int.toNat_natCast, Int.toNat_natCast]
    have hcase : nb = 1 ∨ nb = 2 ∨ nb = 3 ∨ nb = 4 ∨ nb = 5 ∨ nb = 6 ∨ nb = 7 ∨ nb = 8 := by omega
    rcases hcase with e | e | e | e | e | e | e | e <;> subst e
    · exact loadPartial_1 g s0_0 _ _ _ _ _ q o n w0 w hI hB hbo (by omega) hl ho7 (by omega) (by omega) hnb2
    · exact loadPartial_2 g s0_0 _ _ _ _ _ q o n w0 w hI hB hbo (by omega) hl ho7 (by omega) (by omega) hnb2
    · exact loadPartial_3 g s0_0 _ _ _ _ _ q o n w0 w hI hB hbo (by omega) hl ho7 (by omega) (by omega) hnb2
    · exact loadPartial_4 g s0_0 _ _ _ _ _ q o n w0 w hI hB hbo (by omega) hl ho7 (by omega) (by omega) hnb2
    · exact loadPartial_5 g s0_0 _ _ _ _ _ q o n w0 w hI hB hbo (by omega) hl ho7 (by omega) (by omega) hnb2
    · exact loadPartial_6 g s0_0 _ _ _ _ _ q o n w0 w hI hB hbo (by omega) hl ho7 (by omega) (by omega) hnb2
    · exact loadPartial_7 g s0_0 _ _ _ _ _ q o n w0 w hI hB hbo (by omega) hl ho7 (by omega) (by omega) hnb2
    · exact loadPartial_8 g s0_0 _ _ _ _ _ q o n w0 w hI hB hbo (by omega) hl ho7 (by omega) (by omega) hnb2
  · rw [if_neg hc] at h
    cases h
def bits_LeadingZeros64.f (a0 : Int) : Option Int := if 0 ≤ a0 ∧ a0 < 18446744073709551616 then some (QE.lz a0.toNat : Int) else none
theorem bits_LeadingZeros64.calls (a0 : Int) (r : Int) (w : World) (h : bits_LeadingZeros64.f a0 = some r) :
    Calls Tryd.prog 120 #[.int .u64 a0] w fun e w' => e = .returned (.int .i64 r) ∧ Drawn0 w w' := by
  unfold bits_LeadingZeros64.f at h
  by_cases hc : 0 ≤ a0 ∧ a0 < 18446744073709551616
  · rw [if_pos hc] at h
    obtain rfl := Option.some.inj h
    obtain ⟨x, rfl⟩ := Int.eq_ofNat_of_zero_le hc.1
    refine (QE.lz64_is x (by omega) w).mono ?_
    rintro e w' ⟨rfl, rfl⟩
    exact ⟨rfl, ⟨0, rfl⟩⟩
  · rw [if_neg hc] at h
    cases h
def bits_TrailingZeros64.f (_ : Int) : Option Int := none
theorem bits_TrailingZeros64.calls (a0 : Int) (r : Int) (w : World) (h : bits_TrailingZeros64.f a0 = some r) :
    Calls Tryd.prog 121 #[.int .u64 a0] w fun e w' => e = .returned (.int .i64 r) ∧ Drawn0 w w' := by cases h
end Go.Proofs.YtpjaaonpbohkdaaDoor.QR
/- The small methods of the reader of set bits, backwards; ^x of an unsigned number. -/
namespace Go.Proofs.YtpjaaonpbohkdaaDoor.QR
open Go.RowKit Go.Proofs.YtpjaaonpbohkdaaDoorW.PrintWords Go.Proofs.YtpjaaonpbohkdaaDoorW.PrintLast Go.Proofs.YtpjaaonpbohkdaaDoorW.PrintMore
set_option linter.unusedVariables false
set_option linter.unusedSimpArgs false
def not64 (x : Nat) : Nat := 18446744073709551615 - x
def shl64 (x z : Nat) : Nat := x * 2 ^ z % 18446744073709551616
theorem not64_lt (x : Nat) : not64 x < 18446744073709551616 := by unfold not64; omega
theorem shl64_lt (x z : Nat) : shl64 x z < 18446744073709551616 := Nat.mod_lt _ (by decide)
theorem xor_not (x : Nat) (hx : x < 18446744073709551616) : Go.bits .xor .u64 IntKind.u64.max (x : Int) = ((not64 x : Nat) : Int) := by
  have e1 : IntKind.u64.max = 18446744073709551615 := by decide
  rw [e1]
  unfold Go.bits
  have e2 : BitVec.ofInt 64 18446744073709551615 = BitVec.allOnes 64 := by decide
  have e3 : BitVec.ofInt 64 (x : Int) = BitVec.ofNat 64 x := BitVec.ofInt_natCast ..
  show IntKind.u64.wrap (((BitVec.ofInt 64 18446744073709551615) ^^^ (BitVec.ofInt 64 (x : Int))).toNat : Int) = _
  rw [e2, e3, BitVec.allOnes_xor, BitVec.toNat_not, BitVec.toNat_ofNat, Nat.mod_eq_of_lt (by simpa using hx)]
  rw [wraps_u64 _ (by omega) (by omega)]
  unfold not64
  rfl
theorem shl_nat (x z : Nat) : IntKind.u64.wrap ((x : Int) * 2 ^ z) = ((shl64 x z : Nat) : Int) := by
  rw [IntKind.wrap_u64]
  unfold shl64
  rw [Int.natCast_emod, Int.natCast_mul, Int.natCast_pow]
  rfl
theorem kb_g {w w1 : World} {g j : Nat} {v : Value} (h : KeepBut w w1 g none) : KeepBut w (w1.setCell ⟨g, j, none⟩ v) g none :=
  ⟨Nat.le_trans h.1 (by simp [World.setCell]), fun i hi hg hn => (Below.heap_setCell w1 ⟨g, j, none⟩ v i hg).trans (h.2 i hi hg hn)⟩
theorem kb_new {w w1 : World} {g b j : Nat} {v : Value} (h : KeepBut w w1 g none) (hb : w.heap.size ≤ b) : KeepBut w (w1.setCell ⟨b, j, none⟩ v) g none :=
  ⟨Nat.le_trans h.1 (by simp [World.setCell]), fun i hi hg hn => (Below.heap_setCell w1 ⟨b, j, none⟩ v i (by show i ≠ b; omega)).trans (h.2 i hi hg hn)⟩
theorem kb_drew {w w1 : World} {g : Nat} (h : KeepBut w w1 g none) : KeepBut w w1.drew g none := h
theorem cfz_is (g x : Nat) (hx : x < 18446744073709551616) (w : World) (k6 : w.cell? ⟨g, 6, none⟩ = some (.bool true)) :
    Calls Tryd.prog 118 #[.pointer (some ⟨g, 0, none⟩), .int .u64 (x : Int)] w fun e w' => e = .returned (.int .i32 ((QE.lz x : Nat) : Int)) ∧ w = w' := by
  have hl : ((QE.lz x : Nat) : Int) ≤ 64 := by unfold QE.lz; omega
  have hl0 : (0 : Int) ≤ ((QE.lz x : Nat) : Int) := by omega
  have C := Aside0.mk (fun w => QE.lz64_is x hx w)
  clear hx
  go_enter Tryd.func118, Tryd.ntmps118
  go_wp2_with (go_at_call 120; refine (C.out _).mono ?_; rintro e w' ⟨rfl, rfl⟩)
  go_ret
  exact ⟨rfl, rfl⟩
theorem cb_is (g x z : Nat) (hz : (z : Int) ≤ 64) (w : World) (k6 : w.cell? ⟨g, 6, none⟩ = some (.bool true)) :
    Calls Tryd.prog 119 #[.pointer (some ⟨g, 0, none⟩), .int .u64 (x : Int), .int .i32 (z : Int)] w fun e w' => e = .returned (.int .u64 ((shl64 x z : Nat) : Int)) ∧ w = w' := by
  have h0 : (0 : Int) ≤ (z : Int) := by omega
  go_enter Tryd.func119, Tryd.ntmps119
  go_wp2
  go_ret
  exact ⟨congrArg (fun x => Ending.returned (Value.int .u64 x)) (shl_nat x z), rfl⟩
theorem pos_is (g : Nat) (R : Int) (w : World) (k6 : w.cell? ⟨g, 6, none⟩ = some (.bool true)) (k3 : w.cell? ⟨g, 3, none⟩ = some (.int .i64 R)) :
    Calls Tryd.prog 115 #[.pointer (some ⟨g, 0, none⟩)] w fun e w' => e = .returned (.int .i64 R) ∧ w = w' := by
  go_enter Tryd.func115, Tryd.ntmps115
  go_wp2
  go_ret
  exact ⟨rfl, rfl⟩
end Go.Proofs.YtpjaaonpbohkdaaDoor.QR
/- Runs of bits, read from the top of words: plain numbers. -/
namespace Go.Proofs.YtpjaaonpbohkdaaDoor.QR
open Go.RowKit Go.Proofs.YtpjaaonpbohkdaaDoorW.PrintWords
/-- The number of m bits from s on. -/
def nb (b : Nat → Bool) (s : Nat) : Nat → Nat
  | 0 => 0
  | m + 1 => nb b s m + (if b (s + m) then 2 ^ m else 0)
/-- One more than the place of the highest bit that is set, of c bits from s on; 0: none is. -/
def hi (b : Nat → Bool) (s : Nat) : Nat → Nat
  | 0 => 0
  | c + 1 => if b (s + c) then c + 1 else hi b s c
theorem nb_lt (b : Nat → Bool) (s m : Nat) : nb b s m < 2 ^ m := by
  induction m with
  | zero => simp [nb]
  | succ m ih => simp only [nb]; rw [Nat.pow_succ]; split <;> omega
theorem nb_add (b : Nat → Bool) (s m k : Nat) : nb b s (m + k) = nb b s m + nb b (s + m) k * 2 ^ m := by
  induction k with
  | zero => simp [nb]
  | succ k ih =>
    rw [← Nat.add_assoc]
    simp only [nb]
    rw [ih, Nat.add_mul, ← Nat.add_assoc s m k]
    split
    · rw [← Nat.pow_add, Nat.add_comm k m]; omega
    · omega
theorem nb_mod (b : Nat → Bool) (s m k : Nat) : nb b s (m + k) % 2 ^ m = nb b s m := by
  rw [nb_add, Nat.add_mul_mod_self_right, Nat.mod_eq_of_lt (nb_lt b s m)]
theorem hi_le (b : Nat → Bool) (s c : Nat) : hi b s c ≤ c := by
  induction c with
  | zero => simp [hi]
  | succ c ih => simp only [hi]; split <;> omega
theorem hi_true (b : Nat → Bool) (s c : Nat) (h : 0 < hi b s c) : b (s + (hi b s c - 1)) = true := by
  induction c with
  | zero => simp [hi] at h
  | succ c ih =>
    simp only [hi] at h ⊢
    split
    · rename_i e; simpa using e
    · rename_i e; rw [if_neg e] at h; exact ih h
theorem hi_false (b : Nat → Bool) (s c j : Nat) (h1 : hi b s c ≤ j) (h2 : j < c) : b (s + j) = false := by
  induction c with
  | zero => omega
  | succ c ih =>
    simp only [hi] at h1
    by_cases e : b (s + c) = true
    · rw [if_pos e] at h1; omega
    · rw [if_neg e] at h1
      by_cases hj : j = c
      · subst hj; simpa using e
      · exact ih h1 (by omega)
theorem hi_add (b : Nat → Bool) (s m k : Nat) : hi b s (m + k) = if 0 < hi b (s + m) k then m + hi b (s + m) k else hi b s m := by
  induction k with
  | zero => simp [hi]
  | succ k ih =>
    rw [← Nat.add_assoc]
    simp only [hi, Nat.add_assoc]
    by_cases e : b (s + (m + k)) = true
    · rw [if_pos e, if_pos e, if_pos (by omega)]
    · rw [if_neg e, if_neg e]; exact ih
theorem len_pow (n : Nat) : ∀ N, 2 ^ n ≤ N → N < 2 ^ (n + 1) → QE.len N = n + 1 := by
  intro N h1 h2
  have hp : 0 < 2 ^ n := Nat.pow_pos (by decide)
  unfold QE.len
  rw [if_neg (by omega), (Nat.log2_eq_iff (by omega)).2 ⟨h1, h2⟩]
theorem len_nb (b : Nat → Bool) (s c : Nat) : QE.len (nb b s c) = hi b s c := by
  induction c with
  | zero => rfl
  | succ c ih =>
    simp only [nb, hi]
    by_cases e : b (s + c) = true
    · rw [if_pos e, if_pos e]
      have := nb_lt b s c
      exact len_pow c _ (by omega) (by rw [Nat.pow_succ]; omega)
    · rw [if_neg e, if_neg e]; exact ih
theorem len_low (M k L : Nat) (hL : L < 2 ^ k) (hM : M ≠ 0) : QE.len (M * 2 ^ k + L) = QE.len M + k := by
  have hp : 0 < 2 ^ k := Nat.pow_pos (by decide)
  have h2 := (Nat.log2_eq_iff hM).1 rfl
  have e : QE.len M = M.log2 + 1 := by unfold QE.len; rw [if_neg hM]
  have h3 : 2 ^ (M.log2 + k) ≤ M * 2 ^ k + L := by
    rw [Nat.pow_add]
    have := Nat.mul_le_mul_right (2 ^ k) h2.1
    omega
  have h4 : M * 2 ^ k + L < 2 ^ (M.log2 + k + 1) := by
    have h5 : (M + 1) * 2 ^ k ≤ 2 ^ (M.log2 + 1) * 2 ^ k := Nat.mul_le_mul_right _ h2.2
    rw [← Nat.pow_add, Nat.add_mul] at h5
    rw [show M.log2 + k + 1 = M.log2 + 1 + k by omega]
    omega
  rw [len_pow _ _ h3 h4, e]
  omega
/-- The word of c bits, at the top. -/
def top (b : Nat → Bool) (s c : Nat) : Nat := nb b s c * 2 ^ (64 - c)
theorem p64 (c : Nat) (hc : c ≤ 64) : 2 ^ c * 2 ^ (64 - c) = 18446744073709551616 := by
  rw [← Nat.pow_add, show c + (64 - c) = 64 by omega]
theorem top_lt (b : Nat → Bool) (s c : Nat) (hc : c ≤ 64) : top b s c < 18446744073709551616 := by
  have h1 := nb_lt b s c
  have hp : 0 < 2 ^ (64 - c) := Nat.pow_pos (by decide)
  have := (Nat.mul_lt_mul_right hp).2 h1
  rw [p64 c hc] at this
  exact this
theorem top_zero (b : Nat → Bool) (s : Nat) : top b s 0 = 0 := by simp [top, nb]
theorem lz_top (b : Nat → Bool) (s c : Nat) (hc : c ≤ 64) : QE.lz (top b s c) = if hi b s c = 0 then 64 else c - hi b s c := by
  unfold QE.lz top
  by_cases h : nb b s c = 0
  · have e := len_nb b s c
    rw [h] at e
    rw [h, Nat.zero_mul, if_pos (by rw [← e]; rfl)]
    rfl
  · have e := len_nb b s c
    have hl := len_low (nb b s c) (64 - c) 0 (Nat.pow_pos (by decide)) h
    rw [Nat.add_zero] at hl
    have h0 : hi b s c ≠ 0 := by
      rw [← e]; unfold QE.len; rw [if_neg h]; omega
    rw [hl, e, if_neg h0]
    have := hi_le b s c
    omega
theorem nb_not (b : Nat → Bool) (s c : Nat) : nb (fun t => !b t) s c = 2 ^ c - 1 - nb b s c := by
  induction c with
  | zero => simp [nb]
  | succ c ih =>
    have := nb_lt b s c
    simp only [nb]
    rw [ih, Nat.pow_succ]
    by_cases e : b (s + c) = true
    · rw [if_pos e, if_neg (by simp [e])]; omega
    · rw [if_neg e, if_pos (by simpa using e)]; omega
theorem lz_not (b : Nat → Bool) (s c : Nat) (hc : c ≤ 64) : QE.lz (not64 (top b s c)) = c - hi (fun t => !b t) s c := by
  have hn := nb_not b s c
  have hN := nb_lt b s c
  have hp : 0 < 2 ^ (64 - c) := Nat.pow_pos (by decide)
  have e64 := p64 c hc
  have key : not64 (top b s c) = nb (fun t => !b t) s c * 2 ^ (64 - c) + (2 ^ (64 - c) - 1) := by
    unfold not64 top
    rw [hn, Nat.sub_mul, Nat.sub_mul, e64, Nat.one_mul]
    have h3 : nb b s c * 2 ^ (64 - c) + 2 ^ (64 - c) ≤ 18446744073709551616 := by
      rw [← e64]
      have := Nat.mul_le_mul_right (2 ^ (64 - c)) (show nb b s c + 1 ≤ 2 ^ c by omega)
      rw [Nat.add_mul, Nat.one_mul] at this
      exact this
    omega
  have e := len_nb (fun t => !b t) s c
  have hle := hi_le (fun t => !b t) s c
  unfold QE.lz
  rw [key]
  by_cases h : nb (fun t => !b t) s c = 0
  · rw [h] at e ⊢
    have h0 : hi (fun t => !b t) s c = 0 := by rw [← e]; rfl
    rw [h0, Nat.zero_mul, Nat.zero_add, Nat.sub_zero]
    by_cases hk : 64 - c = 0
    · rw [hk]; show 64 - QE.len 0 = c; have : QE.len 0 = 0 := rfl; omega
    · have hpk : 2 ^ (64 - c) = 2 ^ (64 - c - 1) * 2 := by rw [← Nat.pow_succ]; congr 1; omega
      have hp1 : 0 < 2 ^ (64 - c - 1) := Nat.pow_pos (by decide)
      rw [len_pow (64 - c - 1) (2 ^ (64 - c) - 1) (by omega) (by rw [show 64 - c - 1 + 1 = 64 - c by omega]; omega)]
      omega
  · rw [len_low _ _ _ (by omega) h, e]
    omega
theorem shl_top (b : Nat → Bool) (s c z : Nat) (hc : c ≤ 64) (hz : z ≤ c) : shl64 (top b s c) z = top b s (c - z) := by
  unfold shl64 top
  obtain ⟨m, rfl⟩ : ∃ m, c = m + z := ⟨c - z, by omega⟩
  rw [Nat.mul_assoc, ← Nat.pow_add, show 64 - (m + z) + z = 64 - m by omega, show m + z - z = m by omega, ← p64 m (by omega), Nat.mul_mod_mul_right, nb_mod]
theorem top_all (b : Nat → Bool) (s : Nat) : top b s 64 = nb b s 64 := by simp [top]
end Go.Proofs.YtpjaaonpbohkdaaDoor.QR
/- The words that the reader loads, as runs of bits of a row of bytes. -/
namespace Go.Proofs.YtpjaaonpbohkdaaDoor.QR
set_option linter.unusedSimpArgs false
set_option linter.unusedVariables false
open Go.RowKit Go.Proofs.YtpjaaonpbohkdaaDoorW.PrintWords
def bt1 (l : List Int) (t : Nat) : Bool := decide (rd l ((t / 8 : Nat) : Int) / 2 ^ (t % 8) % 2 = 1)
theorem byte_nb {l : List Int} (h : bytesOk l = true) (a : Nat) : ((nb (bt1 l) (8 * a) 8 : Nat) : Int) = rd l (a : Int) := by
  have hb := bytes_ok h (a : Int)
  have hk : ∀ k, k < 8 → (if bt1 l (8 * a + k) = true then 2 ^ k else 0 : Nat) = (rd l (a : Int)).toNat / 2 ^ k % 2 * 2 ^ k := by
    intro k hk
    unfold bt1
    rw [show (8 * a + k) / 8 = a by omega, show (8 * a + k) % 8 = k by omega]
    obtain ⟨n, hn⟩ := Int.eq_ofNat_of_zero_le hb.1
    rw [hn, Int.toNat_natCast]
    have e : ((n : Int) / 2 ^ k % 2 = 1) ↔ (n / 2 ^ k % 2 = 1) := by
      rw [show (2 : Int) ^ k = ((2 ^ k : Nat) : Int) from by rw [Int.natCast_pow]; rfl]
      omega
    by_cases c : n / 2 ^ k % 2 = 1
    · rw [if_pos (by simpa using e.2 c), c, Nat.one_mul]
    · rw [if_neg (by simpa using fun h => c (e.1 h)), show n / 2 ^ k % 2 = 0 by omega, Nat.zero_mul]
  simp only [nb]
  rw [hk 0 (by omega), hk 1 (by omega), hk 2 (by omega), hk 3 (by omega), hk 4 (by omega), hk 5 (by omega), hk 6 (by omega), hk 7 (by omega)]
  obtain ⟨n, hn⟩ := Int.eq_ofNat_of_zero_le hb.1
  rw [hn] at hb ⊢
  rw [Int.toNat_natCast]
  simp only [Nat.reducePow]
  omega
theorem bytes_nb {l : List Int} (h : bytesOk l = true) (a m : Nat) : ((nb (bt1 l) (8 * a) (8 * (m + 1)) : Nat) : Int) = ((nb (bt1 l) (8 * a) (8 * m) : Nat) : Int) + rd l ((a + m : Nat) : Int) * 256 ^ m := by
  rw [Nat.mul_add, nb_add, show 8 * a + 8 * m = 8 * (a + m) by omega, Int.natCast_add, Int.natCast_mul, byte_nb h, Int.natCast_pow]
  congr 2
  rw [Int.pow_mul]
  rfl
theorem word8_nb {l : List Int} (h : bytesOk l = true) (a : Nat) : word8 l (a : Int) = ((nb (bt1 l) (8 * a) 64 : Nat) : Int) := by
  have e : nb (bt1 l) (8 * a) 64 = nb (bt1 l) (8 * a) (8 * (7 + 1)) := rfl
  rw [e, bytes_nb h, show (8 * 7 : Nat) = 8 * (6 + 1) from rfl, bytes_nb h, show (8 * 6 : Nat) = 8 * (5 + 1) from rfl, bytes_nb h, show (8 * 5 : Nat) = 8 * (4 + 1) from rfl, bytes_nb h, show (8 * 4 : Nat) = 8 * (3 + 1) from rfl, bytes_nb h, show (8 * 3 : Nat) = 8 * (2 + 1) from rfl, bytes_nb h, show (8 * 2 : Nat) = 8 * (1 + 1) from rfl, bytes_nb h, show (8 * 1 : Nat) = 8 * (0 + 1) from rfl, bytes_nb h]
  unfold word8 QE.le8
  simp only [Nat.mul_zero, nb, Int.natCast_add, Int.natCast_zero, Int.add_zero]
  simp only [show ((0 : Nat) : Int) = 0 from rfl, show ((1 : Nat) : Int) = 1 from rfl, show ((2 : Nat) : Int) = 2 from rfl, show ((3 : Nat) : Int) = 3 from rfl, show ((4 : Nat) : Int) = 4 from rfl, show ((5 : Nat) : Int) = 5 from rfl, show ((6 : Nat) : Int) = 6 from rfl, show ((7 : Nat) : Int) = 7 from rfl, Int.reducePow, Int.add_zero]
  omega
theorem andNot_mask (x k : Nat) (hx : x < 18446744073709551616) (hk : k ≤ 63) : Go.bits .andNot .u64 (x : Int) (2 ^ k - 1) = ((x / 2 ^ k * 2 ^ k : Nat) : Int) := by
  have hp : 0 < 2 ^ k := Nat.pow_pos (by decide)
  have hp2 : 2 ^ k ≤ 2 ^ 63 := Nat.pow_le_pow_right (by decide) hk
  have e0 : ((2 : Int) ^ k - 1) = ((2 ^ k - 1 : Nat) : Int) := by
    rw [Int.natCast_sub (by omega), Int.natCast_pow]; rfl
  rw [e0]
  unfold Go.bits
  show IntKind.u64.wrap (((BitVec.ofInt 64 (x : Int)) &&& ~~~ (BitVec.ofInt 64 ((2 ^ k - 1 : Nat) : Int))).toNat : Int) = _
  have e1 : BitVec.ofInt 64 (x : Int) = BitVec.ofNat 64 x := BitVec.ofInt_natCast ..
  have e2 : BitVec.ofInt 64 ((2 ^ k - 1 : Nat) : Int) = BitVec.ofNat 64 (2 ^ k - 1) := BitVec.ofInt_natCast ..
  rw [e1, e2, BitVec.toNat_and, BitVec.toNat_not, BitVec.toNat_ofNat, BitVec.toNat_ofNat, Nat.mod_eq_of_lt (by simpa using hx), Nat.mod_eq_of_lt (show 2 ^ k - 1 < 2 ^ 64 by omega)]
  have key : x &&& (2 ^ 64 - 1 - (2 ^ k - 1)) = x / 2 ^ k * 2 ^ k := by
    have e3 : 2 ^ 64 - 1 - (2 ^ k - 1) = (2 ^ (64 - k) - 1) * 2 ^ k := by
      rw [Nat.sub_mul, ← Nat.pow_add, show 64 - k + k = 64 by omega]
      omega
    rw [e3]
    apply Nat.eq_of_testBit_eq
    intro i
    rw [Nat.testBit_and, Nat.testBit_mul_two_pow, Nat.testBit_mul_two_pow, Nat.testBit_two_pow_sub_one, Nat.testBit_div_two_pow]
    by_cases h1 : k ≤ i
    · rw [show i - k + k = i by omega]
      by_cases h2 : i < 64
      · simp [h1, show i - k < 64 - k by omega]
      · have : x.testBit i = false := Nat.testBit_lt_two_pow (Nat.lt_of_lt_of_le hx (by show 2 ^ 64 ≤ 2 ^ i; exact Nat.pow_le_pow_right (by decide) (by omega)))
        simp [this]
    · simp [h1]
  rw [key]
  have hle : x / 2 ^ k * 2 ^ k ≤ x := Nat.div_mul_le_self x (2 ^ k)
  exact wraps_u64 _ (by omega) (by omega)
theorem top_mask (b : Nat → Bool) (s e n : Nat) (he : e ≤ 64) (hn : n ≤ e) : top b s e / 2 ^ (64 - n) * 2 ^ (64 - n) = top b (s + (e - n)) n := by
  have h1 : top b s e = nb b s (e - n) * 2 ^ (64 - e) + nb b (s + (e - n)) n * 2 ^ (64 - n) := by
    unfold top
    have h2 : nb b s e = nb b s (e - n) + nb b (s + (e - n)) n * 2 ^ (e - n) := by
      rw [← nb_add, show e - n + n = e by omega]
    rw [h2, Nat.add_mul, Nat.mul_assoc, ← Nat.pow_add, show e - n + (64 - e) = 64 - n by omega]
  have h3 : nb b s (e - n) * 2 ^ (64 - e) < 2 ^ (64 - n) := by
    have := (Nat.mul_lt_mul_right (Nat.pow_pos (by decide) : 0 < 2 ^ (64 - e))).2 (nb_lt b s (e - n))
    rw [← Nat.pow_add, show e - n + (64 - e) = 64 - n by omega] at this
    exact this
  rw [h1, Nat.add_mul_div_right _ _ (Nat.pow_pos (by decide)), Nat.div_eq_of_lt h3, Nat.zero_add]
  rfl
theorem le8_pc {l : List Int} (h : bytesOk l = true) (q nbs : Nat) (h1 : 1 ≤ nbs) (h8 : nbs ≤ 8) :
    QE.le8 (pcell l (q : Int) nbs 0) (pcell l (q : Int) nbs 1) (pcell l (q : Int) nbs 2) (pcell l (q : Int) nbs 3) (pcell l (q : Int) nbs 4) (pcell l (q : Int) nbs 5) (pcell l (q : Int) nbs 6) (pcell l (q : Int) nbs 7) = ((nb (bt1 l) (8 * q) (8 * nbs) : Nat) : Int) * 2 ^ (64 - 8 * nbs) := by
  have hc : nbs = 1 ∨ nbs = 2 ∨ nbs = 3 ∨ nbs = 4 ∨ nbs = 5 ∨ nbs = 6 ∨ nbs = 7 ∨ nbs = 8 := by omega
  rcases hc with e | e | e | e | e | e | e | e <;> subst e
  · have c0 : pcell l (q : Int) 1 0 = 0 := rfl
    have c1 : pcell l (q : Int) 1 1 = 0 := rfl
    have c2 : pcell l (q : Int) 1 2 = 0 := rfl
    have c3 : pcell l (q : Int) 1 3 = 0 := rfl
    have c4 : pcell l (q : Int) 1 4 = 0 := rfl
    have c5 : pcell l (q : Int) 1 5 = 0 := rfl
    have c6 : pcell l (q : Int) 1 6 = 0 := rfl
    have c7 : pcell l (q : Int) 1 7 = rd l (q : Int) := by simp [pcell]
    rw [c0, c1, c2, c3, c4, c5, c6, c7, show (8 * 1 : Nat) = 8 * (0 + 1) from rfl, bytes_nb h]
    unfold QE.le8
    simp only [Nat.mul_zero, nb, Nat.add_zero, Int.natCast_zero, Nat.reduceMul, Nat.reduceSub, Int.reducePow]
    omega
  · have c0 : pcell l (q : Int) 2 0 = 0 := rfl
    have c1 : pcell l (q : Int) 2 1 = 0 := rfl
    have c2 : pcell l (q : Int) 2 2 = 0 := rfl
    have c3 : pcell l (q : Int) 2 3 = 0 := rfl
    have c4 : pcell l (q : Int) 2 4 = 0 := rfl
    have c5 : pcell l (q : Int) 2 5 = 0 := rfl
    have c6 : pcell l (q : Int) 2 6 = rd l (q : Int) := by simp [pcell]
    have c7 : pcell l (q : Int) 2 7 = rd l ((q + 1 : Nat) : Int) := rfl
    rw [c0, c1, c2, c3, c4, c5, c6, c7, show (8 * 2 : Nat) = 8 * (1 + 1) from rfl, bytes_nb h, show (8 * 1 : Nat) = 8 * (0 + 1) from rfl, bytes_nb h]
    unfold QE.le8
    simp only [Nat.mul_zero, nb, Nat.add_zero, Int.natCast_zero, Nat.reduceMul, Nat.reduceSub, Int.reducePow]
    omega
  · have c0 : pcell l (q : Int) 3 0 = 0 := rfl
    have c1 : pcell l (q : Int) 3 1 = 0 := rfl
    have c2 : pcell l (q : Int) 3 2 = 0 := rfl
    have c3 : pcell l (q : Int) 3 3 = 0 := rfl
    have c4 : pcell l (q : Int) 3 4 = 0 := rfl
    have c5 : pcell l (q : Int) 3 5 = rd l (q : Int) := by simp [pcell]
    have c6 : pcell l (q : Int) 3 6 = rd l ((q + 1 : Nat) : Int) := rfl
    have c7 : pcell l (q : Int) 3 7 = rd l ((q + 2 : Nat) : Int) := rfl
    rw [c0, c1, c2, c3, c4, c5, c6, c7, show (8 * 3 : Nat) = 8 * (2 + 1) from rfl, bytes_nb h, show (8 * 2 : Nat) = 8 * (1 + 1) from rfl, bytes_nb h, show (8 * 1 : Nat) = 8 * (0 + 1) from rfl, bytes_nb h]
    unfold QE.le8
    simp only [Nat.mul_zero, nb, Nat.add_zero, Int.natCast_zero, Nat.reduceMul, Nat.reduceSub, Int.reducePow]
    omega
  · have c0 : pcell l (q : Int) 4 0 = 0 := rfl
    have c1 : pcell l (q : Int) 4 1 = 0 := rfl
    have c2 : pcell l (q : Int) 4 2 = 0 := rfl
    have c3 : pcell l (q : Int) 4 3 = 0 := rfl
    have c4 : pcell l (q : Int) 4 4 = rd l (q : Int) := by simp [pcell]
    have c5 : pcell l (q : Int) 4 5 = rd l ((q + 1 : Nat) : Int) := rfl
    have c6 : pcell l (q : Int) 4 6 = rd l ((q + 2 : Nat) : Int) := rfl
    have c7 : pcell l (q : Int) 4 7 = rd l ((q + 3 : Nat) : Int) := rfl
    rw [c0, c1, c2, c3, c4, c5, c6, c7, show (8 * 4 : Nat) = 8 * (3 + 1) from rfl, bytes_nb h, show (8 * 3 : Nat) = 8 * (2 + 1) from rfl, bytes_nb h, show (8 * 2 : Nat) = 8 * (1 + 1) from rfl, bytes_nb h, show (8 * 1 : Nat) = 8 * (0 + 1) from rfl, bytes_nb h]
    unfold QE.le8
    simp only [Nat.mul_zero, nb, Nat.add_zero, Int.natCast_zero, Nat.reduceMul, Nat.reduceSub, Int.reducePow]
    omega
  · have c0 : pcell l (q : Int) 5 0 = 0 := rfl
    have c1 : pcell l (q : Int) 5 1 = 0 := rfl
    have c2 : pcell l (q : Int) 5 2 = 0 := rfl
    have c3 : pcell l (q : Int) 5 3 = rd l (q : Int) := by simp [pcell]
    have c4 : pcell l (q : Int) 5 4 = rd l ((q + 1 : Nat) : Int) := rfl
    have c5 : pcell l (q : Int) 5 5 = rd l ((q + 2 : Nat) : Int) := rfl
    have c6 : pcell l (q : Int) 5 6 = rd l ((q + 3 : Nat) : Int) := rfl
    have c7 : pcell l (q : Int) 5 7 = rd l ((q + 4 : Nat) : Int) := rfl
    rw [c0, c1, c2, c3, c4, c5, c6, c7, show (8 * 5 : Nat) = 8 * (4 + 1) from rfl, bytes_nb h, show (8 * 4 : Nat) = 8 * (3 + 1) from rfl, bytes_nb h, show (8 * 3 : Nat) = 8 * (2 + 1) from rfl, bytes_nb h, show (8 * 2 : Nat) = 8 * (1 + 1) from rfl, bytes_nb h, show (8 * 1 : Nat) = 8 * (0 + 1) from rfl, bytes_nb h]
    unfold QE.le8
    simp only [Nat.mul_zero, nb, Nat.add_zero, Int.natCast_zero, Nat.reduceMul, Nat.reduceSub, Int.reducePow]
    omega
  · have c0 : pcell l (q : Int) 6 0 = 0 := rfl
    have c1 : pcell l (q : Int) 6 1 = 0 := rfl
    have c2 : pcell l (q : Int) 6 2 = rd l (q : Int) := by simp [pcell]
    have c3 : pcell l (q : Int) 6 3 = rd l ((q + 1 : Nat) : Int) := rfl
    have c4 : pcell l (q : Int) 6 4 = rd l ((q + 2 : Nat) : Int) := rfl
    have c5 : pcell l (q : Int) 6 5 = rd l ((q + 3 : Nat) : Int) := rfl
    have c6 : pcell l (q : Int) 6 6 = rd l ((q + 4 : Nat) : Int) := rfl
    have c7 : pcell l (q : Int) 6 7 = rd l ((q + 5 : Nat) : Int) := rfl
    rw [c0, c1, c2, c3, c4, c5, c6, c7, show (8 * 6 : Nat) = 8 * (5 + 1) from rfl, bytes_nb h, show (8 * 5 : Nat) = 8 * (4 + 1) from rfl, bytes_nb h, show (8 * 4 : Nat) = 8 * (3 + 1) from rfl, bytes_nb h, show (8 * 3 : Nat) = 8 * (2 + 1) from rfl, bytes_nb h, show (8 * 2 : Nat) = 8 * (1 + 1) from rfl, bytes_nb h, show (8 * 1 : Nat) = 8 * (0 + 1) from rfl, bytes_nb h]
    unfold QE.le8
    simp only [Nat.mul_zero, nb, Nat.add_zero, Int.natCast_zero, Nat.reduceMul, Nat.reduceSub, Int.reducePow]
    omega
  · have c0 : pcell l (q : Int) 7 0 = 0 := rfl
    have c1 : pcell l (q : Int) 7 1 = rd l (q : Int) := by simp [pcell]
    have c2 : pcell l (q : Int) 7 2 = rd l ((q + 1 : Nat) : Int) := rfl
    have c3 : pcell l (q : Int) 7 3 = rd l ((q + 2 : Nat) : Int) := rfl
    have c4 : pcell l (q : Int) 7 4 = rd l ((q + 3 : Nat) : Int) := rfl
    have c5 : pcell l (q : Int) 7 5 = rd l ((q + 4 : Nat) : Int) := rfl
    have c6 : pcell l (q : Int) 7 6 = rd l ((q + 5 : Nat) : Int) := rfl
    have c7 : pcell l (q : Int) 7 7 = rd l ((q + 6 : Nat) : Int) := rfl
    rw [c0, c1, c2, c3, c4, c5, c6, c7, show (8 * 7 : Nat) = 8 * (6 + 1) from rfl, bytes_nb h, show (8 * 6 : Nat) = 8 * (5 + 1) from rfl, bytes_nb h, show (8 * 5 : Nat) = 8 * (4 + 1) from rfl, bytes_nb h, show (8 * 4 : Nat) = 8 * (3 + 1) from rfl, bytes_nb h, show (8 * 3 : Nat) = 8 * (2 + 1) from rfl, bytes_nb h, show (8 * 2 : Nat) = 8 * (1 + 1) from rfl, bytes_nb h, show (8 * 1 : Nat) = 8 * (0 + 1) from rfl, bytes_nb h]
    unfold QE.le8
    simp only [Nat.mul_zero, nb, Nat.add_zero, Int.natCast_zero, Nat.reduceMul, Nat.reduceSub, Int.reducePow]
    omega
  · have c0 : pcell l (q : Int) 8 0 = rd l (q : Int) := by simp [pcell]
    have c1 : pcell l (q : Int) 8 1 = rd l ((q + 1 : Nat) : Int) := rfl
    have c2 : pcell l (q : Int) 8 2 = rd l ((q + 2 : Nat) : Int) := rfl
    have c3 : pcell l (q : Int) 8 3 = rd l ((q + 3 : Nat) : Int) := rfl
    have c4 : pcell l (q : Int) 8 4 = rd l ((q + 4 : Nat) : Int) := rfl
    have c5 : pcell l (q : Int) 8 5 = rd l ((q + 5 : Nat) : Int) := rfl
    have c6 : pcell l (q : Int) 8 6 = rd l ((q + 6 : Nat) : Int) := rfl
    have c7 : pcell l (q : Int) 8 7 = rd l ((q + 7 : Nat) : Int) := rfl
    rw [c0, c1, c2, c3, c4, c5, c6, c7, show (8 * 8 : Nat) = 8 * (7 + 1) from rfl, bytes_nb h, show (8 * 7 : Nat) = 8 * (6 + 1) from rfl, bytes_nb h, show (8 * 6 : Nat) = 8 * (5 + 1) from rfl, bytes_nb h, show (8 * 5 : Nat) = 8 * (4 + 1) from rfl, bytes_nb h, show (8 * 4 : Nat) = 8 * (3 + 1) from rfl, bytes_nb h, show (8 * 3 : Nat) = 8 * (2 + 1) from rfl, bytes_nb h, show (8 * 2 : Nat) = 8 * (1 + 1) from rfl, bytes_nb h, show (8 * 1 : Nat) = 8 * (0 + 1) from rfl, bytes_nb h]
    unfold QE.le8
    simp only [Nat.mul_zero, nb, Nat.add_zero, Int.natCast_zero, Nat.reduceMul, Nat.reduceSub, Int.reducePow]
    omega
theorem partW_top {l : List Int} (h : bytesOk l = true) (q nbs o n : Nat) (h1 : 1 ≤ nbs) (h8 : nbs ≤ 8) (hn : 1 ≤ n) (ho : o + n ≤ 8 * nbs) : partW l (q : Int) nbs o n = ((top (bt1 l) (8 * q + (8 * nbs - o - n)) n : Nat) : Int) := by
  unfold partW
  rw [le8_pc h q nbs h1 h8]
  have e : ((nb (bt1 l) (8 * q) (8 * nbs) : Nat) : Int) * 2 ^ (64 - 8 * nbs) = ((top (bt1 l) (8 * q) (8 * nbs) : Nat) : Int) := by
    unfold top
    rw [Int.natCast_mul, Int.natCast_pow]
    rfl
  rw [e, shl_nat, shl_top _ _ _ _ (by omega) (by omega), andNot_mask _ _ (top_lt _ _ _ (by omega)) (by omega), top_mask _ _ _ _ (by omega) (by omega)]
end Go.Proofs.YtpjaaonpbohkdaaDoor.QR
/- (*baseSetBitRunReader).findCurrentRun, backwards. -/
namespace Go.Proofs.YtpjaaonpbohkdaaDoor.QR
open Go.RowKit Go.Proofs.YtpjaaonpbohkdaaDoorW.PrintWords Go.Proofs.YtpjaaonpbohkdaaDoorW.PrintLast Go.Proofs.YtpjaaonpbohkdaaDoorW.PrintMore
set_option linter.unusedVariables false
set_option linter.unusedSimpArgs false
set_option maxHeartbeats 4000000 in
set_option maxRecDepth 100000 in
/-- No bit that is set. -/
theorem fcr_no (g : Nat) (l : List Int) (p L : Int) (R W c : Nat) (fb : Int) (w0 w : World) (hI : IsS132 w0 w g l p L R W c true fb) (hB : Below w0.heap.size w0 w) (hW : W < 18446744073709551616) (hz : c ≤ QE.lz W) (hR : (R : Int) ≤ 1000000) (hcR : c ≤ R) :
    Calls Tryd.prog 113 #[.pointer (some ⟨g, 0, none⟩)] w fun e w' => e = .returned (.agg #[.int .i64 0, .int .i64 0]) ∧ IsS132 w0 w' g l p L ((R : Int) - c) 0 0 true fb ∧ Below w0.heap.size w0 w' ∧ KeepBut w w' g none := by
  obtain ⟨A0, c0, HG, hg, hC⟩ := id hI
  have hlt := blk_lt HG
  obtain ⟨W1, hW1⟩ : ∃ W1, W1 = w.alloc (.cells #[.int .i64 0, .int .i64 0] 100) := ⟨_, rfl⟩
  have B1 : Below w.heap.size w W1 := by rw [hW1]; exact below_alloc (Below.refl _ _) _
  have HG1 : W1.heap[g]? = _ := (B1.block g hlt).trans HG
  have m3 := cellS132_3 HG1
  have m4 := cellS132_4 HG1
  have m5 := cellS132_5 HG1
  have m6 := cellS132_6 HG1
  have z3 := blk_frozen HG1 3
  have z4 := blk_frozen HG1 4
  have z5 := blk_frozen HG1 5
  have r0 : W1.cell? ⟨w.heap.size, 0, none⟩ = some (.int .i64 0) := by rw [hW1]; simp [go_sem]
  have r1 : W1.cell? ⟨w.heap.size, 1, none⟩ = some (.int .i64 0) := by rw [hW1]; simp [go_sem]
  have y0 : W1.frozen? ⟨w.heap.size, 0, none⟩ = false := by rw [hW1]; simp [go_sem]
  have y1 : W1.frozen? ⟨w.heap.size, 1, none⟩ = false := by rw [hW1]; simp [go_sem]
  have hne : w.heap.size ≠ g := by omega
  have hne2 : g ≠ w.heap.size := by omega
  have hl64 : ((QE.lz W : Nat) : Int) ≤ 64 := by unfold QE.lz; omega
  obtain ⟨z, hz2⟩ : ∃ z, z = QE.lz W := ⟨_, rfl⟩
  rw [← hz2] at hz hl64
  have hge : decide (c ≤ z) = true := decide_eq_true hz
  have QhB := Aside0.mk hB.size
  have QI := Aside0.mk (hI.below B1)
  have QB := Aside0.mk (hB.trans (B1.mono hB.size))
  have QK := Aside0.mk (show KeepBut w W1 g none from ⟨B1.size, fun i hi _ _ => B1.block i hi⟩)
  have QF := Aside0.mk (fun W' h => cfz_is g W hW W' h)
  rw [← hz2] at QF
  have mixed : Tryd.prog.follows .mixedOrders = true := by kernel_rfl
  clear hI hB HG HG1 hC hlt B1 hW hz hz2
  go_enter Tryd.func113, Tryd.ntmps113
  go_upto_region 1 with (fail)
  rw [← hW1]
  clear hW1
  go_wp2_with fail
  refine (QF.out _ m6).mono ?_
  rintro e w' ⟨rfl, rfl⟩
  go_wp2
  have hs : IntKind.i64.wrap ((R : Int) - (c : Int)) = (R : Int) - (c : Int) := IntWalk.i64_in _ (by omega)
  go_region
  go_wp2
  refine bodyPost_ret (v := .agg #[.int .i64 0, .int .i64 0]) (by simp [results, Tryd.results113, go_sem, r0, r1, hne, hne2]) rfl ⟨rfl, ?_, ?_, ?_⟩
  · exact (((((QI.out.set_3 _).set_4 _).set_5 _).far hne2 _).far hne2 _).drew
  · exact (((((QB.out.setCell hg _).setCell hg _).setCell hg _).setCell QhB.out _).setCell QhB.out _).drew
  · exact kb_drew (kb_new (kb_new (kb_g (kb_g (kb_g QK.out))) (Nat.le_refl _)) (Nat.le_refl _))
set_option maxHeartbeats 4000000 in
set_option maxRecDepth 100000 in
/-- A run, in the word. -/
theorem fcr_yes (g : Nat) (l : List Int) (p L : Int) (R W c : Nat) (fb : Int) (w0 w : World) (hI : IsS132 w0 w g l p L R W c true fb) (hB : Below w0.heap.size w0 w) (hW : W < 18446744073709551616) (hz : QE.lz W < c) (hc64 : (c : Int) ≤ 64) (hR : (R : Int) ≤ 1000000) (hcR : c ≤ R) :
    Calls Tryd.prog 113 #[.pointer (some ⟨g, 0, none⟩)] w fun e w' => e = .returned (.agg #[.int .i64 ((R : Int) - (QE.lz W : Nat)), .int .i64 ((QE.lz (not64 (shl64 W (QE.lz W))) : Nat) : Int)]) ∧ IsS132 w0 w' g l p L ((R : Int) - (QE.lz W : Nat) - (QE.lz (not64 (shl64 W (QE.lz W))) : Nat)) ((shl64 (shl64 W (QE.lz W)) (QE.lz (not64 (shl64 W (QE.lz W)))) : Nat) : Int) ((c : Int) - (QE.lz W : Nat) - (QE.lz (not64 (shl64 W (QE.lz W))) : Nat)) true fb ∧ Below w0.heap.size w0 w' ∧ KeepBut w w' g none := by
  obtain ⟨A0, c0, HG, hg, hC⟩ := id hI
  have hlt := blk_lt HG
  obtain ⟨W1, hW1⟩ : ∃ W1, W1 = w.alloc (.cells #[.int .i64 0, .int .i64 0] 100) := ⟨_, rfl⟩
  have B1 : Below w.heap.size w W1 := by rw [hW1]; exact below_alloc (Below.refl _ _) _
  have HG1 : W1.heap[g]? = _ := (B1.block g hlt).trans HG
  have m3 := cellS132_3 HG1
  have m4 := cellS132_4 HG1
  have m5 := cellS132_5 HG1
  have m6 := cellS132_6 HG1
  have z3 := blk_frozen HG1 3
  have z4 := blk_frozen HG1 4
  have z5 := blk_frozen HG1 5
  have r0 : W1.cell? ⟨w.heap.size, 0, none⟩ = some (.int .i64 0) := by rw [hW1]; simp [go_sem]
  have r1 : W1.cell? ⟨w.heap.size, 1, none⟩ = some (.int .i64 0) := by rw [hW1]; simp [go_sem]
  have y0 : W1.frozen? ⟨w.heap.size, 0, none⟩ = false := by rw [hW1]; simp [go_sem]
  have y1 : W1.frozen? ⟨w.heap.size, 1, none⟩ = false := by rw [hW1]; simp [go_sem]
  have hne : w.heap.size ≠ g := by omega
  have hne2 : g ≠ w.heap.size := by omega
  have hl64 : ((QE.lz W : Nat) : Int) ≤ 64 := by unfold QE.lz; omega
  obtain ⟨z, hz2⟩ : ∃ z, z = QE.lz W := ⟨_, rfl⟩
  rw [← hz2] at hz hl64
  have hge : decide (c ≤ z) = false := decide_eq_false (by omega)
  obtain ⟨V, hV⟩ : ∃ V, V = shl64 W z := ⟨_, rfl⟩
  have hVlt : V < 18446744073709551616 := by rw [hV]; exact shl64_lt _ _
  obtain ⟨o, ho⟩ : ∃ o, o = QE.lz (not64 V) := ⟨_, rfl⟩
  have ho64 : (o : Int) ≤ 64 := by rw [ho]; unfold QE.lz; omega
  have hzc : (z : Int) < (c : Int) := by omega
  have hcR2 : (c : Int) ≤ (R : Int) := by omega
  have QX := Aside0.mk (xor_not V hVlt)
  have QF2 := Aside0.mk (fun W' h => cfz_is g (not64 V) (not64_lt V) W' h)
  rw [← ho] at QF2
  have QC := Aside0.mk (fun W' h => cb_is g W z hl64 W' h)
  rw [← hV] at QC
  have QC2 := Aside0.mk (fun W' h => cb_is g V o ho64 W' h)
  rw [← hz2, ← hV, ← ho]
  have QhB := Aside0.mk hB.size
  have QI := Aside0.mk (hI.below B1)
  have QB := Aside0.mk (hB.trans (B1.mono hB.size))
  have QK := Aside0.mk (show KeepBut w W1 g none from ⟨B1.size, fun i hi _ _ => B1.block i hi⟩)
  have QF := Aside0.mk (fun W' h => cfz_is g W hW W' h)
  rw [← hz2] at QF
  have mixed : Tryd.prog.follows .mixedOrders = true := by kernel_rfl
  clear hI hB HG HG1 hC hlt B1 hW hz hz2 hV ho hVlt hcR
  go_enter Tryd.func113, Tryd.ntmps113
  go_upto_region 1 with (fail)
  rw [← hW1]
  clear hW1
  go_wp2_with fail
  refine (QF.out _ m6).mono ?_
  rintro e w' ⟨rfl, rfl⟩
  go_wp2_with fail
  refine (QC.out _ m6).mono ?_
  rintro e w' ⟨rfl, rfl⟩
  go_wp2_with fail
  refine (pos_is g ((R : Int) - z) _ (by simp [go_sem, m6]) (by simp [go_sem, m3])).mono ?_
  rintro e w' ⟨rfl, rfl⟩
  go_wp2_with fail
  rw [QX.out]
  refine (QF2.out _ (by simp [go_sem, m6])).mono ?_
  rintro e w' ⟨rfl, rfl⟩
  go_wp2_with fail
  refine (QC2.out _ (by simp [go_sem, m6])).mono ?_
  rintro e w' ⟨rfl, rfl⟩
  go_wp2
  refine bodyPost_ret (v := .agg #[.int .i64 ((R : Int) - z), .int .i64 (o : Int)]) (by simp [results, Tryd.results113, go_sem, r0, r1, hne, hne2]) rfl ⟨rfl, ?_, ?_, ?_⟩
  · exact (((((((((QI.out.set_4 _).set_5 _).set_3 _).set_4 _).set_5 _).set_3 _).far hne2 _).far hne2 _))
  · exact (((((((((QB.out.setCell hg _).setCell hg _).setCell hg _).setCell hg _).setCell hg _).setCell hg _).setCell QhB.out _).setCell QhB.out _))
  · exact (kb_new (kb_new (kb_g (kb_g (kb_g (kb_g (kb_g (kb_g QK.out)))))) (Nat.le_refl _)) (Nat.le_refl _))
end Go.Proofs.YtpjaaonpbohkdaaDoor.QR
/- The reader of set bits, backwards: its state told as runs of bits; what loading and findCurrentRun do to it. -/
namespace Go.Proofs.YtpjaaonpbohkdaaDoor.QR
open Go.RowKit Go.Proofs.YtpjaaonpbohkdaaDoorW.PrintWords Go.Proofs.YtpjaaonpbohkdaaDoorW.PrintLast Go.Proofs.YtpjaaonpbohkdaaDoorW.PrintMore
set_option linter.unusedVariables false
set_option linter.unusedSimpArgs false
theorem lf_is (g : Nat) (l : List Int) (s2 s3 s4 s5 s7 : Int) (q : Nat) (w0 w : World) (hI : IsS132 w0 w g l ((q : Int) + 8) s2 s3 s4 s5 true s7) (hB : Below w0.heap.size w0 w) (hbo : bytesOk l = true) (hq : q + 8 ≤ l.length) (hl : l.length ≤ 1000000) :
    Calls Tryd.prog 116 #[.pointer (some ⟨g, 0, none⟩)] w fun e w' => e = .returned (.int .u64 ((top (bt1 l) (8 * q) 64 : Nat) : Int)) ∧ IsS132 w0 w' g l (q : Int) s2 s3 s4 s5 true s7 ∧ Below w0.heap.size w0 w' ∧ KeepBut w w' g none := by
  have h := bitutils_baseSetBitRunReader_loadFull.calls g l ((q : Int) + 8) s2 s3 s4 s5 true s7 _ _ _ _ _ _ _ _ w0 w hI hB (by unfold bitutils_baseSetBitRunReader_loadFull.f; rw [if_pos ⟨rfl, hbo, by omega, by omega, hl⟩])
  rw [show (q : Int) + 8 - 8 = (q : Int) by omega, word8_nb hbo, ← top_all] at h
  exact h
theorem lp_is (g : Nat) (l : List Int) (s2 s3 s4 s5 s7 : Int) (q nbs o n : Nat) (w0 w : World) (hI : IsS132 w0 w g l ((q : Int) + nbs) s2 s3 s4 s5 true s7) (hB : Below w0.heap.size w0 w) (hbo : bytesOk l = true) (hq : q + nbs ≤ l.length) (hl : l.length ≤ 1000000) (ho : o ≤ 7) (h1 : 1 ≤ n) (h2 : n ≤ 63) (hn : (n + 7) / 8 = nbs) (hon : o + n ≤ 8 * nbs) :
    Calls Tryd.prog 83 #[.pointer (some ⟨g, 0, none⟩), .int .i8 (o : Int), .int .i64 (n : Int)] w fun e w' => e = .returned (.int .u64 ((top (bt1 l) (8 * q + (8 * nbs - o - n)) n : Nat) : Int)) ∧ IsS132 w0 w' g l (q : Int) s2 s3 s4 s5 true s7 ∧ Below w0.heap.size w0 w' ∧ KeepBut w w' g none := by
  have hd : ((n : Int) + 7) / 8 = (nbs : Int) := by omega
  have h := bitutils_baseSetBitRunReader_loadPartial.calls g l ((q : Int) + nbs) s2 s3 s4 s5 true s7 (o : Int) (n : Int) _ _ _ _ _ _ _ _ w0 w hI hB (by unfold bitutils_baseSetBitRunReader_loadPartial.f; rw [if_pos ⟨rfl, hbo, by omega, by omega, by omega, by omega, by omega, by omega, hl⟩])
  rw [hd, show (q : Int) + nbs - nbs = (q : Int) by omega, Int.toNat_natCast, Int.toNat_natCast, Int.toNat_natCast, partW_top hbo q nbs o n (by omega) (by omega) h1 hon] at h
  exact h
def FB : Int := 9223372036854775808
/-- r bits are not loaded yet, c bits stand in the word; the bits begin at bit f of the row. -/
structure RS (w0 w : World) (g : Nat) (l : List Int) (f L r c : Nat) : Prop where
  st : ∃ p W : Int, IsS132 w0 w g l p (L : Int) ((r + c : Nat) : Int) W (c : Int) true FB ∧ (0 < c → W = ((top (bt1 l) (f + r) c : Nat) : Int)) ∧ (0 < r → ∃ q : Nat, p = (q : Int) ∧ 8 * q = f + r ∧ q ≤ l.length)
  ok : bytesOk l = true
  ll : l.length ≤ 1000000
  c64 : c ≤ 64
  rc : r + c ≤ 1000000
theorem RS.drew {w0 w : World} {g : Nat} {l : List Int} {f L r c : Nat} (h : RS w0 w g l f L r c) : RS w0 w.drew g l f L r c := by
  obtain ⟨⟨p, W, h1, h2⟩, h3, h4, h5, h6⟩ := h
  exact ⟨⟨p, W, h1.drew, h2⟩, h3, h4, h5, h6⟩
theorem RS.drewN {w0 w : World} {g : Nat} {l : List Int} {f L r c : Nat} (h : RS w0 w g l f L r c) (m : Nat) : RS w0 (w.drewN m) g l f L r c := by
  obtain ⟨⟨p, W, h1, h2⟩, h3, h4, h5, h6⟩ := h
  exact ⟨⟨p, W, h1.drewN m, h2⟩, h3, h4, h5, h6⟩
theorem RS.below {w0 w w1 : World} {g : Nat} {l : List Int} {f L r c : Nat} (h : RS w0 w g l f L r c) (hb : Below w.heap.size w w1) : RS w0 w1 g l f L r c := by
  obtain ⟨⟨p, W, h1, h2⟩, h3, h4, h5, h6⟩ := h
  exact ⟨⟨p, W, h1.below hb, h2⟩, h3, h4, h5, h6⟩
/-- What a method of the reader leaves: told, and all else is as it was. -/
def Left (w0 w : World) (g : Nat) (l : List Int) (f L r c : Nat) (w' : World) : Prop := RS w0 w' g l f L r c ∧ Below w0.heap.size w0 w' ∧ KeepBut w w' g none
/-- findCurrentRun: the place behind the run, and its length (0: none is in the word). -/
def fcrP (b : Nat → Bool) (f r c : Nat) : Nat := if hi b (f + r) c = 0 then 0 else r + hi b (f + r) c
def fcrC (b : Nat → Bool) (f r c : Nat) : Nat := hi (fun t => !b t) (f + r) (hi b (f + r) c)
def fcrN (b : Nat → Bool) (f r c : Nat) : Nat := hi b (f + r) c - fcrC b f r c
theorem fcr_is (g : Nat) (l : List Int) (f L r c : Nat) (w0 w : World) (hS : RS w0 w g l f L r c) (hc0 : 0 < c) (hB : Below w0.heap.size w0 w) :
    Calls Tryd.prog 113 #[.pointer (some ⟨g, 0, none⟩)] w fun e w' => e = .returned (.agg #[.int .i64 (fcrP (bt1 l) f r c : Nat), .int .i64 (fcrN (bt1 l) f r c : Nat)]) ∧ Left w0 w g l f L r (fcrC (bt1 l) f r c) w' := by
  obtain ⟨⟨p, W, hI, hW, hp⟩, hbo, hl, hc, hrc⟩ := hS
  obtain rfl := hW hc0
  have hhi := hi_le (bt1 l) (f + r) c
  have hz := lz_top (bt1 l) (f + r) c hc
  unfold fcrP fcrN fcrC
  by_cases h0 : hi (bt1 l) (f + r) c = 0
  · rw [if_pos h0] at hz
    refine (fcr_no g l p L (r + c) (top (bt1 l) (f + r) c) c FB w0 w hI hB (top_lt _ _ _ hc) (by omega) (by omega) (by omega)).mono ?_
    rintro e w' ⟨rfl, h1, h2, h3⟩
    rw [h0]
    refine ⟨by simp [hi], ⟨⟨p, 0, ?_, fun h => absurd h (by simp [hi]), hp⟩, hbo, hl, by simp [hi], by simp only [hi]; omega⟩, h2, h3⟩
    rw [show ((r + c : Nat) : Int) - (c : Int) = ((r + 0 : Nat) : Int) by omega] at h1
    simp only [hi]
    exact h1
  · rw [if_neg h0] at hz
    have hlt : QE.lz (top (bt1 l) (f + r) c) < c := by omega
    have hs : shl64 (top (bt1 l) (f + r) c) (QE.lz (top (bt1 l) (f + r) c)) = top (bt1 l) (f + r) (hi (bt1 l) (f + r) c) := by
      rw [hz, shl_top _ _ _ _ hc (by omega), show c - (c - hi (bt1 l) (f + r) c) = hi (bt1 l) (f + r) c by omega]
    have hh := hi_le (fun t => !bt1 l t) (f + r) (hi (bt1 l) (f + r) c)
    have hn := lz_not (bt1 l) (f + r) (hi (bt1 l) (f + r) c) (by omega)
    have H := fcr_yes g l p L (r + c) (top (bt1 l) (f + r) c) c FB w0 w hI hB (top_lt _ _ _ hc) hlt (by omega) (by omega) (by omega)
    rw [hs, hn, shl_top _ _ _ _ (by omega) (by omega), hz] at H
    refine H.mono ?_
    rintro e w' ⟨rfl, h1, h2, h3⟩
    generalize hi (fun t => !bt1 l t) (f + r) (hi (bt1 l) (f + r) c) = c2 at *
    generalize hi (bt1 l) (f + r) c = c1 at *
    rw [if_neg h0]
    refine ⟨?_, ⟨⟨p, _, ?_, fun _ => rfl, hp⟩, hbo, hl, by omega, by omega⟩, h2, h3⟩
    · rw [show ((r + c : Nat) : Int) - ((c - c1 : Nat) : Int) = ((r + c1 : Nat) : Int) by omega]
    · rw [show ((r + c : Nat) : Int) - ((c - c1 : Nat) : Int) - ((c1 - c2 : Nat) : Int) = ((r + c2 : Nat) : Int) by omega, show (c : Int) - ((c - c1 : Nat) : Int) - ((c1 - c2 : Nat) : Int) = (c2 : Int) by omega, show c1 - (c1 - c2) = c2 by omega] at h1
      exact h1
end Go.Proofs.YtpjaaonpbohkdaaDoor.QR
/- (*baseSetBitRunReader).skipNextZeros, backwards. -/
namespace Go.Proofs.YtpjaaonpbohkdaaDoor.QR
open Go.RowKit Go.Proofs.YtpjaaonpbohkdaaDoorW.PrintWords Go.Proofs.YtpjaaonpbohkdaaDoorW.PrintLast Go.Proofs.YtpjaaonpbohkdaaDoorW.PrintMore
set_option linter.unusedVariables false
set_option linter.unusedSimpArgs false
theorem kb_trans {w w1 w2 : World} {g : Nat} (h : KeepBut w w1 g none) (k : KeepBut w1 w2 g none) : KeepBut w w2 g none :=
  ⟨Nat.le_trans h.1 k.1, fun i hi hg hn => (k.2 i (Nat.lt_of_lt_of_le hi h.1) hg hn).trans (h.2 i hi hg hn)⟩
theorem min_is (a b : Nat) (ha : (a : Int) ≤ 1000000) (hb : (b : Int) ≤ 1000000) (w : World) : Calls Tryd.prog 82 #[.int .i64 (a : Int), .int .i64 (b : Int)] w fun e w' => e = .returned (.int .i64 ((min a b : Nat) : Int)) ∧ w = w' := by
  by_cases h : a < b
  · have hm : min a b = a := Nat.min_eq_left (by omega)
    have Q := Aside0.mk hm
    have hd : decide (a < b) = true := decide_eq_true h
    clear hm h
    go_enter Tryd.func82, Tryd.ntmps82
    go_wp2
    go_ret
    exact ⟨by rw [Q.out]; rfl, rfl⟩
  · have hm : min a b = b := Nat.min_eq_right (by omega)
    have Q := Aside0.mk hm
    have hd : decide (a < b) = false := decide_eq_false h
    clear hm h
    go_enter Tryd.func82, Tryd.ntmps82
    go_wp2
    go_ret
    exact ⟨by rw [Q.out]; rfl, rfl⟩
theorem kb_drewN {w w1 : World} {g : Nat} (h : KeepBut w w1 g none) (m : Nat) : KeepBut w (w1.drewN m) g none := h
def Skipped (w0 w : World) (g : Nat) (l : List Int) (f L r : Nat) (w' : World) : Prop := ∃ r1 c1, Left w0 w g l f L r1 c1 w' ∧ r1 + c1 = hi (bt1 l) f r ∧ (r1 + c1 = 0 ∨ 0 < c1)
set_option maxHeartbeats 4000000 in
set_option maxRecDepth 100000 in
theorem snz_is (g : Nat) (l : List Int) (f L r : Nat) (w0 w : World) (hS : RS w0 w g l f L r 0) (hB : Below w0.heap.size w0 w) :
    Calls Tryd.prog 112 #[.pointer (some ⟨g, 0, none⟩)] w fun e w' => e = .returned (.tuple #[]) ∧ Skipped w0 w g l f L r w' := by
  have QS := Aside0.mk hS
  have QB := Aside0.mk hB
  have QK := Aside0.mk (show KeepBut w w g none from ⟨Nat.le_refl _, fun _ _ _ _ => rfl⟩)
  have mixed : Tryd.prog.follows .mixedOrders = true := by kernel_rfl
  clear hS hB
  go_enter Tryd.func112, Tryd.ntmps112
  go_wp2_with fail
  go_loopg [2] (r / 64) (fun kq v2 w' => ∃ (r1 : Nat), Aside0 (r1 / 64 = kq ∧ hi (bt1 l) f r1 = hi (bt1 l) f r) ∧ Aside0 (RS w0 w' g l f L r1 0) ∧ Aside0 (Below w0.heap.size w0 w') ∧ Aside0 (KeepBut w w' g none))
  case atStart => exact ⟨r, ⟨rfl, rfl⟩, QS, QB, QK⟩
  case round =>
    obtain ⟨r1, HA, HS, HB, HK⟩ := hrel
    clear QS QB QK
    obtain ⟨⟨p, Wg, hI, _, hp⟩, hbo, hl, _, hrc⟩ := HS.out
    obtain ⟨A0, c0, HG, hg, hC⟩ := id hI
    have hb1 : (r1 : Int) ≤ 1000000 := by omega
    by_cases h64 : 64 ≤ r1
    · obtain ⟨q0, hq, hq8, hql⟩ := hp (by omega)
      obtain ⟨q, rfl⟩ : ∃ q, q0 = q + 8 := ⟨q0 - 8, by omega⟩
      subst hq
      obtain ⟨r2, rfl⟩ : ∃ r2, r1 = r2 + 64 := ⟨r1 - 64, by omega⟩
      obtain ⟨k1, rfl⟩ : ∃ k1, gk = k1 + 1 := ⟨gk - 1, by have := HA.out.1; omega⟩
      have hI2 : IsS132 w0 wr g l ((q : Int) + 8) L ((r2 : Int) + 64) Wg 0 true FB := by
        have h := hI
        rw [show ((q + 8 : Nat) : Int) = (q : Int) + 8 by omega, show ((r2 + 64 + 0 : Nat) : Int) = (r2 : Int) + 64 by omega] at h
        exact h
      have k3 : wr.cell? ⟨g, 3, none⟩ = some (.int .i64 ((r2 : Int) + 64)) := by
        obtain ⟨A1, c1, HG1, _⟩ := id hI2
        exact cellS132_3 HG1
      have hge : decide ((64 : Int) ≤ (r2 : Int) + 64) = true := decide_eq_true (by omega)
      have HL := Aside0.mk (lf_is g l _ _ _ _ _ q w0 wr hI2 HB.out hbo (by omega) hl)
      have h8q : 8 * q = f + r2 := by omega
      have Q8 := Aside0.mk h8q
      have Qhi := Aside0.mk (hi_add (bt1 l) f r2 64)
      have Qr := Aside0.mk (show r2 + 64 ≤ 1000000 ∧ q + 8 ≤ l.length from ⟨by omega, hql⟩)
      have Qbo := Aside0.mk hbo
      have Qll := Aside0.mk hl
      have hr2 : (r2 : Int) ≤ 1000000 := by omega
      clear hI hI2 HG hC hp hbo hl hrc hql hq8 h8q h64 HS
      go_wp2_with fail
      refine HL.out.mono ?_
      rintro e w2 ⟨rfl, h1, h2, h3⟩
      obtain ⟨A2, c2, HG2, _, _⟩ := id h1
      have m3 := cellS132_3 HG2
      have m4 := cellS132_4 HG2
      have m5 := cellS132_5 HG2
      have m6 := cellS132_6 HG2
      have z3 := blk_frozen HG2 3
      have z4 := blk_frozen HG2 4
      have z5 := blk_frozen HG2 5
      have H1 := Aside0.mk h1
      have H2 := Aside0.mk h2
      have H3 := Aside0.mk h3
      clear h1 h2 h3 HG2 HL
      have hlz := lz_top (bt1 l) (8 * q) 64 (Nat.le_refl _)
      have hWl := top_lt (bt1 l) (8 * q) 64 (Nat.le_refl _)
      have hhi := hi_le (bt1 l) (8 * q) 64
      have hsh : ∀ z, z ≤ 64 → shl64 (top (bt1 l) (8 * q) 64) z = top (bt1 l) (8 * q) (64 - z) := fun z hz => shl_top _ _ _ _ (Nat.le_refl _) hz
      have QF := Aside0.mk (fun W' h => cfz_is g (top (bt1 l) (8 * q) 64) hWl W' h)
      by_cases h0 : hi (bt1 l) (8 * q) 64 = 0
      · rw [if_pos h0] at hlz
        rw [hlz] at QF
        have hW0 : top (bt1 l) (8 * q) 64 = 0 := by
          have e := len_nb (bt1 l) (8 * q) 64
          rw [h0] at e
          have hn : nb (bt1 l) (8 * q) 64 = 0 := by
            by_cases hh : nb (bt1 l) (8 * q) 64 = 0
            · exact hh
            · unfold QE.len at e; rw [if_neg hh] at e; omega
          rw [top_all, hn]
        rw [hW0] at QF ⊢
        have Qh0 := Aside0.mk h0
        clear hlz hWl hhi hsh hW0 h0
        go_wp2_with (go_at_call 118; refine (QF.out _ (by simp [go_sem, m6])).mono ?_; rintro e w' ⟨rfl, rfl⟩)
        go_roundg k1
        case measure => omega
        case rel =>
          refine ⟨r2, ⟨by have := HA.out.1; omega, ?_⟩, ⟨?_⟩, ⟨?_⟩, ⟨?_⟩⟩
          · have h := Qhi.out
            rw [← Q8.out, Qh0.out, if_neg (by omega)] at h
            exact h.symm.trans HA.out.2
          · refine ⟨⟨(q : Int), 0, ?_, fun h => absurd h (Nat.lt_irrefl _), fun _ => ⟨q, rfl, Q8.out, by have := Qr.out.2; omega⟩⟩, Qbo.out, Qll.out, by omega, by have := Qr.out.1; omega⟩
            exact (H1.out.set_4 _).set_3 _
          · exact (H2.out.setCell hg _).setCell hg _
          · exact kb_trans HK.out (kb_g (kb_g H3.out))
      · rw [if_neg h0] at hlz
        obtain ⟨c1, hc1⟩ : ∃ c1, c1 = hi (bt1 l) (8 * q) 64 := ⟨_, rfl⟩
        rw [← hc1] at hlz hhi h0
        obtain ⟨z, hz⟩ : ∃ z, z = 64 - c1 := ⟨_, rfl⟩
        rw [hlz, ← hz] at QF
        have hzl : (z : Int) < 64 := by omega
        have hzl2 : (z : Int) ≤ 64 := by omega
        have hsz := hsh z (by omega)
        rw [show 64 - z = c1 by omega] at hsz
        have QC := Aside0.mk (fun W' h => cb_is g (top (bt1 l) (8 * q) 64) z hzl2 W' h)
        rw [hsz] at QC
        have Qz := Aside0.mk (show z + c1 = 64 ∧ 0 < c1 from ⟨by omega, by omega⟩)
        have Qc1 := Aside0.mk hc1
        generalize top (bt1 l) (8 * q) 64 = W at *
        obtain ⟨V, hV⟩ : ∃ V, V = top (bt1 l) (8 * q) c1 := ⟨_, rfl⟩
        rw [← hV] at QC
        have QV := Aside0.mk hV
        clear hlz hWl hhi hsh h0 hc1 hz hsz hV
        go_wp2_with (first | (go_at_call 118; refine (QF.out _ (by simp [go_sem, m6])).mono ?_; rintro e w' ⟨rfl, rfl⟩) | (go_at_call 119; refine (QC.out _ (by simp [go_sem, m6])).mono ?_; rintro e w' ⟨rfl, rfl⟩))
        refine bodyPost_ret (v := .tuple #[]) (by simp [results, Tryd.results112, go_sem]) rfl ?_
        refine ⟨rfl, r2, c1, ⟨⟨⟨(q : Int), (V : Int), ?_, fun _ => by rw [← Q8.out, ← QV.out], fun _ => ⟨q, rfl, Q8.out, by have := Qr.out.2; omega⟩⟩, Qbo.out, Qll.out, by have := Qz.out; omega, by have := Qr.out.1; have := Qz.out; omega⟩, ?_, ?_⟩, ?_, .inr Qz.out.2⟩
        · rw [show ((r2 + c1 : Nat) : Int) = (r2 : Int) + 64 - (z : Int) by have := Qz.out.1; omega, show (c1 : Int) = 64 - (z : Int) by have := Qz.out.1; omega]
          exact (((H1.out.set_4 _).set_4 _).set_5 _).set_3 _
        · exact (((H2.out.setCell hg _).setCell hg _).setCell hg _).setCell hg _
        · exact kb_trans HK.out (kb_g (kb_g (kb_g (kb_g H3.out))))
        · have h := Qhi.out
          rw [← Q8.out, ← Qc1.out, if_pos Qz.out.2] at h
          exact h.symm.trans HA.out.2
    · obtain ⟨k3, hk3⟩ : ∃ k3 : wr.cell? ⟨g, 3, none⟩ = some (.int .i64 (r1 : Int)), True := ⟨cellS132_3 HG, trivial⟩
      have hge : decide ((64 : Int) ≤ (r1 : Int)) = false := decide_eq_false (by omega)
      clear hk3
      by_cases hr0 : r1 = 0
      · subst hr0
        have HS' := HS
        clear hI HG hC hp hbo hl hrc h64 HS
        go_wp2
        go_end0
        exact ⟨rfl, 0, 0, ⟨HS'.out, HB.out, HK.out⟩, by rw [← HA.out.2]; rfl, .inl rfl⟩
      · obtain ⟨q0, hq, hq8, hql⟩ := hp (by omega)
        obtain ⟨nbs, hnb⟩ : ∃ nbs, nbs = (r1 + 7) / 8 := ⟨_, rfl⟩
        obtain ⟨q, rfl⟩ : ∃ q, q0 = q + nbs := ⟨q0 - nbs, by omega⟩
        subst hq
        have hI2 : IsS132 w0 wr g l ((q : Int) + nbs) L (r1 : Int) Wg 0 true FB := by
          have h := hI
          rw [show ((q + nbs : Nat) : Int) = (q : Int) + nbs by omega, show ((r1 + 0 : Nat) : Int) = (r1 : Int) by omega] at h
          exact h
        have HL := lp_is g l _ _ _ _ _ q nbs 0 r1 w0 wr hI2 HB.out hbo hql hl (by omega) (by omega) (by omega) hnb.symm (by omega)
        rw [show 8 * q + (8 * nbs - 0 - r1) = f by omega] at HL
        have HL := Aside0.mk HL
        have Qbo := Aside0.mk hbo
        have Qll := Aside0.mk hl
        have Qr := Aside0.mk (show 0 < r1 ∧ r1 < 64 from ⟨by omega, by omega⟩)
        have hgt : decide ((0 : Int) < (r1 : Int)) = true := decide_eq_true (by omega)
        have hgt2 : decide (0 < r1) = true := decide_eq_true (by omega)
        have hgt3 : 0 < r1 := by omega
        have hlz := lz_top (bt1 l) f r1 (by omega)
        have hWl := top_lt (bt1 l) f r1 (by omega)
        have hhi := hi_le (bt1 l) f r1
        have hsh := shl_top (bt1 l) f r1 (r1 - hi (bt1 l) f r1) (by omega) (by omega)
        rw [show r1 - (r1 - hi (bt1 l) f r1) = hi (bt1 l) f r1 by omega] at hsh
        obtain ⟨c1, hc1⟩ : ∃ c1, c1 = hi (bt1 l) f r1 := ⟨_, rfl⟩
        obtain ⟨m, hm⟩ : ∃ m, m = r1 - c1 := ⟨_, rfl⟩
        rw [← hc1, ← hm] at hsh
        rw [← hc1] at hlz hhi
        obtain ⟨z, hz⟩ : ∃ z, z = QE.lz (top (bt1 l) f r1) := ⟨_, rfl⟩
        have hmin : min r1 z = m := by
          rw [hz, hlz, hm]
          split
          · rename_i e; rw [e, Nat.min_eq_left (by omega)]; omega
          · rw [Nat.min_eq_right (by omega)]
        have hzl : (z : Int) ≤ 64 := by rw [hz]; unfold QE.lz; omega
        have hml : (m : Int) ≤ 64 := by omega
        have hmr : (m : Int) ≤ (r1 : Int) := by omega
        have hrl : (r1 : Int) ≤ 64 := by omega
        have QF := Aside0.mk (fun W' h => cfz_is g (top (bt1 l) f r1) hWl W' h)
        rw [← hz] at QF
        have QM := Aside0.mk (fun W' => min_is r1 z (by omega) (by omega) W')
        rw [hmin] at QM
        have QC := Aside0.mk (fun W' h => cb_is g (top (bt1 l) f r1) m hml W' h)
        obtain ⟨V, hV⟩ : ∃ V, V = top (bt1 l) f c1 := ⟨_, rfl⟩
        rw [hsh, ← hV] at QC
        have QV := Aside0.mk hV
        have Qc := Aside0.mk (show c1 = hi (bt1 l) f r1 ∧ m + c1 = r1 from ⟨hc1, by omega⟩)
        generalize top (bt1 l) f r1 = W at *
        have hl0 : 0 ≤ (r1 : Int) := by omega
        clear hlz hWl hhi hsh hc1 hm hz hmin hV hI hI2 HG hC hp hbo hl hrc hql hq8 hnb h64 HS hr0
        go_wp2_with fail
        refine HL.out.mono ?_
        rintro e w2 ⟨rfl, h1, h2, h3⟩
        obtain ⟨A2, c2, HG2, _, _⟩ := id h1
        have m3 := cellS132_3 HG2
        have m4 := cellS132_4 HG2
        have m5 := cellS132_5 HG2
        have m6 := cellS132_6 HG2
        have z3 := blk_frozen HG2 3
        have z4 := blk_frozen HG2 4
        have z5 := blk_frozen HG2 5
        have H1 := Aside0.mk h1
        have H2 := Aside0.mk h2
        have H3 := Aside0.mk h3
        clear h1 h2 h3 HG2 HL
        go_wp2_with fail
        go_quiet ((first | (go_at_call 118; exact Calls.quiet_of_same ((QF.out _ (by simp [go_sem, m6])).mono fun e w' h => ⟨h.1, h.2.symm⟩)) | (go_at_call 82; exact Calls.quiet_of_same ((QM.out _).mono fun e w' h => ⟨h.1, h.2.symm⟩))))
        go_wp2_with (go_at_call 119; refine (QC.out _ (by simp [go_sem, m6])).mono ?_; rintro e w' ⟨rfl, rfl⟩)
        go_end0
        refine ⟨rfl, 0, c1, ⟨⟨⟨(q : Int), (V : Int), ?_, fun _ => by rw [Nat.add_zero, ← QV.out], fun h => absurd h (Nat.lt_irrefl _)⟩, Qbo.out, Qll.out, by have := Qc.out.2; have := Qr.out.2; omega, by have := Qc.out.2; have := Qr.out.2; omega⟩, ?_, ?_⟩, ?_, ?_⟩
        · rw [show ((0 + c1 : Nat) : Int) = (r1 : Int) - (m : Int) by have := Qc.out.2; omega, show (c1 : Int) = (r1 : Int) - (m : Int) by have := Qc.out.2; omega]
          exact (((((H1.out.set_4 _).set_5 _).drewN _).set_4 _).set_5 _).set_3 _
        · exact (((pw_below_drewN ((H2.out.setCell hg _).setCell hg _) _).setCell hg _).setCell hg _).setCell hg _
        · exact kb_trans HK.out (kb_g (kb_g (kb_g (kb_drewN (kb_g (kb_g H3.out)) _))))
        · rw [Nat.zero_add, Qc.out.1]; exact HA.out.2
        · rw [Nat.zero_add]; omega
end Go.Proofs.YtpjaaonpbohkdaaDoor.QR
