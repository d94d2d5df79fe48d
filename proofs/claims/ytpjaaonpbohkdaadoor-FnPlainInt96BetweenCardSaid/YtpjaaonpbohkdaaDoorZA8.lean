/- BitIsSet. -/
import Derived.Test.YtpjaaonpbohkdaaDoorZA7
import Derived.BigQuiet
import Derived.Deep.QuietTactic
import Derived.Test.YtpjaaonpbohkdaaDoorQTx1
import Derived.Handy
import Derived.Defers
import Derived.Recover
import Derived.Laws.Pointers
import Derived.Laws.Panics
import Derived.Lib.Strings
namespace Go.Proofs.YtpjaaonpbohkdaaDoor.QR
open Go.RowKit Go.Proofs.YtpjaaonpbohkdaaDoorW.PrintWords Go.Proofs.YtpjaaonpbohkdaaDoorW.PrintLast Go.Proofs.YtpjaaonpbohkdaaDoorW.PrintMore
set_option linter.unusedVariables false
set_option linter.unusedSimpArgs false
/-- The masks of single bits stand in the first package-level variable. -/
def Bm (w : World) : Prop := 0 < w.heap.size ∧ ∀ k, k < 8 → w.cell? ⟨0, k, none⟩ = some (.int .u8 ((2 ^ k : Nat) : Int))
theorem Bm.below {w w' : World} (h : Bm w) {B : Nat} (hB : Below B w w') (h0 : 0 < B) : Bm w' := by
  refine ⟨Nat.lt_of_lt_of_le h.1 hB.size, fun k hk => ?_⟩
  have := h.2 k hk
  unfold World.cell? at this ⊢
  rw [show (⟨0, k, none⟩ : Addr).block = 0 from rfl] at this ⊢
  rw [hB.block 0 h0]
  exact this
theorem and_bit (x m : Nat) (hx : x < 256) (hm : m < 8) : (Go.bits .and .u8 (x : Int) ((2 ^ m : Nat) : Int) != 0) = decide ((x : Int) / 2 ^ m % 2 = 1) := by
  have h2 : (2 ^ m : Nat) < 256 := Nat.lt_of_lt_of_le (Nat.pow_lt_pow_right (by decide) hm) (by decide)
  have h0 : 0 < (2 ^ m : Nat) := Nat.pow_pos (by decide)
  unfold Go.bits
  show (IntKind.u8.wrap (((BitVec.ofInt 8 (x : Int)) &&& (BitVec.ofInt 8 ((2 ^ m : Nat) : Int))).toNat : Int) != 0) = _
  have e1 : BitVec.ofInt 8 (x : Int) = BitVec.ofNat 8 x := BitVec.ofInt_natCast ..
  have e2 : BitVec.ofInt 8 ((2 ^ m : Nat) : Int) = BitVec.ofNat 8 (2 ^ m) := BitVec.ofInt_natCast ..
  rw [e1, e2, BitVec.toNat_and, BitVec.toNat_ofNat, BitVec.toNat_ofNat, Nat.mod_eq_of_lt (show x < 2 ^ 8 from hx), Nat.mod_eq_of_lt (show 2 ^ m < 2 ^ 8 from h2)]
  have e3 : x.testBit m = decide (x / 2 ^ m % 2 = 1) := Nat.testBit_eq_decide_div_mod_eq
  have e4 : x &&& 2 ^ m = if x.testBit m then 2 ^ m else 0 := by
    apply Nat.eq_of_testBit_eq
    intro i
    rw [Nat.testBit_and, Nat.testBit_two_pow]
    by_cases hi : m = i
    · subst hi
      by_cases h : x.testBit m = true
      · rw [if_pos h, Nat.testBit_two_pow]; simp [h]
      · rw [if_neg h]; simp at h; simp [h]
    · by_cases h : x.testBit m = true
      · rw [if_pos h, Nat.testBit_two_pow]; simp [hi]
      · rw [if_neg h]; simp [hi]
  have e5 : decide ((x : Int) / 2 ^ m % 2 = 1) = decide (x / 2 ^ m % 2 = 1) := by
    have : ((x : Int) / 2 ^ m % 2) = ((x / 2 ^ m % 2 : Nat) : Int) := by rw [Int.natCast_emod, Int.natCast_ediv, Int.natCast_pow]; rfl
    rw [this]
    congr 1
    apply propext
    constructor <;> intro h <;> omega
  rw [e4, e3, e5]
  by_cases h : x / 2 ^ m % 2 = 1
  · simp only [h, decide_true, if_true]
    generalize (2 ^ m : Nat) = p at h0 h2
    rw [show IntKind.u8.wrap (p : Int) = (p : Int) by simp [IntKind.wrap, IntKind.bits, IntKind.signed]; omega]
    simp; omega
  · simp only [h, decide_false]
    rfl
set_option maxHeartbeats 8000000 in
set_option maxRecDepth 100000 in
theorem bis_is (A : Option Addr) (l : List Int) (cap k : Nat) (w : World) (hC : Cu w A l) (hk : k < 8 * l.length) (hll : l.length ≤ 1000000) (hbo : bytesOk l = true) (hM : Bm w) :
    Calls Tryd.prog 46 #[.slice A l.length cap, .int .i64 (k : Int)] w fun e w' => e = .returned (.bool (bt1 l k)) ∧ Below w.heap.size w w' := by
  obtain ⟨q, hq⟩ : ∃ q, q = k / 8 := ⟨_, rfl⟩
  obtain ⟨m, hm⟩ : ∃ m, m = k % 8 := ⟨_, rfl⟩
  obtain ⟨r, hr⟩ : ∃ r, r = k % 256 := ⟨_, rfl⟩
  have hw1 : IntKind.u64.wrap (k : Int) = (k : Int) := wraps_u64 _ (by omega) (by omega)
  have hw2 : IntKind.u8.wrap (k : Int) = (r : Int) := by rw [hr]; simp [IntKind.wrap, IntKind.bits, IntKind.signed]
  have hw3 : IntKind.u64.wrap (q : Int) = (q : Int) := wraps_u64 _ (by omega) (by omega)
  have hw4 : IntKind.u8.wrap (m : Int) = (m : Int) := by simp [IntKind.wrap, IntKind.bits, IntKind.signed]; omega
  have hd : Int.tdiv (k : Int) 8 = (q : Int) := by rw [hq]; rfl
  have hmo : Int.tmod (r : Int) 8 = (m : Int) := by rw [hm, show k % 8 = r % 8 by omega]; rfl
  obtain ⟨ad, e, c1⟩ := Kd.at_int hC (q : Int) (by omega) (by omega)
  subst e
  rw [Int.toNat_natCast] at c1
  have c2 := hM.2 m (by omega)
  obtain ⟨B, hB⟩ : ∃ B, B = rd l (q : Int) := ⟨_, rfl⟩
  obtain ⟨P, hP⟩ : ∃ P : Int, P = ((2 ^ m : Nat) : Int) := ⟨_, rfl⟩
  rw [← hB] at c1
  rw [← hP] at c2
  have b1 : (q : Int) < (l.length : Int) := by omega
  have b2 : (m : Int) < 8 := by omega
  have b3 : q < l.length := by omega
  have b4 : m < 8 := by omega
  have hres : (Go.bits .and .u8 B P != 0) = bt1 l k := by
    have hby := bytes_ok hbo (q : Int)
    rw [← hB] at hby
    unfold bt1
    rw [← hq, ← hm, ← hB, hP]
    have h2 : (2 ^ m : Nat) < 256 := by have : m < 8 := by omega
                                        exact Nat.lt_of_lt_of_le (Nat.pow_lt_pow_right (by decide) this) (by decide)
    obtain ⟨b, hb⟩ : ∃ b : Nat, B = (b : Int) := ⟨B.toNat, by omega⟩
    rw [hb]
    exact and_bit b m (by omega) (by omega)
  have Qr := Aside0.mk hres
  clear hC hk hll hbo hM hq hm hr hB hP hres
  go_enter Tryd.func46, Tryd.ntmps46
  go_wp2_with fail
  have mixed : Tryd.prog.follows .mixedOrders = true := by kernel_rfl
  refine wp_region_still_lit mixed (by kernel_rfl) ?_
  change wpStill _ _ (World.drew w) _ _ _
  repeat still_step
  refine wpStill_nil ?_
  go_wp2
  go_ret
  exact ⟨by rw [← Qr.out]; rfl, (Below.refl _ w).drew⟩
end Go.Proofs.YtpjaaonpbohkdaaDoor.QR
/- Values without kids, as rows tell them; a value is the same as itself. -/
namespace Go.Proofs.YtpjaaonpbohkdaaDoor.QR
open Go.RowKit Go.Proofs.YtpjaaonpbohkdaaDoorW.PrintWords Go.Proofs.YtpjaaonpbohkdaaDoorW.PrintLast Go.Proofs.YtpjaaonpbohkdaaDoorW.PrintMore
set_option linter.unusedVariables false
set_option linter.unusedSimpArgs false
/-- Kids: none. -/
def kid : Kd Unit where
  sz := 1
  E := []
  K := fun _ _ cs => ∃ A c, cs = [.slice A 0 c]
  M := fun _ _ _ _ cs => ∃ A c, cs = [.slice A 0 c]
  K_len := by rintro w x cs ⟨A, c, rfl⟩; rfl
  K_one := by rintro w x cs ⟨A, c, rfl⟩ u hu; rw [List.mem_singleton.1 hu]; rfl
  K_below := fun _ h => h
  K_of_M := fun h => h
  M_mono := fun _ h => h
  M_bound := fun h => h
  M_move := fun _ h => h
  M_lower := fun _ h => h
/-- A value: null, a number, a text. -/
abbrev TV := Bool × Int × ByteArray
def kV : Kd TV := Kd.iso (Kd.pair Kd.bool (Kd.pair (Kd.int .u64) (Kd.pair Kd.string kid))) (fun x => (x.1, x.2.1, x.2.2, ()))
theorem kV_open {w : World} {x : TV} {cs : List Value} (h : kV.K w x cs) : ∃ A c, cs = [.bool x.1, .int .u64 x.2.1, .string x.2.2, .slice A 0 c] := by
  obtain ⟨_, _, rfl, rfl, ⟨_, _, rfl, rfl, ⟨_, _, rfl, rfl, ⟨A, c, rfl⟩⟩⟩⟩ := h
  exact ⟨A, c, rfl⟩
theorem kV_mk (w : World) (x : TV) (A : Option Addr) (c : Nat) : kV.K w x [.bool x.1, .int .u64 x.2.1, .string x.2.2, .slice A 0 c] :=
  ⟨[.bool x.1], [.int .u64 x.2.1, .string x.2.2, .slice A 0 c], rfl, rfl, ⟨[.int .u64 x.2.1], [.string x.2.2, .slice A 0 c], rfl, rfl, ⟨[.string x.2.2], [.slice A 0 c], rfl, rfl, ⟨A, c, rfl⟩⟩⟩⟩
theorem kV_mkM (w : World) (base : Nat) (ok : Nat → Prop) (x : TV) (A : Option Addr) (c : Nat) : kV.M w base ok x [.bool x.1, .int .u64 x.2.1, .string x.2.2, .slice A 0 c] :=
  ⟨[.bool x.1], [.int .u64 x.2.1, .string x.2.2, .slice A 0 c], rfl, rfl, ⟨[.int .u64 x.2.1], [.string x.2.2, .slice A 0 c], rfl, rfl, ⟨[.string x.2.2], [.slice A 0 c], rfl, rfl, ⟨A, c, rfl⟩⟩⟩⟩
def zV : TV := (false, 0, ⟨#[]⟩)
theorem kV_at {w : World} {A : Option Addr} {n : Nat} {xs : List TV} (h : Kd.C kV w A n xs) (i : Nat) (hi : i < n) : ∃ ad A3 c3, A = some ad ∧ w.cell? (ad.add (i * 4)) = some (.bool (xs.getD i zV).1) ∧ w.cell? ⟨(ad.add (i * 4)).block, (ad.add (i * 4)).off + 1, none⟩ = some (.int .u64 (xs.getD i zV).2.1) ∧ w.cell? ⟨(ad.add (i * 4)).block, (ad.add (i * 4)).off + 2, none⟩ = some (.string (xs.getD i zV).2.2) ∧ w.cell? ⟨(ad.add (i * 4)).block, (ad.add (i * 4)).off + 3, none⟩ = some (.slice A3 0 c3) := by
  obtain ⟨ad, c, e, _, hK, hc0⟩ := Kd.C_get h zV (i : Int) (by omega) (by omega)
  rw [Int.toNat_natCast] at hK hc0
  have hc : ∀ j u, c[j]? = some u → w.cell? (ad.add (i * 4 + j)) = some u := hc0
  obtain ⟨A3, c3, rfl⟩ := kV_open hK
  exact ⟨ad, A3, c3, e, hc 0 _ rfl, by rw [← add_field _ _ 1 (by omega)]; exact hc 1 _ rfl, by rw [← add_field _ _ 2 (by omega)]; exact hc 2 _ rfl, by rw [← add_field _ _ 3 (by omega)]; exact hc 3 _ rfl⟩
def VA (x : TV) (A : Option Addr) (c : Nat) : Value := .agg #[.bool x.1, .int .u64 x.2.1, .string x.2.2, .slice A 0 c]
set_option maxHeartbeats 8000000 in
set_option maxRecDepth 100000 in
theorem svs_nil (A1 A2 : Option Addr) (c1 c2 : Nat) (w : World) : Calls Tryd.prog 14 #[.slice A1 0 c1, .slice A2 0 c2] w fun e w' => e = .returned (.bool true) ∧ Below w.heap.size w w' := by
  go_enter Tryd.func14, Tryd.ntmps14
  go_wp2
  go_rounds 1
  go_ret
  exact ⟨rfl, Below.refl _ _⟩
set_option maxHeartbeats 8000000 in
set_option maxRecDepth 100000 in
theorem sv_is (x : TV) (A1 A2 : Option Addr) (c1 c2 : Nat) (w : World) : Calls Tryd.prog 10 #[VA x A1 c1, VA x A2 c2] w fun e w' => e = .returned (.bool true) ∧ Below w.heap.size w w' := by
  obtain ⟨x1, x2, x3⟩ := x
  unfold VA
  have Q := Aside0.mk (svs_nil A1 A2 c1 c2)
  simp only
  go_enter Tryd.func10, Tryd.ntmps10
  cases x1
  · go_wp2_with (go_at_call 14; refine (Q.out _).mono ?_; rintro e w' ⟨rfl, hb⟩; have QB := Aside0.mk hb; clear hb)
    go_ret
    exact ⟨rfl, (((Below.refl _ w).alloc (Nat.le_refl _) _).alloc ((Below.refl _ w).alloc (Nat.le_refl _) _).size _).trans (QB.out.mono (((Below.refl _ w).alloc (Nat.le_refl _) _).alloc ((Below.refl _ w).alloc (Nat.le_refl _) _).size _).size)⟩
  · go_wp2
    go_ret
    exact ⟨rfl, ((Below.refl w.heap.size w).alloc (Nat.le_refl _) _).alloc ((Below.refl w.heap.size w).alloc (Nat.le_refl _) _).size _⟩
set_option maxHeartbeats 8000000 in
set_option maxRecDepth 100000 in
theorem svs_is (A1 A2 : Option Addr) (c1 c2 : Nat) (xs : List TV) (w : World) (h1 : Kd.C kV w A1 xs.length xs) (h2 : Kd.C kV w A2 xs.length xs) (hl : xs.length ≤ 1000000) : Calls Tryd.prog 14 #[.slice A1 xs.length c1, .slice A2 xs.length c2] w fun e w' => e = .returned (.bool true) ∧ Below w.heap.size w w' := by
  have Q1 := Aside0.mk h1
  have Q2 := Aside0.mk h2
  obtain ⟨n, hn⟩ : ∃ n, n = xs.length := ⟨_, rfl⟩
  rw [← hn]
  have hni : (n : Int) ≤ 1000000 := by omega
  have Qn := Aside0.mk hn
  have mixed : Tryd.prog.follows .mixedOrders = true := by kernel_rfl
  clear h1 h2 hl hn
  go_enter Tryd.func14, Tryd.ntmps14
  go_wp2_with fail
  go_loopg [13] n (fun kq v13 w' => ∃ i : Nat, v13 = .int .i64 (i : Int) ∧ Aside0 (i + kq = n) ∧ Aside0 (Below w.heap.size w w'))
  case atStart => exact ⟨0, rfl, ⟨by omega⟩, ⟨Below.refl _ _⟩⟩
  case round =>
    obtain ⟨i, rfl, HA, HB⟩ := hrel
    rcases Nat.eq_zero_or_pos gk with h0 | h0
    · have hi : ((i : Int) < (n : Int)) = False := by have := HA.out; simp; omega
      go_wp2
      go_ret
      exact ⟨rfl, HB.out⟩
    · have hi : (i : Int) < (n : Int) := by have := HA.out; omega
      have hi2 : i < n := by omega
      have QI := Aside0.mk hi2
      obtain ⟨a1, B1, d1, e1, p0, p1, p2, p3⟩ := kV_at (Kd.C_below Q1.out HB.out) i (by rw [← Qn.out]; exact hi2)
      obtain ⟨a2, B2, d2, e2, q0, q1, q2, q3⟩ := kV_at (Kd.C_below Q2.out HB.out) i (by rw [← Qn.out]; exact hi2)
      subst e1; subst e2
      generalize xs.getD i zV = x at *
      obtain ⟨k1, rfl⟩ : ∃ k1, gk = k1 + 1 := ⟨gk - 1, by omega⟩
      have QS := Aside0.mk (sv_is x B1 B2 d1 d2 wr.drew)
      clear h0
      go_upto_region 6 with (fail)
      refine wp_region_still_tail 8 (by kernel_rfl) (by kernel_rfl) ?_
      simp only [List.take_succ_cons, List.take_zero, List.drop_succ_cons, List.drop_zero]
      change wpStill _ _ (World.drew wr) _ _ _
      repeat still_step
      refine wpStill_nil ?_
      change wpList _ _ _ _ _ (World.drew wr)
      go_wp2_with (go_at_call 10; refine QS.out.mono ?_; rintro e w' ⟨rfl, hb⟩; have QB := Aside0.mk hb; clear hb)
      go_roundg k1
      case rel => exact ⟨i + 1, rfl, ⟨by have := HA.out; omega⟩, ⟨HB.out.trans ((show Below wr.heap.size wr w' from ⟨QB.out.os, QB.out.tape, QB.out.output, QB.out.size, QB.out.block⟩).mono HB.out.size)⟩⟩
      · omega
end Go.Proofs.YtpjaaonpbohkdaaDoor.QR
/- The types of texts; their bits, lengths; which values are of them. -/
namespace Go.Proofs.YtpjaaonpbohkdaaDoor.QR
open Go.RowKit Go.Proofs.YtpjaaonpbohkdaaDoorW.PrintWords Go.Proofs.YtpjaaonpbohkdaaDoorW.PrintLast Go.Proofs.YtpjaaonpbohkdaaDoorW.PrintMore
set_option linter.unusedVariables false
set_option linter.unusedSimpArgs false
/-- A type: its kind and width (4: texts; 15: texts of one length). -/
def TyV (k : Int) (t : Nat) : Value := .agg #[.int .i64 k, .int .i64 (t : Int), .bool false, .int .i64 0, .int .i64 0, .int .i64 0, .string ⟨#[]⟩, .bool false, .slice none 0 0, .slice none 0 0]
theorem b2 (w : World) (a : Obj) : Below w.heap.size w (w.alloc a) := (Below.refl w.heap.size w).alloc (Nat.le_refl _) a
theorem b3 (w : World) (a b : Obj) : Below w.heap.size w ((w.alloc a).alloc b) := (b2 w a).alloc (b2 w a).size b
set_option maxHeartbeats 8000000 in
set_option maxRecDepth 100000 in
theorem ob_is (k : Int) (hk : k = 4 ∨ k = 15) (t : Nat) (w : World) : Calls Tryd.prog 51 #[TyV k t] w fun e w' => e = .returned (.tuple #[.int .i64 0, .bool false]) ∧ Below w.heap.size w w' := by
  unfold TyV
  rcases hk with rfl | rfl
  · go_enter Tryd.func51, Tryd.ntmps51
    go_wp2
    refine bodyPost_ret (v := .tuple #[.int .i64 0, .bool false]) (by simp [results, Tryd.results51, go_sem]) rfl ?_
    exact ⟨rfl, b2 w _⟩
  · go_enter Tryd.func51, Tryd.ntmps51
    go_wp2
    refine bodyPost_ret (v := .tuple #[.int .i64 0, .bool false]) (by simp [results, Tryd.results51, go_sem]) rfl ?_
    exact ⟨rfl, b2 w _⟩
set_option maxHeartbeats 8000000 in
set_option maxRecDepth 100000 in
theorem ol4_is (t : Nat) (w : World) : Calls Tryd.prog 52 #[TyV 4 t] w fun e w' => e = .returned (.int .i64 (-1)) ∧ Below w.heap.size w w' := by
  unfold TyV
  go_enter Tryd.func52, Tryd.ntmps52
  go_wp2
  go_ret
  exact ⟨rfl, b2 w _⟩
set_option maxHeartbeats 8000000 in
set_option maxRecDepth 100000 in
theorem ol15_is (t : Nat) (w : World) : Calls Tryd.prog 52 #[TyV 15 t] w fun e w' => e = .returned (.int .i64 (t : Int)) ∧ Below w.heap.size w w' := by
  unfold TyV
  go_enter Tryd.func52, Tryd.ntmps52
  go_wp2
  go_ret
  exact ⟨rfl, b2 w _⟩
end Go.Proofs.YtpjaaonpbohkdaaDoor.QR
/- Which values are of a type. -/
namespace Go.Proofs.YtpjaaonpbohkdaaDoor.QR
open Go.RowKit Go.Proofs.YtpjaaonpbohkdaaDoorW.PrintWords Go.Proofs.YtpjaaonpbohkdaaDoorW.PrintLast Go.Proofs.YtpjaaonpbohkdaaDoorW.PrintMore
set_option linter.unusedVariables false
set_option linter.unusedSimpArgs false
/-- A value that is not null, with m kids, is of the type. -/
def fitsT (k : Int) (t m : Nat) (a : Int) (s : ByteArray) : Bool := decide (m = 0) && (decide (a = 0) && (if k = 4 then decide (s.size ≤ 200) else decide (t = s.size)))
/-- The cells of a type that was laid. -/
abbrev TyC (k : Int) (t : Nat) : Array Value := #[.int .i64 k, .int .i64 (t : Int), .bool false, .int .i64 0, .int .i64 0, .int .i64 0, .string ⟨#[]⟩, .bool false, .slice none 0 0, .slice none 0 0]
theorem TyC_cells {w : World} {g : Nat} {k : Int} {t : Nat} (h : w.heap[g]? = some (.cells (TyC k t) 30 (0, 0))) :
    w.cell? ⟨g, 0, none⟩ = some (.int .i64 k) ∧ w.cell? ⟨g, 1, none⟩ = some (.int .i64 (t : Int)) ∧ w.cell? ⟨g, 2, none⟩ = some (.bool false) ∧ w.cell? ⟨g, 3, none⟩ = some (.int .i64 0) ∧ w.cell? ⟨g, 4, none⟩ = some (.int .i64 0) ∧ w.cell? ⟨g, 5, none⟩ = some (.int .i64 0) ∧ w.cell? ⟨g, 6, none⟩ = some (.string ⟨#[]⟩) ∧ w.cell? ⟨g, 7, none⟩ = some (.bool false) ∧ w.cell? ⟨g, 8, none⟩ = some (.slice none 0 0) ∧ w.cell? ⟨g, 9, none⟩ = some (.slice none 0 0) :=
  ⟨blk_cell h 0, blk_cell h 1, blk_cell h 2, blk_cell h 3, blk_cell h 4, blk_cell h 5, blk_cell h 6, blk_cell h 7, blk_cell h 8, blk_cell h 9⟩
theorem VC_cells {w : World} {g : Nat} {a0 a1 a2 a3 : Value} (h : w.heap[g]? = some (.cells #[a0, a1, a2, a3] 33 (0, 0))) : w.cell? ⟨g, 0, none⟩ = some a0 ∧ w.cell? ⟨g, 1, none⟩ = some a1 ∧ w.cell? ⟨g, 2, none⟩ = some a2 ∧ w.cell? ⟨g, 3, none⟩ = some a3 := ⟨blk_cell h 0, blk_cell h 1, blk_cell h 2, blk_cell h 3⟩
set_option maxHeartbeats 8000000 in
set_option maxRecDepth 100000 in
theorem of_is (k : Int) (hk : k = 4 ∨ k = 15) (t : Nat) (a : Int) (s : ByteArray) (A : Option Addr) (m c : Nat) (w : World) : Calls Tryd.prog 28 #[TyV k t, .agg #[.bool false, .int .u64 a, .string s, .slice A m c]] w fun e w' => e = .returned (.bool (fitsT k t m a s)) ∧ Below w.heap.size w w' := by
  have QO := Aside0.mk (fun w => ob_is k hk t w)
  obtain ⟨n, hn⟩ : ∃ n : Int, n = if k = 4 then -1 else (t : Int) := ⟨_, rfl⟩
  have QL := Aside0.mk (show ∀ w, Calls Tryd.prog 52 #[TyV k t] w fun e w' => e = .returned (.int .i64 n) ∧ Below w.heap.size w w' by
    intro w
    rcases hk with rfl | rfl
    · rw [hn]; exact ol4_is t w
    · rw [hn]; exact ol15_is t w)
  obtain ⟨sz, hsz⟩ : ∃ sz, sz = s.size := ⟨_, rfl⟩
  have Qf := Aside0.mk (show fitsT k t m a s = (decide (m = 0) && (decide (a = 0) && (if k = 4 then decide (sz ≤ 200) else decide (t = sz)))) by rw [hsz]; rfl)
  have Qk := Aside0.mk (And.intro hk hn)
  obtain ⟨fr, hfr⟩ : ∃ fr, fr = fitsT k t m a s := ⟨_, rfl⟩
  rw [← hfr] at Qf ⊢
  have hT : TyV k t = .agg #[.int .i64 k, .int .i64 (t : Int), .bool false, .int .i64 0, .int .i64 0, .int .i64 0, .string ⟨#[]⟩, .bool false, .slice none 0 0, .slice none 0 0] := rfl
  rw [hT] at QO QL ⊢
  have hszs : s.size = sz := hsz.symm
  clear hfr hT hk hn hsz
  by_cases hm : m = 0
  · subst hm
    go_enter Tryd.func28, Tryd.ntmps28
    go_upto_region 5 with (fail)
    obtain ⟨W, hW⟩ : ∃ W, W = (w.alloc (.cells (TyC k t) 30)).alloc (.cells #[.bool false, .int .u64 a, .string s, .slice A 0 c] 33) := ⟨_, rfl⟩
    have g1 : W.heap[w.heap.size]? = some (.cells (TyC k t) 30 (0, 0)) := by rw [hW]; exact blk_alloc (blk_new w _) _
    have g2 : W.heap[w.heap.size + 1]? = some (.cells #[.bool false, .int .u64 a, .string s, .slice A 0 c] 33 (0, 0)) := by rw [hW]; have := blk_new (w.alloc (.cells (TyC k t) 30)) (.cells #[.bool false, .int .u64 a, .string s, .slice A 0 c] 33); rw [World.size_alloc] at this; exact this
    have QB0 := Aside0.mk (show Below w.heap.size w W by rw [hW]; exact b3 w _ _)
    rw [← hW]
    clear hW
    obtain ⟨t0, t1, t2, t3, t4, t5, t6, t7, t8, t9⟩ := TyC_cells g1
    have G1 := Aside0.mk g1
    have G2 := Aside0.mk g2
    clear g1 g2
    go_upto_region 6 with (go_at_call 51; refine (QO.out _).mono ?_; rintro e w1 ⟨rfl, hb⟩; have QB1 := Aside0.mk hb; clear hb)
    have g1 := (QB1.out.block _ (blk_lt G1.out)).trans G1.out
    have g2 := (QB1.out.block _ (blk_lt G2.out)).trans G2.out
    clear t0 t1 t2 t3 t4 t5 t6 t7 t8 t9
    obtain ⟨t0, t1, t2, t3, t4, t5, t6, t7, t8, t9⟩ := TyC_cells g1
    have G3 := Aside0.mk g2
    clear g1 g2
    go_upto_region 8 with (go_at_call 52; refine (QL.out _).mono ?_; rintro e w2 ⟨rfl, hb⟩; have QB2 := Aside0.mk hb; clear hb)
    have g2 := (QB2.out.block _ (blk_lt G3.out)).trans G3.out
    obtain ⟨v0, v1, v2, v3⟩ := VC_cells g2
    clear g2 t0 t1 t2 t3 t4 t5 t6 t7 t8 t9
    have QB := Aside0.mk (show Below w.heap.size w w2 from (QB0.out.trans (QB1.out.mono QB0.out.size)).trans (QB2.out.mono ((QB0.out.trans (QB1.out.mono QB0.out.size)).size)))
    clear QB0 QB1 QB2 QO QL
    have fin : ∀ b : Bool, b = (decide (a = 0) && (if k = 4 then decide (sz ≤ 200) else decide (t = sz))) → b = fr := by
      intro b hb
      rw [Qf.out, hb]
      simp
    have Qfin := Aside0.mk fin
    clear fin
    by_cases ha : a = 0
    · subst ha
      by_cases h4 : k = 4
      · obtain rfl : n = -1 := by rw [Qk.out.2, if_pos h4]
        by_cases hs : sz ≤ 200
        · have hs2 : (sz : Int) ≤ 200 := by omega
          go_wp2
          go_ret
          exact ⟨congrArg (fun b => Ending.returned (.bool b)) (Qfin.out _ (by simp [h4, hs])), QB.out⟩
        · have hs2 : ¬ ((sz : Int) ≤ 200) := by omega
          have hs3 : ((-1 : Int) == (sz : Int)) = false := by simp
          go_wp2
          go_ret
          exact ⟨congrArg (fun b => Ending.returned (.bool b)) (Qfin.out _ (by simp [h4, hs])), QB.out⟩
      · obtain rfl : n = (t : Int) := by rw [Qk.out.2, if_neg h4]
        by_cases hs : t = sz
        · have hs2 : ((t : Int) == (sz : Int)) = true := by simp [hs]
          go_wp2
          go_ret
          exact ⟨congrArg (fun b => Ending.returned (.bool b)) (Qfin.out _ (by simp [h4, hs])), QB.out⟩
        · have hs2 : ((t : Int) == (sz : Int)) = false := by rw [beq_eq_false_iff_ne]; omega
          go_wp2
          go_ret
          exact ⟨congrArg (fun b => Ending.returned (.bool b)) (Qfin.out _ (by simp [h4, hs])), QB.out⟩
    · have ha2 : (a == 0) = false := by simpa using ha
      go_wp2
      go_ret
      exact ⟨congrArg (fun b => Ending.returned (.bool b)) (Qfin.out _ (by simp [ha])), QB.out⟩
  · go_enter Tryd.func28, Tryd.ntmps28
    have hm1 : (0 : Int) < (m : Int) := by omega
    have hm2 : 0 < m := by omega
    go_wp2
    go_ret
    exact ⟨congrArg (fun b => Ending.returned (.bool b)) (by rw [Qf.out]; simp [hm]), b3 w _ _⟩
end Go.Proofs.YtpjaaonpbohkdaaDoor.QR
/- Whether all values are of a type: PlainAll. -/
namespace Go.Proofs.YtpjaaonpbohkdaaDoor.QR
open Go.RowKit Go.Proofs.YtpjaaonpbohkdaaDoorW.PrintWords Go.Proofs.YtpjaaonpbohkdaaDoorW.PrintLast Go.Proofs.YtpjaaonpbohkdaaDoorW.PrintMore
set_option linter.unusedVariables false
set_option linter.unusedSimpArgs false
def goodV (k : Int) (t : Nat) (x : QT.S33) : Bool := !x.f0 && fitsT k t x.f3.length x.f1 x.f2
def allT (k : Int) (t : Nat) (xs : List QT.S33) : Bool := xs.all (goodV k t) && decide (xs.length ≤ 500)
theorem all_no {α : Type} (p : α → Bool) (xs : List α) (z : α) (i : Nat) (hi : i < xs.length) (h : p (xs.getD i z) = false) : xs.all p = false := by
  rw [List.all_eq_false]
  refine ⟨xs[i], List.getElem_mem hi, ?_⟩
  rw [List.getD_eq_getElem?_getD, List.getElem?_eq_getElem hi] at h
  simp only [Option.getD_some] at h
  rw [h]; simp
theorem all_step {α : Type} (p : α → Bool) (xs : List α) (z : α) (i : Nat) (hi : i < xs.length) (h0 : (xs.take i).all p = true) (h : p (xs.getD i z) = true) : (xs.take (i + 1)).all p = true := by
  rw [List.getD_eq_getElem?_getD, List.getElem?_eq_getElem hi] at h
  simp only [Option.getD_some] at h
  rw [List.take_succ_eq_append_getElem hi, List.all_append, h0]
  simp [h]
set_option maxHeartbeats 8000000 in
set_option maxRecDepth 100000 in
theorem pal_is (k : Int) (hk : k = 4 ∨ k = 15) (t : Nat) (A : Option Addr) (c : Nat) (xs : List QT.S33) (w : World) (hC : Kd.C QT.k33 w A xs.length xs) : Calls Tryd.prog 12 #[TyV k t, .slice A xs.length c] w fun e w' => e = .returned (.bool (allT k t xs)) ∧ Below w.heap.size w w' := by
  have QO := Aside0.mk (fun a s A m c w => of_is k hk t a s A m c w)
  have hT : TyV k t = .agg #[.int .i64 k, .int .i64 (t : Int), .bool false, .int .i64 0, .int .i64 0, .int .i64 0, .string ⟨#[]⟩, .bool false, .slice none 0 0, .slice none 0 0] := rfl
  rw [hT] at QO ⊢
  have QC := Aside0.mk hC
  obtain ⟨n, hn⟩ : ∃ n, n = xs.length := ⟨_, rfl⟩
  rw [← hn]
  have hn63 : n ≤ 9223372036854775807 := by have := hC.2.1; omega
  have hni : (n : Int) ≤ 9223372036854775807 := by omega
  have Qn := Aside0.mk hn
  clear hC hn hk hT
  go_enter Tryd.func12, Tryd.ntmps12
  go_upto_region 1 with (fail)
  obtain ⟨W, hW⟩ : ∃ W, W = w.alloc (.cells (TyC k t) 30) := ⟨_, rfl⟩
  have g1 : W.heap[w.heap.size]? = some (.cells (TyC k t) 30 (0, 0)) := by rw [hW]; exact blk_new w _
  have hb1 : Below w.heap.size w W := by rw [hW]; exact b2 w _
  rw [← hW]
  clear hW
  have G1 := Aside0.mk g1
  have B1 := Aside0.mk hb1
  have hsz : w.heap.size < W.heap.size := blk_lt g1
  have Qsz := Aside0.mk hsz
  clear g1 hb1 hsz
  go_wp2_with fail
  go_loopg [9] n (fun kq v9 w' => ∃ i : Nat, v9 = .int .i64 (i : Int) ∧ Aside0 (i + kq = n ∧ (xs.take i).all (goodV k t) = true) ∧ Aside0 (Below W.heap.size W w'))
  case atStart => exact ⟨0, rfl, ⟨by omega, rfl⟩, ⟨Below.refl _ _⟩⟩
  case round =>
    obtain ⟨i, rfl, HA, HB⟩ := hrel
    have hB := B1.out.trans (HB.out.mono B1.out.size)
    rcases Nat.eq_zero_or_pos gk with h0 | h0
    · have hi : ((i : Int) < (n : Int)) = False := by have := HA.out; simp; omega
      have hq : allT k t xs = decide (n ≤ 500) := by
        unfold allT
        have := HA.out.2
        rw [List.take_of_length_le (by rw [← Qn.out]; have := HA.out.1; omega)] at this
        rw [this, Qn.out]
        simp
      have hq2 : decide ((n : Int) ≤ 500) = decide (n ≤ 500) := by
        congr 1
        apply propext
        constructor <;> intro h <;> omega
      have Qq := Aside0.mk hq
      have QB := Aside0.mk hB
      clear hq hB
      go_wp2
      go_ret
      exact ⟨by rw [Qq.out]; first | rfl | (simp [hq2]), QB.out⟩
    · have hi : (i : Int) < (n : Int) := by have := HA.out; omega
      have hi2 : i < n := by omega
      have QI := Aside0.mk hi2
      have hii : ((i : Int)).toNat = i := Int.toNat_natCast i
      obtain ⟨ad, A3, c3, e1, p0, p1, p2, p3, _, _⟩ := QT.at_T33 (Kd.C_below QC.out hB) (i : Int) (by omega) (by rw [← Qn.out]; exact hi)
      subst e1
      rw [hii] at p0 p1 p2 p3
      have hrd : QT.rd_T33 xs (i : Int) = xs.getD i QT.z33 := by unfold QT.rd_T33; rw [hii]
      rw [hrd] at p0 p1 p2 p3
      obtain ⟨x, hx⟩ : ∃ x, x = xs.getD i QT.z33 := ⟨_, rfl⟩
      rw [← hx] at p0 p1 p2 p3
      have Qx := Aside0.mk hx
      obtain ⟨y0, y1, y2, y3⟩ := x
      simp only at p0 p1 p2 p3
      obtain ⟨m, hm⟩ : ∃ m, m = y3.length := ⟨_, rfl⟩
      rw [← hm] at p3
      have Qm := Aside0.mk hm
      obtain ⟨k1, rfl⟩ : ∃ k1, gk = k1 + 1 := ⟨gk - 1, by omega⟩
      clear h0 hrd hx hm hii
      have QB := Aside0.mk hB
      clear hB
      cases y0
      · have g1 := (HB.out.block _ Qsz.out).trans G1.out
        obtain ⟨t0, t1, t2, t3, t4, t5, t6, t7, t8, t9⟩ := TyC_cells g1
        clear g1
        have hlt : w.heap.size < wr.heap.size := Nat.lt_of_lt_of_le Qsz.out HB.out.size
        have hne : ¬ w.heap.size = wr.heap.size := by omega
        obtain ⟨b, hb⟩ : ∃ b, b = fitsT k t m y1 y2 := ⟨_, rfl⟩
        have QF := Aside0.mk (fun w => QO.out y1 y2 A3 m c3 w)
        rw [← hb] at QF
        have Qg := Aside0.mk (show goodV k t (xs.getD i QT.z33) = b by rw [← Qx.out]; unfold goodV; simp only; rw [← Qm.out, hb]; rfl)
        clear hb
        cases b
        · go_wp2_with (go_at_call 28; refine (QF.out _).mono ?_; rintro e w2 ⟨rfl, hb⟩; have QB2 := Aside0.mk hb; clear hb)
          go_ret
          have hno : allT k t xs = false := by
            unfold allT
            rw [all_no (goodV k t) xs QT.z33 i (by rw [← Qn.out]; exact QI.out) Qg.out]
            rfl
          exact ⟨by rw [hno]; rfl, (QB.out.alloc QB.out.size _).trans (QB2.out.mono (QB.out.alloc QB.out.size _).size)⟩
        · go_wp2_with (go_at_call 28; refine (QF.out _).mono ?_; rintro e w2 ⟨rfl, hb⟩; have QB2 := Aside0.mk hb; clear hb)
          go_roundg k1
          case rel =>
            refine ⟨i + 1, rfl, ⟨by have := HA.out; omega, all_step (goodV k t) xs QT.z33 i (by rw [← Qn.out]; exact QI.out) HA.out.2 Qg.out⟩, ⟨(HB.out.alloc HB.out.size _).trans (QB2.out.mono (HB.out.alloc HB.out.size _).size)⟩⟩
          · omega
      · go_wp2
        go_ret
        have hno : allT k t xs = false := by
          unfold allT
          rw [all_no (goodV k t) xs QT.z33 i (by rw [← Qn.out]; exact QI.out) (by rw [← Qx.out]; rfl)]
          rfl
        exact ⟨by rw [hno]; rfl, QB.out.alloc QB.out.size _⟩
end Go.Proofs.YtpjaaonpbohkdaaDoor.QR
/- One value as it is written plainly: PlainBytes. -/
namespace Go.Proofs.YtpjaaonpbohkdaaDoor.QR
open Go.RowKit Go.Proofs.YtpjaaonpbohkdaaDoorW.PrintWords Go.Proofs.YtpjaaonpbohkdaaDoorW.PrintLast Go.Proofs.YtpjaaonpbohkdaaDoorW.PrintMore
set_option linter.unusedVariables false
set_option linter.unusedSimpArgs false
def plainT (k : Int) (s : ByteArray) : List Int := if k = 4 then encT (bytesOf s) else bytesOf s
set_option maxHeartbeats 8000000 in
set_option maxRecDepth 100000 in
theorem pby_is (k : Int) (hk : k = 4 ∨ k = 15) (t : Nat) (a : Int) (s : ByteArray) (hs : s.size ≤ 1000000) (A : Option Addr) (c : Nat) (w : World) : Calls Tryd.prog 26 #[TyV k t, .agg #[.bool false, .int .u64 a, .string s, .slice A 0 c]] w fun e w' => ∃ A' c', e = .returned (.slice A' (plainT k s).length c') ∧ (plainT k s).length ≤ c' ∧ Cu w' A' (plainT k s) ∧ Below w.heap.size w w' := by
  have QO := Aside0.mk (fun w => ob_is k hk t w)
  obtain ⟨n, hn⟩ : ∃ n : Int, n = if k = 4 then -1 else (t : Int) := ⟨_, rfl⟩
  have QL := Aside0.mk (show ∀ w, Calls Tryd.prog 52 #[TyV k t] w fun e w' => e = .returned (.int .i64 n) ∧ Below w.heap.size w w' by
    intro w
    rcases hk with rfl | rfl
    · rw [hn]; exact ol4_is t w
    · rw [hn]; exact ol15_is t w)
  obtain ⟨sz, hsz⟩ : ∃ sz, sz = s.size := ⟨_, rfl⟩
  have Qk := Aside0.mk (And.intro hk hn)
  have hT : TyV k t = .agg #[.int .i64 k, .int .i64 (t : Int), .bool false, .int .i64 0, .int .i64 0, .int .i64 0, .string ⟨#[]⟩, .bool false, .slice none 0 0, .slice none 0 0] := rfl
  rw [hT] at QO QL ⊢
  have hszs : s.size = sz := hsz.symm
  have Qs := Aside0.mk (show sz = s.size ∧ sz ≤ 1000000 from ⟨hsz, by omega⟩)
  clear hT hk hn hsz hs
  go_enter Tryd.func26, Tryd.ntmps26
  go_upto_region 1 with (fail)
  obtain ⟨W, hW⟩ : ∃ W, W = (w.alloc (.cells (TyC k t) 30)).alloc (.cells #[.bool false, .int .u64 a, .string s, .slice A 0 c] 33) := ⟨_, rfl⟩
  have g1 : W.heap[w.heap.size]? = some (.cells (TyC k t) 30 (0, 0)) := by rw [hW]; exact blk_alloc (blk_new w _) _
  have g2 : W.heap[w.heap.size + 1]? = some (.cells #[.bool false, .int .u64 a, .string s, .slice A 0 c] 33 (0, 0)) := by rw [hW]; have := blk_new (w.alloc (.cells (TyC k t) 30)) (.cells #[.bool false, .int .u64 a, .string s, .slice A 0 c] 33); rw [World.size_alloc] at this; exact this
  have QB0 := Aside0.mk (show Below w.heap.size w W by rw [hW]; exact b3 w _ _)
  rw [← hW]
  clear hW
  obtain ⟨t0, t1, t2, t3, t4, t5, t6, t7, t8, t9⟩ := TyC_cells g1
  have G1 := Aside0.mk g1
  have G2 := Aside0.mk g2
  clear g1 g2
  go_upto_region 2 with (go_at_call 51; refine (QO.out _).mono ?_; rintro e w1 ⟨rfl, hb⟩; have QB1 := Aside0.mk hb; clear hb)
  have g1 := (QB1.out.block _ (blk_lt G1.out)).trans G1.out
  have g2 := (QB1.out.block _ (blk_lt G2.out)).trans G2.out
  clear t0 t1 t2 t3 t4 t5 t6 t7 t8 t9
  obtain ⟨t0, t1, t2, t3, t4, t5, t6, t7, t8, t9⟩ := TyC_cells g1
  have G3 := Aside0.mk g2
  clear g1 g2
  rcases Qk.out.1 with h4 | h4
  · subst h4
    obtain rfl : n = -1 := by rw [Qk.out.2, if_pos rfl]
    go_upto_region 11 with (go_at_call 52; refine (QL.out _).mono ?_; rintro e w2 ⟨rfl, hb⟩; have QB2 := Aside0.mk hb; clear hb)
    have g2 := (QB2.out.block _ (blk_lt G3.out)).trans G3.out
    obtain ⟨v0, v1, v2, v3⟩ := VC_cells g2
    have G4 := Aside0.mk g2
    clear g2 t0 t1 t2 t3 t4 t5 t6 t7 t8 t9
    have QB := Aside0.mk (show Below w.heap.size w w2 from (QB0.out.trans (QB1.out.mono QB0.out.size)).trans (QB2.out.mono ((QB0.out.trans (QB1.out.mono QB0.out.size)).size)))
    clear QB0 QB1 QB2 QO QL
    have hs1 : (sz : Int) ≤ 1000000 := by have := Qs.out; omega
    have hs2 : IntKind.u32.wrap (sz : Int) = (sz : Int) := wraps_u32 _ (by omega) (by omega)
    have hlt : w.heap.size + 1 < w2.heap.size := blk_lt G4.out
    go_upto_region 12 with (fail)
    go_wp2_with ((with_reducible refine gate_builtin (b := .append) (xs := #[.tmp 54, .tmp 56]) rfl ?_); at_builtin; refine print_append_str (w0 := w) w.heap.size rfl (.tmp 54) (.tmp 56) 23 9 5 rfl Tryd.underlying23 Tryd.underlying9 QT.info5 _ [(sz : Int) % 256, (sz : Int) / 256 % 256, (sz : Int) / 65536, (sz : Int) / 16777216] s rfl rfl ?aO ?aB ?aS ?aL ?_; (case aO => exact own_lit w2 w.heap.size 5 .u8 [(sz : Int) % 256, (sz : Int) / 256 % 256, (sz : Int) / 65536, (sz : Int) / 16777216] QB.out.size (by simp)); (case aB => exact QB.out.alloc QB.out.size _); (case aS => exact (QB.out.alloc QB.out.size _).size); (case aL => have := Qs.out; simp; omega); intro v9 w9 ho9 hb9 hg9; have QO9 := Aside0.mk ho9; have QB9 := Aside0.mk hb9; clear ho9 hb9 hg9)
    go_ret
    have hp : plainT 4 s = [(sz : Int) % 256, (sz : Int) / 256 % 256, (sz : Int) / 65536, (sz : Int) / 16777216] ++ bytesOf s := by
      unfold plainT encT
      rw [if_pos rfl, bytesOf_length, hszs]
      have := Qs.out
      rw [show (sz : Int) / 65536 % 256 = (sz : Int) / 65536 by omega, show (sz : Int) / 16777216 % 256 = (sz : Int) / 16777216 by omega]
    rw [← hp] at QO9
    obtain ⟨A9, c9, e9, l9, r9⟩ := Kd.R_reads (d := Kd.int .u8) (ok := fun _ => True) (Kd.R_of_own QO9.out (fun _ _ => trivial))
    exact ⟨A9, c9, by rw [← e9]; rfl, l9, r9, QB9.out⟩
  · subst h4
    obtain rfl : n = (t : Int) := by rw [Qk.out.2, if_neg (by decide)]
    go_upto_region 10 with (go_at_call 52; refine (QL.out _).mono ?_; rintro e w2 ⟨rfl, hb⟩; have QB2 := Aside0.mk hb; clear hb)
    have g2 := (QB2.out.block _ (blk_lt G3.out)).trans G3.out
    obtain ⟨v0, v1, v2, v3⟩ := VC_cells g2
    clear g2 t0 t1 t2 t3 t4 t5 t6 t7 t8 t9
    have QB := Aside0.mk (show Below w.heap.size w w2 from (QB0.out.trans (QB1.out.mono QB0.out.size)).trans (QB2.out.mono ((QB0.out.trans (QB1.out.mono QB0.out.size)).size)))
    clear QB0 QB1 QB2 QO QL
    have hcv := print_bytes (P := Tryd.prog) 9 23 5 Tryd.underlying9 Tryd.underlying23 Tryd.underlying5 s w2
    go_wp2
    go_ret
    have hp : plainT 15 s = bytesOf s := by unfold plainT; rw [if_neg (by decide)]
    rw [hp]
    have hl : (bytesOf s).length = sz := by rw [bytesOf_length]; exact hszs
    refine ⟨some ⟨w2.heap.size, 0, none⟩, grownCap w2 sz 0 5, by rw [hl]; rfl, by rw [hl]; exact grownCap_ge _ _ _ _, ?_, bytes_below QB.out QB.out.size 5 s⟩
    have hr := bytes_reads w2 5 s (by have := Qs.out; omega)
    rw [← bytesOf_length] at hr
    exact Kd.C_of_reads (d := (0 : Int)) (readsInt_of.1 hr)
end Go.Proofs.YtpjaaonpbohkdaaDoor.QR
/- Values as they are written plainly, one behind the other: Plainly. -/
namespace Go.Proofs.YtpjaaonpbohkdaaDoor.QR
open Go.RowKit Go.Proofs.YtpjaaonpbohkdaaDoorW.PrintWords Go.Proofs.YtpjaaonpbohkdaaDoorW.PrintLast Go.Proofs.YtpjaaonpbohkdaaDoorW.PrintMore
set_option linter.unusedVariables false
set_option linter.unusedSimpArgs false
def plAll (k : Int) : List TV → List Int
  | [] => []
  | x :: r => plainT k x.2.2 ++ plAll k r
theorem plAll_append (k : Int) : ∀ a b : List TV, plAll k (a ++ b) = plAll k a ++ plAll k b
  | [], _ => rfl
  | x :: r, b => by rw [List.cons_append]; simp only [plAll]; rw [plAll_append k r b, List.append_assoc]
theorem plAll_take (k : Int) (xs : List TV) (i : Nat) (hi : i < xs.length) : plAll k (xs.take (i + 1)) = plAll k (xs.take i) ++ plainT k (xs.getD i zV).2.2 := by
  rw [List.take_succ_eq_append_getElem hi, plAll_append, List.getD_eq_getElem?_getD, List.getElem?_eq_getElem hi]
  simp [plAll]
theorem plAll_le (k : Int) (xs : List TV) (i : Nat) : (plAll k (xs.take i)).length ≤ (plAll k xs).length := by
  have := congrArg List.length (plAll_append k (xs.take i) (xs.drop i))
  rw [List.take_append_drop, List.length_append] at this
  omega
theorem plainT_len (k : Int) (s : ByteArray) : s.size ≤ (plainT k s).length := by
  unfold plainT
  split
  · rw [encT_len, bytesOf_length]; omega
  · rw [bytesOf_length]; exact Nat.le_refl _
set_option maxHeartbeats 8000000 in
set_option maxRecDepth 100000 in
theorem ply_is (k : Int) (hk : k = 4 ∨ k = 15) (t : Nat) (A : Option Addr) (c : Nat) (xs : List TV) (w : World) (hC : Kd.C kV w A xs.length xs) (hn : ∀ x ∈ xs, x.1 = false) (hl : (plAll k xs).length ≤ 1000000) (hx : xs.length ≤ 1000000) : Calls Tryd.prog 9 #[TyV k t, .slice A xs.length c] w fun e w' => ∃ A' c', e = .returned (.slice A' (plAll k xs).length c') ∧ (plAll k xs).length ≤ c' ∧ Cu w' A' (plAll k xs) ∧ Below w.heap.size w w' := by
  have QP := Aside0.mk (fun a s hs A c w => pby_is k hk t a s hs A c w)
  have hT : TyV k t = .agg #[.int .i64 k, .int .i64 (t : Int), .bool false, .int .i64 0, .int .i64 0, .int .i64 0, .string ⟨#[]⟩, .bool false, .slice none 0 0, .slice none 0 0] := rfl
  rw [hT] at QP ⊢
  have QC := Aside0.mk hC
  obtain ⟨n, hnn⟩ : ∃ n, n = xs.length := ⟨_, rfl⟩
  rw [← hnn]
  have hni : (n : Int) ≤ 1000000 := by omega
  have Qn := Aside0.mk hnn
  have Qx := Aside0.mk hn
  have Ql := Aside0.mk hl
  clear hC hn hk hT hnn hl hx
  go_enter Tryd.func9, Tryd.ntmps9
  go_upto_region 1 with (fail)
  obtain ⟨W, hW⟩ : ∃ W, W = w.alloc (.cells (TyC k t) 30) := ⟨_, rfl⟩
  have g1 : W.heap[w.heap.size]? = some (.cells (TyC k t) 30 (0, 0)) := by rw [hW]; exact blk_new w _
  have hb1 : Below w.heap.size w W := by rw [hW]; exact b2 w _
  rw [← hW]
  clear hW
  have G1 := Aside0.mk g1
  have B1 := Aside0.mk hb1
  have hsz : w.heap.size < W.heap.size := blk_lt g1
  have Qsz := Aside0.mk hsz
  clear g1 hb1 hsz
  go_wp2_with fail
  go_loopg [5, 10] n (fun kq v5 v10 w' => ∃ i : Nat, v10 = .int .i64 (i : Int) ∧ Aside0 (i + kq = n) ∧ Aside0 (Kd.R (Kd.int .u8) 5 w' W.heap.size (fun _ => True) v5 (plAll k (xs.take i))) ∧ Aside0 (Below W.heap.size W w'))
  case atStart => exact ⟨0, rfl, ⟨by omega⟩, ⟨Kd.R_nil _ _ _ _ _⟩, ⟨Below.refl _ _⟩⟩
  case round =>
    obtain ⟨i, rfl, HA, HR, HB⟩ := hrel
    have hB := B1.out.trans (HB.out.mono B1.out.size)
    rcases Nat.eq_zero_or_pos gk with h0 | h0
    · have hi : ((i : Int) < (n : Int)) = False := by have := HA.out; simp; omega
      have QB := Aside0.mk hB
      clear hB
      go_wp2
      go_ret
      have hr := HR.out
      rw [List.take_of_length_le (by rw [← Qn.out]; have := HA.out; omega)] at hr
      obtain ⟨A9, c9, e9, l9, r9⟩ := Kd.R_reads hr
      exact ⟨A9, c9, by rw [← e9]; rfl, l9, r9, QB.out⟩
    · have hi : (i : Int) < (n : Int) := by have := HA.out; omega
      have hi2 : i < n := by omega
      have QI := Aside0.mk hi2
      obtain ⟨ad, A3, c3, e1, p0, p1, p2, p3⟩ := kV_at (Kd.C_below QC.out hB) i (by rw [← Qn.out]; exact hi2)
      subst e1
      have hx0 : (xs.getD i zV).1 = false := by
        rw [List.getD_eq_getElem?_getD, List.getElem?_eq_getElem (by rw [← Qn.out]; exact hi2)]
        exact Qx.out _ (List.getElem_mem _)
      rw [hx0] at p0
      obtain ⟨y1, hy1⟩ : ∃ y, y = (xs.getD i zV).2.1 := ⟨_, rfl⟩
      obtain ⟨y2, hy2⟩ : ∃ y, y = (xs.getD i zV).2.2 := ⟨_, rfl⟩
      rw [← hy1] at p1
      rw [← hy2] at p2
      have hstep := plAll_take k xs i (by rw [← Qn.out]; exact hi2)
      rw [← hy2] at hstep
      have hlen := plAll_le k xs (i + 1)
      rw [hstep, List.length_append] at hlen
      have hs := plainT_len k y2
      have QF := Aside0.mk (fun w => QP.out y1 y2 (by have := Ql.out; omega) A3 c3 w)
      have Qst := Aside0.mk (And.intro hstep (And.intro hlen Ql.out))
      have g1 := (HB.out.block _ Qsz.out).trans G1.out
      obtain ⟨t0, t1, t2, t3, t4, t5, t6, t7, t8, t9⟩ := TyC_cells g1
      have hlt : w.heap.size < wr.heap.size := Nat.lt_of_lt_of_le Qsz.out HB.out.size
      have hne : ¬ w.heap.size = wr.heap.size := by omega
      obtain ⟨k1, rfl⟩ : ∃ k1, gk = k1 + 1 := ⟨gk - 1, by omega⟩
      have QB := Aside0.mk hB
      clear h0 hx0 hy1 hy2 hstep hlen hs hB g1
      obtain ⟨A5, c5, rfl⟩ := Kd.R_slice HR.out
      go_wp2_with (first | (go_at_call 26; refine (QF.out _).mono ?_; rintro e w2 ⟨A2, c2, rfl, hc2, hC2, hb⟩; have QB2 := Aside0.mk (HB.out.alloc HB.out.size _ |>.trans (hb.mono (HB.out.alloc HB.out.size _).size)); have QC2 := Aside0.mk hC2; have QR2 := Aside0.mk (Kd.R_below (Kd.R_alloc HR.out _) hb); clear hb hC2) | ((with_reducible refine gate_builtin (b := .append) (xs := #[.tmp 14, .tmp 17]) rfl ?_); at_builtin; refine Kd.R_append_rows (Kd.int .u8) (Rr := (Kd.int .u8).K w2) (w0 := W) W.heap.size rfl (.tmp 14) (.tmp 17) 23 5 (.int .u8 0) 1 rfl Tryd.underlying23 QT.info5 rfl (by decide) (by omega) _ (plAll k (xs.take i)) (plainT k y2) A2 _ c2 (fun _ => True) (fun _ => False) rfl rfl QR2.out QC2.out (fun _ _ h => h) (fun _ h => h.elim) (fun _ _ => trivial) QB2.out QB2.out.size (by have := Qst.out; omega) ?_; intro v9 w9 hr9 hb9 _ _; have QR9 := Aside0.mk hr9; have QB9 := Aside0.mk hb9; clear hr9 hb9))
      go_roundg k1
      case rel => exact ⟨i + 1, rfl, ⟨by have := HA.out; omega⟩, ⟨by rw [Qst.out.1]; exact QR9.out⟩, QB9⟩
      · omega
end Go.Proofs.YtpjaaonpbohkdaaDoor.QR
/- Values between nulls: BetweenNulls. -/
namespace Go.Proofs.YtpjaaonpbohkdaaDoor.QR
open Go.RowKit Go.Proofs.YtpjaaonpbohkdaaDoorW.PrintWords Go.Proofs.YtpjaaonpbohkdaaDoorW.PrintLast Go.Proofs.YtpjaaonpbohkdaaDoorW.PrintMore
set_option linter.unusedVariables false
set_option linter.unusedSimpArgs false
def nV : TV := (true, 0, ⟨#[]⟩)
/-- The first i of what values become between nulls. -/
def wantL (b : Nat → Bool) (f : Nat) (l : List TV) : Nat → List TV
  | 0 => []
  | i + 1 => wantL b f l i ++ [if b (f + i) then l.getD (rk b f i) zV else nV]
theorem wantL_len (b : Nat → Bool) (f : Nat) (l : List TV) : ∀ n, (wantL b f l n).length = n
  | 0 => rfl
  | n + 1 => by simp [wantL, wantL_len b f l n]
theorem info34 : (Tryd.prog.info? 33).map (fun i => (i.zero, i.size, i.bytes)) = some (some (.agg #[.bool false, .int .u64 0, .string ⟨#[]⟩, .slice none 0 0]), 4, 56) := by kernel_rfl
set_option maxHeartbeats 8000000 in
set_option maxRecDepth 100000 in
theorem btn_is (b : Nat → Bool) (f : Nat) (A0 : Option Addr) (c0 : Nat) (xs : List TV) (A1 : Option Addr) (c1 : Nat) (bits : List Bool) (w : World) (h0 : Kd.C kV w A0 xs.length xs) (h1 : Kd.C Kd.bool w A1 bits.length bits) (hb : ∀ i, i < bits.length → bits.getD i false = b (f + i)) (hm : bits.length ≤ 1000000) (hx : xs.length ≤ 1000000) :
    Calls Tryd.prog 13 #[.slice A0 xs.length c0, .slice A1 bits.length c1] w fun e w' => ∃ v0, e = .returned (.tuple #[v0, .bool (decide (rk b f bits.length ≤ xs.length))]) ∧ Below w.heap.size w w' ∧ (rk b f bits.length ≤ xs.length → ∃ A c, v0 = .slice A bits.length c ∧ bits.length ≤ c ∧ Kd.C kV w' A bits.length (wantL b f xs bits.length)) := by
  have Q0 := Aside0.mk h0
  have Q1 := Aside0.mk h1
  have Qb := Aside0.mk hb
  obtain ⟨n, hn⟩ : ∃ n, n = xs.length := ⟨_, rfl⟩
  obtain ⟨m, hmm⟩ : ∃ m, m = bits.length := ⟨_, rfl⟩
  rw [← hn, ← hmm]
  have hni : (n : Int) ≤ 1000000 := by omega
  have hmi : (m : Int) ≤ 1000000 := by omega
  have Qn := Aside0.mk (And.intro hn hmm)
  clear h0 h1 hb hm hx hn hmm
  go_enter Tryd.func13, Tryd.ntmps13
  go_wp2_with fail
  go_loopg [6, 7, 12] m (fun kq v6 v7 v12 w' => ∃ i : Nat, v7 = .int .i64 ((rk b f i : Nat) : Int) ∧ v12 = .int .i64 (i : Int) ∧ Aside0 (i + kq = m ∧ rk b f i ≤ n) ∧ Aside0 (Kd.R kV 33 w' w.heap.size (fun _ => True) v6 (wantL b f xs i)) ∧ Aside0 (Below w.heap.size w w'))
  case atStart => exact ⟨0, rfl, rfl, ⟨by omega, Nat.zero_le _⟩, ⟨Kd.R_nil _ _ _ _ _⟩, ⟨Below.refl _ _⟩⟩
  case round =>
    obtain ⟨i, rfl, rfl, HA, HR, HB⟩ := hrel
    obtain ⟨r, hr⟩ : ∃ r, r = rk b f i := ⟨_, rfl⟩
    rw [← hr]
    have Qr := Aside0.mk hr
    obtain ⟨A6, c6, rfl⟩ := Kd.R_slice HR.out
    rcases Nat.eq_zero_or_pos gk with hk0 | hk0
    · have hi : ((i : Int) < (m : Int)) = False := by have := HA.out; simp; omega
      clear hr
      go_wp2
      refine bodyPost_ret (v := .tuple #[.slice A6 (wantL b f xs i).length c6, .bool true]) (by simp [results, Tryd.results13, go_sem]) rfl ?_
      obtain rfl : i = m := by have := HA.out; omega
      have hle : rk b f i ≤ n := HA.out.2
      refine ⟨_, by rw [decide_eq_true hle], HB.out, fun _ => ?_⟩
      obtain ⟨A9, c9, e9, l9, r9⟩ := Kd.R_reads HR.out
      rw [wantL_len] at e9 l9 r9
      cases e9
      exact ⟨A6, c6, by rw [wantL_len], l9, r9⟩
    · have hi : (i : Int) < (m : Int) := by have := HA.out; omega
      have hi2 : i < m := by omega
      have QI := Aside0.mk hi2
      have hi3 : i < bits.length := by rw [← Qn.out.2]; exact hi2
      obtain ⟨ad, e1, p1⟩ := Kd.at_bool (Kd.C_below Q1.out HB.out) (i : Int) (by omega) (by omega)
      rw [Int.toNat_natCast] at p1
      subst e1
      have hbit : rdOf false bits (i : Int) = b (f + i) := by
        rw [← Qb.out i hi3]
        unfold rdOf
        rw [Int.toNat_natCast]
      rw [hbit] at p1
      obtain ⟨k1, rfl⟩ : ∃ k1, gk = k1 + 1 := ⟨gk - 1, by omega⟩
      have hri : (r : Int) ≤ 1000000 := by have := HA.out; omega
      obtain ⟨bt, hbt⟩ : ∃ bt, bt = b (f + i) := ⟨_, rfl⟩
      rw [← hbt] at p1
      have Qbt := Aside0.mk hbt
      clear hr hk0 hi3 hbit hbt
      cases bt
      · go_wp2_with ((with_reducible refine gate_builtin (b := .append) (xs := #[.tmp 18, .tmp 20]) rfl ?_); at_builtin; refine Kd.R_append kV (w0 := w) w.heap.size rfl (.tmp 18) (.tmp 20) 22 33 (.agg #[.bool false, .int .u64 0, .string ⟨#[]⟩, .slice none 0 0]) 56 rfl Tryd.underlying22 info34 rfl (by decide) (by omega) _ (wantL b f xs i) nV [.bool true, .int .u64 0, .string ⟨#[]⟩, .slice none 0 0] (fun _ => True) (fun _ => False) rfl rfl (kV_mkM _ _ _ nV none 0) (fun _ h => h.elim) (fun _ _ => trivial) HR.out HB.out HB.out.size (by rw [wantL_len]; omega) ?_; intro v9 w9 hr9 hb9 _ _; have QR9 := Aside0.mk hr9; have QB9 := Aside0.mk hb9; clear hr9 hb9)
        go_roundg k1
        case rel =>
          refine ⟨i + 1, ?_, rfl, ⟨by have := HA.out; omega, ?_⟩, ⟨?_⟩, QB9⟩
          · rw [Qr.out]; simp only [rk, ← Qbt.out]; rfl
          · simp only [rk, ← Qbt.out]; exact HA.out.2
          · simp only [wantL, ← Qbt.out]; exact QR9.out
        · omega
      · by_cases hrn : r < n
        · have hrn2 : decide ((n : Int) ≤ (r : Int)) = false := decide_eq_false (by omega)
          have hrn3 : (r : Int) < (n : Int) := by omega
          obtain ⟨ad2, A3, c3, e2, q0, q1, q2, q3⟩ := kV_at (Kd.C_below Q0.out HB.out) r (by rw [← Qn.out.1]; exact hrn)
          subst e2
          obtain ⟨x, hx⟩ : ∃ x, x = xs.getD r zV := ⟨_, rfl⟩
          rw [← hx] at q0 q1 q2
          have Qx := Aside0.mk hx
          obtain ⟨x0, x1, x2⟩ := x
          simp only at q0 q1 q2
          clear hx
          go_wp2_with ((with_reducible refine gate_builtin (b := .append) (xs := #[.tmp 26, .tmp 31]) rfl ?_); at_builtin; refine Kd.R_append kV (w0 := w) w.heap.size rfl (.tmp 26) (.tmp 31) 22 33 (.agg #[.bool false, .int .u64 0, .string ⟨#[]⟩, .slice none 0 0]) 56 rfl Tryd.underlying22 info34 rfl (by decide) (by omega) _ (wantL b f xs i) (x0, x1, x2) [.bool x0, .int .u64 x1, .string x2, .slice A3 0 c3] (fun _ => True) (fun _ => False) rfl rfl (kV_mkM _ _ _ (x0, x1, x2) A3 c3) (fun _ h => h.elim) (fun _ _ => trivial) HR.out HB.out HB.out.size (by rw [wantL_len]; omega) ?_; intro v9 w9 hr9 hb9 _ _; have QR9 := Aside0.mk hr9; have QB9 := Aside0.mk hb9; clear hr9 hb9)
          go_roundg k1
          case rel =>
            refine ⟨i + 1, ?_, rfl, ⟨by have := HA.out; omega, ?_⟩, ⟨?_⟩, QB9⟩
            · rw [Qr.out]; simp only [rk, ← Qbt.out]; rfl
            · simp only [rk, ← Qbt.out]; have := Qr.out; simp; omega
            · simp only [wantL, ← Qbt.out, ← Qr.out, ← Qx.out]; exact QR9.out
          · omega
        · have hrn2 : decide ((n : Int) ≤ (r : Int)) = true := decide_eq_true (by omega)
          have hrn3 : (n : Int) ≤ (r : Int) := by omega
          go_wp2
          refine bodyPost_ret (v := .tuple #[.slice none 0 0, .bool false]) (by simp [results, Tryd.results13, go_sem]) rfl ?_
          have hgt : ¬ rk b f m ≤ n := by
            have := rk_lt b f i Qbt.out.symm m QI.out
            have := Qr.out
            omega
          exact ⟨_, by rw [decide_eq_false hgt], HB.out, fun h => absurd h hgt⟩
end Go.Proofs.YtpjaaonpbohkdaaDoor.QR
/- Bits of a bitmap: Bit, BitList, bitsOf. -/
namespace Go.Proofs.YtpjaaonpbohkdaaDoor.QR
open Go.RowKit Go.Proofs.YtpjaaonpbohkdaaDoorW.PrintWords Go.Proofs.YtpjaaonpbohkdaaDoorW.PrintLast Go.Proofs.YtpjaaonpbohkdaaDoorW.PrintMore
set_option linter.unusedVariables false
set_option linter.unusedSimpArgs false
set_option maxRecDepth 100000 in
theorem and_one : ∀ x : Fin 256, Go.bits .and .u8 ((x.val : Nat) : Int) 1 = ((x.val % 2 : Nat) : Int) := by decide
theorem and_one' (x : Int) (h0 : 0 ≤ x) (h1 : x < 256) : (Go.bits .and .u8 x 1 == 1) = decide (x % 2 = 1) := by
  obtain ⟨n, rfl⟩ := Int.eq_ofNat_of_zero_le h0
  have h := and_one ⟨n, by omega⟩
  simp only at h
  rw [h]
  rw [Bool.eq_iff_iff]
  simp only [beq_iff_eq, decide_eq_true_eq]
  omega
set_option maxHeartbeats 8000000 in
set_option maxRecDepth 100000 in
theorem bit_is (A : Option Addr) (l : List Int) (cap k : Nat) (w : World) (hC : Cu w A l) (hk : k < 8 * l.length) (hll : l.length ≤ 1000000) (hbo : bytesOk l = true) :
    Calls Tryd.prog 53 #[.slice A l.length cap, .int .i64 (k : Int)] w fun e w' => e = .returned (.bool (bt1 l k)) ∧ w = w' := by
  obtain ⟨q, hq⟩ : ∃ q, q = k / 8 := ⟨_, rfl⟩
  obtain ⟨m, hm⟩ : ∃ m, m = k % 8 := ⟨_, rfl⟩
  have hd : Int.tdiv (k : Int) 8 = (q : Int) := by rw [hq]; rfl
  have hmo : Int.tmod (k : Int) 8 = (m : Int) := by rw [hm]; rfl
  obtain ⟨ad, e, c1⟩ := Kd.at_int hC (q : Int) (by omega) (by omega)
  subst e
  rw [Int.toNat_natCast] at c1
  obtain ⟨B, hB⟩ : ∃ B, B = rd l (q : Int) := ⟨_, rfl⟩
  rw [← hB] at c1
  have b1 : (q : Int) < (l.length : Int) := by omega
  have b2 : (m : Int) < 8 := by omega
  have b3 : q < l.length := by omega
  have b4 : m < 8 := by omega
  have hqi : (q : Int) ≤ 1000000 := by omega
  have hres : bt1 l k = decide (B / 2 ^ m % 2 = 1) := by
    unfold bt1
    rw [← hq, ← hm, ← hB]
  have hby := bytes_ok hbo (q : Int)
  rw [← hB] at hby
  have Qr := Aside0.mk (And.intro hres hby)
  have QD := Aside0.mk (And.intro hd hmo)
  clear hC hk hll hbo hq hm hB hres hby hd hmo
  go_enter Tryd.func53, Tryd.ntmps53
  go_upto_region 1 with (fail)
  have hd := QD.out.1
  have hmo := QD.out.2
  go_wp2
  go_ret
  have hp : (0 : Int) < 2 ^ m := Int.pow_pos (by decide)
  have h0 : 0 ≤ B / 2 ^ m := Int.ediv_nonneg Qr.out.2.1 (Int.le_of_lt hp)
  have h1 : B / 2 ^ m < 256 := Int.lt_of_le_of_lt (Int.ediv_le_self _ Qr.out.2.1) Qr.out.2.2
  exact ⟨by rw [Qr.out.1, ← and_one' _ h0 h1]; rfl, rfl⟩
def bitsL (b : Nat → Bool) (f : Nat) : Nat → List Bool
  | 0 => []
  | i + 1 => bitsL b f i ++ [b (f + i)]
theorem bitsL_len (b : Nat → Bool) (f : Nat) : ∀ n, (bitsL b f n).length = n
  | 0 => rfl
  | n + 1 => by simp [bitsL, bitsL_len b f n]
theorem bitsL_set (b : Nat → Bool) (f n i : Nat) (hi : i < n) : (bitsL b f i ++ List.replicate (n - i) false).set i (b (f + i)) = bitsL b f (i + 1) ++ List.replicate (n - (i + 1)) false := by
  rw [List.set_append_right _ _ (by rw [bitsL_len]; exact Nat.le_refl _), bitsL_len, Nat.sub_self]
  obtain ⟨m, hm⟩ : ∃ m, n - i = m + 1 := ⟨n - i - 1, by omega⟩
  rw [hm, show n - (i + 1) = m by omega, List.replicate_succ, List.set_cons_zero]
  simp [bitsL]
theorem bitsL_get (b : Nat → Bool) (f : Nat) : ∀ n i, i < n → (bitsL b f n).getD i false = b (f + i)
  | n + 1, i, hi => by
    rcases Nat.lt_or_ge i n with h | h
    · have := bitsL_get b f n i h
      rw [← this]
      simp only [bitsL, List.getD_eq_getElem?_getD]
      rw [List.getElem?_append_left (by rw [bitsL_len]; exact h)]
    · obtain rfl : i = n := by omega
      simp only [bitsL, List.getD_eq_getElem?_getD]
      rw [List.getElem?_append_right (by rw [bitsL_len]; exact Nat.le_refl _), bitsL_len]
      simp
set_option maxHeartbeats 8000000 in
set_option maxRecDepth 100000 in
theorem btl_is (A : Option Addr) (l : List Int) (cap f n : Nat) (w : World) (hC : Cu w A l) (hll : l.length ≤ 200) (hbo : bytesOk l = true) (hf : f ≤ 100) (hn : n ≤ 500) :
    Calls Tryd.prog 27 #[.slice A l.length cap, .int .i64 (f : Int), .int .i64 (n : Int)] w fun e w' => ∃ v0, e = .returned (.tuple #[v0, .bool (decide (f + n ≤ 8 * l.length))]) ∧ Below w.heap.size w w' ∧ (f + n ≤ 8 * l.length → ∃ A' c', v0 = .slice A' n c' ∧ n ≤ c' ∧ Kd.C Kd.bool w' A' n (bitsL (bt1 l) f n)) := by
  have QB := Aside0.mk (fun k w hC hk => bit_is A l cap k w hC hk (by omega) hbo)
  have QC := Aside0.mk hC
  have hfi : (f : Int) ≤ 100 := by omega
  have hni : (n : Int) ≤ 500 := by omega
  obtain ⟨L, hL⟩ : ∃ L, L = l.length := ⟨_, rfl⟩
  rw [← hL] at QB hll ⊢
  have hLi : (L : Int) ≤ 200 := by omega
  have QL := Aside0.mk hL
  have u1 : ¬ ((f : Int) < 0) := by omega
  have u2 : ¬ ((n : Int) < 0) := by omega
  have u3 : decide ((f : Int) < 0) = false := decide_eq_false u1
  have u4 : decide ((n : Int) < 0) = false := decide_eq_false u2
  clear hC hll hbo hf hn hL
  by_cases hfn : f + n ≤ 8 * L
  · have u5 : ¬ (8 * (L : Int) - (n : Int) < (f : Int)) := by omega
    have u6 : decide (8 * (L : Int) - (n : Int) < (f : Int)) = false := decide_eq_false u5
    have Qfn := Aside0.mk hfn
    clear hfn
    go_enter Tryd.func27, Tryd.ntmps27
    go_upto_region 4 with ((with_reducible refine gate_dst (N := 26) rfl ?_); refine Kd.R_make Kd.bool (w0 := w) w.heap.size 4 rfl (N := 26) rfl 35 _ _ rfl (n : Int) rfl rfl Tryd.underlying35 (.bool false) 1 QT.info4 rfl (by decide) (by omega) false (ok := fun _ => True) (okp := fun _ => True) rfl (fun _ hk => hk) trivial (by omega) (by omega) (Below.refl _ _) (Nat.le_refl _) ?_; intro v1 w1 hr1 hb1 _ _; rw [Int.toNat_natCast] at hr1; have R1 := Aside0.mk hr1; have B1 := Aside0.mk hb1; clear hr1 hb1; obtain ⟨A1, c1, e1⟩ := Kd.R_slice R1.out; subst e1)
    clear u1 u2 u3 u4 u5 u6
    go_wp2_with fail
    go_loopg [29] n (fun kq v29 w' => ∃ i : Nat, v29 = .int .i64 (i : Int) ∧ Aside0 (i + kq = n) ∧ Aside0 (Kd.R Kd.bool 4 w' w.heap.size (fun _ => True) (.slice A1 n c1) (bitsL (bt1 l) f i ++ List.replicate (n - i) false)) ∧ Aside0 (Below w.heap.size w w'))
    case atStart => exact ⟨0, rfl, ⟨by omega⟩, ⟨by have h := R1.out; rw [List.length_replicate] at h; exact h⟩, B1⟩
    case round =>
      obtain ⟨i, rfl, HA, HR, HB⟩ := hrel
      rcases Nat.eq_zero_or_pos gk with hk0 | hk0
      · have hi : ((i : Int) < (n : Int)) = False := by have := HA.out; simp; omega
        go_wp2
        refine bodyPost_ret (v := .tuple #[.slice A1 n c1, .bool true]) (by simp [results, Tryd.results27, go_sem]) rfl ?_
        obtain rfl : i = n := by have := HA.out; omega
        have hr := HR.out
        rw [Nat.sub_self, List.replicate_zero, List.append_nil] at hr
        obtain ⟨A9, c9, e9, l9, r9⟩ := Kd.R_reads hr
        rw [bitsL_len] at e9 l9 r9
        cases e9
        exact ⟨_, by rw [decide_eq_true Qfn.out], HB.out, fun _ => ⟨A1, c1, rfl, l9, r9⟩⟩
      · have hi : (i : Int) < (n : Int) := by have := HA.out; omega
        have hi2 : i < n := by omega
        have QI := Aside0.mk hi2
        have hll : (bitsL (bt1 l) f i ++ List.replicate (n - i) false).length = n := by rw [List.length_append, bitsL_len, List.length_replicate]; omega
        obtain ⟨xs, hxs⟩ : ∃ xs, xs = bitsL (bt1 l) f i ++ List.replicate (n - i) false := ⟨_, rfl⟩
        rw [← hxs] at HR hll
        obtain ⟨g, cg, eg, _⟩ := Kd.R_form HR.out (by omega)
        rw [hll] at eg
        cases eg
        have hR := HR.out
        rw [← hll] at hR
        obtain ⟨y1, y2⟩ := Kd.R_celln false hR (i : Int) (by omega) (by omega)
        rw [Int.toNat_natCast] at y1 y2
        have hput := (Kd.R_putg hR (i : Int) (bt1 l (f + i)))
        rw [Int.toNat_natCast, hll] at hput
        have HP := Aside0.mk hput
        have QG := Aside0.mk (show w.heap.size ≤ g from Kd.R_base HR.out g (by simp [Value.ownBlock]))
        have Qxs := Aside0.mk (And.intro hxs hll)
        have QBi := Aside0.mk (QB.out (f + i) wr (Kd.C_below QC.out HB.out) (by have := Qfn.out; omega))
        obtain ⟨k1, rfl⟩ : ∃ k1, gk = k1 + 1 := ⟨gk - 1, by omega⟩
        generalize rdOf false xs (i : Int) = old at y1
        rw [Int.natCast_add] at QBi
        have hii : (i : Int) ≤ 500 := by omega
        obtain ⟨bi, hbi⟩ : ∃ bi, bi = bt1 l (f + i) := ⟨_, rfl⟩
        rw [← hbi] at HP QBi
        have Qbi := Aside0.mk hbi
        clear hk0 hll hR hxs hput hbi
        go_wp2_with (go_at_call 53; refine QBi.out.mono ?_; rintro e w2 ⟨rfl, rfl⟩)
        go_roundg k1
        case rel =>
          refine ⟨i + 1, rfl, ⟨by have := HA.out; omega⟩, ⟨?_⟩, ⟨HB.out.setCell QG.out _⟩⟩
          have h := HP.out.1
          rw [Qxs.out.1, Qbi.out, bitsL_set _ _ _ _ QI.out] at h
          rw [Qbi.out]
          exact h
        · omega
  · have u5 : 8 * (L : Int) - (n : Int) < (f : Int) := by omega
    have u6 : decide (8 * (L : Int) - (n : Int) < (f : Int)) = true := decide_eq_true u5
    have Qfn := Aside0.mk hfn
    clear hfn
    go_enter Tryd.func27, Tryd.ntmps27
    go_wp2
    refine bodyPost_ret (v := .tuple #[.slice none 0 0, .bool false]) (by simp [results, Tryd.results27, go_sem]) rfl ?_
    exact ⟨_, by rw [decide_eq_false Qfn.out], Below.refl _ _, fun h => absurd h Qfn.out⟩
/-- The bits that a law asks for. -/
def okB (l : List Int) (a n : Int) : Bool := decide (0 ≤ a ∧ a ≤ 100 ∧ 0 ≤ n ∧ n ≤ 500 ∧ l.length ≤ 200 ∧ a.toNat + n.toNat ≤ 8 * l.length)
set_option maxHeartbeats 8000000 in
set_option maxRecDepth 100000 in
theorem bof_is (A : Option Addr) (l : List Int) (cap : Nat) (a n : Int) (w : World) (hC : Cu w A l) (hbo : bytesOk l = true) :
    Calls Tryd.prog 11 #[.slice A l.length cap, .int .i64 a, .int .i64 n] w fun e w' => ∃ v0, e = .returned (.tuple #[v0, .bool (okB l a n)]) ∧ Below w.heap.size w w' ∧ (okB l a n = true → ∃ A' c', v0 = .slice A' n.toNat c' ∧ n.toNat ≤ c' ∧ Kd.C Kd.bool w' A' n.toNat (bitsL (bt1 l) a.toNat n.toNat)) := by
  obtain ⟨L, hL⟩ : ∃ L, L = l.length := ⟨_, rfl⟩
  have QL := Aside0.mk hL
  by_cases h1 : 0 ≤ a ∧ a ≤ 100 ∧ 0 ≤ n ∧ n ≤ 500 ∧ L ≤ 200
  · obtain ⟨f, rfl⟩ := Int.eq_ofNat_of_zero_le h1.1
    obtain ⟨m, rfl⟩ := Int.eq_ofNat_of_zero_le h1.2.2.1
    have hok : okB l (f : Int) (m : Int) = decide (f + m ≤ 8 * l.length) := by
      unfold okB
      rw [Int.toNat_natCast, Int.toNat_natCast]
      congr 1
      apply propext
      constructor
      · intro h; exact h.2.2.2.2.2
      · intro h; exact ⟨h1.1, h1.2.1, h1.2.2.1, h1.2.2.2.1, by omega, h⟩
    rw [hok, Int.toNat_natCast, Int.toNat_natCast]
    have QB := Aside0.mk (btl_is A l cap f m w hC (by omega) hbo (by omega) (by omega))
    obtain ⟨bo, hbo2⟩ : ∃ bo, bo = decide (f + m ≤ 8 * l.length) := ⟨_, rfl⟩
    rw [← hbo2] at QB ⊢
    have Qbo := Aside0.mk hbo2
    rw [← hL] at QB ⊢
    have u1 : ¬ ((f : Int) < 0) := by omega
    have u2 : ¬ ((100 : Int) < (f : Int)) := by omega
    have u3 : ¬ ((m : Int) < 0) := by omega
    have u4 : ¬ ((500 : Int) < (m : Int)) := by omega
    have u5 : ¬ ((200 : Int) < (L : Int)) := by omega
    have u1' : decide ((f : Int) < 0) = false := decide_eq_false u1
    have u2' : decide ((100 : Int) < (f : Int)) = false := decide_eq_false u2
    have u3' : decide ((m : Int) < 0) = false := decide_eq_false u3
    have u4' : decide ((500 : Int) < (m : Int)) = false := decide_eq_false u4
    have u5' : decide ((200 : Int) < (L : Int)) = false := decide_eq_false u5
    have u6 : f ≤ 100 := by omega
    have u7 : m ≤ 500 := by omega
    have u8 : L ≤ 200 := by omega
    have Qz := Aside0.mk (show ∀ (P : Prop) [Decidable P], (bo = true → P) ↔ (bo = true → P) from fun _ _ => Iff.rfl)
    clear h1 hok hC hbo hbo2 hL Qz
    go_enter Tryd.func11, Tryd.ntmps11
    go_wp2_with (go_at_call 27; refine QB.out.mono ?_; rintro e w1 ⟨v0, rfl, hb, hh⟩; have QH := Aside0.mk (And.intro hb hh); clear hb hh)
    refine bodyPost_ret (v := .tuple #[v0, .bool bo]) (by simp [results, Tryd.results11, go_sem]) rfl ?_
    refine ⟨v0, rfl, QH.out.1, fun h => QH.out.2 ?_⟩
    rw [Qbo.out] at h
    rw [QL.out]
    exact of_decide_eq_true h
  · have hok : okB l a n = false := by
      unfold okB
      apply decide_eq_false
      intro h
      exact h1 ⟨h.1, h.2.1, h.2.2.1, h.2.2.2.1, by omega⟩
    rw [hok]
    rw [← hL]
    clear hok hC hbo QL hL
    have fin : ∀ (w' : World), w' = w → (∃ v0, (Ending.returned (.tuple #[.slice none 0 0, .bool false]) : Ending) = .returned (.tuple #[v0, .bool false]) ∧ Below w.heap.size w w' ∧ (false = true → ∃ A' c', v0 = .slice A' n.toNat c' ∧ n.toNat ≤ c' ∧ Kd.C Kd.bool w' A' n.toNat (bitsL (bt1 l) a.toNat n.toNat))) := by
      rintro w' rfl
      exact ⟨_, rfl, Below.refl _ _, fun h => by cases h⟩
    have Qfin := Aside0.mk fin
    clear fin
    have hcase : a < 0 ∨ (¬ a < 0 ∧ 100 < a) ∨ (¬ a < 0 ∧ ¬ 100 < a ∧ n < 0) ∨ (¬ a < 0 ∧ ¬ 100 < a ∧ ¬ n < 0 ∧ 500 < n) ∨ (¬ a < 0 ∧ ¬ 100 < a ∧ ¬ n < 0 ∧ ¬ 500 < n ∧ (200 : Int) < (L : Int)) := by omega
    clear h1
    rcases hcase with h | ⟨h, h2⟩ | ⟨h, h2, h3⟩ | ⟨h, h2, h3, h4⟩ | ⟨h, h2, h3, h4, h5⟩
    · have u1 := decide_eq_true h
      go_enter Tryd.func11, Tryd.ntmps11
      go_wp2
      refine bodyPost_ret (v := .tuple #[.slice none 0 0, .bool false]) (by simp [results, Tryd.results11, go_sem]) rfl ?_
      first | exact Qfin.out _ rfl | exact ⟨⟨_, rfl⟩, Below.refl _ _⟩
    · have u1 := decide_eq_false h
      have u2 := decide_eq_true h2
      go_enter Tryd.func11, Tryd.ntmps11
      go_wp2
      refine bodyPost_ret (v := .tuple #[.slice none 0 0, .bool false]) (by simp [results, Tryd.results11, go_sem]) rfl ?_
      first | exact Qfin.out _ rfl | exact ⟨⟨_, rfl⟩, Below.refl _ _⟩
    · have u1 := decide_eq_false h
      have u2 := decide_eq_false h2
      have u3 := decide_eq_true h3
      go_enter Tryd.func11, Tryd.ntmps11
      go_wp2
      refine bodyPost_ret (v := .tuple #[.slice none 0 0, .bool false]) (by simp [results, Tryd.results11, go_sem]) rfl ?_
      first | exact Qfin.out _ rfl | exact ⟨⟨_, rfl⟩, Below.refl _ _⟩
    · have u1 := decide_eq_false h
      have u2 := decide_eq_false h2
      have u3 := decide_eq_false h3
      have u4 := decide_eq_true h4
      go_enter Tryd.func11, Tryd.ntmps11
      go_wp2
      refine bodyPost_ret (v := .tuple #[.slice none 0 0, .bool false]) (by simp [results, Tryd.results11, go_sem]) rfl ?_
      first | exact Qfin.out _ rfl | exact ⟨⟨_, rfl⟩, Below.refl _ _⟩
    · have u1 := decide_eq_false h
      have u2 := decide_eq_false h2
      have u3 := decide_eq_false h3
      have u4 := decide_eq_false h4
      have u5 := decide_eq_true h5
      have u6 : 200 < L := by omega
      go_enter Tryd.func11, Tryd.ntmps11
      go_wp2
      refine bodyPost_ret (v := .tuple #[.slice none 0 0, .bool false]) (by simp [results, Tryd.results11, go_sem]) rfl ?_
      first | exact Qfin.out _ rfl | exact ⟨⟨_, rfl⟩, Below.refl _ _⟩
end Go.Proofs.YtpjaaonpbohkdaaDoor.QR
/- An empty decoder. -/
namespace Go.Proofs.YtpjaaonpbohkdaaDoor.QR
open Go.RowKit Go.Proofs.YtpjaaonpbohkdaaDoorW.PrintWords Go.Proofs.YtpjaaonpbohkdaaDoorW.PrintLast Go.Proofs.YtpjaaonpbohkdaaDoorW.PrintMore
set_option linter.unusedVariables false
set_option linter.unusedSimpArgs false
set_option maxHeartbeats 8000000 in
set_option maxRecDepth 100000 in
theorem ndb_is (w : World) : Calls Tryd.prog 45 #[] w fun e w' => e = .returned (.agg #[.int .i64 0, .slice none 0 0, .int .i64 0]) ∧ Below w.heap.size w w' := by
  go_enter Tryd.func45, Tryd.ntmps45
  go_wp2
  refine bodyPost_ret (v := .agg #[.int .i64 0, .slice none 0 0, .int .i64 0]) (results_cell_row rfl _ _ w.heap.size 52 #[.int .i64 0, .slice none 0 0, .int .i64 0] (0, 0) _ rfl (blk_new w _) Tryd.underlying52 rfl (by kernel_rfl)) rfl ?_
  exact ⟨rfl, b2 w _⟩
theorem cpd_is (A : Option Addr) (l : List Int) (c : Nat) (w : World) (hC : Cu w A l) (hc : l.length ≤ c) (hl : l.length ≤ 1000000) : Calls Tryd.prog 22 #[.slice A l.length c] w fun e w' => ∃ A' c', e = .returned (.slice A' l.length c') ∧ l.length ≤ c' ∧ Cu w' A' l ∧ Below w.heap.size w w' := by
  have hf : QT.impl_copied.f l = some l := by
    unfold QT.impl_copied.f
    simp only [Option.bind_some, List.nil_append, List.length_nil]
    rw [if_pos (by omega)]
  refine (QT.impl_copied.calls A c l l w hC hc hf).mono ?_
  rintro e w' ⟨v, rfl, hR, hB⟩
  obtain ⟨A', c', rfl, hl', hr⟩ := Kd.R_reads hR
  exact ⟨A', c', rfl, hl', hr, hB⟩
end Go.Proofs.YtpjaaonpbohkdaaDoor.QR
/- A deferred recover that has nothing to do; rows of values that stay. -/
namespace Go.Proofs.YtpjaaonpbohkdaaDoor.QR
open Go.RowKit Go.Proofs.YtpjaaonpbohkdaaDoorW.PrintWords Go.Proofs.YtpjaaonpbohkdaaDoorW.PrintLast Go.Proofs.YtpjaaonpbohkdaaDoorW.PrintMore
set_option linter.unusedVariables false
set_option linter.unusedSimpArgs false
theorem idle (p q : Addr) (w : World) :
    CallsD Tryd.prog 19 #[.pointer (some p), .pointer (some q)] .returning w fun e u' w' => e = .returned (.tuple #[]) ∧ u' = .returning ∧ w' = w := by
  refine callsD_of_wpS Tryd.func19 rfl fun c₀ cs hu => ?_
  apply wpS_seq
  apply wpS_region
  simp [wpOpsS, go_sem, recoverD, hu, Tryd.ntmps19, Exit.thenS]
  refine wpS_cond (t := false) (by simp [Act.eval, Array.replicate]) ?_
  simp only [Bool.false_eq_true, if_false]
  refine wpS_of_wp (wp_skip ?_)
  cases c₀
  simp_all [bodyPostS, results, Tryd.results19]
theorem kVC_keep {w w' : World} {A : Option Addr} {n : Nat} {xs : List TV} (h : Kd.C kV w A n xs) (hk : ∀ ad, A = some ad → w'.heap[ad.block]? = w.heap[ad.block]?) : Kd.C kV w' A n xs := by
  refine ⟨h.1, h.2.1, fun hn => ?_⟩
  obtain ⟨ad, e, hc⟩ := h.2.2 hn
  refine ⟨ad, e, fun j p hj => ?_⟩
  obtain ⟨c, h1, h2, h3⟩ := hc j p hj
  refine ⟨c, h1, h2, fun i u hu => ?_⟩
  have := h3 i u hu
  unfold World.cell? at this ⊢
  rw [add_block, hk ad e, ← add_block ad (j * kV.sz + i)]
  exact this
theorem Bm.fr {w w' : World} {g : Nat} (h : Bm w) (hF : Fr w w' g g) (hg : 0 < g) : Bm w' := by
  refine ⟨Nat.lt_of_lt_of_le h.1 hF.size, fun k hk => ?_⟩
  have h2 := h.2 k hk
  unfold World.cell? at h2 ⊢
  rw [show (⟨0, k, none⟩ : Addr).block = 0 from rfl] at h2 ⊢
  rw [hF.far 0 h.1 (by omega) (by omega)]
  exact h2
end Go.Proofs.YtpjaaonpbohkdaaDoor.QR
/- The types of numbers; their bits. -/
namespace Go.Proofs.YtpjaaonpbohkdaaDoor.QR
open Go.RowKit Go.Proofs.YtpjaaonpbohkdaaDoorW.PrintWords Go.Proofs.YtpjaaonpbohkdaaDoorW.PrintLast Go.Proofs.YtpjaaonpbohkdaaDoorW.PrintMore
set_option linter.unusedVariables false
set_option linter.unusedSimpArgs false
/-- A type: its kind and width, and whether its numbers have a sign (2: numbers; 3: floats). -/
def TyN (k : Int) (t : Nat) (sg : Bool) : Value := .agg #[.int .i64 k, .int .i64 (t : Int), .bool sg, .int .i64 0, .int .i64 0, .int .i64 0, .string ⟨#[]⟩, .bool false, .slice none 0 0, .slice none 0 0]
abbrev TyM (k : Int) (t : Nat) (sg : Bool) : Array Value := #[.int .i64 k, .int .i64 (t : Int), .bool sg, .int .i64 0, .int .i64 0, .int .i64 0, .string ⟨#[]⟩, .bool false, .slice none 0 0, .slice none 0 0]
theorem TyM_cells {w : World} {g : Nat} {k : Int} {t : Nat} {sg : Bool} (h : w.heap[g]? = some (.cells (TyM k t sg) 30 (0, 0))) :
    w.cell? ⟨g, 0, none⟩ = some (.int .i64 k) ∧ w.cell? ⟨g, 1, none⟩ = some (.int .i64 (t : Int)) ∧ w.cell? ⟨g, 2, none⟩ = some (.bool sg) ∧ w.cell? ⟨g, 3, none⟩ = some (.int .i64 0) ∧ w.cell? ⟨g, 4, none⟩ = some (.int .i64 0) ∧ w.cell? ⟨g, 5, none⟩ = some (.int .i64 0) ∧ w.cell? ⟨g, 6, none⟩ = some (.string ⟨#[]⟩) ∧ w.cell? ⟨g, 7, none⟩ = some (.bool false) ∧ w.cell? ⟨g, 8, none⟩ = some (.slice none 0 0) ∧ w.cell? ⟨g, 9, none⟩ = some (.slice none 0 0) :=
  ⟨blk_cell h 0, blk_cell h 1, blk_cell h 2, blk_cell h 3, blk_cell h 4, blk_cell h 5, blk_cell h 6, blk_cell h 7, blk_cell h 8, blk_cell h 9⟩
set_option maxHeartbeats 8000000 in
set_option maxRecDepth 100000 in
theorem obn_is (k : Int) (t : Nat) (sg : Bool) (hk : k = 2 ∨ k = 3 ∧ sg = false) (w : World) : Calls Tryd.prog 51 #[TyN k t sg] w fun e w' => e = .returned (.tuple #[.int .i64 (t : Int), .bool sg]) ∧ Below w.heap.size w w' := by
  unfold TyN
  rcases hk with rfl | ⟨rfl, rfl⟩
  · obtain ⟨W, hW⟩ : ∃ W, W = w.alloc (.cells (TyM 2 t sg) 30) := ⟨_, rfl⟩
    have g1 : W.heap[w.heap.size]? = some (.cells (TyM 2 t sg) 30 (0, 0)) := by rw [hW]; exact blk_new w _
    have hB := Aside0.mk (show Below w.heap.size w W by rw [hW]; exact b2 w _)
    obtain ⟨t0, t1, t2, t3, t4, t5, t6, t7, t8, t9⟩ := TyM_cells g1
    go_enter Tryd.func51, Tryd.ntmps51
    go_upto_region 3 with (fail)
    rw [← hW]
    clear hW g1
    go_quiet ((fail))
    go_wp2
    refine bodyPost_ret (v := .tuple #[.int .i64 (t : Int), .bool sg]) (by simp [results, Tryd.results51, go_sem]) rfl ?_
    exact ⟨rfl, pw_below_drewN hB.out _⟩
  · go_enter Tryd.func51, Tryd.ntmps51
    go_wp2
    refine bodyPost_ret (v := .tuple #[.int .i64 (t : Int), .bool false]) (by simp [results, Tryd.results51, go_sem]) rfl ?_
    exact ⟨rfl, b2 w _⟩
end Go.Proofs.YtpjaaonpbohkdaaDoor.QR
/- Which values are of a type of numbers, plainly. -/
namespace Go.Proofs.YtpjaaonpbohkdaaDoor.QR
open Go.RowKit Go.Proofs.YtpjaaonpbohkdaaDoorW.PrintWords Go.Proofs.YtpjaaonpbohkdaaDoorW.PrintLast Go.Proofs.YtpjaaonpbohkdaaDoorW.PrintMore
set_option linter.unusedVariables false
set_option linter.unusedSimpArgs false
/-- The numbers of so many bits. -/
def fitsA (t : Nat) (sg : Bool) (a : Int) : Bool := if t = 64 then true else if sg then decide (IntKind.u64.wrap (IntKind.i32.wrap a) = a) else decide (a % 4294967296 = a)
/-- A value that is not null, with m kids, is of the type. -/
def fitsN (t : Nat) (sg : Bool) (m : Nat) (a : Int) (s : ByteArray) : Bool := decide (m = 0) && (decide (s = ⟨#[]⟩) && fitsA t sg a)
theorem u64w (x : Int) : IntKind.u64.wrap x = x % 18446744073709551616 := by unfold IntKind.wrap; rfl
theorem i32w (x : Int) : IntKind.i32.wrap x = (x + 2147483648) % 4294967296 - 2147483648 := by simp [IntKind.wrap_i32, wrap32]
theorem i64w (x : Int) : wrap64 x = (x + 9223372036854775808) % 18446744073709551616 - 9223372036854775808 := by simp [wrap64]
theorem fit_i32 (a : Int) (ha : 0 ≤ a ∧ a < 18446744073709551616) : (IntKind.u64.wrap (wrap64 (IntKind.u64.wrap (a * 4294967296)) / 4294967296) == a) = fitsA 32 true a := by
  have h : IntKind.u64.wrap (wrap64 (IntKind.u64.wrap (a * 4294967296)) / 4294967296) = IntKind.u64.wrap (IntKind.i32.wrap a) := by
    simp only [u64w, i32w, i64w]
    omega
  rw [h]
  unfold fitsA
  rw [if_neg (by decide), if_pos rfl]
  rfl
theorem fit_i64 (a : Int) (ha : 0 ≤ a ∧ a < 18446744073709551616) : (IntKind.u64.wrap (wrap64 a) == a) = fitsA 64 true a := by
  have h : IntKind.u64.wrap (wrap64 a) = a := by
    simp only [u64w, i64w]
    omega
  rw [h]
  unfold fitsA
  rw [if_pos rfl]
  simp
theorem fit_f32 (a : Int) (ha : 0 ≤ a ∧ a < 18446744073709551616) : (IntKind.u64.wrap (a * 4294967296) / 4294967296 == a) = fitsA 32 false a := by
  have h : IntKind.u64.wrap (a * 4294967296) / 4294967296 = a % 4294967296 := by
    simp only [u64w]
    omega
  rw [h]
  unfold fitsA
  rw [if_neg (by decide), if_neg (by decide)]
  rfl
theorem empty_is (s : ByteArray) (h : ¬ s = ⟨#[]⟩) : s.toList.isEmpty = false := by
  rw [Lib.toList_data]
  cases hl : s.data.toList with
  | cons _ _ => rfl
  | nil =>
    refine absurd ?_ h
    obtain ⟨a⟩ := s
    congr 1
    rw [← Array.toList_inj]
    exact hl
def goodN (t : Nat) (sg : Bool) (x : QT.S33) : Bool := !x.f0 && fitsN t sg x.f3.length x.f1 x.f2
def allN (t : Nat) (sg : Bool) (xs : List QT.S33) : Bool := xs.all (goodN t sg) && decide (xs.length ≤ 500)
/-- The numbers are numbers of 64 bits. -/
def n64 (xs : List QT.S33) : Prop := ∀ x ∈ xs, 0 ≤ x.f1 ∧ x.f1 < 18446744073709551616
theorem n64_at {xs : List QT.S33} (h : n64 xs) (i : Nat) : 0 ≤ (xs.getD i QT.z33).f1 ∧ (xs.getD i QT.z33).f1 < 18446744073709551616 := by
  rw [List.getD_eq_getElem?_getD]
  cases hx : xs[i]? with
  | none => exact ⟨by decide, by decide⟩
  | some x => exact h x (List.mem_of_getElem? hx)
end Go.Proofs.YtpjaaonpbohkdaaDoor.QR
/- What the laws of numbers need, plainly: values without kids; a row of one value. -/
namespace Go.Proofs.YtpjaaonpbohkdaaDoor.QR
open Go.RowKit Go.Proofs.YtpjaaonpbohkdaaDoorW.PrintWords Go.Proofs.YtpjaaonpbohkdaaDoorW.PrintLast Go.Proofs.YtpjaaonpbohkdaaDoorW.PrintMore
set_option linter.unusedVariables false
set_option linter.unusedSimpArgs false
def convV (x : QT.S33) : TV := (x.f0, x.f1, x.f2)
theorem allN_all {t : Nat} {sg : Bool} {xs : List QT.S33} (h : allN t sg xs = true) : xs.length ≤ 500 ∧ ∀ x ∈ xs, x.f0 = false ∧ x.f3 = [] ∧ x.f2 = ⟨#[]⟩ ∧ fitsA t sg x.f1 = true := by
  unfold allN at h
  rw [Bool.and_eq_true] at h
  refine ⟨of_decide_eq_true h.2, fun x hx => ?_⟩
  have h1 := List.all_eq_true.1 h.1 x hx
  unfold goodN fitsN at h1
  simp only [Bool.and_eq_true, Bool.not_eq_true', decide_eq_true_eq] at h1
  exact ⟨h1.1, List.eq_nil_of_length_eq_zero h1.2.1, h1.2.2.1, h1.2.2.2⟩
theorem C_conv {w : World} {A : Option Addr} {n : Nat} {xs : List QT.S33} (h : Kd.C QT.k33 w A n xs) (hk : ∀ x ∈ xs, x.f3 = []) : Kd.C kV w A n (xs.map convV) := by
  refine ⟨by rw [List.length_map]; exact h.1, h.2.1, fun hn => ?_⟩
  obtain ⟨ad, e, hc⟩ := h.2.2 hn
  refine ⟨ad, e, fun j p hj => ?_⟩
  rw [List.getElem?_map] at hj
  obtain ⟨x, hx, rfl⟩ := Option.map_eq_some_iff.1 hj
  obtain ⟨c, h1, h2, h3⟩ := hc j x hx
  obtain ⟨A3, c3, rfl, _, _⟩ := QT.k33_open h2
  have h0 := hk x (List.mem_of_getElem? hx)
  refine ⟨_, h1, ?_, h3⟩
  rw [h0]
  exact kV_mk w (convV x) A3 c3
theorem one_C {w : World} {g : Nat} {a : Int} {s : ByteArray} (h : w.heap[g]? = some (.cells #[.bool false, .int .u64 a, .string s, .slice none 0 0] 33 (0, 0))) : Kd.C kV w (some ⟨g, 0, none⟩) 1 [(false, a, s)] := by
  refine ⟨rfl, by omega, fun _ => ⟨⟨g, 0, none⟩, rfl, fun j p hj => ?_⟩⟩
  have hj0 : j = 0 := by
    rcases Nat.eq_zero_or_pos j with h0 | h0
    · exact h0
    · rw [List.getElem?_eq_none (by simp; omega)] at hj; cases hj
  subst hj0
  simp only [List.getElem?_cons_zero, Option.some.injEq] at hj
  subst hj
  refine ⟨_, rfl, kV_mk w _ none 0, fun i u hu => ?_⟩
  rw [show (Addr.add ⟨g, 0, none⟩ (0 * kV.sz + i) : Addr) = ⟨g, i, none⟩ by simp [Addr.add]; intro h; exact h.symm]
  rw [blk_cell h i]
  simpa using hu
theorem byte_C {w : World} {g : Nat} {x : Int} (h : w.heap[g]? = some (.cells #[.int .u8 x] 5 (0, 0))) : Cu w (some ⟨g, 0, none⟩) [x] := by
  refine Kd.C_of_reads (d := (0 : Int)) (enc := Value.int .u8) ⟨rfl, by simp, fun _ => ⟨⟨g, 0, none⟩, rfl, fun j hj => ?_⟩⟩
  obtain rfl : j = 0 := by simp at hj; exact hj
  rw [show (Addr.add ⟨g, 0, none⟩ 0 : Addr) = ⟨g, 0, none⟩ by simp [Addr.add]]
  exact (blk_cell h 0).trans rfl
theorem want_one (x : TV) : wantL (bt1 [1]) 0 [x] 1 = [x] := by
  simp only [wantL]
  rw [if_pos (by decide)]
  rfl
/-- A row of one value, read. -/
theorem kV_one {w : World} {A : Option Addr} {x : TV} (h : Kd.C kV w A 1 [x]) : ∃ ad A3 c3, A = some ad ∧ w.cell? ad = some (.bool x.1) ∧ w.cell? ⟨ad.block, ad.off + 1, none⟩ = some (.int .u64 x.2.1) ∧ w.cell? ⟨ad.block, ad.off + 2, none⟩ = some (.string x.2.2) ∧ w.cell? ⟨ad.block, ad.off + 3, none⟩ = some (.slice A3 0 c3) := by
  obtain ⟨ad, A3, c3, e, p0, p1, p2, p3⟩ := kV_at h 0 (by omega)
  rw [show ad.add (0 * 4) = ad by simp [Addr.add]] at p0 p1 p2 p3
  exact ⟨ad, A3, c3, e, p0, p1, p2, p3⟩
/-- What the values of a law are: numbers of the type, no text, not null. -/
def okN (t : Nat) (sg : Bool) (xs : List TV) : Prop := ∀ x ∈ xs, x.1 = false ∧ x.2.2 = ⟨#[]⟩ ∧ (0 ≤ x.2.1 ∧ x.2.1 < 18446744073709551616) ∧ fitsA t sg x.2.1 = true
theorem okN_conv {t : Nat} {sg : Bool} {xs : List QT.S33} (h : allN t sg xs = true) (h64 : n64 xs) : okN t sg (xs.map convV) := by
  intro y hy
  obtain ⟨x, hx, rfl⟩ := List.mem_map.1 hy
  have := (allN_all h).2 x hx
  exact ⟨this.1, this.2.2.1, h64 x hx, this.2.2.2⟩
end Go.Proofs.YtpjaaonpbohkdaaDoor.QR
