/- packBits: 32 answers are packed into four bytes. -/
import Derived.Test.YtlnbkmkdapeicaaDoorF6
namespace Go.Proofs.YtlnbkmkdapeicaaDoor.QR
open Go.RowKit Go.Proofs.YtlnbkmkdapeicaaDoorW.PrintWords Go.Proofs.YtlnbkmkdapeicaaDoorW.PrintLast Go.Proofs.YtlnbkmkdapeicaaDoorW.PrintMore
set_option linter.unusedVariables false
set_option linter.unusedSimpArgs false
def b2i (b : Bool) : Int := if b then 1 else 0
def cU (bf : Nat → Bool) (m : Nat) : List Value := (List.range m).map fun i => .int .u32 (b2i (bf i))
theorem cU_len (bf : Nat → Bool) (m : Nat) : (cU bf m).length = m := by simp [cU]
theorem cU_get (bf : Nat → Bool) {m i : Nat} (h : i < m) : (cU bf m)[i]? = some (.int .u32 (b2i (bf i))) := by simp [cU, h]
/-- Eight answers in a byte. -/
def pk8 (x0 x1 x2 x3 x4 x5 x6 x7 : Bool) : Int := b2i x0 + b2i x1 * 2 + b2i x2 * 4 + b2i x3 * 8 + b2i x4 * 16 + b2i x5 * 32 + b2i x6 * 64 + b2i x7 * 128
def pk (bf : Nat → Bool) (r : Nat) : Int := pk8 (bf (8 * r)) (bf (8 * r + 1)) (bf (8 * r + 2)) (bf (8 * r + 3)) (bf (8 * r + 4)) (bf (8 * r + 5)) (bf (8 * r + 6)) (bf (8 * r + 7))
theorem pk8_ok (x0 x1 x2 x3 x4 x5 x6 x7 : Bool) : 0 ≤ pk8 x0 x1 x2 x3 x4 x5 x6 x7 ∧ pk8 x0 x1 x2 x3 x4 x5 x6 x7 < 256 := by
  unfold pk8 b2i
  cases x0 <;> cases x1 <;> cases x2 <;> cases x3 <;> cases x4 <;> cases x5 <;> cases x6 <;> cases x7 <;> decide
theorem pk_get (bf : Nat → Bool) (r j : Nat) (hj : j < 8) : decide (pk bf r / 2 ^ j % 2 = 1) = bf (8 * r + j) := by
  have h2 : j = 0 ∨ j = 1 ∨ j = 2 ∨ j = 3 ∨ j = 4 ∨ j = 5 ∨ j = 6 ∨ j = 7 := by omega
  unfold pk
  have key : ∀ x0 x1 x2 x3 x4 x5 x6 x7 : Bool, decide (pk8 x0 x1 x2 x3 x4 x5 x6 x7 / 2 ^ 0 % 2 = 1) = x0 ∧ decide (pk8 x0 x1 x2 x3 x4 x5 x6 x7 / 2 ^ 1 % 2 = 1) = x1 ∧ decide (pk8 x0 x1 x2 x3 x4 x5 x6 x7 / 2 ^ 2 % 2 = 1) = x2 ∧ decide (pk8 x0 x1 x2 x3 x4 x5 x6 x7 / 2 ^ 3 % 2 = 1) = x3 ∧ decide (pk8 x0 x1 x2 x3 x4 x5 x6 x7 / 2 ^ 4 % 2 = 1) = x4 ∧ decide (pk8 x0 x1 x2 x3 x4 x5 x6 x7 / 2 ^ 5 % 2 = 1) = x5 ∧ decide (pk8 x0 x1 x2 x3 x4 x5 x6 x7 / 2 ^ 6 % 2 = 1) = x6 ∧ decide (pk8 x0 x1 x2 x3 x4 x5 x6 x7 / 2 ^ 7 % 2 = 1) = x7 := by decide +kernel
  obtain ⟨k0, k1, k2, k3, k4, k5, k6, k7⟩ := key (bf (8 * r)) (bf (8 * r + 1)) (bf (8 * r + 2)) (bf (8 * r + 3)) (bf (8 * r + 4)) (bf (8 * r + 5)) (bf (8 * r + 6)) (bf (8 * r + 7))
  rcases h2 with rfl | rfl | rfl | rfl | rfl | rfl | rfl | rfl
  · exact k0
  · exact k1
  · exact k2
  · exact k3
  · exact k4
  · exact k5
  · exact k6
  · exact k7
def pkL (bf : Nat → Bool) (m : Nat) : List Value := (List.range m).map fun r => .int .u8 (pk bf r)
theorem pkL_len (bf : Nat → Bool) (m : Nat) : (pkL bf m).length = m := by simp [pkL]
theorem pkL_succ (bf : Nat → Bool) (m : Nat) : pkL bf (m + 1) = pkL bf m ++ [.int .u8 (pk bf m)] := by simp [pkL, List.range_succ]
theorem put_snoc {us seg : List Value} {o : Nat} {x : Value} (h : o + seg.length + 1 ≤ us.length) : (put us o seg).set (o + seg.length) x = put us o (seg ++ [x]) := by
  apply List.ext_getElem?
  intro i
  rw [put_get (by simp; omega)]
  by_cases h1 : i = o + seg.length
  · subst h1
    rw [List.getElem?_set_self (by rw [put_len (by omega)]; omega), if_pos (by simp), List.getElem?_append_right (by omega), show o + seg.length - o - seg.length = 0 by omega]
    rfl
  · rw [List.getElem?_set_ne (by omega), put_get (by omega)]
    by_cases h2 : o ≤ i ∧ i < o + seg.length
    · rw [if_pos h2, if_pos (by simp; omega), List.getElem?_append_left (by omega)]
    · rw [if_neg h2, if_neg (by simp; omega)]
theorem chain_is : ∀ x0 x1 x2 x3 x4 x5 x6 x7 : Bool, IntKind.u8.wrap (Go.bits .or .u32 (Go.bits .or .u32 (Go.bits .or .u32 (Go.bits .or .u32 (Go.bits .or .u32 (Go.bits .or .u32 (Go.bits .or .u32 (b2i x0) (IntKind.u32.wrap (b2i x1 * 2))) (IntKind.u32.wrap (b2i x2 * 4))) (IntKind.u32.wrap (b2i x3 * 8))) (IntKind.u32.wrap (b2i x4 * 16))) (IntKind.u32.wrap (b2i x5 * 32))) (IntKind.u32.wrap (b2i x6 * 64))) (IntKind.u32.wrap (b2i x7 * 128))) = pk8 x0 x1 x2 x3 x4 x5 x6 x7 := by decide +kernel
set_option maxHeartbeats 8000000 in
set_option maxRecDepth 100000 in
theorem pb_is (bf : Nat → Bool) (g o n c et : Nat) (us : List Value) (w : World) (hg : w.heap[g]? = some (.cells us.toArray et (0, 0))) (hn : 4 ≤ n) (hnc : n ≤ c) (ho : o + 4 ≤ us.length) (hl : n ≤ 1000000) :
    Calls Tryd.prog 67 #[.agg (cU bf 32).toArray, .slice (some ⟨g, o, none⟩) n c] w fun e w' => e = .returned (.tuple #[]) ∧ w'.heap[g]? = some (.cells (put us o (pkL bf 4)).toArray et (0, 0)) ∧ Fr w w' g g := by
  have Q := Aside0.mk (And.intro hg (And.intro hn (And.intro hnc (And.intro ho hl))))
  have hlen := cU_len bf 32
  obtain ⟨C, hC⟩ : ∃ C, C = cU bf 32 := ⟨_, rfl⟩
  rw [← hC] at hlen ⊢
  have QC := Aside0.mk (And.intro hC hlen)
  clear hg hn hnc ho hl hC hlen
  go_enter Tryd.func67, Tryd.ntmps67
  go_upto_region 1 with (fail)
  obtain ⟨hb, hhb⟩ : ∃ hb, hb = w.heap.size := ⟨_, rfl⟩
  have hgb : g < hb := by rw [hhb]; exact blk_lt Q.out.1
  obtain ⟨W1, hW1⟩ : ∃ W1, W1 = w.alloc (.cells C.toArray 158) := ⟨_, rfl⟩
  have g1 : W1.heap[g]? = some (.cells us.toArray et (0, 0)) := by rw [hW1]; exact blk_alloc Q.out.1 _
  have a1 : W1.heap[hb]? = some (.cells C.toArray 158 (0, 0)) := by rw [hW1, hhb]; exact blk_new w _
  have f1 : Fr w W1 g g := by rw [hW1]; exact Fr.of_below (b2 w _)
  rw [← hW1, ← hhb]
  have Q1 := Aside0.mk (And.intro g1 (And.intro a1 (And.intro f1 hgb)))
  clear hW1 hhb g1 a1 f1 hgb
  go_wp2_with fail
  go_loopg [1, 4] 4 (fun kq v1 v4 w' => ∃ (r : Nat) (P : Option Addr), v4 = .int .i64 ((8 * r : Nat) : Int) ∧ v1 = .slice P (n - r) (c - r) ∧ Aside0 (r + kq = 4) ∧ Aside0 (r < c → P = some ⟨g, o + r, none⟩) ∧ Aside0 (w'.heap[g]? = some (.cells (put us o (pkL bf r)).toArray et (0, 0))) ∧ Aside0 (w'.heap[hb]? = some (.cells C.toArray 158 (0, 0))) ∧ Aside0 (Fr w w' g g))
  case atStart => exact ⟨0, _, rfl, rfl, ⟨rfl⟩, ⟨fun _ => rfl⟩, ⟨by rw [show pkL bf 0 = [] from rfl, put_nil]; exact Q1.out.1⟩, ⟨Q1.out.2.1⟩, ⟨Q1.out.2.2.1⟩⟩
  case round =>
    obtain ⟨r, P, rfl, rfl, HA, HP, HG, HB, HF⟩ := hrel
    rcases Nat.eq_zero_or_pos gk with h0 | h0
    · obtain rfl : r = 4 := by have := HA.out; omega
      go_wp2
      go_end0
      exact ⟨rfl, HG.out, HF.out⟩
    · have hr4 : r < 4 := by have := HA.out; omega
      have hrc : r < c := by have := Q.out; omega
      obtain rfl := HP.out hrc
      obtain ⟨k1, rfl⟩ : ∃ k1, gk = k1 + 1 := ⟨gk - 1, by omega⟩
      have Qr := Aside0.mk (And.intro hr4 hrc)
      obtain ⟨i, hi⟩ : ∃ i, i = 8 * r := ⟨_, rfl⟩
      rw [← hi]
      have cell : ∀ j, j < 8 → wr.cell? ⟨hb, i + j, none⟩ = some (.int .u32 (b2i (bf (8 * r + j)))) := by
        intro j hj
        rw [blk_cell HB.out, List.getElem?_toArray, QC.out.1, hi]
        exact cU_get bf (by omega)
      have t0 := cell 0 (by omega)
      have t1 := cell 1 (by omega)
      have t2 := cell 2 (by omega)
      have t3 := cell 3 (by omega)
      have t4 := cell 4 (by omega)
      have t5 := cell 5 (by omega)
      have t6 := cell 6 (by omega)
      have t7 := cell 7 (by omega)
      rw [Nat.add_zero] at t0
      have hi24 : (i : Int) ≤ 24 := by omega
      have hil : i ≤ 24 := by omega
      have hpos : 0 < n - r := by have := Q.out; omega
      have hposi : (0 : Int) < ((n - r : Nat) : Int) := by omega
      have hn1 : (1 : Int) ≤ ((c - r : Nat) : Int) := by omega
      have hlen : o + r < (put us o (pkL bf r)).length := by rw [put_len (by rw [pkL_len]; have := Q.out; omega)]; have := Q.out; omega
      obtain ⟨u0, k0⟩ : ∃ u, wr.cell? ⟨g, o + r, none⟩ = some u := ⟨(put us o (pkL bf r))[o + r], (blk_cell HG.out _).trans (by rw [List.getElem?_toArray, List.getElem?_eq_getElem hlen])⟩
      have z0 := blk_frozen HG.out (o + r)
      have Qi := Aside0.mk hi
      clear cell hi h0 hlen hr4
      go_upto_region 4 with (fail)
      obtain ⟨x0, hx0⟩ : ∃ x, x = bf (8 * r + 0) := ⟨_, rfl⟩
      rw [← hx0] at t0
      obtain ⟨x1, hx1⟩ : ∃ x, x = bf (8 * r + 1) := ⟨_, rfl⟩
      rw [← hx1] at t1
      obtain ⟨x2, hx2⟩ : ∃ x, x = bf (8 * r + 2) := ⟨_, rfl⟩
      rw [← hx2] at t2
      obtain ⟨x3, hx3⟩ : ∃ x, x = bf (8 * r + 3) := ⟨_, rfl⟩
      rw [← hx3] at t3
      obtain ⟨x4, hx4⟩ : ∃ x, x = bf (8 * r + 4) := ⟨_, rfl⟩
      rw [← hx4] at t4
      obtain ⟨x5, hx5⟩ : ∃ x, x = bf (8 * r + 5) := ⟨_, rfl⟩
      rw [← hx5] at t5
      obtain ⟨x6, hx6⟩ : ∃ x, x = bf (8 * r + 6) := ⟨_, rfl⟩
      rw [← hx6] at t6
      obtain ⟨x7, hx7⟩ : ∃ x, x = bf (8 * r + 7) := ⟨_, rfl⟩
      rw [← hx7] at t7
      have ia1 : IntKind.i64.wrap ((i : Int) + 1) = (i : Int) + 1 := IntWalk.i64_in _ (by omega)
      have ib1 : (0 : Int) ≤ (i : Int) + 1 := by omega
      have ic1 : (i : Int) + 1 < 32 := by omega
      have id1 : ((i : Int) + 1).toNat = i + 1 := by omega
      have ie1 : i + 1 < 32 := by omega
      have ia2 : IntKind.i64.wrap ((i : Int) + 2) = (i : Int) + 2 := IntWalk.i64_in _ (by omega)
      have ib2 : (0 : Int) ≤ (i : Int) + 2 := by omega
      have ic2 : (i : Int) + 2 < 32 := by omega
      have id2 : ((i : Int) + 2).toNat = i + 2 := by omega
      have ie2 : i + 2 < 32 := by omega
      have ia3 : IntKind.i64.wrap ((i : Int) + 3) = (i : Int) + 3 := IntWalk.i64_in _ (by omega)
      have ib3 : (0 : Int) ≤ (i : Int) + 3 := by omega
      have ic3 : (i : Int) + 3 < 32 := by omega
      have id3 : ((i : Int) + 3).toNat = i + 3 := by omega
      have ie3 : i + 3 < 32 := by omega
      have ia4 : IntKind.i64.wrap ((i : Int) + 4) = (i : Int) + 4 := IntWalk.i64_in _ (by omega)
      have ib4 : (0 : Int) ≤ (i : Int) + 4 := by omega
      have ic4 : (i : Int) + 4 < 32 := by omega
      have id4 : ((i : Int) + 4).toNat = i + 4 := by omega
      have ie4 : i + 4 < 32 := by omega
      have ia5 : IntKind.i64.wrap ((i : Int) + 5) = (i : Int) + 5 := IntWalk.i64_in _ (by omega)
      have ib5 : (0 : Int) ≤ (i : Int) + 5 := by omega
      have ic5 : (i : Int) + 5 < 32 := by omega
      have id5 : ((i : Int) + 5).toNat = i + 5 := by omega
      have ie5 : i + 5 < 32 := by omega
      have ia6 : IntKind.i64.wrap ((i : Int) + 6) = (i : Int) + 6 := IntWalk.i64_in _ (by omega)
      have ib6 : (0 : Int) ≤ (i : Int) + 6 := by omega
      have ic6 : (i : Int) + 6 < 32 := by omega
      have id6 : ((i : Int) + 6).toNat = i + 6 := by omega
      have ie6 : i + 6 < 32 := by omega
      have ia7 : IntKind.i64.wrap ((i : Int) + 7) = (i : Int) + 7 := IntWalk.i64_in _ (by omega)
      have ib7 : (0 : Int) ≤ (i : Int) + 7 := by omega
      have ic7 : (i : Int) + 7 < 32 := by omega
      have id7 : ((i : Int) + 7).toNat = i + 7 := by omega
      have ie7 : i + 7 < 32 := by omega
      have ic0 : (i : Int) < 32 := by omega
      have ie0 : i < 32 := by omega
      have hpk : pk8 x0 x1 x2 x3 x4 x5 x6 x7 = pk bf r := by
        unfold pk
        rw [hx0, hx1, hx2, hx3, hx4, hx5, hx6, hx7]
        rfl
      have hch := chain_is x0 x1 x2 x3 x4 x5 x6 x7
      rw [hpk] at hch
      clear hx0 hx1 hx2 hx3 hx4 hx5 hx6 hx7 hpk
      generalize b2i x0 = v0 at hch t0
      generalize b2i x1 = v1 at hch t1
      generalize b2i x2 = v2 at hch t2
      generalize b2i x3 = v3 at hch t3
      generalize b2i x4 = v4 at hch t4
      generalize b2i x5 = v5 at hch t5
      generalize b2i x6 = v6 at hch t6
      generalize b2i x7 = v7 at hch t7
      obtain ⟨s1, hs1⟩ : ∃ s, IntKind.u32.wrap (v1 * 2) = s := ⟨_, rfl⟩
      rw [hs1] at hch
      obtain ⟨s2, hs2⟩ : ∃ s, IntKind.u32.wrap (v2 * 4) = s := ⟨_, rfl⟩
      rw [hs2] at hch
      obtain ⟨s3, hs3⟩ : ∃ s, IntKind.u32.wrap (v3 * 8) = s := ⟨_, rfl⟩
      rw [hs3] at hch
      obtain ⟨s4, hs4⟩ : ∃ s, IntKind.u32.wrap (v4 * 16) = s := ⟨_, rfl⟩
      rw [hs4] at hch
      obtain ⟨s5, hs5⟩ : ∃ s, IntKind.u32.wrap (v5 * 32) = s := ⟨_, rfl⟩
      rw [hs5] at hch
      obtain ⟨s6, hs6⟩ : ∃ s, IntKind.u32.wrap (v6 * 64) = s := ⟨_, rfl⟩
      rw [hs6] at hch
      obtain ⟨s7, hs7⟩ : ∃ s, IntKind.u32.wrap (v7 * 128) = s := ⟨_, rfl⟩
      rw [hs7] at hch
      obtain ⟨o1, ho1⟩ : ∃ o, Go.bits .or .u32 v0 s1 = o := ⟨_, rfl⟩
      rw [ho1] at hch
      obtain ⟨o2, ho2⟩ : ∃ o, Go.bits .or .u32 o1 s2 = o := ⟨_, rfl⟩
      rw [ho2] at hch
      obtain ⟨o3, ho3⟩ : ∃ o, Go.bits .or .u32 o2 s3 = o := ⟨_, rfl⟩
      rw [ho3] at hch
      obtain ⟨o4, ho4⟩ : ∃ o, Go.bits .or .u32 o3 s4 = o := ⟨_, rfl⟩
      rw [ho4] at hch
      obtain ⟨o5, ho5⟩ : ∃ o, Go.bits .or .u32 o4 s5 = o := ⟨_, rfl⟩
      rw [ho5] at hch
      obtain ⟨o6, ho6⟩ : ∃ o, Go.bits .or .u32 o5 s6 = o := ⟨_, rfl⟩
      rw [ho6] at hch
      obtain ⟨o7, ho7⟩ : ∃ o, Go.bits .or .u32 o6 s7 = o := ⟨_, rfl⟩
      rw [ho7] at hch
      have d0 : wr.drew.cell? ⟨hb, i, none⟩ = some (.int .u32 v0) := t0
      clear t0
      have d1 : wr.drew.cell? ⟨hb, i + 1, none⟩ = some (.int .u32 v1) := t1
      clear t1
      have d2 : wr.drew.cell? ⟨hb, i + 2, none⟩ = some (.int .u32 v2) := t2
      clear t2
      have d3 : wr.drew.cell? ⟨hb, i + 3, none⟩ = some (.int .u32 v3) := t3
      clear t3
      have d4 : wr.drew.cell? ⟨hb, i + 4, none⟩ = some (.int .u32 v4) := t4
      clear t4
      have d5 : wr.drew.cell? ⟨hb, i + 5, none⟩ = some (.int .u32 v5) := t5
      clear t5
      have d6 : wr.drew.cell? ⟨hb, i + 6, none⟩ = some (.int .u32 v6) := t6
      clear t6
      have d7 : wr.drew.cell? ⟨hb, i + 7, none⟩ = some (.int .u32 v7) := t7
      clear t7
      have d8 : wr.drew.cell? ⟨g, o + r, none⟩ = some u0 := k0
      have d9 : wr.drew.frozen? ⟨g, o + r, none⟩ = false := z0
      clear k0 z0
      refine wp_region_still_tail 48 (by kernel_rfl) (by kernel_rfl) ?_
      simp only [List.take_succ_cons, List.take_zero, List.drop_succ_cons, List.drop_zero]
      change wpStill _ _ (World.drew wr) _ _ _
      repeat still_step
      refine wpStill_nil ?_
      change wpList _ _ _ _ _ (World.drew wr)
      clear hch hs1 hs2 hs3 hs4 hs5 hs6 hs7 ho1 ho2 ho3 ho4 ho5 ho6 ho7 d0 d1 d2 d3 d4 d5 d6 d7 ia1 ia2 ia3 ia4 ia5 ia6 ia7 ib1 ib2 ib3 ib4 ib5 ib6 ib7 ic0 ic1 ic2 ic3 ic4 ic5 ic6 ic7 id1 id2 id3 id4 id5 id6 id7 ie0 ie1 ie2 ie3 ie4 ie5 ie6 ie7
      have h8 : (i : Int) + 8 = ((8 * (r + 1) : Nat) : Int) := by have := Qi.out; omega
      have h8w : IntKind.i64.wrap (((8 * (r + 1) : Nat) : Int)) = ((8 * (r + 1) : Nat) : Int) := IntWalk.i64_in _ (by have := Qr.out; omega)
      have hn0 : (1 : Int) ≤ ((n - r : Nat) : Int) := by omega
      have hcn : ((n - r : Nat) : Int) ≤ ((c - r : Nat) : Int) := by have := Q.out; omega
      by_cases hc1 : c - r = 1
      · have hc2 : c - r - 1 = 0 := by omega
        go_wp2
        go_roundg k1
        case rel =>
          refine ⟨r + 1, some ⟨g, o + r, none⟩, ?_, ?_, ⟨by have := HA.out; omega⟩, ⟨fun h => absurd h (by omega)⟩, ⟨?_⟩, ⟨?_⟩, ⟨(HF.out.set g (o + r) _ (.inl rfl)).step (Below.refl _ _).drew⟩⟩
          · first | rfl | (congr 1; omega) | (congr 1; push_cast; omega) | simp
          · rw [show n - (r + 1) = n - r - 1 by omega, show c - (r + 1) = 0 by omega]
          · have h := blk_set HG.out (o + r) (.int .u8 (pk bf r))
            rw [pkL_succ, ← put_snoc (by rw [pkL_len]; have := Q.out; have := Qr.out; omega), pkL_len]
            show (wr.setCell ⟨g, o + r, none⟩ (.int .u8 (pk bf r))).heap[g]? = _
            simpa using h
          · exact blk_far HB.out (p := ⟨g, o + r, none⟩) (by have := Q1.out.2.2.2; simp; omega) _
        · omega
      · have hc2 : ¬ (c - r - 1 = 0) := by omega
        go_wp2
        go_roundg k1
        case rel =>
          refine ⟨r + 1, some ⟨g, o + (r + 1), none⟩, ?_, ?_, ⟨by have := HA.out; omega⟩, ⟨fun _ => rfl⟩, ⟨?_⟩, ⟨?_⟩, ⟨(HF.out.set g (o + r) _ (.inl rfl)).step (Below.refl _ _).drew⟩⟩
          · first | rfl | (congr 1; omega) | (congr 1; push_cast; omega) | simp
          · rw [show n - (r + 1) = n - r - 1 by omega, show c - (r + 1) = c - r - 1 by omega, show o + (r + 1) = o + r + 1 by omega]
          · have h := blk_set HG.out (o + r) (.int .u8 (pk bf r))
            rw [pkL_succ, ← put_snoc (by rw [pkL_len]; have := Q.out; have := Qr.out; omega), pkL_len]
            show (wr.setCell ⟨g, o + r, none⟩ (.int .u8 (pk bf r))).heap[g]? = _
            simpa using h
          · exact blk_far HB.out (p := ⟨g, o + r, none⟩) (by have := Q1.out.2.2.2; simp; omega) _
        · omega
end Go.Proofs.YtlnbkmkdapeicaaDoor.QR
