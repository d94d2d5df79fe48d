/- The records of the parts: what they hold. -/
import Derived.Test.YtoceclgljmdkeaaDoorA9
import Derived.Test.YtoceclgljmdkeaaDoorPFnJoinBitsx2
namespace Go.Proofs.YtoceclgljmdkeaaDoor.QR
open Go.RowKit Go.Proofs.YtoceclgljmdkeaaDoorW.PrintWords Go.Proofs.YtoceclgljmdkeaaDoorW.PrintLast Go.Proofs.YtoceclgljmdkeaaDoorW.PrintMore
set_option linter.unusedVariables false
set_option linter.unusedSimpArgs false
abbrev S28 := PFnJoinBits.S28
abbrev k28 := PFnJoinBits.k28
def encD (r : Nat) : Value := .iface 52 (.pointer (some ⟨r, 0, none⟩))
/-- Rows of records. -/
def kD : Kd Nat := Kd.scalar encD (fun _ => rfl)
/-- The bytes of a part. -/
def BY (w : World) (base : Nat) (l : List Int) (A : Option Addr) (c : Nat) : Prop := l.length ≤ c ∧ (A = none → c = 0) ∧ (0 < l.length → ∃ gs us, A = some ⟨gs, 0, none⟩ ∧ base ≤ gs ∧ w.heap[gs]? = some (.cells us 5 (0, 0)) ∧ OkN us.toList l.length ∧ ∀ q, q < l.length → byN us.toList q = (rd l (q : Int)).toNat)
/-- A part's record. -/
def PD (w : World) (base : Nat) (r : Nat) (p : S28) : Prop := ∃ (dx gb : Nat) (pv : Value), base ≤ r ∧ w.heap[r]? = some (.cells (dtC (.iface 54 (.pointer (some ⟨dx, 0, none⟩))) p.f2 p.f3 gb) 78 (0, 0)) ∧ base ≤ gb ∧ w.heap[gb]? = some (.cells #[pv] 38 (0, 0)) ∧
  ((p.f0 = false ∧ pv = .pointer none) ∨ (p.f0 = true ∧ ∃ g A c, pv = .pointer (some ⟨g, 0, none⟩) ∧ base ≤ g ∧ w.heap[g]? = some (.cells (bfC A p.f1.length c) 62 (0, 0)) ∧ BY w base p.f1 A c))
/-- Blocks of other types stay. -/
theorem BY.keep {w w' : World} {base : Nat} {l : List Int} {A : Option Addr} {c : Nat} (h : BY w base l A c) (hk : ∀ g cs, base ≤ g → w.heap[g]? = some (.cells cs 5 (0, 0)) → w'.heap[g]? = w.heap[g]?) : BY w' base l A c :=
  ⟨h.1, h.2.1, fun hp => by
    obtain ⟨gs, us, e, h1, h2, h3, h4⟩ := h.2.2 hp
    exact ⟨gs, us, e, h1, (hk gs us h1 h2).trans h2, h3, h4⟩⟩
theorem PD.keep {w w' : World} {base r : Nat} {p : S28} (h : PD w base r p) (hk : ∀ g cs t, base ≤ g → (t = 78 ∨ t = 38 ∨ t = 62 ∨ t = 5) → w.heap[g]? = some (.cells cs t (0, 0)) → w'.heap[g]? = w.heap[g]?) : PD w' base r p := by
  obtain ⟨dx, gb, pv, h1, h2, h3, h4, h5⟩ := h
  refine ⟨dx, gb, pv, h1, (hk r _ 78 h1 (by simp) h2).trans h2, h3, (hk gb _ 38 h3 (by simp) h4).trans h4, ?_⟩
  rcases h5 with h5 | ⟨e0, g, A, c, e, h6, h7, h8⟩
  · exact .inl h5
  · exact .inr ⟨e0, g, A, c, e, h6, (hk g _ 62 h6 (by simp) h7).trans h7, h8.keep (fun g cs h9 h10 => hk g cs 5 h9 (by simp) h10)⟩
theorem PD.below {w w' : World} {base r : Nat} {p : S28} (h : PD w base r p) (hb : Below w.heap.size w w') : PD w' base r p := h.keep (fun g cs t _ _ h => hb.block g (blk_lt h))
/-- Where a row of records is made longer. -/
theorem PD.grown {w w' : World} {base r : Nat} {p : S28} {v : Value} {xs : List Nat} {b : Nat} {ok : Nat → Prop} (h : PD w base r p) (hv : kD.R 64 w b ok v xs) (hg : w.grownBy w' v.ownBlock) : PD w' base r p := by
  refine h.keep (fun g cs t _ ht h => (blk_grown h hg ?_).trans h.symm)
  intro e
  obtain ⟨cells, hc⟩ := own_typed (Kd.own_of_R hv) g e.symm
  rw [h] at hc
  have h2 := Option.some.inj hc
  have h3 : t = 64 := by injection h2
  rcases ht with e | e | e | e <;> rw [e] at h3 <;> exact absurd h3 (by decide)
/-- All of them. -/
def PDs (w : World) (base : Nat) (rs : List Nat) (l : List S28) : Prop := rs.length ≤ l.length ∧ ∀ (j r : Nat), rs[j]? = some r → PD w base r (PFnJoinBits.rd_T28 l (j : Int))
theorem PDs.nil (w : World) (base : Nat) (l : List S28) : PDs w base [] l := ⟨Nat.zero_le _, fun j r h => by simp at h⟩
theorem PDs.below {w w' : World} {base : Nat} {rs : List Nat} {l : List S28} (h : PDs w base rs l) (hb : Below w.heap.size w w') : PDs w' base rs l := ⟨h.1, fun j r hj => (h.2 j r hj).below hb⟩
theorem PDs.grown {w w' : World} {base : Nat} {rs : List Nat} {l : List S28} {v : Value} {xs : List Nat} {b : Nat} {ok : Nat → Prop} (h : PDs w base rs l) (hv : kD.R 64 w b ok v xs) (hg : w.grownBy w' v.ownBlock) : PDs w' base rs l := ⟨h.1, fun j r hj => (h.2 j r hj).grown hv hg⟩
theorem PDs.snoc {w : World} {base : Nat} {rs : List Nat} {l : List S28} {r : Nat} (h : PDs w base rs l) (hl : rs.length < l.length) (hr : PD w base r (PFnJoinBits.rd_T28 l (rs.length : Int))) : PDs w base (rs ++ [r]) l := by
  refine ⟨by rw [List.length_append, List.length_singleton]; omega, fun j x hj => ?_⟩
  by_cases e : j < rs.length
  · rw [List.getElem?_append_left e] at hj
    exact h.2 j x hj
  · rw [List.getElem?_append_right (by omega)] at hj
    have e2 : j - rs.length = 0 := by
      rcases Nat.eq_zero_or_pos (j - rs.length) with e3 | e3
      · exact e3
      · rw [List.getElem?_eq_none (by simp; omega)] at hj; cases hj
    rw [e2] at hj
    simp at hj
    subst hj
    rw [show j = rs.length by omega]
    exact hr
theorem info64 : (Tryd.prog.info? 64).map (fun i => (i.zero, i.size, i.bytes)) = some (some .nilIface, 1, 16) := by kernel_rfl
theorem copied_is {l : List Int} (A : Option Addr) (c : Nat) (w : World) (hC : Cu w A l) (hc : l.length ≤ c) (hl : l.length < 2200000000) : Calls Tryd.prog 13 #[.slice A l.length c] w fun e w' => ∃ v0 : Value, e = .returned v0 ∧ Kd.R (Kd.int .u8) 5 w' w.heap.size (fun _ => True) v0 l ∧ Below w.heap.size w w' := by
  refine PFnJoinBits.impl_copied.calls A c l l w hC hc ?_
  unfold PFnJoinBits.impl_copied.f
  simp only [Option.bind_some, List.length_nil, Nat.zero_add, List.nil_append]
  rw [if_pos (by omega)]
end Go.Proofs.YtoceclgljmdkeaaDoor.QR
/- partsOf. -/
namespace Go.Proofs.YtoceclgljmdkeaaDoor.QR
open Go.RowKit Go.Proofs.YtoceclgljmdkeaaDoorW.PrintWords Go.Proofs.YtoceclgljmdkeaaDoorW.PrintLast Go.Proofs.YtoceclgljmdkeaaDoorW.PrintMore
set_option linter.unusedVariables false
set_option linter.unusedSimpArgs false
theorem al3 (w : World) (a b : Obj) (cs : Array Value) (t : TypeId) : (((w.alloc a).alloc b).alloc (.cells cs t)).heap[w.heap.size + 2]? = some (.cells cs t (0, 0)) := by
  have := blk_new ((w.alloc a).alloc b) (.cells cs t)
  rw [World.size_alloc, World.size_alloc] at this
  exact this
theorem al1 (w : World) (cs : Array Value) (t : TypeId) (b c : Obj) : (((w.alloc (.cells cs t)).alloc b).alloc c).heap[w.heap.size]? = some (.cells cs t (0, 0)) := blk_alloc (blk_alloc (blk_new w _) _) _
theorem be3 (w : World) (a b c : Obj) : Below w.heap.size w (((w.alloc a).alloc b).alloc c) := below_alloc (below_alloc (below_alloc (Below.refl _ _) _) _) _
theorem sz3 (w : World) (a b c : Obj) : (((w.alloc a).alloc b).alloc c).heap.size = w.heap.size + 3 := by rw [World.size_alloc, World.size_alloc, World.size_alloc]
set_option maxHeartbeats 8000000 in
set_option maxRecDepth 100000 in
theorem po_is {l : List S28} (A0 : Option Addr) (c0 : Nat) (w : World) (hC : Kd.C k28 w A0 l.length l) (hc : l.length ≤ c0) (hl : l.length < 1000) (hd : ∀ p ∈ l, p.f1.length < 2200000000 ∧ bytesOk p.f1 = true) :
    Calls Tryd.prog 12 #[.slice A0 l.length c0] w fun e w' => ∃ (v : Value) (rs : List Nat), e = .returned v ∧ rs.length = l.length ∧ kD.R 64 w' w.heap.size (fun _ => True) v rs ∧ PDs w' w.heap.size rs l ∧ Below w.heap.size w w' := by
  have QC := Aside0.mk (And.intro hC hd)
  have hll := hl
  clear hC hd
  obtain ⟨N, hN⟩ : ∃ N, N = l.length := ⟨_, rfl⟩
  rw [← hN]
  have QN := Aside0.mk hN
  rw [← hN] at hc hl hll
  clear hN
  go_enter Tryd.func12, Tryd.ntmps12
  go_wp2
  go_loopg [3, 9] N (fun kq v3 v9 w' => ∃ (i : Nat) (rs : List Nat), v9 = .int .i64 (i : Int) ∧ Aside0 (i + kq = N) ∧ Aside0 (rs.length = i ∧ kD.R 64 w' w.heap.size (fun _ => True) v3 rs ∧ PDs w' w.heap.size rs l ∧ Below w.heap.size w w'))
  case atStart => exact ⟨0, [], rfl, ⟨by omega⟩, ⟨rfl, Kd.R_nil _ _ _ _ _, PDs.nil _ _ _, Below.refl _ _⟩⟩
  case round =>
    obtain ⟨i, rs, rfl, HA, HR⟩ := hrel
    rcases Nat.eq_zero_or_pos gk with h0 | h0
    · obtain rfl : i = N := by have := HA.out; omega
      go_wp2
      go_ret
      exact ⟨u3, rs, rfl, HR.out.1, HR.out.2.1, HR.out.2.2.1, HR.out.2.2.2⟩
    · have hi : (i : Int) < (N : Int) := by have := HA.out; omega
      have hiN : i < N := by omega
      obtain ⟨k1, rfl⟩ : ∃ k1, gk = k1 + 1 := ⟨gk - 1, by omega⟩
      have hCw := Kd.C_below QC.out.1 HR.out.2.2.2
      obtain ⟨ad, A1, c1, rfl, p0, p1, p2, p3, p4, p5⟩ := PFnJoinBits.at_T28 hCw (i : Int) (by omega) (by have := QN.out; omega)
      rw [Int.toNat_natCast] at p0 p1 p2 p3
      obtain ⟨p, hp⟩ : ∃ p, p = PFnJoinBits.rd_T28 l (i : Int) := ⟨_, rfl⟩
      rw [← hp] at p0 p1 p2 p3 p4 p5
      have Qp := Aside0.mk hp
      have Q5 := Aside0.mk (And.intro p4 p5)
      have hpd : p.f1.length < 2200000000 ∧ bytesOk p.f1 = true := QC.out.2 p (by
        rw [hp]
        unfold PFnJoinBits.rd_T28
        rw [Int.toNat_natCast, List.getD_eq_getElem?_getD, List.getElem?_eq_getElem (by have := QN.out; omega)]
        exact List.getElem_mem _)
      have Qd := Aside0.mk hpd
      clear hp p4 p5 hpd hCw
      obtain ⟨b0, hb0⟩ : ∃ b0, b0 = p.f0 := ⟨_, rfl⟩
      rw [← hb0] at p0
      have Qb0 := Aside0.mk hb0
      clear hb0
      cases b0
      · go_wp2_with (first | (go_at_call 17; (with_reducible refine Calls.mono (nd_is (wr.heap.size + 1) (.pointer none) p.f2 p.f3 (wr.heap.size + 2) _ (al3 wr _ _ _ _) (.inl rfl)) ?_); rintro e w5 ⟨r, rfl, j1, j2, j3⟩; have j4 := (j3.block (wr.heap.size + 2) (blk_lt (al3 wr _ _ _ _))).trans (al3 wr _ _ _ _); have j5 := (be3 wr _ _ _).trans (j3.mono (be3 wr _ _ _).size); rw [sz3] at j1; have QJ := Aside0.mk (And.intro j1 (And.intro j2 (And.intro j4 j5))); have QR5 := Aside0.mk (And.intro (Kd.R_below HR.out.2.1 j5) (And.intro (HR.out.2.2.2.trans (j5.mono HR.out.2.2.2.size)) (HR.out.2.2.1.below j5))); clear j1 j2 j3 j4 j5) | ((with_reducible refine gate_builtin (b := .append) (xs := #[.tmp 19, .tmp 31]) rfl ?_); at_builtin; refine Kd.R_append kD (w0 := w) w.heap.size rfl (.tmp 19) (.tmp 31) 43 64 .nilIface 16 rfl Tryd.underlying43 info64 rfl (by decide) (by omega) u3 rs r [encD r] (fun _ => True) (fun _ => False) rfl rfl rfl (fun _ h => h.elim) (fun _ _ => trivial) QR5.out.1 QR5.out.2.1 QR5.out.2.1.size (by have := HR.out.1; omega) ?_; intro v6 w6 ho hb hg hat; have Q6 := Aside0.mk (And.intro ho (And.intro hb hg)); clear ho hb hg hat))
        go_roundg k1
        case rel => exact ⟨i + 1, rs ++ [r], rfl, ⟨by have := HA.out; omega⟩, ⟨by rw [List.length_append, HR.out.1]; rfl, Q6.out.1, (QR5.out.2.2.grown QR5.out.1 Q6.out.2.2).snoc (by have := HR.out.1; have := QN.out; omega) (by rw [HR.out.1, ← Qp.out]; exact PD.grown ⟨_, _, _, by have := QJ.out.1; have := HR.out.2.2.2.size; omega, QJ.out.2.1, by have := HR.out.2.2.2.size; omega, QJ.out.2.2.1, .inl ⟨Qb0.out.symm, rfl⟩⟩ QR5.out.1 Q6.out.2.2), Q6.out.2.1⟩⟩
        · omega
      · have hp5 := Q5.out
        go_wp2_with (first | (go_at_call 13; (with_reducible refine Calls.mono (copied_is A1 c1 _ (Kd.C_below hp5.2 (b2 wr _)) hp5.1 Qd.out.1) ?_); rintro e w2 ⟨v0, rfl, m1, m2⟩; obtain ⟨A, c, rfl, m3, m4, mA, m5⟩ := bytes_own m1 Qd.out.2; have hbk := (m2.block wr.heap.size (blk_lt (blk_new wr _))).trans (blk_new wr _); have q2 : w2.cell? ⟨wr.heap.size, 2, none⟩ = some (.int .i64 p.f2) := blk_cell hbk 2; have q3 : w2.cell? ⟨wr.heap.size, 3, none⟩ = some (.int .i64 p.f3) := blk_cell hbk 3; have q2c := fun a b c => cell?_alloc_old c (cell?_alloc_old b (cell?_alloc_old a q2)); have hlt := blk_lt hbk; have hlt2 : wr.heap.size < w2.heap.size + 2 := Nat.lt_succ_of_lt (Nat.lt_succ_of_lt hlt); have hn0 : ¬ wr.heap.size = w2.heap.size := Nat.ne_of_lt hlt; have hn1 : ¬ wr.heap.size = w2.heap.size + 1 := Nat.ne_of_lt (Nat.lt_succ_of_lt hlt); have hn2 : ¬ wr.heap.size = w2.heap.size + 2 := Nat.ne_of_lt (Nat.lt_succ_of_lt (Nat.lt_succ_of_lt hlt)); have QM := Aside0.mk (And.intro m2 (And.intro m3 (And.intro mA m5))); clear m1 m2 m3 m4 m5 mA hbk) | (go_at_call 16; (with_reducible refine Calls.mono (nbb_is A p.f1.length c w2) ?_); rintro e w3 ⟨rfl, rfl⟩) | (go_at_call 17; (with_reducible refine Calls.mono (nd_is (w2.heap.size + 1) (.pointer (some ⟨w2.heap.size, 0, none⟩)) p.f2 p.f3 (w2.heap.size + 2) _ (al3 w2 _ _ _ _) (.inr ⟨w2.heap.size, A, p.f1.length, c, rfl, al1 w2 _ _ _ _⟩)) ?_); rintro e w5 ⟨r, rfl, j1, j2, j3⟩; have j4 := (j3.block (w2.heap.size + 2) (blk_lt (al3 w2 _ _ _ _))).trans (al3 w2 _ _ _ _); have j6 := (j3.block w2.heap.size (blk_lt (al1 w2 _ _ _ _))).trans (al1 w2 _ _ _ _); have j7 := (be3 w2 _ _ _).trans (j3.mono (be3 w2 _ _ _).size); have j8 := (b2 wr (.cells #[.bool true, .slice A1 p.f1.length c1, .int .i64 p.f2, .int .i64 p.f3] 28)).trans (QM.out.1.mono (b2 wr _).size); have j5 := j8.trans (j7.mono j8.size); rw [sz3] at j1; have QJ := Aside0.mk (And.intro j1 (And.intro j2 (And.intro j4 (And.intro j6 (And.intro j7 j8.size))))); have QR5 := Aside0.mk (And.intro (Kd.R_below HR.out.2.1 j5) (And.intro (HR.out.2.2.2.trans (j5.mono HR.out.2.2.2.size)) (HR.out.2.2.1.below j5))); clear j1 j2 j3 j4 j5 j6 j7 j8) | ((with_reducible refine gate_builtin (b := .append) (xs := #[.tmp 19, .tmp 31]) rfl ?_); at_builtin; refine Kd.R_append kD (w0 := w) w.heap.size rfl (.tmp 19) (.tmp 31) 43 64 .nilIface 16 rfl Tryd.underlying43 info64 rfl (by decide) (by omega) u3 rs r [encD r] (fun _ => True) (fun _ => False) rfl rfl rfl (fun _ h => h.elim) (fun _ _ => trivial) QR5.out.1 QR5.out.2.1 QR5.out.2.1.size (by have := HR.out.1; omega) ?_; intro v6 w6 ho hb hg hat; have Q6 := Aside0.mk (And.intro ho (And.intro hb hg)); clear ho hb hg hat))
        have hsz : w.heap.size ≤ w2.heap.size := Nat.le_trans HR.out.2.2.2.size QJ.out.2.2.2.2.2
        have hby : BY w5 w.heap.size p.f1 A c := ⟨QM.out.2.1, QM.out.2.2.1, fun hp => by
          obtain ⟨gs, us, e, n1, n2, n3, n4, n5⟩ := QM.out.2.2.2 hp
          exact ⟨gs, us, e, by have := HR.out.2.2.2.size; rw [World.size_alloc] at n1; omega, (QJ.out.2.2.2.2.1.block gs (blk_lt n2)).trans n2, n4, n5⟩⟩
        go_roundg k1
        case rel => exact ⟨i + 1, rs ++ [r], rfl, ⟨by have := HA.out; omega⟩, ⟨by rw [List.length_append, HR.out.1]; rfl, Q6.out.1, (QR5.out.2.2.grown QR5.out.1 Q6.out.2.2).snoc (by have := HR.out.1; have := QN.out; omega) (by rw [HR.out.1, ← Qp.out]; exact PD.grown ⟨_, _, _, by have := QJ.out.1; omega, QJ.out.2.1, by omega, QJ.out.2.2.1, .inr ⟨Qb0.out.symm, w2.heap.size, A, c, rfl, hsz, QJ.out.2.2.2.1, hby⟩⟩ QR5.out.1 Q6.out.2.2), Q6.out.2.1⟩⟩
        · omega
end Go.Proofs.YtoceclgljmdkeaaDoor.QR
/- The buffer that grows. -/
namespace Go.Proofs.YtoceclgljmdkeaaDoor.QR
open Go.RowKit Go.Proofs.YtoceclgljmdkeaaDoorW.PrintWords Go.Proofs.YtoceclgljmdkeaaDoorW.PrintLast Go.Proofs.YtoceclgljmdkeaaDoorW.PrintMore
set_option linter.unusedVariables false
set_option linter.unusedSimpArgs false
/-- A buffer that an allocator serves: its record. -/
def rbC (A : Option Addr) (n c len : Nat) : Array Value := #[.int .i64 1, .slice A n c, .int .i64 (len : Int), .bool true, .iface 46 (.agg #[]), .pointer none]
theorem rb_cells {V : World} {A : Option Addr} {n c len g : Nat} (h : V.heap[g]? = some (.cells (rbC A n c len) 62 (0, 0))) : V.cell? ⟨g, 1, none⟩ = some (.slice A n c) ∧ V.cell? ⟨g, 2, none⟩ = some (.int .i64 (len : Int)) ∧ V.cell? ⟨g, 4, none⟩ = some (.iface 46 (.agg #[])) ∧ (∀ k, V.frozen? ⟨g, k, none⟩ = false) := ⟨blk_cell h 1, blk_cell h 2, blk_cell h 4, fun k => blk_frozen h k⟩
def up64 (n : Nat) : Nat := (n + 63) / 64 * 64
theorem up_all : ∀ n : Fin 1300, PFnJoinBits.memory_roundUpToMultipleOf64.f ((n.1 : Nat) : Int) = some ((up64 n.1 : Nat) : Int) := by decide +kernel
theorem up_is (n : Nat) (hn : n < 1300) (w : World) : Calls Tryd.prog 37 #[.int .i64 (n : Int)] w fun e w' => e = .returned (.int .i64 (up64 n : Int)) ∧ Below w.heap.size w w' := (PFnJoinBits.memory_roundUpToMultipleOf64.calls (n : Int) _ w (up_all ⟨n, hn⟩)).mono (by rintro e w' ⟨rfl, ⟨k, rfl⟩⟩; exact ⟨rfl, pw_below_drewN (Below.refl _ w) k⟩)
set_option maxHeartbeats 8000000 in
set_option maxRecDepth 100000 in
theorem nrb_is (w : World) : Calls Tryd.prog 20 #[.iface 46 (.agg #[])] w fun e w' => ∃ r, e = .returned (.pointer (some ⟨r, 0, none⟩)) ∧ w.heap.size ≤ r ∧ w'.heap[r]? = some (.cells (rbC none 0 0 0) 62 (0, 0)) ∧ Below w.heap.size w w' := by
  have QA := Aside0.mk (add_is w.heap.size 0 0 1 (w.alloc (.cells #[.int .i64 0, .slice none 0 0, .int .i64 0, .bool true, .iface 46 (.agg #[]), .pointer none] 62)) (blk_cell (blk_new w _) 0) (blk_frozen (blk_new w _) 0) ⟨by omega, by omega⟩)
  go_enter Tryd.func20, Tryd.ntmps20
  go_wp2_with (go_at_call 28; (with_reducible refine Calls.mono QA.out ?_); rintro e w6 ⟨rfl, rfl⟩)
  go_ret
  exact ⟨w.heap.size, rfl, Nat.le_refl _, blk_new w _, b2 w _⟩
theorem made_is (z : Value) (n : Nat) : madeCells #[z] n = (List.replicate n z).toArray := by
  rw [← Array.toList_inj]
  apply List.ext_getElem
  · simp [madeCells]
  · intro i h1 h2
    simp [madeCells, Nat.mod_one]
theorem info5z : (Tryd.prog.info? 5).map (fun i => (i.zero, i.size, i.bytes)) = some (some (.int .u8 0), 1, 1) := by kernel_rfl
theorem make_is (n : Nat) (hn : n ≤ 1000000) (w : World) : (Instr.makeSlice 24 (.int .i64 (n : Int)) (.int .i64 (n : Int))).run Tryd.prog w = .ok (.slice (some ⟨w.heap.size, 0, none⟩) n n) (w.alloc (.cells (List.replicate n (.int .u8 0)).toArray 5)) := by
  obtain ⟨i, hi, hzz⟩ := Option.map_eq_some_iff.1 info5z
  simp only [Prod.mk.injEq] at hzz
  obtain ⟨hz, hs, hb⟩ := hzz
  have hr := run_make (P := Tryd.prog) w 24 5 i _ Tryd.underlying24 hi hz .i64 .i64 n n (by omega) (Int.le_refl _) (by rw [hb]; omega) (by omega)
  rw [Int.toNat_natCast, hs] at hr
  rw [hr, ← made_is]
  simp [Nat.mul_one]
  rfl
set_option maxHeartbeats 8000000 in
set_option maxRecDepth 100000 in
theorem alloc_is (n : Nat) (hn : n ≤ 1000000) (w : World) : Calls Tryd.prog 78 #[.agg #[], .int .i64 (n : Int)] w fun e w' => ∃ g, e = .returned (.slice (some ⟨g, 0, none⟩) n n) ∧ w.heap.size ≤ g ∧ w'.heap[g]? = some (.cells (List.replicate n (.int .u8 0)).toArray 5 (0, 0)) ∧ Below w.heap.size w w' := by
  have mk := make_is n hn (w.alloc (.cells #[] 46))
  rw [World.size_alloc] at mk
  obtain ⟨Z, hZ⟩ : ∃ Z, Z = List.replicate n (Value.int .u8 0) := ⟨_, rfl⟩
  rw [← hZ] at mk ⊢
  have QZ := Aside0.mk hZ
  clear hZ
  go_enter Tryd.func78, Tryd.ntmps78
  go_wp2
  go_ret
  refine ⟨_, rfl, by omega, ?_, b3 w _ _⟩
  have := blk_new (w.alloc (.cells #[] 46)) (.cells Z.toArray 5)
  rw [World.size_alloc] at this
  exact this
end Go.Proofs.YtoceclgljmdkeaaDoor.QR
