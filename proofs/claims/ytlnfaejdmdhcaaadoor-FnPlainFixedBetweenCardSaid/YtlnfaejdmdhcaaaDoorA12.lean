/- As many texts as bits are set, with nulls between them: impl.PlainTextBetween. -/
import Derived.Test.YtlnfaejdmdhcaaaDoorA11
import Derived.Defers
import Derived.Recover
import Derived.Laws.Pointers
import Derived.Laws.Panics
namespace Go.Proofs.YtlnfaejdmdhcaaaDoor.QR
open Go.RowKit Go.Proofs.YtlnfaejdmdhcaaaDoorW.PrintWords Go.Proofs.YtlnfaejdmdhcaaaDoorW.PrintLast Go.Proofs.YtlnfaejdmdhcaaaDoorW.PrintMore
set_option linter.unusedVariables false
set_option linter.unusedSimpArgs false
/-- Nothing panics. -/
def NoP (Q : Exit → Act → World → Prop) : Exit → Act → World → Prop
  | .panic _, _, _ => False
  | e, a, w => Q e a w
theorem wp_noP {P : Program} {c : Code} {Q : Exit → Act → World → Prop} {a : Act} {w : World} (h : c.wp P (NoP Q) a w) : c.wp P Q a w :=
  wp_mono h (fun e a w h => by
    cases e with
    | panic c => exact absurd h (fun h => h)
    | normal => exact h
    | exit i => exact h
    | goto l => exact h
    | ret => exact h
    | outgrown => exact h)
theorem noP_normal {Q : Exit → Act → World → Prop} {a : Act} {w : World} (h : Q .normal a w) : NoP Q .normal a w := h
theorem idle (p q : Addr) (w : World) :
    CallsD Tryd.prog 14 #[.pointer (some p), .pointer (some q)] .returning w fun e u' w' => e = .returned (.tuple #[]) ∧ u' = .returning ∧ w' = w := by
  refine callsD_of_wpS Tryd.func14 rfl fun c₀ cs hu => ?_
  apply wpS_seq
  apply wpS_region
  simp [wpOpsS, go_sem, recoverD, hu, Tryd.ntmps14, Exit.thenS]
  refine wpS_cond (t := false) (by simp [Act.eval, Array.replicate]) ?_
  simp only [Bool.false_eq_true, if_false]
  refine wpS_of_wp (wp_skip ?_)
  cases c₀
  simp_all [bodyPostS, results, Tryd.results14]
theorem kVC_keep {w w' : World} {A : Option Addr} {n : Nat} {xs : List TV} (h : Kd.C kV w A n xs) (hk : ∀ ad, A = some ad → w'.heap[ad.block]? = w.heap[ad.block]?) : Kd.C kV w' A n xs := by
  refine ⟨h.1, h.2.1, fun hn => ?_⟩
  obtain ⟨ad, e, hc⟩ := h.2.2 hn
  refine ⟨ad, e, fun j p hj => ?_⟩
  obtain ⟨c, h1, h2, h3⟩ := hc j p hj
  refine ⟨c, h1, h2, fun i u hu => ?_⟩
  have := h3 i u hu
  unfold World.cell? at this ⊢
  rw [add_block, hk ad e, ← add_block ad (j * kV.sz + i)]
  exact this
theorem plAll_4 : ∀ xs : List TV, plAll 4 xs = encs (textsL xs)
  | [] => rfl
  | x :: r => by simp only [plAll, textsL, List.map_cons, encs]; rw [plAll_4 r]; simp [plainT, textsL]
theorem plAll_15 : ∀ xs : List TV, plAll 15 xs = flat (textsL xs)
  | [] => rfl
  | x :: r => by simp only [plAll, textsL, List.map_cons, flat]; rw [plAll_15 r]; simp [plainT, textsL]
theorem Bm.fr {w w' : World} {g : Nat} (h : Bm w) (hF : Fr w w' g g) (hg : 0 < g) : Bm w' := by
  refine ⟨Nat.lt_of_lt_of_le h.1 hF.size, fun k hk => ?_⟩
  have h2 := h.2 k hk
  unfold World.cell? at h2 ⊢
  rw [show (⟨0, k, none⟩ : Addr).block = 0 from rfl] at h2 ⊢
  rw [hF.far 0 h.1 (by omega) (by omega)]
  exact h2
set_option maxHeartbeats 8000000 in
set_option maxRecDepth 100000 in
theorem ptb_is (A : Option Addr) (c n : Nat) (xs : List TV) (B : Option Addr) (bl : List Int) (cb f : Nat) (w : World) (hC : Cu w A (encs (textsL xs))) (hc : (encs (textsL xs)).length ≤ c) (hl : (encs (textsL xs)).length ≤ 1000000) (hbe : bytesOk (encs (textsL xs)) = true)
    (hCb : Cu w B bl) (hcb : bl.length ≤ cb) (hbo : bytesOk bl = true) (hll : bl.length ≤ 1000000) (hfl : f + n ≤ 8 * bl.length) (hn : n ≤ 500) (hf : f ≤ 1000) (hrk : rk (bt1 bl) f n ≤ xs.length) (hx0 : ∀ x ∈ xs, x.1 = false ∧ x.2.1 = 0) (hM : Bm w) :
    Calls Tryd.prog 13 #[.slice A (encs (textsL xs)).length c, .int .i64 (n : Int), .slice B bl.length cb, .int .i64 (f : Int)] w fun e w' => ∃ A' c', e = .returned (.tuple #[.slice A' n c', .bool true]) ∧ n ≤ c' ∧ Kd.C kV w' A' n (wantL (bt1 bl) f xs n) ∧ Below w.heap.size w w' := by
  have mixed : Tryd.prog.follows .mixedOrders = true := by kernel_rfl
  obtain ⟨l, hl0⟩ : ∃ l, l = encs (textsL xs) := ⟨_, rfl⟩
  rw [← hl0] at hC hc hl hbe ⊢
  have Ql := Aside0.mk hl0
  have QN := Aside0.mk (fun w => ntd_is w)
  have QC := Aside0.mk hC
  have Qc := Aside0.mk (And.intro hc hl)
  have Qh := Aside0.mk (show bytesOk l = true ∧ Cu w B bl ∧ bl.length ≤ cb ∧ bytesOk bl = true ∧ bl.length ≤ 1000000 ∧ f + n ≤ 8 * bl.length ∧ n ≤ 500 ∧ f ≤ 1000 ∧ rk (bt1 bl) f n ≤ xs.length from ⟨hbe, hCb, hcb, hbo, hll, hfl, hn, hf, hrk⟩)
  have Qx := Aside0.mk (And.intro hx0 hM)
  clear hC hc hl hbe hl0 hCb hcb hbo hll hfl hn hf hrk hx0 hM
  go_enter_defers Tryd.func13, Tryd.ntmps13
  go_wp2_with (go_at_call 24; refine (QN.out _).mono ?_; rintro e w1 ⟨g, rfl, h1, h2, h3⟩; have H1 := Aside0.mk (And.intro h1 (And.intro h2 h3)); clear h1 h2 h3)
  obtain ⟨W0, hW0⟩ : ∃ W0, W0 = (w.alloc (.cells #[.slice none 0 0] 22)).alloc (.cells #[.bool false] 4) := ⟨_, rfl⟩
  rw [← hW0] at H1
  have hr0 : W0.heap[w.heap.size]? = some (.cells #[.slice none 0 0] 22 (0, 0)) := by rw [hW0]; exact blk_alloc (blk_new w _) _
  have hr1 : W0.heap[w.heap.size + 1]? = some (.cells #[.bool false] 4 (0, 0)) := by rw [hW0]; have := blk_new (w.alloc (.cells #[.slice none 0 0] 22)) (.cells #[.bool false] 4); rw [World.size_alloc] at this; exact this
  have hw0 : Below w.heap.size w W0 := by rw [hW0]; exact b3 w _ _
  have hs0 : W0.heap.size = w.heap.size + 2 := by rw [hW0, World.size_alloc, World.size_alloc]
  clear hW0
  have QW := Aside0.mk (show Below w.heap.size w w1 ∧ w1.heap[w.heap.size]? = some (.cells #[.slice none 0 0] 22 (0, 0)) ∧ w1.heap[w.heap.size + 1]? = some (.cells #[.bool false] 4 (0, 0)) ∧ w.heap.size + 2 ≤ g ∧ w1.heap[g]? = some (.cells #[.int .i64 0, .slice none 0 0, .int .i64 0] 66 (0, 0)) from
    ⟨hw0.trans (H1.out.2.2.mono hw0.size), (H1.out.2.2.block _ (blk_lt hr0)).trans hr0, (H1.out.2.2.block _ (blk_lt hr1)).trans hr1, by rw [← hs0]; exact H1.out.1, H1.out.2.1⟩)
  have QCD := Aside0.mk (cpd_is A l c w1.drew (show Cu w1.drew A l from Kd.C_below QC.out QW.out.1.drew) Qc.out.1 Qc.out.2)
  clear hr0 hr1 hw0 hs0 H1 QN
  refine wp_noP ?_
  first
  | go_region_with (first | (go_at_call 17; (refine QCD.out.mono ?_; rintro e w2 ⟨A2, c2, rfl, hc2, hC2, hB2⟩; have K2 := Aside0.mk (show l.length ≤ c2 ∧ Cu w2 A2 l ∧ Below w1.heap.size w1 w2 from ⟨hc2, hC2, ⟨hB2.os, hB2.tape, hB2.output, hB2.size, hB2.block⟩⟩); clear hc2 hC2 hB2)) | (go_at_call 16; refine (setd_is g 66 (.inl rfl) 0 n A2 l.length c2 _ _ _ ((K2.out.2.2.block g (blk_lt QW.out.2.2.2.2)).trans QW.out.2.2.2.2)).mono ?_; rintro e w3 ⟨rfl, h1, h2⟩; have K3 := Aside0.mk (And.intro h1 h2); clear h1 h2))
  | fail
  refine noP_normal ?_
  go_wp2_with fail
  obtain ⟨hW1, hR0, hR1, hgg, hG⟩ := QW.out
  obtain ⟨hc2, hC2, hB2⟩ := K2.out
  obtain ⟨hG3, hF3⟩ := K3.out
  have hw2 := hW1.trans (hB2.mono hW1.size)
  have hG2 := (hB2.block g (blk_lt hG)).trans hG
  have hw0 : 0 < w.heap.size := Qx.out.2.1
  have nb2 : ∀ u ∈ (#[.int .i64 0, .slice none 0 0, .int .i64 0] : Array Value), ∀ x, u ≠ .int .u8 x := by intro u hu x e; subst e; simp at hu
  have hC3 : Cu w3 A2 l := hC2.fr hF3 hG2 nb2 hG2 nb2
  have hCb3 : Cu w3 B bl := Cu.fr hF3 (Kd.C_below Qh.out.2.1 hw2) hG2 nb2 hG2 nb2
  have hD3 : Dc w3 g 66 n 0 (encs (textsL xs)) := by rw [← Ql.out]; exact ⟨A2, c2, hG3, hc2, hC3⟩
  have hM3 : Bm w3 := (Qx.out.2.below hw2 hw0).fr hF3 (by omega)
  have hAP := apt_is g n n 0 (encs (textsL xs)) xs B bl cb f w3 hD3 (by omega) (fun bk vs w5 hb hne hsl hD5 hnv => dec_is g bk (rk (bt1 bl) f n) n n 0 (textsL xs) vs w5 hb hne hsl hD5 (Nat.le_trans (rk_le _ _ _) hnv) (rk_le _ _ _) (by unfold textsL; rw [List.length_map]; exact Qh.out.2.2.2.2.2.2.2.2) (rk_le _ _ _) (by have := rk_le (bt1 bl) f n; have := Qh.out; omega) (by have := Qh.out; omega) (by rw [← Ql.out]; exact Qc.out.2) (by rw [← Ql.out]; exact Qh.out.1))
    hCb3 Qh.out.2.2.1 Qh.out.2.2.2.1 Qh.out.2.2.2.2.1 Qh.out.2.2.2.2.2.1 Qh.out.2.2.2.2.2.2.1 Qh.out.2.2.2.2.2.2.2.1 Qh.out.2.2.2.2.2.2.2.2 Qx.out.1 hM3
  refine hAP.mono ?_
  rintro e w4 ⟨_, A', c', rfl, rfl, hc', hK, hba, hF4⟩
  have hr0 : w4.heap[w.heap.size]? = some (.cells #[.slice none 0 0] 22 (0, 0)) := by
    have h2 := (hB2.block _ (blk_lt hR0)).trans hR0
    have h3 := (hF3.far _ (blk_lt h2) (by omega) (by omega)).trans h2
    exact (hF4.far _ (blk_lt h3) (by omega) (by omega)).trans h3
  have hr1 : w4.heap[w.heap.size + 1]? = some (.cells #[.bool false] 4 (0, 0)) := by
    have h2 := (hB2.block _ (blk_lt hR1)).trans hR1
    have h3 := (hF3.far _ (blk_lt h2) (by omega) (by omega)).trans h2
    exact (hF4.far _ (blk_lt h3) (by omega) (by omega)).trans h3
  have hBe : Below w.heap.size w w4 := ⟨(hF4.os.trans hF3.os).trans hw2.os, (hF4.tape.trans hF3.tape).trans hw2.tape, (hF4.output.trans hF3.output).trans hw2.output, Nat.le_trans hw2.size (Nat.le_trans hF3.size hF4.size), fun k hk => ((hF4.far k (Nat.lt_of_lt_of_le hk (Nat.le_trans hw2.size hF3.size)) (by omega) (by omega)).trans (hF3.far k (Nat.lt_of_lt_of_le hk hw2.size) (by omega) (by omega))).trans (hw2.block k hk)⟩
  have hge : ∀ ad, A' = some ad → w.heap.size + 2 ≤ ad.block := fun ad hA => Nat.le_trans (by have := blk_lt hG3; omega) (hba ad hA)
  have g1 := (blk_cell hr0 0).trans rfl
  have g2 := (blk_cell hr1 0).trans rfl
  have g3 := blk_frozen hr0 0
  have g4 := blk_frozen hr1 0
  have K5 := Aside0.mk (And.intro hc' (And.intro hK (And.intro hBe hge)))
  clear hW1 hR0 hR1 hgg hG hc2 hC2 hB2 hG3 hF3 hw2 hG2 hw0 nb2 hC3 hCb3 hD3 hM3 hAP hc' hK hba hF4 hr0 hr1 hBe hge QW K2 K3 QCD QC Qx Qh Qc Ql
  go_wp2
  refine leaves_cons (f := 14) (args := #[.pointer (some ⟨w.heap.size, 0, none⟩), .pointer (some ⟨w.heap.size + 1, 0, none⟩)]) (by simp) (by simp [go_sem]) ?_
  refine (idle ⟨w.heap.size, 0, none⟩ ⟨w.heap.size + 1, 0, none⟩ _).mono ?_
  rintro e u' w'' ⟨rfl, rfl, rfl⟩
  have q1 : ((w4.setCell ⟨w.heap.size, 0, none⟩ (.slice A' n c')).setCell ⟨w.heap.size + 1, 0, none⟩ (.bool true)).cell? ⟨w.heap.size, 0, none⟩ = some (.slice A' n c') := by simp [go_sem, g1]
  have q2 : ((w4.setCell ⟨w.heap.size, 0, none⟩ (.slice A' n c')).setCell ⟨w.heap.size + 1, 0, none⟩ (.bool true)).cell? ⟨w.heap.size + 1, 0, none⟩ = some (.bool true) := by simp [go_sem, g2]
  refine ⟨_, by simp [results, Tryd.results13, go_sem, q1, q2]; rfl, ?_⟩
  refine ⟨A', c', rfl, K5.out.1, kVC_keep K5.out.2.1 (fun ad hA => ?_), (K5.out.2.2.1.setCell (Nat.le_refl _) _).setCell (by simp) _⟩
  have := K5.out.2.2.2 ad hA
  rw [Below.heap_setCell _ _ _ _ (by simp; omega), Below.heap_setCell _ _ _ _ (by simp; omega)]
end Go.Proofs.YtlnfaejdmdhcaaaDoor.QR
/- As many texts of one length as bits are set, with nulls between them: impl.PlainFixedBetween. -/
namespace Go.Proofs.YtlnfaejdmdhcaaaDoor.QR
open Go.RowKit Go.Proofs.YtlnfaejdmdhcaaaDoorW.PrintWords Go.Proofs.YtlnfaejdmdhcaaaDoorW.PrintLast Go.Proofs.YtlnfaejdmdhcaaaDoorW.PrintMore
set_option linter.unusedVariables false
set_option linter.unusedSimpArgs false
set_option maxHeartbeats 8000000 in
set_option maxRecDepth 100000 in
theorem pfb_is (t : Nat) (A : Option Addr) (c n : Nat) (xs : List TV) (B : Option Addr) (bl : List Int) (cb f : Nat) (w : World) (hC : Cu w A (flat (textsL xs))) (hc : (flat (textsL xs)).length ≤ c) (hl : (flat (textsL xs)).length ≤ 1000000) (ht0 : 0 < t) (ht1 : t ≤ 40) (hts : ∀ u ∈ textsL xs, u.length = t)
    (hCb : Cu w B bl) (hcb : bl.length ≤ cb) (hbo : bytesOk bl = true) (hll : bl.length ≤ 1000000) (hfl : f + n ≤ 8 * bl.length) (hn : n ≤ 500) (hf : f ≤ 1000) (hrk : rk (bt1 bl) f n ≤ xs.length) (hx0 : ∀ x ∈ xs, x.1 = false ∧ x.2.1 = 0) (hM : Bm w) :
    Calls Tryd.prog 5 #[.int .i64 (t : Int), .slice A (flat (textsL xs)).length c, .int .i64 (n : Int), .slice B bl.length cb, .int .i64 (f : Int)] w fun e w' => ∃ A' c', e = .returned (.tuple #[.slice A' n c', .bool true]) ∧ n ≤ c' ∧ Kd.C kV w' A' n (wantL (bt1 bl) f xs n) ∧ Below w.heap.size w w' := by
  have mixed : Tryd.prog.follows .mixedOrders = true := by kernel_rfl
  obtain ⟨l, hl0⟩ : ∃ l, l = flat (textsL xs) := ⟨_, rfl⟩
  rw [← hl0] at hC hc hl ⊢
  have Ql := Aside0.mk hl0
  have QN := Aside0.mk (fun w => nfd_is t w)
  have QC := Aside0.mk hC
  have Qc := Aside0.mk (And.intro hc hl)
  have Qh := Aside0.mk (show (0 < t ∧ t ≤ 40 ∧ ∀ u ∈ textsL xs, u.length = t) ∧ Cu w B bl ∧ bl.length ≤ cb ∧ bytesOk bl = true ∧ bl.length ≤ 1000000 ∧ f + n ≤ 8 * bl.length ∧ n ≤ 500 ∧ f ≤ 1000 ∧ rk (bt1 bl) f n ≤ xs.length from ⟨⟨ht0, ht1, hts⟩, hCb, hcb, hbo, hll, hfl, hn, hf, hrk⟩)
  have Qx := Aside0.mk (And.intro hx0 hM)
  clear hC hc hl ht0 ht1 hts hl0 hCb hcb hbo hll hfl hn hf hrk hx0 hM
  go_enter_defers Tryd.func5, Tryd.ntmps5
  go_wp2_with (go_at_call 15; refine (QN.out _).mono ?_; rintro e w1 ⟨g, rfl, h1, h2, h3⟩; have H1 := Aside0.mk (And.intro h1 (And.intro h2 h3)); clear h1 h2 h3)
  obtain ⟨W0, hW0⟩ : ∃ W0, W0 = (w.alloc (.cells #[.slice none 0 0] 22)).alloc (.cells #[.bool false] 4) := ⟨_, rfl⟩
  rw [← hW0] at H1
  have hr0 : W0.heap[w.heap.size]? = some (.cells #[.slice none 0 0] 22 (0, 0)) := by rw [hW0]; exact blk_alloc (blk_new w _) _
  have hr1 : W0.heap[w.heap.size + 1]? = some (.cells #[.bool false] 4 (0, 0)) := by rw [hW0]; have := blk_new (w.alloc (.cells #[.slice none 0 0] 22)) (.cells #[.bool false] 4); rw [World.size_alloc] at this; exact this
  have hw0 : Below w.heap.size w W0 := by rw [hW0]; exact b3 w _ _
  have hs0 : W0.heap.size = w.heap.size + 2 := by rw [hW0, World.size_alloc, World.size_alloc]
  clear hW0
  have QW := Aside0.mk (show Below w.heap.size w w1 ∧ w1.heap[w.heap.size]? = some (.cells #[.slice none 0 0] 22 (0, 0)) ∧ w1.heap[w.heap.size + 1]? = some (.cells #[.bool false] 4 (0, 0)) ∧ w.heap.size + 2 ≤ g ∧ w1.heap[g]? = some (.cells #[.int .i64 0, .slice none 0 0, .int .i64 (t : Int)] 56 (0, 0)) from
    ⟨hw0.trans (H1.out.2.2.mono hw0.size), (H1.out.2.2.block _ (blk_lt hr0)).trans hr0, (H1.out.2.2.block _ (blk_lt hr1)).trans hr1, by rw [← hs0]; exact H1.out.1, H1.out.2.1⟩)
  have QCD := Aside0.mk (cpd_is A l c w1.drew (show Cu w1.drew A l from Kd.C_below QC.out QW.out.1.drew) Qc.out.1 Qc.out.2)
  clear hr0 hr1 hw0 hs0 H1 QN
  refine wp_noP ?_
  first
  | go_region_with (first | (go_at_call 17; (refine QCD.out.mono ?_; rintro e w2 ⟨A2, c2, rfl, hc2, hC2, hB2⟩; have K2 := Aside0.mk (show l.length ≤ c2 ∧ Cu w2 A2 l ∧ Below w1.heap.size w1 w2 from ⟨hc2, hC2, ⟨hB2.os, hB2.tape, hB2.output, hB2.size, hB2.block⟩⟩); clear hc2 hC2 hB2)) | (go_at_call 16; refine (setd_is g 56 (.inr rfl) (t : Int) n A2 l.length c2 _ _ _ ((K2.out.2.2.block g (blk_lt QW.out.2.2.2.2)).trans QW.out.2.2.2.2)).mono ?_; rintro e w3 ⟨rfl, h1, h2⟩; have K3 := Aside0.mk (And.intro h1 h2); clear h1 h2))
  | fail
  refine noP_normal ?_
  go_wp2_with fail
  obtain ⟨hW1, hR0, hR1, hgg, hG⟩ := QW.out
  obtain ⟨hc2, hC2, hB2⟩ := K2.out
  obtain ⟨hG3, hF3⟩ := K3.out
  have hw2 := hW1.trans (hB2.mono hW1.size)
  have hG2 := (hB2.block g (blk_lt hG)).trans hG
  have hw0 : 0 < w.heap.size := Qx.out.2.1
  have nb2 : ∀ u ∈ (#[.int .i64 0, .slice none 0 0, .int .i64 (t : Int)] : Array Value), ∀ x, u ≠ .int .u8 x := by intro u hu x e; subst e; simp at hu
  have hC3 : Cu w3 A2 l := hC2.fr hF3 hG2 nb2 hG2 nb2
  have hCb3 : Cu w3 B bl := Cu.fr hF3 (Kd.C_below Qh.out.2.1 hw2) hG2 nb2 hG2 nb2
  have hD3 : Dc w3 g 56 n (t : Int) (flat (textsL xs)) := by rw [← Ql.out]; exact ⟨A2, c2, hG3, hc2, hC3⟩
  have hM3 : Bm w3 := (Qx.out.2.below hw2 hw0).fr hF3 (by omega)
  have hAP := aptf_is g n n (t : Int) (flat (textsL xs)) xs B bl cb f w3 hD3 (by omega) (fun bk vs w5 hb hne hsl hD5 hnv => decf_is g bk (rk (bt1 bl) f n) n n t (textsL xs) vs w5 hb hne hsl hD5 (Nat.le_trans (rk_le _ _ _) hnv) (rk_le _ _ _) (by unfold textsL; rw [List.length_map]; exact Qh.out.2.2.2.2.2.2.2.2) (rk_le _ _ _) (by have := rk_le (bt1 bl) f n; have := Qh.out; omega) (by have := Qh.out; omega) (by rw [← Ql.out]; exact Qc.out.2) (by have := Qh.out.1.2.1; omega) Qh.out.1.2.2 Qh.out.1.1)
    hCb3 Qh.out.2.2.1 Qh.out.2.2.2.1 Qh.out.2.2.2.2.1 Qh.out.2.2.2.2.2.1 Qh.out.2.2.2.2.2.2.1 Qh.out.2.2.2.2.2.2.2.1 Qh.out.2.2.2.2.2.2.2.2 Qx.out.1 hM3
  refine hAP.mono ?_
  rintro e w4 ⟨_, A', c', rfl, rfl, hc', hK, hba, hF4⟩
  have hr0 : w4.heap[w.heap.size]? = some (.cells #[.slice none 0 0] 22 (0, 0)) := by
    have h2 := (hB2.block _ (blk_lt hR0)).trans hR0
    have h3 := (hF3.far _ (blk_lt h2) (by omega) (by omega)).trans h2
    exact (hF4.far _ (blk_lt h3) (by omega) (by omega)).trans h3
  have hr1 : w4.heap[w.heap.size + 1]? = some (.cells #[.bool false] 4 (0, 0)) := by
    have h2 := (hB2.block _ (blk_lt hR1)).trans hR1
    have h3 := (hF3.far _ (blk_lt h2) (by omega) (by omega)).trans h2
    exact (hF4.far _ (blk_lt h3) (by omega) (by omega)).trans h3
  have hBe : Below w.heap.size w w4 := ⟨(hF4.os.trans hF3.os).trans hw2.os, (hF4.tape.trans hF3.tape).trans hw2.tape, (hF4.output.trans hF3.output).trans hw2.output, Nat.le_trans hw2.size (Nat.le_trans hF3.size hF4.size), fun k hk => ((hF4.far k (Nat.lt_of_lt_of_le hk (Nat.le_trans hw2.size hF3.size)) (by omega) (by omega)).trans (hF3.far k (Nat.lt_of_lt_of_le hk hw2.size) (by omega) (by omega))).trans (hw2.block k hk)⟩
  have hge : ∀ ad, A' = some ad → w.heap.size + 2 ≤ ad.block := fun ad hA => Nat.le_trans (by have := blk_lt hG3; omega) (hba ad hA)
  have g1 := (blk_cell hr0 0).trans rfl
  have g2 := (blk_cell hr1 0).trans rfl
  have g3 := blk_frozen hr0 0
  have g4 := blk_frozen hr1 0
  have K5 := Aside0.mk (And.intro hc' (And.intro hK (And.intro hBe hge)))
  clear hW1 hR0 hR1 hgg hG hc2 hC2 hB2 hG3 hF3 hw2 hG2 hw0 nb2 hC3 hCb3 hD3 hM3 hAP hc' hK hba hF4 hr0 hr1 hBe hge QW K2 K3 QCD QC Qx Qh Qc Ql
  go_wp2
  refine leaves_cons (f := 14) (args := #[.pointer (some ⟨w.heap.size, 0, none⟩), .pointer (some ⟨w.heap.size + 1, 0, none⟩)]) (by simp) (by simp [go_sem]) ?_
  refine (idle ⟨w.heap.size, 0, none⟩ ⟨w.heap.size + 1, 0, none⟩ _).mono ?_
  rintro e u' w'' ⟨rfl, rfl, rfl⟩
  have q1 : ((w4.setCell ⟨w.heap.size, 0, none⟩ (.slice A' n c')).setCell ⟨w.heap.size + 1, 0, none⟩ (.bool true)).cell? ⟨w.heap.size, 0, none⟩ = some (.slice A' n c') := by simp [go_sem, g1]
  have q2 : ((w4.setCell ⟨w.heap.size, 0, none⟩ (.slice A' n c')).setCell ⟨w.heap.size + 1, 0, none⟩ (.bool true)).cell? ⟨w.heap.size + 1, 0, none⟩ = some (.bool true) := by simp [go_sem, g2]
  refine ⟨_, by simp [results, Tryd.results5, go_sem, q1, q2]; rfl, ?_⟩
  refine ⟨A', c', rfl, K5.out.1, kVC_keep K5.out.2.1 (fun ad hA => ?_), (K5.out.2.2.1.setCell (Nat.le_refl _) _).setCell (by simp) _⟩
  have := K5.out.2.2.2 ad hA
  rw [Below.heap_setCell _ _ _ _ (by simp; omega), Below.heap_setCell _ _ _ _ (by simp; omega)]
end Go.Proofs.YtlnfaejdmdhcaaaDoor.QR
/- What the laws need, plainly: values without kids; how long they are, written. -/
namespace Go.Proofs.YtlnfaejdmdhcaaaDoor.QR
open Go.RowKit Go.Proofs.YtlnfaejdmdhcaaaDoorW.PrintWords Go.Proofs.YtlnfaejdmdhcaaaDoorW.PrintLast Go.Proofs.YtlnfaejdmdhcaaaDoorW.PrintMore
set_option linter.unusedVariables false
set_option linter.unusedSimpArgs false
def convV (x : QT.S34) : TV := (x.f0, x.f1, x.f2)
theorem allT_all {k : Int} {t : Nat} {xs : List QT.S34} (h : allT k t xs = true) : xs.length ≤ 500 ∧ ∀ x ∈ xs, x.f0 = false ∧ x.f3 = [] ∧ x.f1 = 0 ∧ (if k = 4 then x.f2.size ≤ 200 else t = x.f2.size) := by
  unfold allT at h
  rw [Bool.and_eq_true] at h
  refine ⟨of_decide_eq_true h.2, fun x hx => ?_⟩
  have h1 := List.all_eq_true.1 h.1 x hx
  unfold goodV fitsT at h1
  simp only [Bool.and_eq_true, Bool.not_eq_true', decide_eq_true_eq] at h1
  refine ⟨h1.1, List.eq_nil_of_length_eq_zero h1.2.1, h1.2.2.1, ?_⟩
  have h2 := h1.2.2.2
  split at h2
  · rename_i hk; rw [if_pos hk]; exact of_decide_eq_true h2
  · rename_i hk; rw [if_neg hk]; exact of_decide_eq_true h2
theorem C_conv {w : World} {A : Option Addr} {n : Nat} {xs : List QT.S34} (h : Kd.C QT.k34 w A n xs) (hk : ∀ x ∈ xs, x.f3 = []) : Kd.C kV w A n (xs.map convV) := by
  refine ⟨by rw [List.length_map]; exact h.1, h.2.1, fun hn => ?_⟩
  obtain ⟨ad, e, hc⟩ := h.2.2 hn
  refine ⟨ad, e, fun j p hj => ?_⟩
  rw [List.getElem?_map] at hj
  obtain ⟨x, hx, rfl⟩ := Option.map_eq_some_iff.1 hj
  obtain ⟨c, h1, h2, h3⟩ := hc j x hx
  obtain ⟨A3, c3, rfl, _, _⟩ := QT.k34_open h2
  have h0 := hk x (List.mem_of_getElem? hx)
  refine ⟨_, h1, ?_, h3⟩
  rw [h0]
  exact kV_mk w (convV x) A3 c3
theorem conv_null {k : Int} {t : Nat} {xs : List QT.S34} (h : allT k t xs = true) : ∀ y ∈ xs.map convV, y.1 = false ∧ y.2.1 = 0 := by
  intro y hy
  obtain ⟨x, hx, rfl⟩ := List.mem_map.1 hy
  have := (allT_all h).2 x hx
  exact ⟨this.1, this.2.2.1⟩
theorem plAll_bound (k : Int) (m : Nat) : ∀ xs : List TV, (∀ x ∈ xs, (plainT k x.2.2).length ≤ m) → (plAll k xs).length ≤ xs.length * m
  | [], _ => by simp [plAll]
  | x :: r, h => by
    have h1 := h x (List.mem_cons_self ..)
    have h2 := plAll_bound k m r (fun y hy => h y (List.mem_cons_of_mem _ hy))
    simp only [plAll]
    rw [List.length_append, List.length_cons, Nat.add_mul, Nat.one_mul]
    omega
theorem bytesOk_app (a b : List Int) : bytesOk (a ++ b) = (bytesOk a && bytesOk b) := by simp [bytesOk]
theorem bytesOk_of (s : ByteArray) : bytesOk (bytesOf s) = true := by
  unfold bytesOk bytesOf
  rw [List.all_eq_true]
  intro x hx
  obtain ⟨b, _, rfl⟩ := List.mem_map.1 hx
  have := b.toNat_lt
  simp only [Bool.and_eq_true, decide_eq_true_eq]
  omega
theorem bytesOk_encs : ∀ xs : List TV, bytesOk (encs (textsL xs)) = true
  | [] => rfl
  | x :: r => by
    simp only [textsL, List.map_cons, encs, encT]
    rw [bytesOk_app, bytesOk_app, bytesOk_of]
    have := bytesOk_encs r
    unfold textsL at this
    rw [this]
    simp only [bytesOk, List.all_cons, List.all_nil, Bool.and_true, Bool.and_eq_true, decide_eq_true_eq]
    omega
theorem one_C {w : World} {g : Nat} {s : ByteArray} (h : w.heap[g]? = some (.cells #[.bool false, .int .u64 0, .string s, .slice none 0 0] 34 (0, 0))) : Kd.C kV w (some ⟨g, 0, none⟩) 1 [(false, 0, s)] := by
  refine ⟨rfl, by omega, fun _ => ⟨⟨g, 0, none⟩, rfl, fun j p hj => ?_⟩⟩
  have hj0 : j = 0 := by
    rcases Nat.eq_zero_or_pos j with h0 | h0
    · exact h0
    · rw [List.getElem?_eq_none (by simp; omega)] at hj; cases hj
  subst hj0
  simp only [List.getElem?_cons_zero, Option.some.injEq] at hj
  subst hj
  refine ⟨_, rfl, kV_mk w _ none 0, fun i u hu => ?_⟩
  rw [show (Addr.add ⟨g, 0, none⟩ (0 * kV.sz + i) : Addr) = ⟨g, i, none⟩ by simp [Addr.add]; intro h; exact h.symm]
  rw [blk_cell h i]
  simpa using hu
theorem byte_C {w : World} {g : Nat} {x : Int} (h : w.heap[g]? = some (.cells #[.int .u8 x] 5 (0, 0))) : Cu w (some ⟨g, 0, none⟩) [x] := by
  refine Kd.C_of_reads (d := (0 : Int)) (enc := Value.int .u8) ⟨rfl, by simp, fun _ => ⟨⟨g, 0, none⟩, rfl, fun j hj => ?_⟩⟩
  obtain rfl : j = 0 := by simp at hj; exact hj
  rw [show (Addr.add ⟨g, 0, none⟩ 0 : Addr) = ⟨g, 0, none⟩ by simp [Addr.add]]
  exact (blk_cell h 0).trans rfl
theorem want_one (x : TV) : wantL (bt1 [1]) 0 [x] 1 = [x] := by
  simp only [wantL]
  rw [if_pos (by decide)]
  rfl
/-- A row of one value, read. -/
theorem kV_one {w : World} {A : Option Addr} {x : TV} (h : Kd.C kV w A 1 [x]) : ∃ ad A3 c3, A = some ad ∧ w.cell? ad = some (.bool x.1) ∧ w.cell? ⟨ad.block, ad.off + 1, none⟩ = some (.int .u64 x.2.1) ∧ w.cell? ⟨ad.block, ad.off + 2, none⟩ = some (.string x.2.2) ∧ w.cell? ⟨ad.block, ad.off + 3, none⟩ = some (.slice A3 0 c3) := by
  obtain ⟨ad, A3, c3, e, p0, p1, p2, p3⟩ := kV_at h 0 (by omega)
  rw [show ad.add (0 * 4) = ad by simp [Addr.add]] at p0 p1 p2 p3
  exact ⟨ad, A3, c3, e, p0, p1, p2, p3⟩
end Go.Proofs.YtlnfaejdmdhcaaaDoor.QR
/- FnPlainTextBetween, the walk: whatever comes in, it answers true. -/
namespace Go.Proofs.YtlnfaejdmdhcaaaDoor.QR
open Go.RowKit Go.Proofs.YtlnfaejdmdhcaaaDoorW.PrintWords Go.Proofs.YtlnfaejdmdhcaaaDoorW.PrintLast Go.Proofs.YtlnfaejdmdhcaaaDoorW.PrintMore
set_option linter.unusedVariables false
set_option linter.unusedSimpArgs false
def sA : ByteArray := ⟨#[97]⟩
set_option maxHeartbeats 8000000 in
set_option maxRecDepth 100000 in
theorem lawt_is (A0 : Option Addr) (c0 : Nat) (l0 : List QT.S34) (n : Int) (A2 : Option Addr) (c2 : Nat) (l2 : List Int) (f : Int) (w : World) (h0 : Kd.C QT.k34 w A0 l0.length l0) (h2 : Cu w A2 l2) (hc2 : l2.length ≤ c2) (hbo : bytesOk l2 = true) (hM : Bm w) :
    Calls Tryd.prog 4 #[.slice A0 l0.length c0, .int .i64 n, .slice A2 l2.length c2, .int .i64 f] w fun e w' => e = .returned (.bool true) ∧ Below w.heap.size w w' := by
  obtain ⟨L0, hL0⟩ : ∃ L, L = l0.length := ⟨_, rfl⟩
  obtain ⟨L2, hL2⟩ : ∃ L, L = l2.length := ⟨_, rfl⟩
  rw [← hL0, ← hL2]
  have Q0 := Aside0.mk (And.intro hL0 (And.intro hL2 h0))
  have Q2 := Aside0.mk (And.intro h2 (And.intro hc2 (And.intro hbo hM)))
  clear h0 h2 hc2 hbo hM hL0 hL2
  by_cases b1 : (2147483647 : Int) < (L0 : Int)
  · have b1' := decide_eq_true b1
    have b2 : 2147483647 < L0 := by omega
    go_enter Tryd.func4, Tryd.ntmps4
    go_wp2
    go_ret
    exact ⟨rfl, Below.refl _ _⟩
  have b1' := decide_eq_false b1
  have b1n : ¬ 2147483647 < L0 := by omega
  by_cases b2 : (2147483647 : Int) < (L2 : Int)
  · have b2' := decide_eq_true b2
    have b2n : 2147483647 < L2 := by omega
    go_enter Tryd.func4, Tryd.ntmps4
    go_wp2
    go_ret
    exact ⟨rfl, Below.refl _ _⟩
  have b2' := decide_eq_false b2
  have b2n : ¬ 2147483647 < L2 := by omega
  have Qb := Aside0.mk (And.intro b1n b2n)
  go_enter Tryd.func4, Tryd.ntmps4
  go_upto_region 3 with (fail)
  clear b1 b1' b1n b2 b2' b2n
  have QP := Aside0.mk (fun (A : Option Addr) (c : Nat) (w : World) (hC : Kd.C kV w A 1 [(false, 0, sA)]) => ply_is 4 (.inl rfl) 0 A c [(false, 0, sA)] w hC (by simp) (by decide) (by simp))
  go_wp2_with fail
  refine (QP.out _ _ _ (one_C (blk_new w _))).mono ?_
  rintro e w1 ⟨A1, c1, rfl, hc1, hC1, hb1⟩
  have hB1 := (b2 w (.cells #[.bool false, .int .u64 0, .string sA, .slice none 0 0] 34)).trans (hb1.mono (b2 w _).size)
  have hw0 : 0 < w.heap.size := Q2.out.2.2.2.1
  have hM1 : Bm w1 := Q2.out.2.2.2.below hB1 hw0
  have hBn := hB1.alloc hB1.size (.cells #[.int .u8 1] 5)
  have QT1 := Aside0.mk (ptb_is A1 c1 1 [(false, 0, sA)] (some ⟨w1.heap.size, 0, none⟩) [1] 1 0 (w1.alloc (.cells #[.int .u8 1] 5)) (by rw [← plAll_4]; exact Kd.C_below hC1 (b2 w1 _)) (by rw [← plAll_4]; exact hc1) (by rw [← plAll_4]; decide) (bytesOk_encs _) (byte_C (blk_new w1 _)) (Nat.le_refl _) (by decide) (by decide) (by decide) (by omega) (by omega) (by decide) (by simp) (Q2.out.2.2.2.below hBn hw0))
  rw [← plAll_4] at QT1
  have QB1 := Aside0.mk (And.intro hBn hw0)
  clear hB1 hM1 hBn hw0 hb1 hC1 hc1 QP
  go_upto_region 4 with (go_at_call 13; refine QT1.out.mono ?_; rintro e w2 ⟨A3, c3, rfl, hc3, hC3, hb3⟩; have K2 := Aside0.mk (And.intro hC3 (QB1.out.1.trans (hb3.mono QB1.out.1.size))); clear hc3 hC3 hb3)
  have hone := K2.out.1
  rw [want_one] at hone
  obtain ⟨ad, A4, c4, e4, p0, p1, p2, p3⟩ := kV_one hone
  subst e4
  simp only at p0 p1 p2 p3
  have QS := Aside0.mk (fun w => sv_is (false, 0, sA) A4 none c4 0 w)
  unfold VA at QS
  have B2 := Aside0.mk K2.out.2
  clear hone QT1 QB1 K2
  go_upto_region 5 with (go_at_call 8; refine (QS.out _).mono ?_; rintro e w3 ⟨rfl, hb⟩; have B3 := Aside0.mk (B2.out.trans (hb.mono B2.out.size)); clear hb)
  clear p0 p1 p2 p3 QS B2
  have hw0 : 0 < w.heap.size := Q2.out.2.2.2.1
  obtain ⟨ok, hok⟩ : ∃ ok, ok = okB l2 f n := ⟨_, rfl⟩
  have QO := Aside0.mk (bof_is A2 l2 c2 f n w3 (Kd.C_below Q2.out.1 B3.out) Q2.out.2.2.1)
  rw [← hok, ← Q0.out.2.1] at QO
  have Qok := Aside0.mk (And.intro hok hw0)
  clear hok hw0
  go_upto_region 6 with (go_at_call 9; refine QO.out.mono ?_; rintro e w4 ⟨v0, rfl, hb, hh⟩; have B4 := Aside0.mk (And.intro (B3.out.trans (hb.mono B3.out.size)) hh); clear hb hh)
  clear QO B3
  cases ok
  · go_wp2
    go_ret
    exact ⟨rfl, B4.out.1⟩
  by_cases hn0 : n = 0
  · subst hn0
    go_wp2
    go_ret
    exact ⟨rfl, B4.out.1⟩
  have hn1 : (n == 0) = false := by simpa using hn0
  have QA := Aside0.mk (pal_is 4 (.inl rfl) 0 A0 c0 l0 w4 (Kd.C_below Q0.out.2.2 B4.out.1))
  obtain ⟨al, hal⟩ : ∃ al, al = allT 4 0 l0 := ⟨_, rfl⟩
  rw [← hal, ← Q0.out.1] at QA
  have Qal := Aside0.mk hal
  clear hal
  cases al
  · go_wp2_with (go_at_call 10; refine QA.out.mono ?_; rintro e w5 ⟨rfl, hb⟩; have B5 := Aside0.mk (B4.out.1.trans (hb.mono B4.out.1.size)); clear hb)
    go_ret
    exact ⟨rfl, B5.out⟩
  go_upto_region 8 with (go_at_call 10; refine QA.out.mono ?_; rintro e w5 ⟨rfl, hb⟩; have B5 := Aside0.mk (B4.out.1.trans (hb.mono B4.out.1.size)); have B45 := Aside0.mk hb; clear hb)
  have hk := of_decide_eq_true (show decide _ = true from Qok.out.1.symm)
  obtain ⟨F, rfl⟩ := Int.eq_ofNat_of_zero_le hk.1
  obtain ⟨m, rfl⟩ := Int.eq_ofNat_of_zero_le hk.2.2.1
  rw [Int.toNat_natCast, Int.toNat_natCast] at hk
  obtain ⟨A5, c5, e5, hc5, hC5⟩ := B4.out.2 trivial
  subst e5
  rw [Int.toNat_natCast, Int.toNat_natCast] at hC5
  rw [Int.toNat_natCast] at hc5
  have hall := allT_all Qal.out.symm
  obtain ⟨xs, hxs⟩ : ∃ xs, xs = l0.map convV := ⟨_, rfl⟩
  have hxl : xs.length = L0 := by rw [hxs, List.length_map, Q0.out.1]
  have hxn : ∀ y ∈ xs, y.1 = false ∧ y.2.1 = 0 := by rw [hxs]; exact conv_null Qal.out.symm
  have hCx : ∀ w', Below w.heap.size w w' → Kd.C kV w' A0 xs.length xs := fun w' hb => by
    rw [hxl, hxs, Q0.out.1]
    exact C_conv (Kd.C_below Q0.out.2.2 hb) (fun x hx => (hall.2 x hx).2.1)
  have hpl : ∀ y ∈ xs, (plainT 4 y.2.2).length ≤ 204 := by
    rw [hxs]
    intro y hy
    obtain ⟨x, hx, rfl⟩ := List.mem_map.1 hy
    have h := (hall.2 x hx).2.2.2
    rw [if_pos rfl] at h
    unfold plainT
    rw [if_pos rfl, encT_len, bytesOf_length]
    show x.f2.size + 4 ≤ 204
    omega
  have hplb := plAll_bound 4 204 xs hpl
  have hL : L0 ≤ 500 := by rw [Q0.out.1]; exact hall.1
  have hpl6 : (plAll 4 xs).length ≤ 1000000 := by
    have : xs.length * 204 ≤ 500 * 204 := Nat.mul_le_mul_right _ (by omega)
    omega
  have QBN := Aside0.mk (btn_is (bt1 l2) F A0 c0 xs A5 c5 (bitsL (bt1 l2) F m) w5 (hCx w5 B5.out) (by rw [bitsL_len]; exact Kd.C_below hC5 B45.out) (fun i hi => by rw [bitsL_len] at hi; exact bitsL_get _ _ _ _ hi) (by rw [bitsL_len]; omega) (by omega))
  rw [bitsL_len, hxl] at QBN
  obtain ⟨fit, hfit⟩ : ∃ fit, fit = decide (rk (bt1 l2) F m ≤ L0) := ⟨_, rfl⟩
  rw [← hfit] at QBN
  have Qfit := Aside0.mk hfit
  have QPL := Aside0.mk (fun w' hb => ply_is 4 (.inl rfl) 0 A0 c0 xs w' (hCx w' hb) (fun y hy => (hxn y hy).1) hpl6 (by omega))
  rw [hxl] at QPL
  have Qk := Aside0.mk (And.intro hk (And.intro hxl (And.intro hxn hpl6)))
  clear hk hc5 hC5 hall hxs hxl hxn hCx hpl hplb hL hpl6 hfit B4 B45 Qal QA hn0 hn1
  cases fit
  · go_wp2_with (go_at_call 11; refine QBN.out.mono ?_; rintro e w6 ⟨v1, rfl, hb, _⟩; have B6 := Aside0.mk (B5.out.trans (hb.mono B5.out.size)); clear hb)
    go_ret
    exact ⟨rfl, B6.out⟩
  go_upto_region 11 with (go_at_call 11; refine QBN.out.mono ?_; rintro e w6 ⟨v1, rfl, hb, hh⟩; have B6 := Aside0.mk (And.intro (B5.out.trans (hb.mono B5.out.size)) (hh (of_decide_eq_true Qfit.out.symm))); clear hb hh)
  obtain ⟨A6, c6, e6, hc6, hC6⟩ := B6.out.2
  subst e6
  have Q6 := Aside0.mk (And.intro B6.out.1 hC6)
  clear hc6 hC6 B6 B5 QBN
  go_upto_region 12 with (first | (go_at_call 6; refine (QPL.out _ Q6.out.1).mono ?_; rintro e w7 ⟨A7, c7, rfl, hc7, hC7, hb⟩; have B7 := Aside0.mk (And.intro (Q6.out.1.trans (hb.mono Q6.out.1.size)) (Kd.C_below Q6.out.2 hb)); have QPT := Aside0.mk (ptb_is A7 c7 m xs A2 l2 c2 F w7 (by rw [← plAll_4]; exact hC7) (by rw [← plAll_4]; exact hc7) (by rw [← plAll_4]; exact Qk.out.2.2.2) (bytesOk_encs _) (Kd.C_below Q2.out.1 B7.out.1) Q2.out.2.1 Q2.out.2.2.1 (by have := Qk.out.1; omega) (by have := Qk.out.1; omega) (by have := Qk.out.1; omega) (by have := Qk.out.1; omega) (by rw [Qk.out.2.1]; exact of_decide_eq_true Qfit.out.symm) Qk.out.2.2.1 (Q2.out.2.2.2.below B7.out.1 Qok.out.2)); rw [← plAll_4, ← Q0.out.2.1] at QPT; clear hc7 hC7 hb) | (go_at_call 13; refine QPT.out.mono ?_; rintro e w8 ⟨A8, c8, rfl, hc8, hC8, hb⟩; have B8 := Aside0.mk (And.intro (B7.out.1.trans (hb.mono B7.out.1.size)) (And.intro hC8 (Kd.C_below B7.out.2 hb))); clear hc8 hC8 hb))
  have QSV := Aside0.mk (svs_is A8 A6 c8 c6 (wantL (bt1 l2) F xs m) w8 (by rw [wantL_len]; exact B8.out.2.1) (by rw [wantL_len]; exact B8.out.2.2) (by rw [wantL_len]; have := Qk.out.1; omega))
  rw [wantL_len] at QSV
  go_wp2_with (go_at_call 12; refine QSV.out.mono ?_; rintro e w9 ⟨rfl, hb⟩; have B9 := Aside0.mk (B8.out.1.trans (hb.mono B8.out.1.size)); clear hb)
  go_ret
  exact ⟨rfl, B9.out⟩
end Go.Proofs.YtlnfaejdmdhcaaaDoor.QR
