/- A bit at a time, plainly; the writer's state. -/
import Derived.Test.YtjipnopadpedoaaDoorH4
namespace Go.Proofs.YtjipnopadpedoaaDoor.QR
open Go.RowKit Go.Proofs.YtjipnopadpedoaaDoorW.PrintWords Go.Proofs.YtjipnopadpedoaaDoorW.PrintLast Go.Proofs.YtjipnopadpedoaaDoorW.PrintMore
set_option linter.unusedVariables false
set_option linter.unusedSimpArgs false
/-- p bits are as wanted: whole bytes in the row, the others in a byte of its own. -/
def KW (us : List Value) (L p cur : Nat) (wb : Nat → Bool) : Prop := OkN us L ∧ (∀ k, k < 8 * (p / 8) → btN us k = wb k) ∧ cur < 256 ∧ ∀ i, i < 8 → cur.testBit i = (decide (i < p % 8) && wb (8 * (p / 8) + i))
theorem kw_start {us : List Value} {L f : Nat} {wb : Nat → Bool} (h : OkN us L) (hq : f / 8 < L) (hw : ∀ k, k < f → btN us k = wb k) : KW us L f (byN us (f / 8) % 2 ^ (f % 8)) wb := by
  have hx := (h.at hq).2
  refine ⟨h, fun k hk => hw k (by omega), Nat.lt_of_le_of_lt (Nat.mod_le _ _) hx, fun i hi => ?_⟩
  rw [Nat.testBit_mod_two_pow]
  by_cases c : i < f % 8
  · rw [decide_eq_true c, Bool.true_and, Bool.true_and, ← hw _ (by omega), btN_at _ _ _ hi]
  · rw [decide_eq_false c, Bool.false_and, Bool.false_and]
/-- A bit is laid beside. -/
def orb (cur m : Nat) (b : Bool) : Nat := if b then cur ||| 2 ^ m else cur
theorem orb_lt {cur m : Nat} (b : Bool) (hc : cur < 256) (hm : m < 8) : orb cur m b < 256 := by
  unfold orb
  cases b
  · simpa using hc
  · simp only [if_true]
    exact Nat.or_lt_two_pow (n := 8) hc (pow8 hm)
theorem orb_bit (cur m i : Nat) (b : Bool) : (orb cur m b).testBit i = (cur.testBit i || (b && decide (i = m))) := by
  unfold orb
  cases b
  · simp
  · simp only [if_true, Bool.true_and]
    rw [Nat.testBit_or, Nat.testBit_two_pow]
    congr 1
    exact decide_eq_decide.2 eq_comm
theorem kw_orb {us : List Value} {L p cur : Nat} {wb : Nat → Bool} (h : KW us L p cur wb) (i : Nat) (hi : i < 8) : (orb cur (p % 8) (wb p)).testBit i = (decide (i < p % 8 + 1) && wb (8 * (p / 8) + i)) := by
  rw [orb_bit, h.2.2.2 i hi]
  by_cases c : i = p % 8
  · subst c
    rw [decide_eq_false (by omega), Bool.false_and, Bool.false_or, decide_eq_true rfl, Bool.and_true, decide_eq_true (by omega), Bool.true_and, show 8 * (p / 8) + p % 8 = p by omega]
  · rw [decide_eq_false c, Bool.and_false, Bool.or_false]
    congr 1
    exact decide_eq_decide.2 (by omega)
theorem kw_step0 {us : List Value} {L p cur : Nat} {wb : Nat → Bool} (h : KW us L p cur wb) (hp : p % 8 < 7) : KW us L (p + 1) (orb cur (p % 8) (wb p)) wb := by
  have e1 : (p + 1) / 8 = p / 8 := by omega
  have e2 : (p + 1) % 8 = p % 8 + 1 := by omega
  refine ⟨h.1, fun k hk => h.2.1 k (by omega), orb_lt _ h.2.2.1 (by omega), fun i hi => ?_⟩
  rw [e1, e2]
  exact kw_orb h i hi
theorem kw_step7 {us : List Value} {L p cur : Nat} {wb : Nat → Bool} (h : KW us L p cur wb) (hp : p % 8 = 7) (hq : p / 8 < L) : KW (us.set (p / 8) (.int .u8 (orb cur (p % 8) (wb p) : Nat))) L (p + 1) 0 wb := by
  have e1 : (p + 1) / 8 = p / 8 + 1 := by omega
  have e2 : (p + 1) % 8 = 0 := by omega
  have hl := orb_lt (wb p) h.2.2.1 (show p % 8 < 8 by omega)
  refine ⟨okN_set h.1 hl, fun k hk => ?_, by omega, fun i hi => ?_⟩
  · rw [e1] at hk
    by_cases c : k < 8 * (p / 8)
    · rw [← h.2.1 k c]
      unfold btN byN
      rw [List.getElem?_set_ne (by omega)]
    · have hb := btN_at (us.set (p / 8) (.int .u8 (orb cur (p % 8) (wb p) : Nat))) (p / 8) (k - 8 * (p / 8)) (by omega)
      rw [show 8 * (p / 8) + (k - 8 * (p / 8)) = k by omega, byN_set (Nat.lt_of_lt_of_le hq h.1.1)] at hb
      rw [hb, kw_orb h _ (by omega), decide_eq_true (by omega), Bool.true_and, show 8 * (p / 8) + (k - 8 * (p / 8)) = k by omega]
  · rw [e2, decide_eq_false (by omega), Bool.false_and, Nat.zero_testBit]
theorem kw_end {us : List Value} {L p cur : Nat} {wb : Nat → Bool} (h : KW us L p cur wb) (hq : p / 8 < L) : OkN (us.set (p / 8) (.int .u8 (cur : Nat))) L ∧ ∀ k, k < p → btN (us.set (p / 8) (.int .u8 (cur : Nat))) k = wb k := by
  refine ⟨okN_set h.1 h.2.2.1, fun k hk => ?_⟩
  by_cases c : k < 8 * (p / 8)
  · rw [← h.2.1 k c]
    unfold btN byN
    rw [List.getElem?_set_ne (by omega)]
  · have hb := btN_at (us.set (p / 8) (.int .u8 (cur : Nat))) (p / 8) (k - 8 * (p / 8)) (by omega)
    rw [show 8 * (p / 8) + (k - 8 * (p / 8)) = k by omega, byN_set (Nat.lt_of_lt_of_le hq h.1.1)] at hb
    rw [hb, h.2.2.2 _ (by omega), decide_eq_true (by omega), Bool.true_and, show 8 * (p / 8) + (k - 8 * (p / 8)) = k by omega]
/-- The writer has written t bits of N. -/
def WI (w0 V : World) (B g gb n c f t N : Nat) (wb : Nat → Bool) : Prop := ∃ (cur : Nat) (us : List Value), V.heap[g]? = some (.cells (wrC gb n c t N cur (2 ^ ((f + t) % 8)) ((f + t) / 8)) 80 (0, 0)) ∧ V.heap[gb]? = some (.cells us.toArray 5 (0, 0)) ∧ KW us n (f + t) cur wb ∧ Below B w0 V
/-- .. and the bit that comes next lies beside. -/
def WS (w0 V : World) (B g gb n c f t N : Nat) (wb : Nat → Bool) : Prop := ∃ (cur : Nat) (us : List Value), V.heap[g]? = some (.cells (wrC gb n c t N (orb cur ((f + t) % 8) (wb (f + t))) (2 ^ ((f + t) % 8)) ((f + t) / 8)) 80 (0, 0)) ∧ V.heap[gb]? = some (.cells us.toArray 5 (0, 0)) ∧ KW us n (f + t) cur wb ∧ Below B w0 V
theorem Fr.blk {w V : World} {a b k : Nat} {o : Obj} (h : Fr w V a b) (hk : w.heap[k]? = some o) (ha : k ≠ a) (hb : k ≠ b) : V.heap[k]? = some o := (h.far k (by rcases Nat.lt_or_ge k w.heap.size with h | h; exact h; rw [Array.getElem?_eq_none h] at hk; cases hk) ha hb).trans hk
theorem wi_set {w0 V : World} {B g gb n c f t N : Nat} {wb : Nat → Bool} (h : WI w0 V B g gb n c f t N wb) (hne : gb ≠ g) (hg : B ≤ g) (hB : B ≤ V.heap.size) (hb : wb (f + t) = true) : Calls Tryd.prog 50 #[.pointer (some ⟨g, 0, none⟩)] V fun e w' => e = .returned (.tuple #[]) ∧ WS w0 w' B g gb n c f t N wb ∧ Fr V w' g g := by
  obtain ⟨cur, us, h1, h2, h3, h4⟩ := h
  refine Calls.mono (set_is _ _ _ _ _ _ _ _ _ V h1 h3.2.2.1 (by omega)) ?_
  rintro e w' ⟨rfl, k1, k2⟩
  refine ⟨rfl, ⟨cur, us, ?_, k2.blk h2 hne hne, h3, h4.trans (k2.below hB hg hg)⟩, k2⟩
  rw [hb]
  exact k1
theorem wi_clear {w0 V : World} {B g gb n c f t N : Nat} {wb : Nat → Bool} (h : WI w0 V B g gb n c f t N wb) (hb : wb (f + t) = false) : WS w0 V B g gb n c f t N wb := by
  obtain ⟨cur, us, h1, h2, h3, h4⟩ := h
  refine ⟨cur, us, ?_, h2, h3, h4⟩
  rw [hb]
  exact h1
theorem ws_next {w0 V : World} {B g gb n c f t N : Nat} {wb : Nat → Bool} (h : WS w0 V B g gb n c f t N wb) (hne : gb ≠ g) (hg : B ≤ g) (hgb : B ≤ gb) (hB : B ≤ V.heap.size) (hq : (f + t) / 8 < n) (hs : f + t < 1000000) : Calls Tryd.prog 47 #[.pointer (some ⟨g, 0, none⟩)] V fun e w' => e = .returned (.tuple #[]) ∧ WI w0 w' B g gb n c f (t + 1) N wb ∧ Fr V w' g gb := by
  obtain ⟨cur, us, h1, h2, h3, h4⟩ := h
  by_cases c7 : (f + t) % 8 = 7
  · have hx := (h3.1.at hq).1
    have e1 : (f + (t + 1)) / 8 = (f + t) / 8 + 1 := by omega
    have e2 : (f + (t + 1)) % 8 = 0 := by omega
    rw [show 2 ^ ((f + t) % 8) = 128 by rw [c7]] at h1
    refine Calls.mono (next7_is _ _ _ _ _ _ _ _ us 5 V h1 h2 hne (by omega) (by omega) hq ⟨_, hx⟩) ?_
    rintro e w' ⟨rfl, k1, k2, k3⟩
    refine ⟨rfl, ⟨0, _, ?_, k2, ?_, h4.trans (k3.below hB hg hgb)⟩, k3⟩
    · rw [e1, e2]
      exact k1
    · exact kw_step7 (p := f + t) h3 c7 hq
  · have e1 : (f + (t + 1)) / 8 = (f + t) / 8 := by omega
    have e2 : (f + (t + 1)) % 8 = (f + t) % 8 + 1 := by omega
    refine Calls.mono (next0_is gb n c t N _ ((f + t) % 8) _ g V h1 (by omega) (by omega)) ?_
    rintro e w' ⟨rfl, k1, k3⟩
    refine ⟨rfl, ⟨_, us, ?_, k3.blk h2 hne hne, kw_step0 (p := f + t) h3 (by omega), h4.trans (k3.below hB hg hg)⟩, k3.one⟩
    rw [e1, e2]
    exact k1
/-- The end: all bits stand in the row. -/
theorem wi_end {w0 V : World} {B g gb n c f N : Nat} {wb : Nat → Bool} (um : FrameMode) (h : WI w0 V B g gb n c f N N wb) (hne : gb ≠ g) (hgb : B ≤ gb) (hB : B ≤ V.heap.size) (hq : (f + N) / 8 < n) (hN : 1 ≤ N) : CallsD Tryd.prog 46 #[.pointer (some ⟨g, 0, none⟩)] um V fun e u2 w' => u2 = um ∧ e = .returned (.tuple #[]) ∧ (∃ us : List Value, w'.heap[gb]? = some (.cells us.toArray 5 (0, 0)) ∧ OkN us n ∧ ∀ k, k < f + N → btN us k = wb k) ∧ Below B w0 w' ∧ Fr V w' gb gb := by
  obtain ⟨cur, us, h1, h2, h3, h4⟩ := h
  have hx := (h3.1.at hq).1
  by_cases c0 : (f + N) % 8 = 0
  · rw [show 2 ^ ((f + N) % 8) = 1 by rw [c0]] at h1
    refine CallsD.mono (fin0_is _ _ _ _ _ _ _ um V h1 hN) ?_
    rintro e u2 w' ⟨rfl, rfl, k⟩
    exact ⟨rfl, rfl, ⟨us, (k.block gb (blk_lt h2)).trans h2, h3.1, fun k hk => h3.2.1 k (by omega)⟩, h4.trans (k.mono hB), Fr.of_below k⟩
  · have hp : 2 ^ ((f + N) % 8) ≠ 1 := by
      obtain ⟨j, hj⟩ : ∃ j, (f + N) % 8 = j + 1 := ⟨(f + N) % 8 - 1, by omega⟩
      rw [hj, Nat.pow_succ]
      have := Nat.two_pow_pos j
      omega
    refine CallsD.mono (fin1_is _ _ _ _ _ _ _ _ us 5 um V h1 h2 hne hp hN hq ⟨_, hx⟩) ?_
    rintro e u2 w' ⟨rfl, rfl, k1, k2⟩
    have := kw_end h3 hq
    exact ⟨rfl, rfl, ⟨_, k1, this.1, this.2⟩, h4.trans (k2.below hB hgb hgb), k2⟩
end Go.Proofs.YtjipnopadpedoaaDoor.QR
