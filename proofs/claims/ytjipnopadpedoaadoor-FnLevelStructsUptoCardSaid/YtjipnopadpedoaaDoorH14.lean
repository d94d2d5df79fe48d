/- What rowsFit comes to, plainly: some answer, where little enough came in. -/
import Derived.Test.YtjipnopadpedoaaDoorH13
namespace Go.Proofs.YtjipnopadpedoaaDoor.QR
open Go.RowKit Go.Proofs.YtjipnopadpedoaaDoorW.PrintWords Go.Proofs.YtjipnopadpedoaaDoorW.PrintLast Go.Proofs.YtjipnopadpedoaaDoorW.PrintMore
open Go.Proofs.YtjipnopadpedoaaDoor.PFnLevelStructs (S25 z25 k25 rd_T25 at_T25)
set_option linter.unusedVariables false
set_option linter.unusedSimpArgs false
theorem lift_ {α : Type} {f : Nat → Option α} (hm : ∀ k, LeO (f k) (f (k + 1))) {k : Nat} {r : α} (h : f k = some r) : ∀ k', k ≤ k' → f k' = some r := by
  intro k' hk
  obtain ⟨j, rfl⟩ : ∃ j, k' = k + j := ⟨k' - k, by omega⟩
  clear hk
  induction j with
  | zero => exact h
  | succ j ih => exact hm _ _ ih
/-- How many values stand in one, so many levels deep. -/
def nd : Nat → S25 → Nat
  | 0, _ => 1
  | d + 1, v => 1 + (v.f3.map (nd d)).sum
def ndL (d : Nat) (l : List S25) : Nat := (l.map (nd d)).sum
theorem nd_pos : ∀ (d : Nat) (v : S25), 1 ≤ nd d v
  | 0, _ => Nat.le_refl _
  | d + 1, v => by unfold nd; omega
theorem ndL_len (d : Nat) : ∀ l : List S25, l.length ≤ ndL d l
  | [] => Nat.zero_le _
  | v :: r => by
    have h1 := nd_pos d v
    have h2 := ndL_len d r
    unfold ndL at h2 ⊢
    simp only [List.length_cons, List.map_cons, List.sum_cons]
    omega
theorem ndL_mem {d : Nat} : ∀ {l : List S25} {v : S25}, v ∈ l → nd d v ≤ ndL d l
  | v :: r, u, h => by
    unfold ndL
    simp only [List.map_cons, List.sum_cons]
    rcases List.mem_cons.1 h with rfl | h
    · omega
    · have := ndL_mem (d := d) h
      unfold ndL at this
      omega
theorem ndL_append (d : Nat) (a b : List S25) : ndL d (a ++ b) = ndL d a + ndL d b := by
  unfold ndL
  rw [List.map_append, List.sum_append]
theorem ndL_flat (d : Nat) : ∀ l : List S25, ndL d (l.flatMap S25.f3) ≤ ndL (d + 1) l
  | [] => Nat.le_refl _
  | v :: r => by
    have h2 := ndL_flat d r
    rw [List.flatMap_cons, ndL_append]
    unfold ndL at h2 ⊢
    simp only [List.map_cons, List.sum_cons]
    rw [show nd (d + 1) v = 1 + (v.f3.map (nd d)).sum from rfl]
    omega
theorem getD_mem {l : List S25} {i : Nat} (h : i < l.length) : l.getD i z25 ∈ l := by
  rw [List.getD_eq_getElem?_getD, List.getElem?_eq_getElem h]
  exact List.getElem_mem h
theorem rdT (l : List S25) (i : Nat) : rd_T25 l (i : Int) = l.getD i z25 := by unfold rd_T25; rw [Int.toNat_natCast]
theorem take_getD {l : List S25} {i : Nat} (h : i < l.length) : l.take (i + 1) = l.take i ++ [l.getD i z25] := by
  rw [List.take_add_one, List.getD_eq_getElem?_getD, List.getElem?_eq_getElem h]
  rfl
theorem w1_ (i : Nat) (h : i ≤ 4000000) : wrap64 ((i : Int) + 1) = ((i + 1 : Nat) : Int) := by rw [i64w]; omega
/-- The values at a level. -/
def atL : Nat → List S25 → List S25
  | 0, l => l
  | r + 1, l => atL r (l.flatMap S25.f3)
theorem at_l1 (l : List S25) (x8 x9 : Int) (res : List S25) (hb : (l.flatMap S25.f3).length ≤ 4000000) (hll : l.length ≤ 4000000) (hc : ∃ k, PFnLevelStructs.spec_At.l0 k (l.flatMap S25.f3) x8 (wrap64 (x9 + 1)) = some res) : ∀ r i : Nat, i + r = l.length → ∃ k, PFnLevelStructs.spec_At.l1 k ((l.take i).flatMap S25.f3) x8 x9 l (l.length : Int) (i : Int) = some res
  | 0, i, h => by
    obtain ⟨k, hk⟩ := hc
    refine ⟨k + 1, ?_⟩
    rw [PFnLevelStructs.spec_At.l1, if_neg (by omega), List.take_of_length_le (by omega)]
    exact hk
  | r + 1, i, h => by
    obtain ⟨k, hk⟩ := at_l1 l x8 x9 res hb hll hc r (i + 1) (by omega)
    refine ⟨k + 1, ?_⟩
    have e : (l.take (i + 1)).flatMap S25.f3 = (l.take i).flatMap S25.f3 ++ (l.getD i z25).f3 := by
      rw [take_getD (by omega), List.flatMap_append]
      simp
    have hle : ((l.take (i + 1)).flatMap S25.f3).length ≤ 4000000 := by
      refine Nat.le_trans ?_ hb
      conv => rhs; rw [← List.take_append_drop (i + 1) l]
      rw [List.flatMap_append, List.length_append]
      omega
    rw [e, List.length_append] at hle
    rw [e] at hk
    rw [PFnLevelStructs.spec_At.l1, if_pos (by omega), if_pos (by omega), if_pos (by omega), rdT, if_pos (by omega), w1_ i (by omega)]
    exact hk
theorem at_l0 : ∀ (r : Nat) (l : List S25) (i n : Nat), i + r = n → n ≤ 4 → ndL r l ≤ 4000000 → ∃ k, PFnLevelStructs.spec_At.l0 k l (n : Int) (i : Int) = some (atL r l)
  | 0, l, i, n, h, hn, hb => ⟨1, by rw [PFnLevelStructs.spec_At.l0, if_neg (by omega)]; rfl⟩
  | r + 1, l, i, n, h, hn, hb => by
    have hf := ndL_flat r l
    have h2 := at_l0 r (l.flatMap S25.f3) (i + 1) n (by omega) hn (by omega)
    rw [← w1_ i (by omega)] at h2
    have h3 := ndL_len r (l.flatMap S25.f3)
    have h4 := ndL_len (r + 1) l
    obtain ⟨k, hk⟩ := at_l1 l n i _ (by omega) (by omega) h2 l.length 0 (by omega)
    refine ⟨k + 1, ?_⟩
    rw [PFnLevelStructs.spec_At.l0, if_pos (by omega)]
    exact hk
theorem nd_mono : ∀ (d : Nat) (v : S25), nd d v ≤ nd (d + 1) v
  | 0, v => nd_pos _ _
  | d + 1, v => by
    have key : ∀ l : List S25, (l.map (nd d)).sum ≤ (l.map (nd (d + 1))).sum := fun l => by
      induction l with
      | nil => exact Nat.le_refl _
      | cons u r ih =>
        have := nd_mono d u
        simp only [List.map_cons, List.sum_cons]
        omega
    have := key v.f3
    show 1 + _ ≤ 1 + _
    omega
theorem ndL_mono (d : Nat) : ∀ l : List S25, ndL d l ≤ ndL (d + 1) l
  | [] => Nat.le_refl _
  | v :: r => by
    have h1 := nd_mono d v
    have h2 := ndL_mono d r
    unfold ndL at h2 ⊢
    simp only [List.map_cons, List.sum_cons]
    omega
theorem ndL_le {d e : Nat} (h : d ≤ e) (l : List S25) : ndL d l ≤ ndL e l := by
  obtain ⟨j, rfl⟩ : ∃ j, e = d + j := ⟨e - d, by omega⟩
  clear h
  induction j with
  | zero => exact Nat.le_refl _
  | succ j ih => exact Nat.le_trans ih (ndL_mono _ l)
theorem nest_is : ∀ (n : Nat) (v : S25), n ≤ 4 → nd n v ≤ 4000000 → ∃ k b, PFnLevelStructs.spec_Nested.f k v.f0 v.f1 v.f2 v.f3 (n : Int) = some b
  | 0, v, hn, hb => ⟨2, ((v.f3.length : Int) == 0), by rw [PFnLevelStructs.spec_Nested.f, if_pos (show ((0 : Nat) : Int) = 0 from rfl), PFnLevelStructs.spec_Nested.j0, if_pos rfl]⟩
  | n + 1, v, hn, hb => by
    cases hv : v.f0
    · have hk : ndL n v.f3 ≤ 4000000 := by
        have : nd (n + 1) v = 1 + ndL n v.f3 := rfl
        omega
      have hl := ndL_len n v.f3
      have key : ∀ r i : Nat, i + r = v.f3.length → ∃ k b, PFnLevelStructs.spec_Nested.l0 k ((n + 1 : Nat) : Int) v.f3 (v.f3.length : Int) (i : Int) = some b := by
        intro r
        induction r with
        | zero => exact fun i hi => ⟨1, true, by rw [PFnLevelStructs.spec_Nested.l0, if_neg (by omega)]⟩
        | succ r ih =>
          intro i hi
          obtain ⟨k1, b1, h1⟩ := nest_is n (v.f3.getD i z25) (by omega) (Nat.le_trans (ndL_mem (getD_mem (by omega))) hk)
          obtain ⟨k2, b2, h2⟩ := ih (i + 1) (by omega)
          have g1 := lift_ (f := fun k => PFnLevelStructs.spec_Nested.f k _ _ _ _ _) (fun k => PFnLevelStructs.spec_Nested.mono _ _ _ _ _ k) h1 (max k1 k2) (Nat.le_max_left ..)
          have g2 := lift_ (f := fun k => PFnLevelStructs.spec_Nested.l0 k _ _ _ _) (fun k => (PFnLevelStructs.spec_Nested.mono_l k).2.2 _ _ _ _) h2 (max k1 k2) (Nat.le_max_right ..)
          have ew : wrap64 (((n + 1 : Nat) : Int) - 1) = (n : Int) := by rw [i64w]; omega
          cases b1
          · refine ⟨max k1 k2 + 1, false, ?_⟩
            rw [PFnLevelStructs.spec_Nested.l0, if_pos (by omega), if_pos (by omega), if_pos (by omega), rdT, ew, g1, Option.bind_some, if_neg (by decide)]
          · refine ⟨max k1 k2 + 1, b2, ?_⟩
            rw [PFnLevelStructs.spec_Nested.l0, if_pos (by omega), if_pos (by omega), if_pos (by omega), rdT, ew, g1, Option.bind_some, if_pos rfl, w1_ i (by omega)]
            exact g2
      obtain ⟨k, b, h⟩ := key v.f3.length 0 (by omega)
      refine ⟨k + 2, b, ?_⟩
      rw [PFnLevelStructs.spec_Nested.f, if_neg (by omega), PFnLevelStructs.spec_Nested.j0, if_neg (by decide)]
      exact h
    · exact ⟨2, ((v.f3.length : Int) == 0), by rw [PFnLevelStructs.spec_Nested.f, if_neg (by omega), PFnLevelStructs.spec_Nested.j0, if_pos rfl]⟩
theorem rf_is (l : List S25) (levels : Int) (hb : ndL 4 l ≤ 4000000) : ∃ k r, PFnLevelStructs.laws_rowsFit.f k l levels = some r ∧ (r = true → 0 ≤ levels ∧ levels ≤ 4) := by
  by_cases h1 : levels < 0
  · exact ⟨1, false, by unfold PFnLevelStructs.laws_rowsFit.f; rw [if_pos h1, PFnLevelStructs.laws_rowsFit.j0, if_pos rfl], fun h => by cases h⟩
  by_cases h2 : levels > 4
  · exact ⟨1, false, by unfold PFnLevelStructs.laws_rowsFit.f; rw [if_neg h1, if_pos h2, PFnLevelStructs.laws_rowsFit.j0, if_pos rfl], fun h => by cases h⟩
  by_cases h3 : (l.length : Int) > 500
  · exact ⟨1, false, by unfold PFnLevelStructs.laws_rowsFit.f; rw [if_neg h1, if_neg h2, decide_eq_true h3, PFnLevelStructs.laws_rowsFit.j0, if_pos rfl], fun h => by cases h⟩
  obtain ⟨n, rfl⟩ : ∃ n : Nat, levels = (n : Int) := ⟨levels.toNat, by omega⟩
  have hn : n ≤ 4 := by omega
  have key1 : ∀ r i : Nat, i + r = l.length → ∃ k b, PFnLevelStructs.laws_rowsFit.l1 k (n : Int) l (l.length : Int) (i : Int) = some b := by
    intro r
    induction r with
    | zero => exact fun i hi => ⟨1, true, by rw [PFnLevelStructs.laws_rowsFit.l1, if_neg (by omega)]⟩
    | succ r ih =>
      intro i hi
      have hm := Nat.le_trans (ndL_mem (d := n) (getD_mem (l := l) (i := i) (by omega))) (Nat.le_trans (ndL_le hn l) hb)
      obtain ⟨k1, b1, g1⟩ := nest_is n (l.getD i z25) hn hm
      obtain ⟨k2, b2, g2⟩ := ih (i + 1) (by omega)
      have g1 := lift_ (f := fun k => PFnLevelStructs.spec_Nested.f k _ _ _ _ _) (fun k => PFnLevelStructs.spec_Nested.mono _ _ _ _ _ k) g1 (max k1 k2) (Nat.le_max_left ..)
      have g2 := lift_ (f := fun k => PFnLevelStructs.laws_rowsFit.l1 k _ _ _ _) (fun k => (PFnLevelStructs.laws_rowsFit.mono_l k).2.2 _ _ _ _) g2 (max k1 k2) (Nat.le_max_right ..)
      cases b1
      · refine ⟨max k1 k2 + 1, false, ?_⟩
        rw [PFnLevelStructs.laws_rowsFit.l1, if_pos (by omega), if_pos (by omega), if_pos (by omega), rdT, g1, Option.bind_some, if_neg (by decide)]
      · refine ⟨max k1 k2 + 1, b2, ?_⟩
        rw [PFnLevelStructs.laws_rowsFit.l1, if_pos (by omega), if_pos (by omega), if_pos (by omega), rdT, g1, Option.bind_some, if_pos rfl, w1_ i (by omega)]
        exact g2
  have key0 : ∀ r i : Nat, i + r = n + 1 → ∃ k b, PFnLevelStructs.laws_rowsFit.l0 k l (n : Int) (i : Int) = some b := by
    intro r
    induction r with
    | zero =>
      intro i hi
      obtain ⟨k, b, h⟩ := key1 l.length 0 (by omega)
      refine ⟨k + 1, b, ?_⟩
      rw [PFnLevelStructs.laws_rowsFit.l0, if_neg (by omega)]
      exact h
    | succ r ih =>
      intro i hi
      obtain ⟨k1, g1⟩ := at_l0 i l 0 i (by omega) (by omega) (Nat.le_trans (ndL_le (by omega) l) hb)
      obtain ⟨k2, b2, g2⟩ := ih (i + 1) (by omega)
      have g1 := lift_ (f := fun k => PFnLevelStructs.spec_At.f k l (i : Int)) (fun k => PFnLevelStructs.spec_At.mono _ _ k) (k := k1) g1 (max k1 k2) (Nat.le_max_left ..)
      have g2 := lift_ (f := fun k => PFnLevelStructs.laws_rowsFit.l0 k _ _ _) (fun k => (PFnLevelStructs.laws_rowsFit.mono_l k).2.1 _ _ _) g2 (max k1 k2) (Nat.le_max_right ..)
      by_cases h4 : ((atL i l).length : Int) > 2000
      · refine ⟨max k1 k2 + 1, false, ?_⟩
        rw [PFnLevelStructs.laws_rowsFit.l0, if_pos (by omega), g1, Option.bind_some, if_pos h4]
      · refine ⟨max k1 k2 + 1, b2, ?_⟩
        rw [PFnLevelStructs.laws_rowsFit.l0, if_pos (by omega), g1, Option.bind_some, if_neg h4, w1_ i (by omega)]
        exact g2
  obtain ⟨k, b, h⟩ := key0 (n + 1) 0 (by omega)
  refine ⟨k + 1, b, ?_, fun _ => ⟨by omega, by omega⟩⟩
  unfold PFnLevelStructs.laws_rowsFit.f
  rw [if_neg h1, if_neg h2, decide_eq_false h3, PFnLevelStructs.laws_rowsFit.j0, if_neg (by decide)]
  exact h
/-- The levels of a value are no more than the values in it. -/
theorem shr_le : ∀ (d lv : Nat) (v : S25) (df rp : Nat), (shr d lv v df rp).length ≤ nd d v
  | 0, lv, v, df, rp => by unfold shr nd; simp
  | d + 1, lv, v, df, rp => by
    unfold shr
    split
    · simpa using nd_pos (d + 1) v
    · split
      · simpa using nd_pos (d + 1) v
      · have key : ∀ i, i ≤ v.f3.length → (kidsP d lv v.f3 df rp i).length ≤ ndL d (v.f3.take i) := by
          intro i
          induction i with
          | zero => intro _; exact Nat.zero_le _
          | succ i ih =>
            intro hi
            have h1 := ih (by omega)
            have h2 := shr_le d (lv + 1) (v.f3.getD i z25) (df + 2) (if i = 0 then rp else lv + 1)
            rw [kidsP_succ, List.length_append, take_getD (by omega), ndL_append]
            have h3 : ndL d [v.f3.getD i z25] = nd d (v.f3.getD i z25) := by simp [ndL]
            omega
        have h := key v.f3.length (Nat.le_refl _)
        rw [List.take_length] at h
        have : nd (d + 1) v = 1 + ndL d v.f3 := rfl
        unfold kidsP at h
        omega
end Go.Proofs.YtjipnopadpedoaaDoor.QR
