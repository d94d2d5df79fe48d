/- The levels of rows tell which are there, plainly. -/
import Derived.Test.YtjipnopadpedoaaDoorH15
namespace Go.Proofs.YtjipnopadpedoaaDoor.QR
open Go.RowKit Go.Proofs.YtjipnopadpedoaaDoorW.PrintWords Go.Proofs.YtjipnopadpedoaaDoorW.PrintLast Go.Proofs.YtjipnopadpedoaaDoorW.PrintMore
open Go.Proofs.YtjipnopadpedoaaDoor.PFnLevelStructs (S25 z25 k25 rd_T25 at_T25)
set_option linter.unusedVariables false
set_option linter.unusedSimpArgs false
def stE (E : List (Nat × Nat)) : List Bool := (E.filter (fun p => p.2 == 0)).map (fun p => decide (1 ≤ p.1))
theorem stE_append (a b : List (Nat × Nat)) : stE (a ++ b) = stE a ++ stE b := by
  unfold stE
  rw [List.filter_append, List.map_append]
theorem dsN_rd (E : List (Nat × Nat)) {j : Nat} (h : j < E.length) : rd (dsN E) (j : Int) = (E[j].1 : Int) := by
  unfold rd dsN
  rw [Int.toNat_natCast, List.getD_eq_getElem?_getD, List.getElem?_map, List.getElem?_eq_getElem h]
  rfl
theorem rsN_rd (E : List (Nat × Nat)) {j : Nat} (h : j < E.length) : rd (rsN E) (j : Int) = (E[j].2 : Int) := by
  unfold rd rsN
  rw [Int.toNat_natCast, List.getD_eq_getElem?_getD, List.getElem?_map, List.getElem?_eq_getElem h]
  rfl
theorem stB_take (E : List (Nat × Nat)) : ∀ i, i ≤ E.length → stB (dsN E) (rsN E) i = stE (E.take i)
  | 0, _ => rfl
  | i + 1, h => by
    rw [stB_succ, stB_take E i (by omega), dsN_rd E (by omega), rsN_rd E (by omega), List.take_add_one, List.getElem?_eq_getElem (by omega), stE_append]
    congr 1
    generalize E[i] = p
    obtain ⟨a, b⟩ := p
    unfold stE
    simp only [Option.toList_some]
    by_cases hb : b = 0
    · subst hb
      rw [if_pos (show ((0 : Nat) : Int) = 0 from rfl)]
      simp only [List.filter_cons, List.filter_nil, beq_self_eq_true, if_true, List.map_cons, List.map_nil]
      congr 1
      exact decide_eq_decide.2 (by omega)
    · rw [if_neg (by omega), List.filter_cons_of_neg (by simpa using hb)]
      rfl
theorem stB_all (E : List (Nat × Nat)) : stB (dsN E) (rsN E) (dsN E).length = stE E := by
  rw [dsN_len, stB_take E E.length (Nat.le_refl _), List.take_length]
theorem shr_st : ∀ (d lv : Nat) (v : S25) (df rp : Nat), 1 ≤ df → stE (shr d lv v df rp) = if rp = 0 then [true] else []
  | 0, lv, v, df, rp, h => by
    have h1 : 1 ≤ (if v.f0 = true then df else df + 1) := by split <;> omega
    unfold shr stE
    by_cases hr : rp = 0
    · subst hr
      simp [h1]
    · rw [if_neg hr, List.filter_cons_of_neg (by simpa using hr)]
      rfl
  | d + 1, lv, v, df, rp, h => by
    have one : ∀ x : Nat, 1 ≤ x → stE [(x, rp)] = if rp = 0 then [true] else [] := fun x hx => by
      unfold stE
      by_cases hr : rp = 0
      · subst hr
        simp [hx]
      · rw [if_neg hr, List.filter_cons_of_neg (by simpa using hr)]
        rfl
    have key : ∀ i, stE (kidsP d lv v.f3 df rp (i + 1)) = if rp = 0 then [true] else [] := by
      intro i
      induction i with
      | zero =>
        rw [kidsP_succ, stE_append, if_pos rfl, shr_st d (lv + 1) _ (df + 2) rp (by omega)]
        rfl
      | succ i ih =>
        rw [kidsP_succ, stE_append, if_neg (show ¬ i + 1 = 0 by omega), shr_st d (lv + 1) _ (df + 2) (lv + 1) (by omega), if_neg (show ¬ lv + 1 = 0 by omega), List.append_nil, ih]
    unfold shr
    split
    · exact one df h
    · split
      · exact one (df + 1) (by omega)
      · rename_i h1 h2
        obtain ⟨n, hn⟩ : ∃ n, v.f3.length = n + 1 := ⟨v.f3.length - 1, by omega⟩
        rw [hn]
        exact key n
/-- The levels of a row, of rows. -/
def ent (ls : Nat) (v : S25) : List (Nat × Nat) := if v.f0 then [(0, 0)] else shL ls 1 v.f3 v.f3.length
def entL (ls : Nat) (l : List S25) : List (Nat × Nat) := l.flatMap (ent ls)
theorem entL_take {ls : Nat} {l : List S25} {i : Nat} (h : i < l.length) : entL ls (l.take (i + 1)) = entL ls (l.take i) ++ ent ls (l.getD i z25) := by
  unfold entL
  rw [take_getD h, List.flatMap_append]
  simp
theorem shL_one (ls df : Nat) (k : S25) : shL ls df [k] 1 = shr ls 0 k df 0 := by
  rw [shL_succ]
  rfl
theorem ent_st (ls : Nat) (v : S25) (h : v.f0 = false → v.f3.length = 1) : stE (ent ls v) = [!v.f0] := by
  unfold ent
  cases hv : v.f0
  · obtain ⟨k, hk⟩ : ∃ k, v.f3 = [k] := List.length_eq_one_iff.1 (h hv)
    rw [if_neg (by decide), hk]
    simp only [List.length_singleton]
    rw [shL_one, shr_st _ _ _ _ _ (Nat.le_refl _), if_pos rfl]
    rfl
  · rw [if_pos rfl]
    rfl
theorem entL_st (ls : Nat) : ∀ l : List S25, (∀ v ∈ l, v.f0 = false → v.f3.length = 1) → stE (entL ls l) = presB l
  | [], _ => rfl
  | v :: r, h => by
    show stE (ent ls v ++ entL ls r) = (!v.f0) :: presB r
    rw [stE_append, ent_st ls v (h v (List.mem_cons_self ..)), entL_st ls r (fun u hu => h u (List.mem_cons_of_mem _ hu))]
    rfl
theorem shL_nd (ls df : Nat) (l : List S25) : ∀ i, i ≤ l.length → (shL ls df l i).length ≤ ndL ls (l.take i)
  | 0, _ => Nat.zero_le _
  | i + 1, h => by
    have h1 := shL_nd ls df l i (by omega)
    have h2 := shr_le ls 0 (l.getD i z25) df 0
    rw [shL_succ, List.length_append, take_getD (by omega), ndL_append]
    have h3 : ndL ls [l.getD i z25] = nd ls (l.getD i z25) := by simp [ndL]
    omega
theorem ent_le (ls : Nat) (v : S25) : (ent ls v).length ≤ nd (ls + 1) v := by
  unfold ent
  split
  · simpa using nd_pos (ls + 1) v
  · have h := shL_nd ls 1 v.f3 v.f3.length (Nat.le_refl _)
    rw [List.take_length] at h
    have : nd (ls + 1) v = 1 + ndL ls v.f3 := rfl
    omega
theorem entL_le (ls : Nat) : ∀ l : List S25, (entL ls l).length ≤ ndL (ls + 1) l
  | [] => Nat.zero_le _
  | v :: r => by
    have h1 := ent_le ls v
    have h2 := entL_le ls r
    have e : entL ls (v :: r) = ent ls v ++ entL ls r := rfl
    rw [e, List.length_append]
    unfold ndL at h2 ⊢
    simp only [List.map_cons, List.sum_cons]
    omega
theorem ndL_take (d : Nat) (l : List S25) (i : Nat) : ndL d (l.take i) ≤ ndL d l := by
  conv => rhs; rw [← List.take_append_drop i l]
  rw [ndL_append]
  omega
theorem dsN_nn (E : List (Nat × Nat)) : ∀ j, j < (dsN E).length → 0 ≤ rd (dsN E) (j : Int) := fun j hj => by
  rw [dsN_len] at hj
  rw [dsN_rd E hj]
  omega
theorem rsN_nn (E : List (Nat × Nat)) : ∀ j, j < (dsN E).length → 0 ≤ rd (rsN E) (j : Int) := fun j hj => by
  rw [dsN_len] at hj
  rw [rsN_rd E hj]
  omega
end Go.Proofs.YtjipnopadpedoaaDoor.QR
