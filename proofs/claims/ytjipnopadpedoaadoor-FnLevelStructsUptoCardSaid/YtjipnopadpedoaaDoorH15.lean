/- What the law asks of what is told, plainly; the room. -/
import Derived.Test.YtjipnopadpedoaaDoorH14
import Derived.Test.YtjipnopadpedoaaDoorH6
namespace Go.Proofs.YtjipnopadpedoaaDoor.QR
open Go.RowKit Go.Proofs.YtjipnopadpedoaaDoorW.PrintWords Go.Proofs.YtjipnopadpedoaaDoorW.PrintLast Go.Proofs.YtjipnopadpedoaaDoorW.PrintMore
open Go.Proofs.YtjipnopadpedoaaDoor.PFnLevelStructs (S25 z25 k25 rd_T25 at_T25)
set_option linter.unusedVariables false
set_option linter.unusedSimpArgs false
theorem blf_l0 {l : List Int} {f n : Nat} (hn : f + n ≤ 8 * l.length) (hl : f + n ≤ 1000000) (hbo : bytesOk l = true) : ∀ (r i : Nat) (xs : List Bool), i + r = n → xs.length = n → (∀ j, j < i → xs[j]? = some (bt1 l (f + j))) →
    ∃ k, PFnLevelStructs.spec_BitList.l0 k l (f : Int) xs (n : Int) (i : Int) = some ((List.range n).map (fun j => bt1 l (f + j)), true)
  | 0, i, xs, h, hx, hv => ⟨1, by
    have hi : i = n := by omega
    subst hi
    rw [PFnLevelStructs.spec_BitList.l0, if_neg (by omega)]
    have e : xs = (List.range i).map (fun j => bt1 l (f + j)) := by
      apply List.ext_getElem?
      intro j
      by_cases hj : j < i
      · rw [hv j hj]; simp [hj]
      · rw [List.getElem?_eq_none (by omega), List.getElem?_eq_none (by simp; omega)]
    rw [e]⟩
  | r + 1, i, xs, h, hx, hv => by
    obtain ⟨k, hk⟩ := blf_l0 hn hl hbo r (i + 1) (xs.set i (bt1 l (f + i))) (by omega) (by rw [List.length_set]; exact hx) (fun j hj => by
      by_cases e : j = i
      · subst e; rw [List.getElem?_set_self (by omega)]
      · rw [List.getElem?_set_ne (by omega)]; exact hv j (by omega))
    refine ⟨k + 1, ?_⟩
    have hw : wrap64 ((f : Int) + (i : Int)) = ((f + i : Nat) : Int) := by rw [i64w]; omega
    have hw2 : wrap64 ((i : Int) + 1) = ((i + 1 : Nat) : Int) := by rw [i64w]; omega
    rw [PFnLevelStructs.spec_BitList.l0, if_pos (by omega), hw, bit_is (by omega) (by omega) hbo, Option.bind_some, if_pos (by omega), if_pos (by omega), Int.toNat_natCast, hw2]
    exact hk
theorem blf_is {l : List Int} {f n : Nat} (hn : f + n ≤ 8 * l.length) (hl : f + n ≤ 100000) (hl2 : l.length ≤ 100000) (hbo : bytesOk l = true) : ∃ k, PFnLevelStructs.spec_BitList.f k l (f : Int) (n : Int) = some ((List.range n).map (fun j => bt1 l (f + j)), true) := by
  obtain ⟨k, hk⟩ := blf_l0 hn (by omega) hbo n 0 (List.replicate n false) (by omega) (List.length_replicate ..) (fun j hj => absurd hj (by omega))
  refine ⟨k + 1, ?_⟩
  have hw : wrap64 ((wrap64 (8 * (l.length : Int))) - (n : Int)) = 8 * (l.length : Int) - n := by rw [i64w, i64w]; omega
  unfold PFnLevelStructs.spec_BitList.f
  rw [if_neg (by omega), if_neg (by omega), hw, decide_eq_false (by omega), PFnLevelStructs.spec_BitList.j0, if_neg (by simp), if_pos (by omega), Int.toNat_natCast, if_pos (by omega), Option.bind_some, List.length_replicate]
  exact hk
/-- Which rows are there. -/
def presB (l : List S25) : List Bool := l.map fun v => !v.f0
theorem presB_take {l : List S25} {i : Nat} (h : i < l.length) : presB (l.take (i + 1)) = presB (l.take i) ++ [!(l.getD i z25).f0] := by
  unfold presB
  rw [take_getD h, List.map_append]
  rfl
theorem pr_l0 (l : List S25) (hl : l.length ≤ 100000) : ∀ r i : Nat, i + r = l.length → ∃ k, PFnLevelStructs.laws_present.l0 k (presB (l.take i)) l (l.length : Int) (i : Int) = some (presB l)
  | 0, i, h => ⟨1, by rw [PFnLevelStructs.laws_present.l0, if_neg (by omega), List.take_of_length_le (by omega)]⟩
  | r + 1, i, h => by
    obtain ⟨k, hk⟩ := pr_l0 l hl r (i + 1) (by omega)
    refine ⟨k + 1, ?_⟩
    have hlen : (presB (l.take i)).length ≤ 100000 := by unfold presB; rw [List.length_map, List.length_take]; omega
    rw [presB_take (by omega)] at hk
    rw [PFnLevelStructs.laws_present.l0, if_pos (by omega), if_pos (by omega), if_pos (by omega), if_pos (by omega), rdT, w1_ i (by omega)]
    exact hk
theorem pr_is (l : List S25) (hl : l.length ≤ 100000) : ∃ k, PFnLevelStructs.laws_present.f k l = some (presB l) := pr_l0 l hl l.length 0 (by omega)
theorem nc_l0 (l : List S25) (hl : l.length ≤ 100000) : ∀ r i : Nat, i + r = l.length → ∃ k, PFnLevelStructs.spec_NullCount.l0 k (nulls (presB (l.take i)) : Int) l (l.length : Int) (i : Int) = some (nulls (presB l) : Int)
  | 0, i, h => ⟨1, by rw [PFnLevelStructs.spec_NullCount.l0, if_neg (by omega), List.take_of_length_le (by omega)]⟩
  | r + 1, i, h => by
    obtain ⟨k, hk⟩ := nc_l0 l hl r (i + 1) (by omega)
    refine ⟨k + 1, ?_⟩
    have hlen : nulls (presB (l.take i)) ≤ 100000 := by
      have := nulls_le (presB (l.take i))
      unfold presB at this ⊢
      rw [List.length_map, List.length_take] at this
      omega
    rw [presB_take (by omega), nulls_append] at hk
    rw [PFnLevelStructs.spec_NullCount.l0, if_pos (by omega), if_pos (by omega), if_pos (by omega), rdT]
    cases hv : (l.getD i z25).f0
    · rw [hv] at hk
      rw [if_neg (by decide), w1_ i (by omega)]
      exact hk
    · rw [hv] at hk
      rw [if_pos rfl, w1_ _ (by omega), w1_ i (by omega)]
      exact hk
theorem nc_is (l : List S25) (hl : l.length ≤ 100000) : ∃ k, PFnLevelStructs.spec_NullCount.f k l = some (nulls (presB l) : Int) := nc_l0 l hl l.length 0 (by omega)
theorem tr_l0 (l : List S25) (hl : l.length ≤ 100000) (x7 : List Bool) (x159002 : List Int) (first : List Bool) (hf : ∀ b ∈ first, b = true) (hfl : first.length ≤ 100000) (h7 : x7 = presB l) : ∀ r i : Nat, i + r = first.length → ∃ k, PFnLevelStructs.laws_toldRight.l0 k l x7 true true first (first.length : Int) (i : Int) (l.length : Int) (nulls (presB l) : Int) x159002 = some true
  | 0, i, h => by
    subst h7
    obtain ⟨k1, g1⟩ := pr_is l hl
    obtain ⟨k2, g2⟩ := sb_is (presB l) (by unfold presB; rw [List.length_map]; exact hl)
    obtain ⟨k3, g3⟩ := nc_is l hl
    have g1 := lift_ (f := fun k => PFnLevelStructs.laws_present.f k _) (fun k => PFnLevelStructs.laws_present.mono _ k) g1 (max k1 (max k2 k3)) (by omega)
    have g2 := lift_ (f := fun k => PFnLevelStructs.spec_SameBools.f k _ _) (fun k => PFnLevelStructs.spec_SameBools.mono _ _ k) g2 (max k1 (max k2 k3)) (by omega)
    have g3 := lift_ (f := fun k => PFnLevelStructs.spec_NullCount.f k _) (fun k => PFnLevelStructs.spec_NullCount.mono _ k) g3 (max k1 (max k2 k3)) (by omega)
    refine ⟨max k1 (max k2 k3) + 1, ?_⟩
    rw [PFnLevelStructs.laws_toldRight.l0, if_neg (by omega), if_pos rfl, if_pos rfl, g1, Option.bind_some, g2, Option.bind_some, if_pos rfl, if_pos rfl, g3, Option.bind_some]
    simp
  | r + 1, i, h => by
    obtain ⟨k, hk⟩ := tr_l0 l hl x7 x159002 first hf hfl h7 r (i + 1) (by omega)
    refine ⟨k + 1, ?_⟩
    have e : rdOf false first (i : Int) = true := by
      unfold rdOf
      rw [Int.toNat_natCast, List.getD_eq_getElem?_getD, List.getElem?_eq_getElem (by omega)]
      exact hf _ (List.getElem_mem _)
    rw [PFnLevelStructs.laws_toldRight.l0, if_pos (by omega), if_pos (by omega), if_pos (by omega), if_pos rfl, e, w1_ i (by omega)]
    exact hk
theorem tr_is (l : List S25) (hl : l.length ≤ 1000) (a : Nat) (ha : a ≤ 1000) (r : List Int) (hr : a + l.length ≤ 8 * r.length) (hr2 : r.length ≤ 50000) (hbo : bytesOk r = true) (hb : ∀ k, k < a + l.length → bt1 r k = if k < a then true else (presB l).getD (k - a) false) :
    ∃ k, PFnLevelStructs.laws_toldRight.f k (l.length : Int) (nulls (presB l) : Int) r l (a : Int) = some true := by
  obtain ⟨k1, g1⟩ := blf_is (l := r) (f := a) (n := l.length) hr (by omega) (by omega) hbo
  obtain ⟨k2, g2⟩ := blf_is (l := r) (f := 0) (n := a) (by omega) (by omega) (by omega) hbo
  have e1 : (List.range l.length).map (fun j => bt1 r (a + j)) = presB l := by
    apply List.ext_getElem?
    intro j
    by_cases hj : j < l.length
    · rw [List.getElem?_map, List.getElem?_range hj]
      simp only [Option.map_some]
      rw [hb (a + j) (by omega), if_neg (by omega), show a + j - a = j by omega, List.getD_eq_getElem?_getD]
      have : j < (presB l).length := by unfold presB; rw [List.length_map]; exact hj
      rw [List.getElem?_eq_getElem this]
      rfl
    · rw [List.getElem?_eq_none (by simp; omega), List.getElem?_eq_none (by unfold presB; simp; omega)]
  rw [e1] at g1
  obtain ⟨first, hfe⟩ : ∃ first, first = (List.range a).map (fun j => bt1 r (0 + j)) := ⟨_, rfl⟩
  rw [← hfe] at g2
  have hfl : first.length = a := by rw [hfe]; simp
  have hft : ∀ b ∈ first, b = true := fun b hb2 => by
    rw [hfe] at hb2
    obtain ⟨j, hj, rfl⟩ := List.mem_map.1 hb2
    rw [hb (0 + j) (by have := List.mem_range.1 hj; omega), if_pos (by have := List.mem_range.1 hj; omega)]
  obtain ⟨k3, g3⟩ := tr_l0 l (by omega) (presB l) r first hft (by omega) rfl first.length 0 (by omega)
  have g1 := lift_ (f := fun k => PFnLevelStructs.spec_BitList.f k _ _ _) (fun k => PFnLevelStructs.spec_BitList.mono _ _ _ k) g1 (max k1 (max k2 k3)) (by omega)
  have g2 := lift_ (f := fun k => PFnLevelStructs.spec_BitList.f k _ _ _) (fun k => PFnLevelStructs.spec_BitList.mono _ _ _ k) g2 (max k1 (max k2 k3)) (by omega)
  have g3 := lift_ (f := fun k => PFnLevelStructs.laws_toldRight.l0 k _ _ _ _ _ _ _ _ _ _) (fun k => (PFnLevelStructs.laws_toldRight.mono_l k) _ _ _ _ _ _ _ _ _ _) g3 (max k1 (max k2 k3)) (by omega)
  refine ⟨max k1 (max k2 k3), ?_⟩
  unfold PFnLevelStructs.laws_toldRight.f
  rw [g1, Option.bind_some]
  rw [show ((0 : Nat) : Int) = 0 from rfl] at g2
  rw [g2, Option.bind_some]
  exact g3
theorem tb (x m : Nat) : decide ((x : Int) / 2 ^ m % 2 = 1) = x.testBit m := by
  rw [Nat.testBit_eq_decide_div_mod_eq]
  have hp : ((2 ^ m : Nat) : Int) = (2 : Int) ^ m := Int.natCast_pow 2 m
  rw [← hp, decide_eq_decide]
  generalize 2 ^ m = z
  have e2 : ((x : Int) / (z : Int)) = ((x / z : Nat) : Int) := (Int.natCast_ediv x z).symm
  rw [e2]
  omega
theorem or_all : ∀ (x : Fin 256) (m : Fin 8), Go.bits .or .u8 ((x.1 : Nat) : Int) (shl .u8 1 ((m.1 : Nat) : Int)) = ((x.1 ||| 2 ^ m.1 : Nat) : Int) := by decide +kernel
theorem rd_set {l : List Int} {q j : Nat} {y : Int} (h : q < l.length) : rd (l.set q y) (j : Int) = if j = q then y else rd l (j : Int) := by
  unfold rd
  rw [Int.toNat_natCast, List.getD_eq_getElem?_getD, List.getD_eq_getElem?_getD]
  by_cases e : j = q
  · subst e
    rw [if_pos rfl, List.getElem?_set_self h]
    rfl
  · rw [if_neg e, List.getElem?_set_ne (fun h => e h.symm)]
theorem bytesOk_set {l : List Int} {q : Nat} {y : Int} (h : bytesOk l = true) (hy : 0 ≤ y ∧ y < 256) : bytesOk (l.set q y) = true := by
  unfold bytesOk at h ⊢
  rw [List.all_eq_true] at h ⊢
  intro x hx
  rcases List.mem_or_eq_of_mem_set hx with hx | rfl
  · exact h x hx
  · simp only [Bool.and_eq_true, decide_eq_true_eq]; omega
theorem rm_l0 (n a L : Nat) (hL : a < 8 * L) (ha : a ≤ 1000) : ∀ (r i : Nat) (x : List Int), i + r = a → x.length = L → bytesOk x = true → (∀ k, k < 8 * L → bt1 x k = decide (k < i)) →
    ∃ k B, PFnLevelStructs.laws_roomFor.l0 k (n : Int) (a : Int) x (a : Int) (i : Int) = some ((n : Int), true, B, (a : Int)) ∧ B.length = L ∧ bytesOk B = true ∧ ∀ k, k < 8 * L → bt1 B k = decide (k < a)
  | 0, i, x, h, hx, ho, hv => ⟨1, x, by rw [PFnLevelStructs.laws_roomFor.l0, if_neg (by omega)], hx, ho, by
    obtain rfl : i = a := by omega
    exact hv⟩
  | r + 1, i, x, h, hx, ho, hv => by
    have hd : Int.tdiv (i : Int) 8 = ((i / 8 : Nat) : Int) := rfl
    have hm : Int.tmod (i : Int) 8 = ((i % 8 : Nat) : Int) := rfl
    have hw : wrap64 ((i / 8 : Nat) : Int) = ((i / 8 : Nat) : Int) := by rw [i64w]; omega
    have hb := bytes_ok ho ((i / 8 : Nat) : Int)
    obtain ⟨y, hy⟩ : ∃ y : Nat, rd x ((i / 8 : Nat) : Int) = (y : Int) := ⟨(rd x ((i / 8 : Nat) : Int)).toNat, by omega⟩
    have hy2 : y < 256 := by omega
    have hor := or_all ⟨y, hy2⟩ ⟨i % 8, by omega⟩
    simp only at hor
    have hlt : y ||| 2 ^ (i % 8) < 256 := Nat.or_lt_two_pow (n := 8) hy2 (pow8 (by omega))
    obtain ⟨k, B, hk, h1, h2, h3⟩ := rm_l0 n a L hL ha r (i + 1) (x.set (i / 8) ((y ||| 2 ^ (i % 8) : Nat) : Int)) (by omega) (by rw [List.length_set]; exact hx) (bytesOk_set ho (by omega)) (fun k hk => by
      unfold bt1
      rw [rd_set (by omega)]
      by_cases e : k / 8 = i / 8
      · rw [if_pos e, tb, Nat.testBit_or, Nat.testBit_two_pow]
        have h4 := hv k hk
        unfold bt1 at h4
        rw [e, hy, tb] at h4
        rw [h4]
        by_cases e2 : i % 8 = k % 8
        · rw [decide_eq_true e2, Bool.or_true, decide_eq_true (by omega)]
        · rw [decide_eq_false e2, Bool.or_false]
          exact decide_eq_decide.2 (by omega)
      · rw [if_neg e]
        have h4 := hv k hk
        unfold bt1 at h4
        rw [h4]
        exact decide_eq_decide.2 (by omega))
    refine ⟨k + 1, B, ?_, h1, h2, h3⟩
    rw [PFnLevelStructs.laws_roomFor.l0, hd, hm, hw, if_pos (by omega), if_pos (by omega), if_pos (by omega), if_pos (by omega), Int.toNat_natCast, hy, hor, w1_ i (by omega)]
    exact hk
theorem room_is (n a : Nat) (hn : n ≤ 1000) (ha : a ≤ 1000) : ∃ k B, PFnLevelStructs.laws_roomFor.f k (n : Int) (a : Int) = some ((n : Int), true, B, (a : Int)) ∧ B.length = (a + n + 7) / 8 + 1 ∧ bytesOk B = true ∧ ∀ k, k < 8 * ((a + n + 7) / 8 + 1) → bt1 B k = decide (k < a) := by
  have hw : wrap64 ((wrap64 (Int.tdiv (wrap64 ((wrap64 ((a : Int) + (n : Int))) + 7)) 8)) + 1) = (((a + n + 7) / 8 + 1 : Nat) : Int) := by
    have e1 : wrap64 ((a : Int) + (n : Int)) = ((a + n : Nat) : Int) := by rw [i64w]; omega
    have e2 : wrap64 (((a + n : Nat) : Int) + 7) = ((a + n + 7 : Nat) : Int) := by rw [i64w]; omega
    have e3 : Int.tdiv ((a + n + 7 : Nat) : Int) 8 = (((a + n + 7) / 8 : Nat) : Int) := rfl
    have e4 : wrap64 (((a + n + 7) / 8 : Nat) : Int) = (((a + n + 7) / 8 : Nat) : Int) := by rw [i64w]; omega
    rw [e1, e2, e3, e4, w1_ _ (by omega)]
  obtain ⟨L, hL⟩ : ∃ L, L = (a + n + 7) / 8 + 1 := ⟨_, rfl⟩
  rw [← hL] at hw ⊢
  obtain ⟨k, B, h1, h2, h3, h4⟩ := rm_l0 n a L (by omega) ha a 0 (List.replicate L 0) (by omega) (List.length_replicate ..) (by unfold bytesOk; rw [List.all_eq_true]; intro x hx; rw [(List.mem_replicate.1 hx).2]; rfl) (fun k hk => by
    have e : rd (List.replicate L (0 : Int)) ((k / 8 : Nat) : Int) = 0 := by
      unfold rd
      rw [Int.toNat_natCast, List.getD_eq_getElem?_getD, List.getElem?_replicate]
      split <;> rfl
    unfold bt1
    rw [e, Int.zero_ediv, decide_eq_false (by decide), decide_eq_false (by omega)])
  refine ⟨k, B, ?_, h2, h3, h4⟩
  unfold PFnLevelStructs.laws_roomFor.f
  rw [hw, if_pos (by omega), Int.toNat_natCast, if_pos (by omega)]
  exact h1
end Go.Proofs.YtjipnopadpedoaaDoor.QR
