/- The thin package's function: numbers are put into bytes, compared, the answers handed back. -/
import Derived.Test.YtlnbkmkdapeicaaDoorF14d
import Derived.Test.YtlnbkmkdapeicaaDoorQTx1
import Derived.Defers
import Derived.Recover
import Derived.Laws.Pointers
import Derived.Laws.Panics
namespace Go.Proofs.YtlnbkmkdapeicaaDoor.QR
open Go.RowKit Go.Proofs.YtlnbkmkdapeicaaDoorW.PrintWords Go.Proofs.YtlnbkmkdapeicaaDoorW.PrintLast Go.Proofs.YtlnbkmkdapeicaaDoorW.PrintMore
set_option linter.unusedVariables false
set_option linter.unusedSimpArgs false
theorem idle (p q : Addr) (w : World) :
    CallsD Tryd.prog 13 #[.pointer (some p), .pointer (some q)] .returning w fun e u' w' => e = .returned (.tuple #[]) ∧ u' = .returning ∧ w' = w := by
  refine callsD_of_wpS Tryd.func13 rfl fun c₀ cs hu => ?_
  apply wpS_seq
  apply wpS_region
  simp [wpOpsS, go_sem, recoverD, hu, Tryd.ntmps13, Exit.thenS]
  refine wpS_cond (t := false) (by simp [Act.eval, Array.replicate]) ?_
  simp only [Bool.false_eq_true, if_false]
  refine wpS_of_wp (wp_skip ?_)
  cases c₀
  simp_all [bodyPostS, results, Tryd.results13]
def cB (l : List Int) : List Value := l.map (.int .u8)
theorem cB_len (l : List Int) : (cB l).length = l.length := by simp [cB]
/-- Both halves of each decimal. -/
def unp : List Dc → List Int
  | [] => []
  | x :: xs => x.1 :: x.2 :: unp xs
theorem unp_len : ∀ (xs : List Dc), (unp xs).length = 2 * xs.length
  | [] => rfl
  | x :: xs => by unfold unp; rw [List.length_cons, List.length_cons, unp_len xs, List.length_cons]; omega
theorem unp_append : ∀ (a b : List Dc), unp (a ++ b) = unp a ++ unp b
  | [], b => rfl
  | x :: r, b => by rw [List.cons_append]; simp only [unp]; rw [unp_append r b]; rfl
theorem unp_get0 : ∀ {xs : List Dc} {i : Nat}, i < xs.length → (unp xs).getD (2 * i) 0 = (rdD xs i).1
  | [], i, h => by simp at h
  | x :: xs, 0, h => rfl
  | x :: xs, i + 1, h => by
    rw [show 2 * (i + 1) = 2 * i + 1 + 1 by omega]
    unfold unp
    rw [List.getD_cons_succ, List.getD_cons_succ, unp_get0 (by simpa using h)]
    rfl
theorem unp_get1 : ∀ {xs : List Dc} {i : Nat}, i < xs.length → (unp xs).getD (2 * i + 1) 0 = (rdD xs i).2
  | [], i, h => by simp at h
  | x :: xs, 0, h => rfl
  | x :: xs, i + 1, h => by
    rw [show 2 * (i + 1) + 1 = 2 * i + 1 + 1 + 1 by omega]
    unfold unp
    rw [List.getD_cons_succ, List.getD_cons_succ, unp_get1 (by simpa using h)]
    rfl
/-- The bytes of decimals. -/
def flatD (zs : List Dc) : List Int := flatN 8 (unp zs)
theorem flatD_len (zs : List Dc) : (flatD zs).length = 16 * zs.length := by unfold flatD; rw [flatN_len, unp_len]; omega
theorem flatD_append (a b : List Dc) : flatD (a ++ b) = flatD a ++ flatD b := by unfold flatD; rw [unp_append, flatN_append]
theorem flatD_one (z : Dc) : flatD [z] = dB z := by simp [flatD, unp, flatN, dB]
theorem bytesOk_flatD (zs : List Dc) : bytesOk (flatD zs) = true := bytesOk_flatN _ _
/-- Decimals that have been put so far. -/
def rowB (zs : List Dc) (n i : Nat) : List Value := cB (flatD (zs.take i) ++ List.replicate (16 * (n - i)) 0)
theorem rowB_len {zs : List Dc} {i : Nat} (h : i ≤ zs.length) : (rowB zs zs.length i).length = 16 * zs.length := by
  unfold rowB
  rw [cB_len, List.length_append, flatD_len, List.length_take, List.length_replicate, Nat.min_eq_left h]
  omega
theorem rowB_put {zs : List Dc} {i : Nat} (h : i < zs.length) {z : Dc} (hz : zs[i]? = some z) : put (rowB zs zs.length i) (16 * i) ((dB z).map (.int .u8)) = rowB zs zs.length (i + 1) := by
  have hfl : (flatD (zs.take i)).length = 16 * i := by rw [flatD_len, List.length_take, Nat.min_eq_left (by omega)]
  unfold put rowB cB
  rw [List.length_map, dB_len, List.map_append, List.map_append, List.take_append_of_le_length (by rw [List.length_map, hfl]; exact Nat.le_refl _), List.take_of_length_le (by rw [List.length_map, hfl]; exact Nat.le_refl _), List.drop_append, List.drop_eq_nil_of_le (by rw [List.length_map, hfl]; omega), List.nil_append, List.length_map, hfl]
  have hts : zs.take (i + 1) = zs.take i ++ [z] := by
    rw [List.take_add_one, hz]
    rfl
  rw [hts, flatD_append, List.map_append, flatD_one, show 16 * i + 16 - 16 * i = 16 by omega]
  rw [show 16 * (zs.length - i) = 16 + 16 * (zs.length - (i + 1)) by omega, ← List.replicate_append_replicate, List.map_append, List.drop_append_of_le_length (by simp), List.drop_eq_nil_of_le (by simp), List.nil_append, List.append_assoc]
theorem rowB_byte {zs : List Dc} {i q : Nat} (h : i ≤ zs.length) (hq : q < 16 * zs.length) : ∃ y, (rowB zs zs.length i)[q]? = some (.int .u8 y) := by
  have hl := rowB_len h
  unfold rowB cB at hl ⊢
  rw [List.getElem?_map]
  rw [List.length_map] at hl
  rw [List.getElem?_eq_getElem (by omega)]
  exact ⟨_, rfl⟩
theorem rowB_zero (zs : List Dc) : rowB zs zs.length 0 = List.replicate (16 * zs.length) (.int .u8 0) := by
  simp [rowB, cB, flatD, unp, flatN]
theorem rowB_end (zs : List Dc) : rowB zs zs.length zs.length = cB (flatD zs) := by
  simp [rowB]
theorem cB_C {W : World} {g et : Nat} {l : List Int} (hg : W.heap[g]? = some (.cells (cB l).toArray et (0, 0))) (h : l.length ≤ 1000000) : Cu W (some ⟨g, 0, none⟩) l := by
  refine Kd.C_of_reads (d := (0 : Int)) (enc := Value.int .u8) ⟨rfl, by omega, fun _ => ⟨_, rfl, fun j hj => ?_⟩⟩
  rw [show ((⟨g, 0, none⟩ : Addr).add j) = ⟨g, j, none⟩ by simp [Addr.add]; exact fun h => h.symm]
  rw [blk_cell hg j, cB, List.getElem?_toArray, List.getElem?_map, List.getElem?_eq_getElem hj]
  simp [rdOf, List.getD_eq_getElem?_getD, hj]
theorem w16_eq (l : List Int) (i : Nat) : w16 l i = (w8 l (2 * i), IntKind.i64.wrap (w8 l (2 * i + 1))) := by
  unfold w16 w8 le8f
  rw [show 8 * (2 * i + 1) = 16 * i + 8 by omega, show 8 * (2 * i) = 16 * i by omega]
  rfl
theorem elsI_flat (zs : List Dc) (hz : ∀ z ∈ zs, (0 ≤ z.1 ∧ z.1 < 18446744073709551616) ∧ IntKind.i64.wrap z.2 = z.2) : elsI (flatD zs) zs.length = zs := by
  apply List.ext_getElem?
  intro i
  unfold elsI
  rw [List.getElem?_map]
  by_cases h : i < zs.length
  · rw [List.getElem?_range h, List.getElem?_eq_getElem h]
    simp only [Option.map_some, Option.some.injEq]
    have hr : rdD zs i = zs[i] := by have h1 := rdD_get h; rw [List.getElem?_eq_getElem h] at h1; exact (Option.some.inj h1).symm
    unfold flatD
    rw [w16_eq, w8_flat (by rw [unp_len]; omega), w8_flat (by rw [unp_len]; omega), unp_get0 h, unp_get1 h, hr]
    obtain ⟨h0, h1⟩ := hz _ (List.getElem_mem h)
    generalize zs[i] = z at h0 h1 ⊢
    obtain ⟨a, b⟩ := z
    refine Prod.ext ?_ ?_
    · show a % 18446744073709551616 = a
      simp only at h0
      omega
    · show IntKind.i64.wrap (b % 18446744073709551616) = b
      simp only at h1
      rw [IntKind.wrap_i64] at h1 ⊢
      omega
  · rw [List.getElem?_eq_none (by simp; omega), List.getElem?_eq_none (by omega)]
    rfl
theorem info5 : (Tryd.prog.info? 5).map (fun i => (i.zero, i.size, i.bytes)) = some (some (.int .u8 0), 1, 1) := by kernel_rfl
/-- copied: a row of its own, by its cells. -/
theorem cpd_is (A : Option Addr) (l : List Int) (c : Nat) (w : World) (hC : Cu w A l) (hc : l.length ≤ c) (hl : l.length ≤ 1000000) (hbo : bytesOk l = true) : Calls Tryd.prog 14 #[.slice A l.length c] w fun e w' => ∃ A' c', e = .returned (.slice A' l.length c') ∧ l.length ≤ c' ∧ (0 < l.length → ∃ g us, A' = some ⟨g, 0, none⟩ ∧ w.heap.size ≤ g ∧ w'.heap[g]? = some (.cells us.toArray 5 (0, 0)) ∧ OkU us l.length ∧ bytesU us l.length = l) ∧ Below w.heap.size w w' := by
  have hf : QT.impl_copied.f l = some l := by
    unfold QT.impl_copied.f
    simp only [Option.bind_some, List.nil_append, List.length_nil]
    rw [if_pos (by omega)]
  refine (QT.impl_copied.calls A c l l w hC hc hf).mono ?_
  rintro e w' ⟨v, rfl, hR, hB⟩
  obtain ⟨A', c', rfl, hl', hr⟩ := Kd.R_reads hR
  refine ⟨A', c', rfl, hl', fun h0 => ?_, hB⟩
  obtain ⟨_, inner, ho, _⟩ := hR
  rcases ho.2 with ⟨h1, _⟩ | ⟨g, cap, cur, h1, hg, hh, r⟩
  · obtain ⟨ad, h2, _⟩ := hr.2.2 h0
    rw [h2] at h1
    cases h1
  · cases h1
    have hget : ∀ q, q < l.length → cur.toList[q]? = some (.int .u8 (rd l (q : Int))) := by
      intro q hq
      obtain ⟨ad2, e2, h3⟩ := Kd.at_int hr (q : Int) (by omega) (by omega)
      cases e2
      rw [Int.toNat_natCast, show ((⟨g, 0, none⟩ : Addr).add q) = ⟨g, q, none⟩ by simp [Addr.add]; exact fun h => h.symm, blk_cell hh q] at h3
      simpa using h3
    have hlen : l.length ≤ cur.toList.length := by
      rcases Nat.lt_or_ge cur.toList.length l.length with h | h
      · have := hget (l.length - 1) (by omega)
        rw [List.getElem?_eq_none (by omega)] at this
        cases this
      · exact h
    refine ⟨g, cur.toList, rfl, hg, by simpa using hh, ⟨hlen, fun q hq => ⟨_, hget q hq, bytes_ok hbo _⟩⟩, ?_⟩
    apply List.ext_getElem?
    intro q
    unfold bytesU
    rw [List.getElem?_map]
    by_cases h : q < l.length
    · rw [List.getElem?_range h, List.getElem?_eq_getElem h]
      simp only [Option.map_some, Option.some.injEq]
      rw [byt_of (hget q h)]
      unfold rd
      rw [Int.toNat_natCast, List.getD_eq_getElem?_getD, List.getElem?_eq_getElem h]
      rfl
    · rw [List.getElem?_eq_none (by simp; omega), List.getElem?_eq_none (by omega)]
      rfl
end Go.Proofs.YtlnbkmkdapeicaaDoor.QR
