/- put: a value of lists. -/
import Derived.Test.YtjipnopadpedoaaDoorH11
import Derived.Test.YtjipnopadpedoaaDoorPFnLevelStructsx1
namespace Go.Proofs.YtjipnopadpedoaaDoor.QR
open Go.RowKit Go.Proofs.YtjipnopadpedoaaDoorW.PrintWords Go.Proofs.YtjipnopadpedoaaDoorW.PrintLast Go.Proofs.YtjipnopadpedoaaDoorW.PrintMore
open Go.Proofs.YtjipnopadpedoaaDoor.PFnLevelStructs (S25 z25 k25 rd_T25 at_T25)
set_option linter.unusedVariables false
set_option linter.unusedSimpArgs false
/-- The levels of a value. -/
def shr : Nat → Nat → S25 → Nat → Nat → List (Nat × Nat)
  | 0, lv, v, df, rp => [(if v.f0 then df else df + 1, rp)]
  | d + 1, lv, v, df, rp => if v.f0 then [(df, rp)] else if v.f3.length = 0 then [(df + 1, rp)] else (List.range v.f3.length).flatMap fun j => shr d (lv + 1) (v.f3.getD j z25) (df + 2) (if j = 0 then rp else lv + 1)
def kidsP (d lv : Nat) (ks : List S25) (df rp i : Nat) : List (Nat × Nat) := (List.range i).flatMap fun j => shr d (lv + 1) (ks.getD j z25) (df + 2) (if j = 0 then rp else lv + 1)
theorem kidsP_succ (d lv : Nat) (ks : List S25) (df rp i : Nat) : kidsP d lv ks df rp (i + 1) = kidsP d lv ks df rp i ++ shr d (lv + 1) (ks.getD i z25) (df + 2) (if i = 0 then rp else lv + 1) := by
  unfold kidsP
  rw [List.range_succ, List.flatMap_append]
  simp
theorem kidsP_le (d lv : Nat) (ks : List S25) (df rp : Nat) : ∀ (i r : Nat), (kidsP d lv ks df rp i).length ≤ (kidsP d lv ks df rp (i + r)).length
  | i, 0 => Nat.le_refl _
  | i, r + 1 => by
    rw [← Nat.add_assoc, kidsP_succ, List.length_append]
    have := kidsP_le d lv ks df rp i r
    omega
theorem kidsP_ge' (d lv : Nat) (ks : List S25) (df rp : Nat) (h : ∀ v df rp, 1 ≤ (shr d (lv + 1) v df rp).length) : ∀ i, i ≤ (kidsP d lv ks df rp i).length
  | 0 => Nat.zero_le _
  | i + 1 => by
    rw [kidsP_succ, List.length_append]
    have := kidsP_ge' d lv ks df rp h i
    have := h (ks.getD i z25) (df + 2) (if i = 0 then rp else lv + 1)
    omega
theorem shr_pos : ∀ (d lv : Nat) (v : S25) (df rp : Nat), 1 ≤ (shr d lv v df rp).length
  | 0, lv, v, df, rp => by unfold shr; simp
  | d + 1, lv, v, df, rp => by
    unfold shr
    split
    · simp
    · split
      · simp
      · rename_i h1 h2
        have := kidsP_ge' d lv v.f3 df rp (fun v df rp => shr_pos d (lv + 1) v df rp) v.f3.length
        unfold kidsP at this
        omega
theorem kidsP_ge (d lv : Nat) (ks : List S25) (df rp i : Nat) : i ≤ (kidsP d lv ks df rp i).length := kidsP_ge' d lv ks df rp (fun v df rp => shr_pos d (lv + 1) v df rp) i
def dsN (l : List (Nat × Nat)) : List Int := l.map fun p => (p.1 : Int)
def rsN (l : List (Nat × Nat)) : List Int := l.map fun p => (p.2 : Int)
theorem dsN_append (a b : List (Nat × Nat)) : dsN (a ++ b) = dsN a ++ dsN b := List.map_append
theorem rsN_append (a b : List (Nat × Nat)) : rsN (a ++ b) = rsN a ++ rsN b := List.map_append
theorem dsN_len (a : List (Nat × Nat)) : (dsN a).length = a.length := List.length_map ..
theorem rsN_len (a : List (Nat × Nat)) : (rsN a).length = a.length := List.length_map ..
set_option maxHeartbeats 8000000 in
set_option maxRecDepth 100000 in
theorem put_is (w0 : World) (g : Nat) : ∀ (d lv : Nat) (v : S25) (A3 : Option Addr) (c3 df rp : Nat) (D R : List Int) (w : World), SR w0 w g D R → Kd.C k25 w0 A3 v.f3.length v.f3 → v.f3.length ≤ c3 → df + 2 * d < 900 → rp < 900 → lv + d < 900 → D.length + (shr d lv v df rp).length ≤ 4000000 → R.length = D.length →
    Calls Tryd.prog 11 #[.pointer (some ⟨g, 0, none⟩), .agg #[.bool v.f0, .int .u64 v.f1, .string v.f2, .slice A3 v.f3.length c3], .int .i64 ((lv + d : Nat) : Int), .int .i64 (lv : Int), .int .i64 (df : Int), .int .i64 (rp : Int)] w fun e w' => e = .returned (.tuple #[]) ∧ SR w0 w' g (D ++ dsN (shr d lv v df rp)) (R ++ rsN (shr d lv v df rp))
  | 0, lv, v, A3, c3, df, rp, D, R, w, h, hC, hc, h1, h2, h3, h4, h5 => by
    unfold shr at h4 ⊢
    simp only [List.length_singleton] at h4
    cases hv : v.f0
    · exact put1_is w0 g D R v.f1 v.f2 A3 c3 v.f3.length lv lv df rp w h (by omega) (by omega) (by omega) (by omega)
    · exact put0_is w0 g D R v.f1 v.f2 A3 c3 v.f3.length lv lv df rp w h (by omega) (by omega) (by omega) (by omega)
  | d + 1, lv, v, A3, c3, df, rp, D, R, w, h, hC, hc, h1, h2, h3, h4, h5 => by
    cases hv : v.f0
    · by_cases hn : v.f3.length = 0
      · have hs : shr (d + 1) lv v df rp = [(df + 1, rp)] := by unfold shr; rw [hv, if_neg (by decide), if_pos hn]
        rw [hs] at h4 ⊢
        rw [hn]
        simp only [List.length_singleton] at h4
        exact put2_is w0 g D R v.f1 v.f2 A3 c3 0 (lv + (d + 1)) lv df rp w h (by omega) (by omega) (by omega) (by omega) (by omega)
      · have hs : shr (d + 1) lv v df rp = kidsP d lv v.f3 df rp v.f3.length := by unfold shr; rw [hv, if_neg (by decide), if_neg hn]; rfl
        rw [hs] at h4 ⊢
        have QI := Aside0.mk (fun (i : Nat) (hi : i < v.f3.length) (W : World) (hS : SR w0 W g (D ++ dsN (kidsP d lv v.f3 df rp i)) (R ++ rsN (kidsP d lv v.f3 df rp i))) (A : Option Addr) (c : Nat) (hA : Kd.C k25 w0 A (v.f3.getD i z25).f3.length (v.f3.getD i z25).f3) (hcA : (v.f3.getD i z25).f3.length ≤ c) => put_is w0 g d (lv + 1) (v.f3.getD i z25) A c (df + 2) (if i = 0 then rp else lv + 1) _ _ W hS hA hcA (by omega) (by split <;> omega) (by omega) (by
          have h6 := kidsP_succ d lv v.f3 df rp i
          have h7 := kidsP_le d lv v.f3 df rp (i + 1) (v.f3.length - (i + 1))
          rw [show i + 1 + (v.f3.length - (i + 1)) = v.f3.length by omega, h6, List.length_append] at h7
          rw [List.length_append, dsN_len]
          omega) (by rw [List.length_append, List.length_append, dsN_len, rsN_len, h5]))
        have QC := Aside0.mk hC
        have QS := Aside0.mk h
        obtain ⟨n, hn1⟩ : ∃ n, n = v.f3.length := ⟨_, rfl⟩
        have Qn := Aside0.mk hn1
        rw [← hn1] at hn hc ⊢
        obtain ⟨ls, hls⟩ : ∃ ls, ls = lv + (d + 1) := ⟨_, rfl⟩
        have Qls := Aside0.mk hls
        rw [← hls]
        have l1 : ((lv : Int) == (ls : Int)) = false := by simp; omega
        have l2 : ¬ (lv : Int) = (ls : Int) := by omega
        have l3 : ¬ lv = ls := by omega
        have n1 : ((n : Int) == 0) = false := by simp; omega
        have n2 : ¬ (n : Int) = 0 := by omega
        have wl : IntKind.i64.wrap ((lv : Int) + 1) = ((lv + 1 : Nat) : Int) := by rw [IntWalk.i64_in _ (by omega)]; rfl
        have wf : IntKind.i64.wrap ((df : Int) + 2) = ((df + 2 : Nat) : Int) := by rw [IntWalk.i64_in _ (by omega)]; rfl
        have hn9 : n ≤ 9000000000000000000 := by
          have := kidsP_ge d lv v.f3 df rp v.f3.length
          omega
        clear hC h hs hn1 hls
        generalize v.f1 = f1
        generalize v.f2 = f2
        go_enter Tryd.func11, Tryd.ntmps11
        go_wp2
        go_loopg [5, 17] n (fun kq v5 v17 w' => ∃ (i x : Nat), v5 = .int .i64 (x : Int) ∧ v17 = .int .i64 (i : Int) ∧ Aside0 (i = 0 → x = rp) ∧ Aside0 (i + kq = n) ∧ Aside0 (SR w0 w' g (D ++ dsN (kidsP d lv v.f3 df rp i)) (R ++ rsN (kidsP d lv v.f3 df rp i))))
        case atStart => exact ⟨0, rp, rfl, rfl, ⟨fun _ => rfl⟩, ⟨by omega⟩, ⟨by rw [show kidsP d lv v.f3 df rp 0 = [] from rfl]; rw [show dsN [] = [] from rfl, show rsN [] = [] from rfl, List.append_nil, List.append_nil]; exact QS.out.step (b2 w _)⟩⟩
        case round =>
          obtain ⟨i, x, rfl, rfl, Hx, HA, HS⟩ := hrel
          rcases Nat.eq_zero_or_pos gk with h0 | h0
          · obtain rfl : i = n := by have := HA.out; omega
            go_wp2
            go_end0
            exact ⟨rfl, HS.out⟩
          · have hin : i < n := by have := HA.out; omega
            have hiI : (i : Int) < (n : Int) := by omega
            obtain ⟨k1, rfl⟩ : ∃ k1, gk = k1 + 1 := ⟨gk - 1, by omega⟩
            obtain ⟨ad, A4, c4, hA, a0, a1, a2, a3, a4, a5⟩ := at_T25 QC.out (i : Int) (by omega) (by have := Qn.out; omega)
            rw [Int.toNat_natCast, show rd_T25 v.f3 (i : Int) = v.f3.getD i z25 by unfold rd_T25; rw [Int.toNat_natCast]] at *
            subst hA
            obtain ⟨vD, vR, hP⟩ := HS.out
            replace a0 := cell_keep a0 hP.bl
            replace a1 := cell_keep a1 hP.bl
            replace a2 := cell_keep a2 hP.bl
            replace a3 := cell_keep a3 hP.bl
            have QR := Aside0.mk (fun (W : World) (hS : SR w0 W g (D ++ dsN (kidsP d lv v.f3 df rp i)) (R ++ rsN (kidsP d lv v.f3 df rp i))) => QI.out i (by have := Qn.out; omega) W hS A4 c4 a5 a4)
            have Qk := Aside0.mk (kidsP_succ d lv v.f3 df rp i)
            generalize v.f3.getD i z25 = q at *
            obtain ⟨q0, q1, q2, q3⟩ := q
            simp only at a0 a1 a2 a3
            rw [show lv + 1 + d = ls by have := Qls.out; omega] at QR
            have HS2 := Aside0.mk HS.out
            by_cases hi0 : i = 0
            · obtain rfl : x = rp := Hx.out hi0
              rw [if_pos hi0] at QR Qk
              have g0 := decide_eq_false (show ¬ (0 : Int) < (i : Int) by omega)
              have g0' : ¬ (0 : Int) < (i : Int) := by omega
              have g0n : ¬ 0 < i := by omega
              clear hi0 Hx
              rw [show ((lv + 1 : Nat) : Int) = (lv : Int) + 1 from rfl, show ((df + 2 : Nat) : Int) = (df : Int) + 2 from rfl] at QR
              go_wp2_with (go_at_call 11; (with_reducible refine Calls.mono (QR.out _ ?hSR) ?_); (case hSR => exact HS2.out.step (b2 wr _)); rintro e w5 ⟨rfl, hs⟩; have Q5 := Aside0.mk hs; clear hs)
              go_roundg k1
              case rel => exact ⟨i + 1, x, rfl, rfl, ⟨by omega⟩, ⟨by have := HA.out; omega⟩, ⟨by rw [Qk.out, dsN_append, rsN_append, ← List.append_assoc, ← List.append_assoc]; exact Q5.out⟩⟩
              · omega
            · rw [if_neg hi0] at QR Qk
              have g0 := decide_eq_true (show (0 : Int) < (i : Int) by omega)
              have g0' : (0 : Int) < (i : Int) := by omega
              have g0n : 0 < i := by omega
              clear Hx
              rw [show ((lv + 1 : Nat) : Int) = (lv : Int) + 1 from rfl, show ((df + 2 : Nat) : Int) = (df : Int) + 2 from rfl] at QR
              go_wp2_with (go_at_call 11; (with_reducible refine Calls.mono (QR.out _ ?hSR) ?_); (case hSR => exact HS2.out.step (b2 wr _)); rintro e w5 ⟨rfl, hs⟩; have Q5 := Aside0.mk hs; clear hs)
              go_roundg k1
              case rel => exact ⟨i + 1, lv + 1, rfl, rfl, ⟨by omega⟩, ⟨by have := HA.out; omega⟩, ⟨by rw [Qk.out, dsN_append, rsN_append, ← List.append_assoc, ← List.append_assoc]; exact Q5.out⟩⟩
              · omega
    · have hs : shr (d + 1) lv v df rp = [(df, rp)] := by unfold shr; rw [hv, if_pos rfl]
      rw [hs] at h4 ⊢
      simp only [List.length_singleton] at h4
      exact put0_is w0 g D R v.f1 v.f2 A3 c3 v.f3.length (lv + (d + 1)) lv df rp w h (by omega) (by omega) (by omega) (by omega)
end Go.Proofs.YtjipnopadpedoaaDoor.QR
