/- What impl.Unpack31 returns for the bytes that it needs: the 32 numbers, and true; the deferred noNumbers has nothing to catch. -/
import Derived.Test.YtblmpfhjghcddaaDoorV31
import Derived.Test.YtblmpfhjghcddaaDoorU5
import Derived.Defers
import Derived.Recover
import Derived.Laws.Pointers
import Derived.Laws.Panics
namespace Go.Proofs.YtblmpfhjghcddaaDoor.QU
open Go.RowKit Go.Proofs.YtblmpfhjghcddaaDoorW.PrintWords Go.Proofs.YtblmpfhjghcddaaDoorW.PrintLast Go.Proofs.YtblmpfhjghcddaaDoorW.PrintMore
set_option linter.unusedVariables false
set_option linter.unusedSimpArgs false
theorem idle31 (p q : Addr) (w : World) :
    CallsD Tryd.prog 21 #[.pointer (some p), .pointer (some q)] .returning w fun e u' w' => e = .returned (.tuple #[]) ∧ u' = .returning ∧ w' = w := by
  refine callsD_of_wpS Tryd.func21 rfl fun c₀ cs hu => ?_
  apply wpS_seq
  apply wpS_region
  simp [wpOpsS, go_sem, recoverD, hu, Tryd.ntmps21, Exit.thenS]
  refine wpS_cond (t := false) (by simp [Act.eval, Array.replicate]) ?_
  simp only [Bool.false_eq_true, if_false]
  refine wpS_of_wp (wp_skip ?_)
  cases c₀
  simp_all [bodyPostS, results, Tryd.results21]
theorem unpacks31 : Unpacks 39 31 := unpack31
theorem door31 (n c : Nat) (A : Addr) (D : Nat → Int) (w W : World) (hW : W.heap = (base4 w A n c).heap) (hn : 124 ≤ n) (hd : ∀ k, k < n → w.cell? (A.add k) = some (.int .u8 (D k))) (hdb : ∀ k, k < n → 0 ≤ D k ∧ D k < 256) (hA : A.block < w.heap.size) (hnc : n ≤ c) (hbig : n ≤ 9223372036854775807)
    (hbw : Below w.heap.size w W) :
    Calls Tryd.prog 31 #[.iface 34 (.pointer (some ⟨w.heap.size + 1 + 1 + 1, 0, none⟩)), .slice (some ⟨w.heap.size + 1 + 1, 0, none⟩) 32 32] W fun e w' => e = .returned (.tuple #[]) ∧ Fin_ w w' D 31 := by
  have C := Aside0.mk (unpacks_fin unpacks31 n c A D w W hW hn hd hdb hA hnc hbig hbw)
  clear hW hn hd hdb hA hnc hbig hbw
  go_enter Tryd.func31, Tryd.ntmps31
  go_wp2_with fail
  refine C.out.mono ?_
  rintro e w' ⟨rfl, HF⟩
  have HF := Aside0.mk HF
  go_wp2
  go_end0
  exact ⟨rfl, HF.out⟩
set_option maxHeartbeats 8000000 in
set_option maxRecDepth 100000 in
theorem impl31 (n c : Nat) (A : Addr) (D : Nat → Int) (w : World) (hn : 124 ≤ n) (hd : ∀ k, k < n → w.cell? (A.add k) = some (.int .u8 (D k))) (hdb : ∀ k, k < n → 0 ≤ D k ∧ D k < 256) (hA : A.block < w.heap.size) (hnc : n ≤ c) (hbig : n ≤ 9223372036854775807) :
    Calls Tryd.prog 20 #[.slice (some A) n c] w fun e w' => ∃ v0_ : Value, e = .returned (.tuple #[v0_, .bool true]) ∧ Kd.R (Kd.int .u32) 30 w' w.heap.size (fun _ => True) v0_ (outs D 31) ∧ Below w.heap.size w w' := by
  have mixed : Tryd.prog.follows .mixedOrders = true := by kernel_rfl
  have hmk : ∀ w, (Instr.makeSlice 23 (.int .i64 32) (.int .i64 32)).run Tryd.prog w = .ok (.slice (some ⟨w.heap.size, 0, none⟩) 32 32) (w.alloc (.cells (Array.replicate 32 (.int .u32 0)) 30)) := fun _ => by kernel_rfl
  have HD := fun (W : World) (hW : W.heap = (base4 w A n c).heap) (hbw : Below w.heap.size w W) => door31 n c A D w W hW hn hd hdb hA hnc hbig hbw
  have HDa := Aside0.mk HD
  clear HD
  have HD := Aside0.mk HDa.out
  clear HDa hn hd hdb hA hnc hbig
  go_enter_defers Tryd.func20, Tryd.ntmps20
  go_wp2
  clear hmk
  have HW3 := Aside0.mk (show (base3 w).heap = (base3 w).heap ∧ Below w.heap.size w (base3 w) from ⟨rfl, base_below w⟩)
  have HE := Aside0.mk (show base3 w = ((w.alloc (.cells #[.slice (some ⟨w.heap.size + 1 + 1, 0, none⟩) 32 32] 23)).alloc (.cells #[.bool false] 4)).alloc (.cells (Array.replicate 32 (.int .u32 0)) 30) from rfl)
  have f0 : (base3 w).cell? ⟨w.heap.size, 0, none⟩ = some (.slice (some ⟨w.heap.size + 1 + 1, 0, none⟩) 32 32) := by simp [base3, go_sem]
  rw [← HE.out]
  generalize base3 w = W3 at HE f0 ⊢
  have N1 := fun (V : World) (hV : V.heap = W3.heap) (hb : Below w.heap.size w V) => newR A n c w V (by rw [hV, HE.out]; rfl) hb
  have hb3 : Below w.heap.size w W3.drew := by rw [HE.out]; exact (base_below w).drew
  have N2 := Aside0.mk (N1 W3.drew rfl hb3)
  clear N1 hb3
  first
  | go_region_with (first | (go_at_call 23; (refine N2.out.mono ?_; rintro e w' ⟨rfl, HX, f1⟩)) | (go_at_call 31; (refine (HD.out _ HX.out.1 HX.out.2).mono ?_; rintro e w' ⟨rfl, HF⟩; have HF := Aside0.mk HF)))
  | fail
  all_goals
    have g1 := HF.out.c0
    have g2 := HF.out.c1
    have g3 := HF.out.z0
    have g4 := HF.out.z1
    clear f0 f1 HX HE N2 HD HW3
    go_wp2
    refine leaves_cons (f := 21) (args := #[.pointer (some ⟨w.heap.size, 0, none⟩), .pointer (some ⟨w.heap.size + 1, 0, none⟩)]) (by simp) (by simp [go_sem]) ?_
    refine (idle31 ⟨w.heap.size, 0, none⟩ ⟨w.heap.size + 1, 0, none⟩ _).mono ?_
    rintro e u' w'' ⟨rfl, rfl, rfl⟩
    have q1 : ((w'.setCell ⟨w.heap.size, 0, none⟩ (.slice (some ⟨w.heap.size + 1 + 1, 0, none⟩) 32 32)).setCell ⟨w.heap.size + 1, 0, none⟩ (.bool true)).cell? ⟨w.heap.size, 0, none⟩ = some (.slice (some ⟨w.heap.size + 1 + 1, 0, none⟩) 32 32) := by simp [go_sem, g1]
    have q2 : ((w'.setCell ⟨w.heap.size, 0, none⟩ (.slice (some ⟨w.heap.size + 1 + 1, 0, none⟩) 32 32)).setCell ⟨w.heap.size + 1, 0, none⟩ (.bool true)).cell? ⟨w.heap.size + 1, 0, none⟩ = some (.bool true) := by simp [go_sem, g2]
    refine ⟨_, by simp [results, Tryd.results20, go_sem, q1, q2]; rfl, ?_⟩
    exact done_ HF.out
end Go.Proofs.YtblmpfhjghcddaaDoor.QU
namespace Go.Proofs.YtblmpfhjghcddaaDoor.QU31
open Go.RowKit Go.Proofs.YtblmpfhjghcddaaDoorW.PrintWords Go.Proofs.YtblmpfhjghcddaaDoorW.PrintLast Go.Proofs.YtblmpfhjghcddaaDoorW.PrintMore
def impl_Unpack31.f (l : List Int) : Option (List Int × Bool) := if l.length = 124 ∧ QU.bytesOk l = true then some (QU.outs (QU.byteAt l) 31, true) else none
theorem impl_Unpack31.calls (A0 : Option Addr) (c0 : Nat) (l0 : List Int) (r1 : List Int) (r2 : Bool) (w : World) (hr0 : Kd.C (Kd.int .u8) w A0 l0.length l0) (hc0 : l0.length ≤ c0) (h : impl_Unpack31.f l0 = some (r1, r2)) :
    Calls Tryd.prog 20 #[.slice A0 l0.length c0] w fun e w' => ∃ v0_ : Value, e = .returned (.tuple #[v0_, .bool r2]) ∧ Kd.R (Kd.int .u32) 30 w' w.heap.size (fun _ => True) v0_ r1 ∧ Below w.heap.size w w' := by
  unfold impl_Unpack31.f at h
  by_cases hn : l0.length = 124 ∧ QU.bytesOk l0 = true
  · rw [if_pos hn] at h
    have h2 := Option.some.inj h
    simp only [Prod.mk.injEq] at h2
    obtain ⟨rfl, rfl⟩ := h2
    obtain ⟨A, rfl, hA, hd⟩ := QU.bytes_at (by omega) hr0
    exact QU.impl31 l0.length c0 A (QU.byteAt l0) w (by omega) hd (fun k hk => QU.bytes_ok hn.2 k hk) hA hc0 (by omega)
  · rw [if_neg hn] at h
    cases h
end Go.Proofs.YtblmpfhjghcddaaDoor.QU31
