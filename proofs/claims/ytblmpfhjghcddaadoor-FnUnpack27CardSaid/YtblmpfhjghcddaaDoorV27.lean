/- What unpack27_32 does over a reader of bytes: 32 numbers of 27 bits stand in the numbers' block. Printed by gen_regs.py of this session. -/
import Derived.Test.YtblmpfhjghcddaaDoorV27p0
import Derived.Test.YtblmpfhjghcddaaDoorV27p1
import Derived.Test.YtblmpfhjghcddaaDoorV27p2
import Derived.Test.YtblmpfhjghcddaaDoorV27p3
import Derived.Deep.Cut
namespace Go.Proofs.YtblmpfhjghcddaaDoor.QU
open Go.RowKit Go.Proofs.YtblmpfhjghcddaaDoorW.PrintWords Go.Proofs.YtblmpfhjghcddaaDoorW.PrintLast Go.Proofs.YtblmpfhjghcddaaDoorW.PrintMore
set_option linter.unusedVariables false
set_option linter.unusedSimpArgs false
set_option maxHeartbeats 8000000 in
set_option maxRecDepth 100000 in
theorem unpack27 (g h n c oc B : Nat) (A : Addr) (f : Nat → Int) (D : Nat → Int) (w : World) (hn : 108 ≤ n) (hr : Rd w g A n c (0 : Nat)) (ho : Out w h f) (hd : ∀ k, k < n → w.cell? (A.add k) = some (.int .u8 (D k))) (hdb : ∀ k, k < n → 0 ≤ D k ∧ D k < 256) (hgh : g ≠ h) (hA : A.block < w.heap.size) (hAg : A.block ≠ g) (hAh : A.block ≠ h) (hnc : n ≤ c) (hbig : n ≤ 9223372036854775807) (hBg : B ≤ g) (hBh : B ≤ h) :
    Calls Tryd.prog 38 #[.iface 34 (.pointer (some ⟨g, 0, none⟩)), .slice (some ⟨h, 0, none⟩) 32 oc] w fun e w' => e = .returned (.tuple #[]) ∧ ∃ F V, Mid w w' B g h w.heap.size n c A D 108 F V ∧ ∀ j, j < 32 → F j = numD D (27 * j) 27 := by
  have hg := hr.hg
  have hh := ho.lt
  have E : Env0 g h w.heap.size n c A D := ⟨hgh, by omega, by omega, hAg, hAh, by omega, hnc, hbig, hdb⟩
  have hBw : B ≤ w.heap.size := by omega
  obtain ⟨w1, hw1⟩ : ∃ w1, w1 = w.alloc (Obj.cells #[Value.int IntKind.u32 0] 30) := ⟨_, rfl⟩
  have HB1 : Below w.heap.size w w1 := by rw [hw1]; exact below_alloc (Below.refl _ _) _
  have M : Mid w w1 B g h w.heap.size n c A D 0 f 0 := ⟨hr.kept (Kept.of_below HB1 (fun _ => False)) (fun h => h), ho.kept (Kept.of_below HB1 (fun _ => False)) (fun h => h), by rw [hw1]; simp [go_sem], by rw [hw1]; simp [go_sem], by rw [hw1]; simp, fun k hk => (HB1.cell (by rw [add_block]; exact hA)).trans (hd k hk), Nat.lt_of_lt_of_le hA HB1.size, Kept.of_below HB1 _, HB1.mono hBw⟩
  have QM := Aside0.mk M
  have QE := Aside0.mk E
  have QW := Aside0.mk hw1
  clear M HB1 hw1 hd hr ho hdb E hg hh
  go_enter Tryd.func38, Tryd.ntmps38
  go_upto_region 1 with (fail)
  rw [← QW.out]
  rename_i K hK
  refine r27_1 g h n c oc B A D w w1 _ QE.out hn hBg hBh hBw ?_ K _ ?_
  · exact ⟨rfl, rfl, rfl, rfl, f, 0, QM.out, fun h0 => absurd h0 (by omega), fun k hk => absurd hk (Nat.not_lt_zero _), fun h0 => absurd h0 (Nat.lt_irrefl _)⟩
  clear QM QW
  intro T w' S
  apply hK
  clear hK K
  apply wp_seq_k
  intro K hK
  refine r27_2 g h n c oc B A D w _ _ QE.out hn hBg hBh hBw S K _ ?_
  clear S
  intro T w' S
  apply hK
  clear hK K
  apply wp_seq_k
  intro K hK
  refine r27_3 g h n c oc B A D w _ _ QE.out hn hBg hBh hBw S K _ ?_
  clear S
  intro T w' S
  apply hK
  clear hK K
  apply wp_seq_k
  intro K hK
  refine r27_4 g h n c oc B A D w _ _ QE.out hn hBg hBh hBw S K _ ?_
  clear S
  intro T w' S
  apply hK
  clear hK K
  apply wp_seq_k
  intro K hK
  refine r27_5 g h n c oc B A D w _ _ QE.out hn hBg hBh hBw S K _ ?_
  clear S
  intro T w' S
  apply hK
  clear hK K
  apply wp_seq_k
  intro K hK
  refine r27_6 g h n c oc B A D w _ _ QE.out hn hBg hBh hBw S K _ ?_
  clear S
  intro T w' S
  apply hK
  clear hK K
  apply wp_seq_k
  intro K hK
  refine r27_7 g h n c oc B A D w _ _ QE.out hn hBg hBh hBw S K _ ?_
  clear S
  intro T w' S
  apply hK
  clear hK K
  apply wp_seq_k
  intro K hK
  refine r27_8 g h n c oc B A D w _ _ QE.out hn hBg hBh hBw S K _ ?_
  clear S
  intro T w' S
  apply hK
  clear hK K
  apply wp_seq_k
  intro K hK
  refine r27_9 g h n c oc B A D w _ _ QE.out hn hBg hBh hBw S K _ ?_
  clear S
  intro T w' S
  apply hK
  clear hK K
  apply wp_seq_k
  intro K hK
  refine r27_10 g h n c oc B A D w _ _ QE.out hn hBg hBh hBw S K _ ?_
  clear S
  intro T w' S
  apply hK
  clear hK K
  apply wp_seq_k
  intro K hK
  refine r27_11 g h n c oc B A D w _ _ QE.out hn hBg hBh hBw S K _ ?_
  clear S
  intro T w' S
  apply hK
  clear hK K
  apply wp_seq_k
  intro K hK
  refine r27_12 g h n c oc B A D w _ _ QE.out hn hBg hBh hBw S K _ ?_
  clear S
  intro T w' S
  apply hK
  clear hK K
  apply wp_seq_k
  intro K hK
  refine r27_13 g h n c oc B A D w _ _ QE.out hn hBg hBh hBw S K _ ?_
  clear S
  intro T w' S
  apply hK
  clear hK K
  apply wp_seq_k
  intro K hK
  refine r27_14 g h n c oc B A D w _ _ QE.out hn hBg hBh hBw S K _ ?_
  clear S
  intro T w' S
  apply hK
  clear hK K
  apply wp_seq_k
  intro K hK
  refine r27_15 g h n c oc B A D w _ _ QE.out hn hBg hBh hBw S K _ ?_
  clear S
  intro T w' S
  apply hK
  clear hK K
  apply wp_seq_k
  intro K hK
  refine r27_16 g h n c oc B A D w _ _ QE.out hn hBg hBh hBw S K _ ?_
  clear S
  intro T w' S
  apply hK
  clear hK K
  apply wp_seq_k
  intro K hK
  refine r27_17 g h n c oc B A D w _ _ QE.out hn hBg hBh hBw S K _ ?_
  clear S
  intro T w' S
  apply hK
  clear hK K
  apply wp_seq_k
  intro K hK
  refine r27_18 g h n c oc B A D w _ _ QE.out hn hBg hBh hBw S K _ ?_
  clear S
  intro T w' S
  apply hK
  clear hK K
  apply wp_seq_k
  intro K hK
  refine r27_19 g h n c oc B A D w _ _ QE.out hn hBg hBh hBw S K _ ?_
  clear S
  intro T w' S
  apply hK
  clear hK K
  apply wp_seq_k
  intro K hK
  refine r27_20 g h n c oc B A D w _ _ QE.out hn hBg hBh hBw S K _ ?_
  clear S
  intro T w' S
  apply hK
  clear hK K
  apply wp_seq_k
  intro K hK
  refine r27_21 g h n c oc B A D w _ _ QE.out hn hBg hBh hBw S K _ ?_
  clear S
  intro T w' S
  apply hK
  clear hK K
  apply wp_seq_k
  intro K hK
  refine r27_22 g h n c oc B A D w _ _ QE.out hn hBg hBh hBw S K _ ?_
  clear S
  intro T w' S
  apply hK
  clear hK K
  apply wp_seq_k
  intro K hK
  refine r27_23 g h n c oc B A D w _ _ QE.out hn hBg hBh hBw S K _ ?_
  clear S
  intro T w' S
  apply hK
  clear hK K
  apply wp_seq_k
  intro K hK
  refine r27_24 g h n c oc B A D w _ _ QE.out hn hBg hBh hBw S K _ ?_
  clear S
  intro T w' S
  apply hK
  clear hK K
  apply wp_seq_k
  intro K hK
  refine r27_25 g h n c oc B A D w _ _ QE.out hn hBg hBh hBw S K _ ?_
  clear S
  intro T w' S
  apply hK
  clear hK K
  apply wp_seq_k
  intro K hK
  refine r27_26 g h n c oc B A D w _ _ QE.out hn hBg hBh hBw S K _ ?_
  clear S
  intro T w' S
  apply hK
  clear hK K
  apply wp_seq_k
  intro K hK
  refine r27_27 g h n c oc B A D w _ _ QE.out hn hBg hBh hBw S K _ ?_
  clear S
  intro T w' S
  apply hK
  clear hK K
  apply wp_seq_k
  intro K hK
  refine r27_28 g h n c oc B A D w _ _ QE.out hn hBg hBh hBw S K _ ?_
  clear S
  intro T w' S
  apply hK
  clear hK K
  apply wp_seq_k
  intro K hK
  refine r27_29 g h n c oc B A D w _ _ QE.out hn hBg hBh hBw S K _ ?_
  clear S
  intro T w' S
  apply hK
  clear hK K
  apply wp_seq_k
  intro K hK
  refine r27_30 g h n c oc B A D w _ _ QE.out hn hBg hBh hBw S K _ ?_
  clear S
  intro T w' S
  apply hK
  clear hK K
  apply wp_seq_k
  intro K hK
  refine r27_31 g h n c oc B A D w _ _ QE.out hn hBg hBh hBw S K _ ?_
  clear S
  intro T w' S
  apply hK
  clear hK K
  apply wp_seq_k
  intro K hK
  refine r27_32 g h n c oc B A D w _ _ QE.out hn hBg hBh hBw S K _ ?_
  clear S
  intro T w' S
  apply hK
  clear hK K
  apply wp_seq_k
  intro K hK
  refine r27_33 g h n c oc B A D w _ _ QE.out hn hBg hBh hBw S K _ ?_
  clear S
  intro T w' S
  apply hK
  clear hK K
  apply wp_seq_k
  intro K hK
  refine r27_34 g h n c oc B A D w _ _ QE.out hn hBg hBh hBw S K _ ?_
  clear S
  intro T w' S
  apply hK
  clear hK K
  apply wp_seq_k
  intro K hK
  refine r27_35 g h n c oc B A D w _ _ QE.out hn hBg hBh hBw S K _ ?_
  clear S
  intro T w' S
  apply hK
  clear hK K
  apply wp_seq_k
  intro K hK
  refine r27_36 g h n c oc B A D w _ _ QE.out hn hBg hBh hBw S K _ ?_
  clear S
  intro T w' S
  apply hK
  clear hK K
  apply wp_seq_k
  intro K hK
  refine r27_37 g h n c oc B A D w _ _ QE.out hn hBg hBh hBw S K _ ?_
  clear S
  intro T w' S
  apply hK
  clear hK K
  apply wp_seq_k
  intro K hK
  refine r27_38 g h n c oc B A D w _ _ QE.out hn hBg hBh hBw S K _ ?_
  clear S
  intro T w' S
  apply hK
  clear hK K
  apply wp_seq_k
  intro K hK
  refine r27_39 g h n c oc B A D w _ _ QE.out hn hBg hBh hBw S K _ ?_
  clear S
  intro T w' S
  apply hK
  clear hK K
  apply wp_seq_k
  intro K hK
  refine r27_40 g h n c oc B A D w _ _ QE.out hn hBg hBh hBw S K _ ?_
  clear S
  intro T w' S
  apply hK
  clear hK K
  apply wp_seq_k
  intro K hK
  refine r27_41 g h n c oc B A D w _ _ QE.out hn hBg hBh hBw S K _ ?_
  clear S
  intro T w' S
  apply hK
  clear hK K
  apply wp_seq_k
  intro K hK
  refine r27_42 g h n c oc B A D w _ _ QE.out hn hBg hBh hBw S K _ ?_
  clear S
  intro T w' S
  apply hK
  clear hK K
  apply wp_seq_k
  intro K hK
  refine r27_43 g h n c oc B A D w _ _ QE.out hn hBg hBh hBw S K _ ?_
  clear S
  intro T w' S
  apply hK
  clear hK K
  apply wp_seq_k
  intro K hK
  refine r27_44 g h n c oc B A D w _ _ QE.out hn hBg hBh hBw S K _ ?_
  clear S
  intro T w' S
  apply hK
  clear hK K
  apply wp_seq_k
  intro K hK
  refine r27_45 g h n c oc B A D w _ _ QE.out hn hBg hBh hBw S K _ ?_
  clear S
  intro T w' S
  apply hK
  clear hK K
  apply wp_seq_k
  intro K hK
  refine r27_46 g h n c oc B A D w _ _ QE.out hn hBg hBh hBw S K _ ?_
  clear S
  intro T w' S
  apply hK
  clear hK K
  apply wp_seq_k
  intro K hK
  refine r27_47 g h n c oc B A D w _ _ QE.out hn hBg hBh hBw S K _ ?_
  clear S
  intro T w' S
  apply hK
  clear hK K
  apply wp_seq_k
  intro K hK
  refine r27_48 g h n c oc B A D w _ _ QE.out hn hBg hBh hBw S K _ ?_
  clear S
  intro T w' S
  apply hK
  clear hK K
  apply wp_seq_k
  intro K hK
  refine r27_49 g h n c oc B A D w _ _ QE.out hn hBg hBh hBw S K _ ?_
  clear S
  intro T w' S
  apply hK
  clear hK K
  apply wp_seq_k
  intro K hK
  refine r27_50 g h n c oc B A D w _ _ QE.out hn hBg hBh hBw S K _ ?_
  clear S
  intro T w' S
  apply hK
  clear hK K
  apply wp_seq_k
  intro K hK
  refine r27_51 g h n c oc B A D w _ _ QE.out hn hBg hBh hBw S K _ ?_
  clear S
  intro T w' S
  apply hK
  clear hK K
  apply wp_seq_k
  intro K hK
  refine r27_52 g h n c oc B A D w _ _ QE.out hn hBg hBh hBw S K _ ?_
  clear S
  intro T w' S
  apply hK
  clear hK K
  apply wp_seq_k
  intro K hK
  refine r27_53 g h n c oc B A D w _ _ QE.out hn hBg hBh hBw S K _ ?_
  clear S
  intro T w' S
  apply hK
  clear hK K
  apply wp_seq_k
  intro K hK
  refine r27_54 g h n c oc B A D w _ _ QE.out hn hBg hBh hBw S K _ ?_
  clear S
  intro T w' S
  apply hK
  clear hK K
  apply wp_seq_k
  intro K hK
  refine r27_55 g h n c oc B A D w _ _ QE.out hn hBg hBh hBw S K _ ?_
  clear S
  intro T w' S
  apply hK
  clear hK K
  apply wp_seq_k
  intro K hK
  refine r27_56 g h n c oc B A D w _ _ QE.out hn hBg hBh hBw S K _ ?_
  clear S
  intro T w' S
  apply hK
  clear hK K
  apply wp_seq_k
  intro K hK
  refine r27_57 g h n c oc B A D w _ _ QE.out hn hBg hBh hBw S K _ ?_
  clear S
  intro T w' S
  apply hK
  clear hK K
  apply wp_seq_k
  intro K hK
  refine r27_58 g h n c oc B A D w _ _ QE.out hn hBg hBh hBw S K _ ?_
  clear S
  intro T w' S
  apply hK
  clear hK K
  apply wp_seq_k
  intro K hK
  refine r27_59 g h n c oc B A D w _ _ QE.out hn hBg hBh hBw S K _ ?_
  clear S
  intro T w' S
  apply hK
  clear hK K
  apply wp_seq_k
  intro K hK
  refine r27_60 g h n c oc B A D w _ _ QE.out hn hBg hBh hBw S K _ ?_
  clear S
  intro T w' S
  apply hK
  clear hK K
  apply wp_seq_k
  intro K hK
  refine r27_61 g h n c oc B A D w _ _ QE.out hn hBg hBh hBw S K _ ?_
  clear S
  intro T w' S
  apply hK
  clear hK K
  apply wp_seq_k
  intro K hK
  refine r27_62 g h n c oc B A D w _ _ QE.out hn hBg hBh hBw S K _ ?_
  clear S
  intro T w' S
  apply hK
  clear hK K
  apply wp_seq_k
  intro K hK
  refine r27_63 g h n c oc B A D w _ _ QE.out hn hBg hBh hBw S K _ ?_
  clear S
  intro T w' S
  apply hK
  clear hK K
  apply wp_seq_k
  intro K hK
  refine r27_64 g h n c oc B A D w _ _ QE.out hn hBg hBh hBw S K _ ?_
  clear S
  intro T w' S
  apply hK
  clear hK K
  apply wp_seq_k
  intro K hK
  refine r27_65 g h n c oc B A D w _ _ QE.out hn hBg hBh hBw S K _ ?_
  clear S
  intro T w' S
  apply hK
  clear hK K
  apply wp_seq_k
  intro K hK
  refine r27_66 g h n c oc B A D w _ _ QE.out hn hBg hBh hBw S K _ ?_
  clear S
  intro T w' S
  apply hK
  clear hK K
  apply wp_seq_k
  intro K hK
  refine r27_67 g h n c oc B A D w _ _ QE.out hn hBg hBh hBw S K _ ?_
  clear S
  intro T w' S
  apply hK
  clear hK K
  apply wp_seq_k
  intro K hK
  refine r27_68 g h n c oc B A D w _ _ QE.out hn hBg hBh hBw S K _ ?_
  clear S
  intro T w' S
  apply hK
  clear hK K
  apply wp_seq_k
  intro K hK
  refine r27_69 g h n c oc B A D w _ _ QE.out hn hBg hBh hBw S K _ ?_
  clear S
  intro T w' S
  apply hK
  clear hK K
  apply wp_seq_k
  intro K hK
  refine r27_70 g h n c oc B A D w _ _ QE.out hn hBg hBh hBw S K _ ?_
  clear S
  intro T w' S
  apply hK
  clear hK K
  apply wp_seq_k
  intro K hK
  refine r27_71 g h n c oc B A D w _ _ QE.out hn hBg hBh hBw S K _ ?_
  clear S
  intro T w' S
  apply hK
  clear hK K
  apply wp_seq_k
  intro K hK
  refine r27_72 g h n c oc B A D w _ _ QE.out hn hBg hBh hBw S K _ ?_
  clear S
  intro T w' S
  apply hK
  clear hK K
  apply wp_seq_k
  intro K hK
  refine r27_73 g h n c oc B A D w _ _ QE.out hn hBg hBh hBw S K _ ?_
  clear S
  intro T w' S
  apply hK
  clear hK K
  apply wp_seq_k
  intro K hK
  refine r27_74 g h n c oc B A D w _ _ QE.out hn hBg hBh hBw S K _ ?_
  clear S
  intro T w' S
  apply hK
  clear hK K
  apply wp_seq_k
  intro K hK
  refine r27_75 g h n c oc B A D w _ _ QE.out hn hBg hBh hBw S K _ ?_
  clear S
  intro T w' S
  apply hK
  clear hK K
  apply wp_seq_k
  intro K hK
  refine r27_76 g h n c oc B A D w _ _ QE.out hn hBg hBh hBw S K _ ?_
  clear S
  intro T w' S
  apply hK
  clear hK K
  apply wp_seq_k
  intro K hK
  refine r27_77 g h n c oc B A D w _ _ QE.out hn hBg hBh hBw S K _ ?_
  clear S
  intro T w' S
  apply hK
  clear hK K
  apply wp_seq_k
  intro K hK
  refine r27_78 g h n c oc B A D w _ _ QE.out hn hBg hBh hBw S K _ ?_
  clear S
  intro T w' S
  apply hK
  clear hK K
  apply wp_seq_k
  intro K hK
  refine r27_79 g h n c oc B A D w _ _ QE.out hn hBg hBh hBw S K _ ?_
  clear S
  intro T w' S
  apply hK
  clear hK K
  apply wp_seq_k
  intro K hK
  refine r27_80 g h n c oc B A D w _ _ QE.out hn hBg hBh hBw S K _ ?_
  clear S
  intro T w' S
  apply hK
  clear hK K
  apply wp_seq_k
  intro K hK
  refine r27_81 g h n c oc B A D w _ _ QE.out hn hBg hBh hBw S K _ ?_
  clear S
  intro T w' S
  apply hK
  clear hK K
  apply wp_seq_k
  intro K hK
  refine r27_82 g h n c oc B A D w _ _ QE.out hn hBg hBh hBw S K _ ?_
  clear S
  intro T w' S
  apply hK
  clear hK K
  apply wp_seq_k
  intro K hK
  refine r27_83 g h n c oc B A D w _ _ QE.out hn hBg hBh hBw S K _ ?_
  clear S
  intro T w' S
  apply hK
  clear hK K
  apply wp_seq_k
  intro K hK
  refine r27_84 g h n c oc B A D w _ _ QE.out hn hBg hBh hBw S K _ ?_
  clear S
  intro T w' S
  apply hK
  clear hK K
  apply wp_last
  refine r27_85 g h n c oc B A D w _ _ QE.out hn hBg hBh hBw S _ _ ?_
  clear S
  intro T w' S
  go_end0
  obtain ⟨_, _, _, _, F, V, M, _, hd, _⟩ := S
  exact ⟨rfl, F, V, M, hd⟩
end Go.Proofs.YtblmpfhjghcddaaDoor.QU
