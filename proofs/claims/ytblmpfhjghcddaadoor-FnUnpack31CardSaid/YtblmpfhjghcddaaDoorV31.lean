/- What unpack31_32 does over a reader of bytes: 32 numbers of 31 bits stand in the numbers' block. Printed by gen_regs.py of this session. -/
import Derived.Test.YtblmpfhjghcddaaDoorV31p0
import Derived.Test.YtblmpfhjghcddaaDoorV31p1
import Derived.Test.YtblmpfhjghcddaaDoorV31p2
import Derived.Test.YtblmpfhjghcddaaDoorV31p3
import Derived.Deep.Cut
namespace Go.Proofs.YtblmpfhjghcddaaDoor.QU
open Go.RowKit Go.Proofs.YtblmpfhjghcddaaDoorW.PrintWords Go.Proofs.YtblmpfhjghcddaaDoorW.PrintLast Go.Proofs.YtblmpfhjghcddaaDoorW.PrintMore
set_option linter.unusedVariables false
set_option linter.unusedSimpArgs false
set_option maxHeartbeats 8000000 in
set_option maxRecDepth 100000 in
theorem unpack31 (g h n c oc B : Nat) (A : Addr) (f : Nat → Int) (D : Nat → Int) (w : World) (hn : 124 ≤ n) (hr : Rd w g A n c (0 : Nat)) (ho : Out w h f) (hd : ∀ k, k < n → w.cell? (A.add k) = some (.int .u8 (D k))) (hdb : ∀ k, k < n → 0 ≤ D k ∧ D k < 256) (hgh : g ≠ h) (hA : A.block < w.heap.size) (hAg : A.block ≠ g) (hAh : A.block ≠ h) (hnc : n ≤ c) (hbig : n ≤ 9223372036854775807) (hBg : B ≤ g) (hBh : B ≤ h) :
    Calls Tryd.prog 39 #[.iface 34 (.pointer (some ⟨g, 0, none⟩)), .slice (some ⟨h, 0, none⟩) 32 oc] w fun e w' => e = .returned (.tuple #[]) ∧ ∃ F V, Mid w w' B g h w.heap.size n c A D 124 F V ∧ ∀ j, j < 32 → F j = numD D (31 * j) 31 := by
  have hg := hr.hg
  have hh := ho.lt
  have E : Env0 g h w.heap.size n c A D := ⟨hgh, by omega, by omega, hAg, hAh, by omega, hnc, hbig, hdb⟩
  have hBw : B ≤ w.heap.size := by omega
  obtain ⟨w1, hw1⟩ : ∃ w1, w1 = w.alloc (Obj.cells #[Value.int IntKind.u32 0] 30) := ⟨_, rfl⟩
  have HB1 : Below w.heap.size w w1 := by rw [hw1]; exact below_alloc (Below.refl _ _) _
  have M : Mid w w1 B g h w.heap.size n c A D 0 f 0 := ⟨hr.kept (Kept.of_below HB1 (fun _ => False)) (fun h => h), ho.kept (Kept.of_below HB1 (fun _ => False)) (fun h => h), by rw [hw1]; simp [go_sem], by rw [hw1]; simp [go_sem], by rw [hw1]; simp, fun k hk => (HB1.cell (by rw [add_block]; exact hA)).trans (hd k hk), Nat.lt_of_lt_of_le hA HB1.size, Kept.of_below HB1 _, HB1.mono hBw⟩
  have QM := Aside0.mk M
  have QE := Aside0.mk E
  have QW := Aside0.mk hw1
  clear M HB1 hw1 hd hr ho hdb E hg hh
  go_enter Tryd.func39, Tryd.ntmps39
  go_upto_region 1 with (fail)
  rw [← QW.out]
  rename_i K hK
  refine r31_1 g h n c oc B A D w w1 _ QE.out hn hBg hBh hBw ?_ K _ ?_
  · exact ⟨rfl, rfl, rfl, rfl, f, 0, QM.out, fun h0 => absurd h0 (by omega), fun k hk => absurd hk (Nat.not_lt_zero _), fun h0 => absurd h0 (Nat.lt_irrefl _)⟩
  clear QM QW
  intro T w' S
  apply hK
  clear hK K
  apply wp_seq_k
  intro K hK
  refine r31_2 g h n c oc B A D w _ _ QE.out hn hBg hBh hBw S K _ ?_
  clear S
  intro T w' S
  apply hK
  clear hK K
  apply wp_seq_k
  intro K hK
  refine r31_3 g h n c oc B A D w _ _ QE.out hn hBg hBh hBw S K _ ?_
  clear S
  intro T w' S
  apply hK
  clear hK K
  apply wp_seq_k
  intro K hK
  refine r31_4 g h n c oc B A D w _ _ QE.out hn hBg hBh hBw S K _ ?_
  clear S
  intro T w' S
  apply hK
  clear hK K
  apply wp_seq_k
  intro K hK
  refine r31_5 g h n c oc B A D w _ _ QE.out hn hBg hBh hBw S K _ ?_
  clear S
  intro T w' S
  apply hK
  clear hK K
  apply wp_seq_k
  intro K hK
  refine r31_6 g h n c oc B A D w _ _ QE.out hn hBg hBh hBw S K _ ?_
  clear S
  intro T w' S
  apply hK
  clear hK K
  apply wp_seq_k
  intro K hK
  refine r31_7 g h n c oc B A D w _ _ QE.out hn hBg hBh hBw S K _ ?_
  clear S
  intro T w' S
  apply hK
  clear hK K
  apply wp_seq_k
  intro K hK
  refine r31_8 g h n c oc B A D w _ _ QE.out hn hBg hBh hBw S K _ ?_
  clear S
  intro T w' S
  apply hK
  clear hK K
  apply wp_seq_k
  intro K hK
  refine r31_9 g h n c oc B A D w _ _ QE.out hn hBg hBh hBw S K _ ?_
  clear S
  intro T w' S
  apply hK
  clear hK K
  apply wp_seq_k
  intro K hK
  refine r31_10 g h n c oc B A D w _ _ QE.out hn hBg hBh hBw S K _ ?_
  clear S
  intro T w' S
  apply hK
  clear hK K
  apply wp_seq_k
  intro K hK
  refine r31_11 g h n c oc B A D w _ _ QE.out hn hBg hBh hBw S K _ ?_
  clear S
  intro T w' S
  apply hK
  clear hK K
  apply wp_seq_k
  intro K hK
  refine r31_12 g h n c oc B A D w _ _ QE.out hn hBg hBh hBw S K _ ?_
  clear S
  intro T w' S
  apply hK
  clear hK K
  apply wp_seq_k
  intro K hK
  refine r31_13 g h n c oc B A D w _ _ QE.out hn hBg hBh hBw S K _ ?_
  clear S
  intro T w' S
  apply hK
  clear hK K
  apply wp_seq_k
  intro K hK
  refine r31_14 g h n c oc B A D w _ _ QE.out hn hBg hBh hBw S K _ ?_
  clear S
  intro T w' S
  apply hK
  clear hK K
  apply wp_seq_k
  intro K hK
  refine r31_15 g h n c oc B A D w _ _ QE.out hn hBg hBh hBw S K _ ?_
  clear S
  intro T w' S
  apply hK
  clear hK K
  apply wp_seq_k
  intro K hK
  refine r31_16 g h n c oc B A D w _ _ QE.out hn hBg hBh hBw S K _ ?_
  clear S
  intro T w' S
  apply hK
  clear hK K
  apply wp_seq_k
  intro K hK
  refine r31_17 g h n c oc B A D w _ _ QE.out hn hBg hBh hBw S K _ ?_
  clear S
  intro T w' S
  apply hK
  clear hK K
  apply wp_seq_k
  intro K hK
  refine r31_18 g h n c oc B A D w _ _ QE.out hn hBg hBh hBw S K _ ?_
  clear S
  intro T w' S
  apply hK
  clear hK K
  apply wp_seq_k
  intro K hK
  refine r31_19 g h n c oc B A D w _ _ QE.out hn hBg hBh hBw S K _ ?_
  clear S
  intro T w' S
  apply hK
  clear hK K
  apply wp_seq_k
  intro K hK
  refine r31_20 g h n c oc B A D w _ _ QE.out hn hBg hBh hBw S K _ ?_
  clear S
  intro T w' S
  apply hK
  clear hK K
  apply wp_seq_k
  intro K hK
  refine r31_21 g h n c oc B A D w _ _ QE.out hn hBg hBh hBw S K _ ?_
  clear S
  intro T w' S
  apply hK
  clear hK K
  apply wp_seq_k
  intro K hK
  refine r31_22 g h n c oc B A D w _ _ QE.out hn hBg hBh hBw S K _ ?_
  clear S
  intro T w' S
  apply hK
  clear hK K
  apply wp_seq_k
  intro K hK
  refine r31_23 g h n c oc B A D w _ _ QE.out hn hBg hBh hBw S K _ ?_
  clear S
  intro T w' S
  apply hK
  clear hK K
  apply wp_seq_k
  intro K hK
  refine r31_24 g h n c oc B A D w _ _ QE.out hn hBg hBh hBw S K _ ?_
  clear S
  intro T w' S
  apply hK
  clear hK K
  apply wp_seq_k
  intro K hK
  refine r31_25 g h n c oc B A D w _ _ QE.out hn hBg hBh hBw S K _ ?_
  clear S
  intro T w' S
  apply hK
  clear hK K
  apply wp_seq_k
  intro K hK
  refine r31_26 g h n c oc B A D w _ _ QE.out hn hBg hBh hBw S K _ ?_
  clear S
  intro T w' S
  apply hK
  clear hK K
  apply wp_seq_k
  intro K hK
  refine r31_27 g h n c oc B A D w _ _ QE.out hn hBg hBh hBw S K _ ?_
  clear S
  intro T w' S
  apply hK
  clear hK K
  apply wp_seq_k
  intro K hK
  refine r31_28 g h n c oc B A D w _ _ QE.out hn hBg hBh hBw S K _ ?_
  clear S
  intro T w' S
  apply hK
  clear hK K
  apply wp_seq_k
  intro K hK
  refine r31_29 g h n c oc B A D w _ _ QE.out hn hBg hBh hBw S K _ ?_
  clear S
  intro T w' S
  apply hK
  clear hK K
  apply wp_seq_k
  intro K hK
  refine r31_30 g h n c oc B A D w _ _ QE.out hn hBg hBh hBw S K _ ?_
  clear S
  intro T w' S
  apply hK
  clear hK K
  apply wp_seq_k
  intro K hK
  refine r31_31 g h n c oc B A D w _ _ QE.out hn hBg hBh hBw S K _ ?_
  clear S
  intro T w' S
  apply hK
  clear hK K
  apply wp_seq_k
  intro K hK
  refine r31_32 g h n c oc B A D w _ _ QE.out hn hBg hBh hBw S K _ ?_
  clear S
  intro T w' S
  apply hK
  clear hK K
  apply wp_seq_k
  intro K hK
  refine r31_33 g h n c oc B A D w _ _ QE.out hn hBg hBh hBw S K _ ?_
  clear S
  intro T w' S
  apply hK
  clear hK K
  apply wp_seq_k
  intro K hK
  refine r31_34 g h n c oc B A D w _ _ QE.out hn hBg hBh hBw S K _ ?_
  clear S
  intro T w' S
  apply hK
  clear hK K
  apply wp_seq_k
  intro K hK
  refine r31_35 g h n c oc B A D w _ _ QE.out hn hBg hBh hBw S K _ ?_
  clear S
  intro T w' S
  apply hK
  clear hK K
  apply wp_seq_k
  intro K hK
  refine r31_36 g h n c oc B A D w _ _ QE.out hn hBg hBh hBw S K _ ?_
  clear S
  intro T w' S
  apply hK
  clear hK K
  apply wp_seq_k
  intro K hK
  refine r31_37 g h n c oc B A D w _ _ QE.out hn hBg hBh hBw S K _ ?_
  clear S
  intro T w' S
  apply hK
  clear hK K
  apply wp_seq_k
  intro K hK
  refine r31_38 g h n c oc B A D w _ _ QE.out hn hBg hBh hBw S K _ ?_
  clear S
  intro T w' S
  apply hK
  clear hK K
  apply wp_seq_k
  intro K hK
  refine r31_39 g h n c oc B A D w _ _ QE.out hn hBg hBh hBw S K _ ?_
  clear S
  intro T w' S
  apply hK
  clear hK K
  apply wp_seq_k
  intro K hK
  refine r31_40 g h n c oc B A D w _ _ QE.out hn hBg hBh hBw S K _ ?_
  clear S
  intro T w' S
  apply hK
  clear hK K
  apply wp_seq_k
  intro K hK
  refine r31_41 g h n c oc B A D w _ _ QE.out hn hBg hBh hBw S K _ ?_
  clear S
  intro T w' S
  apply hK
  clear hK K
  apply wp_seq_k
  intro K hK
  refine r31_42 g h n c oc B A D w _ _ QE.out hn hBg hBh hBw S K _ ?_
  clear S
  intro T w' S
  apply hK
  clear hK K
  apply wp_seq_k
  intro K hK
  refine r31_43 g h n c oc B A D w _ _ QE.out hn hBg hBh hBw S K _ ?_
  clear S
  intro T w' S
  apply hK
  clear hK K
  apply wp_seq_k
  intro K hK
  refine r31_44 g h n c oc B A D w _ _ QE.out hn hBg hBh hBw S K _ ?_
  clear S
  intro T w' S
  apply hK
  clear hK K
  apply wp_seq_k
  intro K hK
  refine r31_45 g h n c oc B A D w _ _ QE.out hn hBg hBh hBw S K _ ?_
  clear S
  intro T w' S
  apply hK
  clear hK K
  apply wp_seq_k
  intro K hK
  refine r31_46 g h n c oc B A D w _ _ QE.out hn hBg hBh hBw S K _ ?_
  clear S
  intro T w' S
  apply hK
  clear hK K
  apply wp_seq_k
  intro K hK
  refine r31_47 g h n c oc B A D w _ _ QE.out hn hBg hBh hBw S K _ ?_
  clear S
  intro T w' S
  apply hK
  clear hK K
  apply wp_seq_k
  intro K hK
  refine r31_48 g h n c oc B A D w _ _ QE.out hn hBg hBh hBw S K _ ?_
  clear S
  intro T w' S
  apply hK
  clear hK K
  apply wp_seq_k
  intro K hK
  refine r31_49 g h n c oc B A D w _ _ QE.out hn hBg hBh hBw S K _ ?_
  clear S
  intro T w' S
  apply hK
  clear hK K
  apply wp_seq_k
  intro K hK
  refine r31_50 g h n c oc B A D w _ _ QE.out hn hBg hBh hBw S K _ ?_
  clear S
  intro T w' S
  apply hK
  clear hK K
  apply wp_seq_k
  intro K hK
  refine r31_51 g h n c oc B A D w _ _ QE.out hn hBg hBh hBw S K _ ?_
  clear S
  intro T w' S
  apply hK
  clear hK K
  apply wp_seq_k
  intro K hK
  refine r31_52 g h n c oc B A D w _ _ QE.out hn hBg hBh hBw S K _ ?_
  clear S
  intro T w' S
  apply hK
  clear hK K
  apply wp_seq_k
  intro K hK
  refine r31_53 g h n c oc B A D w _ _ QE.out hn hBg hBh hBw S K _ ?_
  clear S
  intro T w' S
  apply hK
  clear hK K
  apply wp_seq_k
  intro K hK
  refine r31_54 g h n c oc B A D w _ _ QE.out hn hBg hBh hBw S K _ ?_
  clear S
  intro T w' S
  apply hK
  clear hK K
  apply wp_seq_k
  intro K hK
  refine r31_55 g h n c oc B A D w _ _ QE.out hn hBg hBh hBw S K _ ?_
  clear S
  intro T w' S
  apply hK
  clear hK K
  apply wp_seq_k
  intro K hK
  refine r31_56 g h n c oc B A D w _ _ QE.out hn hBg hBh hBw S K _ ?_
  clear S
  intro T w' S
  apply hK
  clear hK K
  apply wp_seq_k
  intro K hK
  refine r31_57 g h n c oc B A D w _ _ QE.out hn hBg hBh hBw S K _ ?_
  clear S
  intro T w' S
  apply hK
  clear hK K
  apply wp_seq_k
  intro K hK
  refine r31_58 g h n c oc B A D w _ _ QE.out hn hBg hBh hBw S K _ ?_
  clear S
  intro T w' S
  apply hK
  clear hK K
  apply wp_seq_k
  intro K hK
  refine r31_59 g h n c oc B A D w _ _ QE.out hn hBg hBh hBw S K _ ?_
  clear S
  intro T w' S
  apply hK
  clear hK K
  apply wp_seq_k
  intro K hK
  refine r31_60 g h n c oc B A D w _ _ QE.out hn hBg hBh hBw S K _ ?_
  clear S
  intro T w' S
  apply hK
  clear hK K
  apply wp_seq_k
  intro K hK
  refine r31_61 g h n c oc B A D w _ _ QE.out hn hBg hBh hBw S K _ ?_
  clear S
  intro T w' S
  apply hK
  clear hK K
  apply wp_seq_k
  intro K hK
  refine r31_62 g h n c oc B A D w _ _ QE.out hn hBg hBh hBw S K _ ?_
  clear S
  intro T w' S
  apply hK
  clear hK K
  apply wp_seq_k
  intro K hK
  refine r31_63 g h n c oc B A D w _ _ QE.out hn hBg hBh hBw S K _ ?_
  clear S
  intro T w' S
  apply hK
  clear hK K
  apply wp_seq_k
  intro K hK
  refine r31_64 g h n c oc B A D w _ _ QE.out hn hBg hBh hBw S K _ ?_
  clear S
  intro T w' S
  apply hK
  clear hK K
  apply wp_seq_k
  intro K hK
  refine r31_65 g h n c oc B A D w _ _ QE.out hn hBg hBh hBw S K _ ?_
  clear S
  intro T w' S
  apply hK
  clear hK K
  apply wp_seq_k
  intro K hK
  refine r31_66 g h n c oc B A D w _ _ QE.out hn hBg hBh hBw S K _ ?_
  clear S
  intro T w' S
  apply hK
  clear hK K
  apply wp_seq_k
  intro K hK
  refine r31_67 g h n c oc B A D w _ _ QE.out hn hBg hBh hBw S K _ ?_
  clear S
  intro T w' S
  apply hK
  clear hK K
  apply wp_seq_k
  intro K hK
  refine r31_68 g h n c oc B A D w _ _ QE.out hn hBg hBh hBw S K _ ?_
  clear S
  intro T w' S
  apply hK
  clear hK K
  apply wp_seq_k
  intro K hK
  refine r31_69 g h n c oc B A D w _ _ QE.out hn hBg hBh hBw S K _ ?_
  clear S
  intro T w' S
  apply hK
  clear hK K
  apply wp_seq_k
  intro K hK
  refine r31_70 g h n c oc B A D w _ _ QE.out hn hBg hBh hBw S K _ ?_
  clear S
  intro T w' S
  apply hK
  clear hK K
  apply wp_seq_k
  intro K hK
  refine r31_71 g h n c oc B A D w _ _ QE.out hn hBg hBh hBw S K _ ?_
  clear S
  intro T w' S
  apply hK
  clear hK K
  apply wp_seq_k
  intro K hK
  refine r31_72 g h n c oc B A D w _ _ QE.out hn hBg hBh hBw S K _ ?_
  clear S
  intro T w' S
  apply hK
  clear hK K
  apply wp_seq_k
  intro K hK
  refine r31_73 g h n c oc B A D w _ _ QE.out hn hBg hBh hBw S K _ ?_
  clear S
  intro T w' S
  apply hK
  clear hK K
  apply wp_seq_k
  intro K hK
  refine r31_74 g h n c oc B A D w _ _ QE.out hn hBg hBh hBw S K _ ?_
  clear S
  intro T w' S
  apply hK
  clear hK K
  apply wp_seq_k
  intro K hK
  refine r31_75 g h n c oc B A D w _ _ QE.out hn hBg hBh hBw S K _ ?_
  clear S
  intro T w' S
  apply hK
  clear hK K
  apply wp_seq_k
  intro K hK
  refine r31_76 g h n c oc B A D w _ _ QE.out hn hBg hBh hBw S K _ ?_
  clear S
  intro T w' S
  apply hK
  clear hK K
  apply wp_seq_k
  intro K hK
  refine r31_77 g h n c oc B A D w _ _ QE.out hn hBg hBh hBw S K _ ?_
  clear S
  intro T w' S
  apply hK
  clear hK K
  apply wp_seq_k
  intro K hK
  refine r31_78 g h n c oc B A D w _ _ QE.out hn hBg hBh hBw S K _ ?_
  clear S
  intro T w' S
  apply hK
  clear hK K
  apply wp_seq_k
  intro K hK
  refine r31_79 g h n c oc B A D w _ _ QE.out hn hBg hBh hBw S K _ ?_
  clear S
  intro T w' S
  apply hK
  clear hK K
  apply wp_seq_k
  intro K hK
  refine r31_80 g h n c oc B A D w _ _ QE.out hn hBg hBh hBw S K _ ?_
  clear S
  intro T w' S
  apply hK
  clear hK K
  apply wp_seq_k
  intro K hK
  refine r31_81 g h n c oc B A D w _ _ QE.out hn hBg hBh hBw S K _ ?_
  clear S
  intro T w' S
  apply hK
  clear hK K
  apply wp_seq_k
  intro K hK
  refine r31_82 g h n c oc B A D w _ _ QE.out hn hBg hBh hBw S K _ ?_
  clear S
  intro T w' S
  apply hK
  clear hK K
  apply wp_seq_k
  intro K hK
  refine r31_83 g h n c oc B A D w _ _ QE.out hn hBg hBh hBw S K _ ?_
  clear S
  intro T w' S
  apply hK
  clear hK K
  apply wp_seq_k
  intro K hK
  refine r31_84 g h n c oc B A D w _ _ QE.out hn hBg hBh hBw S K _ ?_
  clear S
  intro T w' S
  apply hK
  clear hK K
  apply wp_seq_k
  intro K hK
  refine r31_85 g h n c oc B A D w _ _ QE.out hn hBg hBh hBw S K _ ?_
  clear S
  intro T w' S
  apply hK
  clear hK K
  apply wp_seq_k
  intro K hK
  refine r31_86 g h n c oc B A D w _ _ QE.out hn hBg hBh hBw S K _ ?_
  clear S
  intro T w' S
  apply hK
  clear hK K
  apply wp_seq_k
  intro K hK
  refine r31_87 g h n c oc B A D w _ _ QE.out hn hBg hBh hBw S K _ ?_
  clear S
  intro T w' S
  apply hK
  clear hK K
  apply wp_seq_k
  intro K hK
  refine r31_88 g h n c oc B A D w _ _ QE.out hn hBg hBh hBw S K _ ?_
  clear S
  intro T w' S
  apply hK
  clear hK K
  apply wp_seq_k
  intro K hK
  refine r31_89 g h n c oc B A D w _ _ QE.out hn hBg hBh hBw S K _ ?_
  clear S
  intro T w' S
  apply hK
  clear hK K
  apply wp_seq_k
  intro K hK
  refine r31_90 g h n c oc B A D w _ _ QE.out hn hBg hBh hBw S K _ ?_
  clear S
  intro T w' S
  apply hK
  clear hK K
  apply wp_seq_k
  intro K hK
  refine r31_91 g h n c oc B A D w _ _ QE.out hn hBg hBh hBw S K _ ?_
  clear S
  intro T w' S
  apply hK
  clear hK K
  apply wp_seq_k
  intro K hK
  refine r31_92 g h n c oc B A D w _ _ QE.out hn hBg hBh hBw S K _ ?_
  clear S
  intro T w' S
  apply hK
  clear hK K
  apply wp_last
  refine r31_93 g h n c oc B A D w _ _ QE.out hn hBg hBh hBw S _ _ ?_
  clear S
  intro T w' S
  go_end0
  obtain ⟨_, _, _, _, F, V, M, _, hd, _⟩ := S
  exact ⟨rfl, F, V, M, hd⟩
end Go.Proofs.YtblmpfhjghcddaaDoor.QU
