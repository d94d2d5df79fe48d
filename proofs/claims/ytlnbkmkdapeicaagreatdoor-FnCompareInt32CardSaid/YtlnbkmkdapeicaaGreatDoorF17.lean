/- Values of whole numbers, as rows tell them; which of them are numbers of 32 bits. -/
import Derived.Test.YtlnbkmkdapeicaaGreatDoorF16
import Derived.Lib.Strings
namespace Go.Proofs.YtlnbkmkdapeicaaGreatDoor.QR
open Go.RowKit Go.Proofs.YtlnbkmkdapeicaaGreatDoorW.PrintWords Go.Proofs.YtlnbkmkdapeicaaGreatDoorW.PrintLast Go.Proofs.YtlnbkmkdapeicaaGreatDoorW.PrintMore
set_option linter.unusedVariables false
set_option linter.unusedSimpArgs false
/-- Kids: none. -/
def kid : Kd Unit where
  sz := 1
  E := []
  K := fun _ _ cs => ∃ A c, cs = [.slice A 0 c]
  M := fun _ _ _ _ cs => ∃ A c, cs = [.slice A 0 c]
  K_len := by rintro w x cs ⟨A, c, rfl⟩; rfl
  K_one := by rintro w x cs ⟨A, c, rfl⟩ u hu; rw [List.mem_singleton.1 hu]; rfl
  K_below := fun _ h => h
  K_of_M := fun h => h
  M_mono := fun _ h => h
  M_bound := fun h => h
  M_move := fun _ h => h
  M_lower := fun _ h => h
/-- A value: null, a number, a text. -/
abbrev TV := Bool × Int × ByteArray
def kV : Kd TV := Kd.iso (Kd.pair Kd.bool (Kd.pair (Kd.int .u64) (Kd.pair Kd.string kid))) (fun x => (x.1, x.2.1, x.2.2, ()))
theorem kV_open {w : World} {x : TV} {cs : List Value} (h : kV.K w x cs) : ∃ A c, cs = [.bool x.1, .int .u64 x.2.1, .string x.2.2, .slice A 0 c] := by
  obtain ⟨_, _, rfl, rfl, ⟨_, _, rfl, rfl, ⟨_, _, rfl, rfl, ⟨A, c, rfl⟩⟩⟩⟩ := h
  exact ⟨A, c, rfl⟩
theorem kV_mk (w : World) (x : TV) (A : Option Addr) (c : Nat) : kV.K w x [.bool x.1, .int .u64 x.2.1, .string x.2.2, .slice A 0 c] :=
  ⟨[.bool x.1], [.int .u64 x.2.1, .string x.2.2, .slice A 0 c], rfl, rfl, ⟨[.int .u64 x.2.1], [.string x.2.2, .slice A 0 c], rfl, rfl, ⟨[.string x.2.2], [.slice A 0 c], rfl, rfl, ⟨A, c, rfl⟩⟩⟩⟩
theorem kV_mkM (w : World) (base : Nat) (ok : Nat → Prop) (x : TV) (A : Option Addr) (c : Nat) : kV.M w base ok x [.bool x.1, .int .u64 x.2.1, .string x.2.2, .slice A 0 c] :=
  ⟨[.bool x.1], [.int .u64 x.2.1, .string x.2.2, .slice A 0 c], rfl, rfl, ⟨[.int .u64 x.2.1], [.string x.2.2, .slice A 0 c], rfl, rfl, ⟨[.string x.2.2], [.slice A 0 c], rfl, rfl, ⟨A, c, rfl⟩⟩⟩⟩
def zV : TV := (false, 0, ⟨#[]⟩)
theorem kV_at {w : World} {A : Option Addr} {n : Nat} {xs : List TV} (h : Kd.C kV w A n xs) (i : Nat) (hi : i < n) : ∃ ad A3 c3, A = some ad ∧ w.cell? (ad.add (i * 4)) = some (.bool (xs.getD i zV).1) ∧ w.cell? ⟨(ad.add (i * 4)).block, (ad.add (i * 4)).off + 1, none⟩ = some (.int .u64 (xs.getD i zV).2.1) ∧ w.cell? ⟨(ad.add (i * 4)).block, (ad.add (i * 4)).off + 2, none⟩ = some (.string (xs.getD i zV).2.2) ∧ w.cell? ⟨(ad.add (i * 4)).block, (ad.add (i * 4)).off + 3, none⟩ = some (.slice A3 0 c3) := by
  obtain ⟨ad, c, e, _, hK, hc0⟩ := Kd.C_get h zV (i : Int) (by omega) (by omega)
  rw [Int.toNat_natCast] at hK hc0
  have hc : ∀ j u, c[j]? = some u → w.cell? (ad.add (i * 4 + j)) = some u := hc0
  obtain ⟨A3, c3, rfl⟩ := kV_open hK
  exact ⟨ad, A3, c3, e, hc 0 _ rfl, by rw [← add_field _ _ 1 (by omega)]; exact hc 1 _ rfl, by rw [← add_field _ _ 2 (by omega)]; exact hc 2 _ rfl, by rw [← add_field _ _ 3 (by omega)]; exact hc 3 _ rfl⟩
def VA (x : TV) (A : Option Addr) (c : Nat) : Value := .agg #[.bool x.1, .int .u64 x.2.1, .string x.2.2, .slice A 0 c]
theorem infoV : (Tryz.prog.info? 52).map (fun i => (i.zero, i.size, i.bytes)) = some (some (.agg #[.bool false, .int .u64 0, .string ⟨#[]⟩, .slice none 0 0]), 4, 56) := by kernel_rfl
theorem VC_cells {w : World} {g : Nat} {a0 a1 a2 a3 : Value} (h : w.heap[g]? = some (.cells #[a0, a1, a2, a3] 52 (0, 0))) : w.cell? ⟨g, 0, none⟩ = some a0 ∧ w.cell? ⟨g, 1, none⟩ = some a1 ∧ w.cell? ⟨g, 2, none⟩ = some a2 ∧ w.cell? ⟨g, 3, none⟩ = some a3 := ⟨blk_cell h 0, blk_cell h 1, blk_cell h 2, blk_cell h 3⟩
/-- A type: its kind and width, and whether its numbers have a sign (2: numbers; 3: floats). -/
def TyN (k : Int) (t : Nat) (sg : Bool) : Value := .agg #[.int .i64 k, .int .i64 (t : Int), .bool sg, .int .i64 0, .int .i64 0, .int .i64 0, .string ⟨#[]⟩, .bool false, .slice none 0 0, .slice none 0 0]
abbrev TyM (k : Int) (t : Nat) (sg : Bool) : Array Value := #[.int .i64 k, .int .i64 (t : Int), .bool sg, .int .i64 0, .int .i64 0, .int .i64 0, .string ⟨#[]⟩, .bool false, .slice none 0 0, .slice none 0 0]
theorem TyM_cells {w : World} {g : Nat} {k : Int} {t : Nat} {sg : Bool} (h : w.heap[g]? = some (.cells (TyM k t sg) 35 (0, 0))) :
    w.cell? ⟨g, 0, none⟩ = some (.int .i64 k) ∧ w.cell? ⟨g, 1, none⟩ = some (.int .i64 (t : Int)) ∧ w.cell? ⟨g, 2, none⟩ = some (.bool sg) ∧ w.cell? ⟨g, 3, none⟩ = some (.int .i64 0) ∧ w.cell? ⟨g, 4, none⟩ = some (.int .i64 0) ∧ w.cell? ⟨g, 5, none⟩ = some (.int .i64 0) ∧ w.cell? ⟨g, 6, none⟩ = some (.string ⟨#[]⟩) ∧ w.cell? ⟨g, 7, none⟩ = some (.bool false) ∧ w.cell? ⟨g, 8, none⟩ = some (.slice none 0 0) ∧ w.cell? ⟨g, 9, none⟩ = some (.slice none 0 0) :=
  ⟨blk_cell h 0, blk_cell h 1, blk_cell h 2, blk_cell h 3, blk_cell h 4, blk_cell h 5, blk_cell h 6, blk_cell h 7, blk_cell h 8, blk_cell h 9⟩
set_option maxHeartbeats 8000000 in
set_option maxRecDepth 100000 in
theorem obn_is (k : Int) (t : Nat) (sg : Bool) (hk : k = 2 ∨ k = 3 ∧ sg = false) (w : World) : Calls Tryz.prog 27 #[TyN k t sg] w fun e w' => e = .returned (.tuple #[.int .i64 (t : Int), .bool sg]) ∧ Below w.heap.size w w' := by
  unfold TyN
  rcases hk with rfl | ⟨rfl, rfl⟩
  · obtain ⟨W, hW⟩ : ∃ W, W = w.alloc (.cells (TyM 2 t sg) 35) := ⟨_, rfl⟩
    have g1 : W.heap[w.heap.size]? = some (.cells (TyM 2 t sg) 35 (0, 0)) := by rw [hW]; exact blk_new w _
    have hB := Aside0.mk (show Below w.heap.size w W by rw [hW]; exact b2 w _)
    obtain ⟨t0, t1, t2, t3, t4, t5, t6, t7, t8, t9⟩ := TyM_cells g1
    go_enter Tryz.func27, Tryz.ntmps27
    go_upto_region 3 with (fail)
    rw [← hW]
    clear hW g1
    go_quiet ((fail))
    go_wp2
    refine bodyPost_ret (v := .tuple #[.int .i64 (t : Int), .bool sg]) (by simp [results, Tryz.results27, go_sem]) rfl ?_
    exact ⟨rfl, pw_below_drewN hB.out _⟩
  · go_enter Tryz.func27, Tryz.ntmps27
    go_wp2
    refine bodyPost_ret (v := .tuple #[.int .i64 (t : Int), .bool false]) (by simp [results, Tryz.results27, go_sem]) rfl ?_
    exact ⟨rfl, b2 w _⟩
/-- The numbers of so many bits. -/
def fitsA (t : Nat) (sg : Bool) (a : Int) : Bool := if t = 64 then true else if sg then decide (IntKind.u64.wrap (IntKind.i32.wrap a) = a) else decide (a % 4294967296 = a)
/-- A value that is not null, with m kids, is of the type. -/
def fitsN (t : Nat) (sg : Bool) (m : Nat) (a : Int) (s : ByteArray) : Bool := decide (m = 0) && (decide (s = ⟨#[]⟩) && fitsA t sg a)
theorem u64w (x : Int) : IntKind.u64.wrap x = x % 18446744073709551616 := by unfold IntKind.wrap; rfl
theorem i32w (x : Int) : IntKind.i32.wrap x = (x + 2147483648) % 4294967296 - 2147483648 := by simp [IntKind.wrap_i32, wrap32]
theorem i64w (x : Int) : wrap64 x = (x + 9223372036854775808) % 18446744073709551616 - 9223372036854775808 := by simp [wrap64]
theorem fit_i32 (a : Int) (ha : 0 ≤ a ∧ a < 18446744073709551616) : (IntKind.u64.wrap (wrap64 (IntKind.u64.wrap (a * 4294967296)) / 4294967296) == a) = fitsA 32 true a := by
  have h : IntKind.u64.wrap (wrap64 (IntKind.u64.wrap (a * 4294967296)) / 4294967296) = IntKind.u64.wrap (IntKind.i32.wrap a) := by
    simp only [u64w, i32w, i64w]
    omega
  rw [h]
  unfold fitsA
  rw [if_neg (by decide), if_pos rfl]
  rfl
theorem empty_is (s : ByteArray) (h : ¬ s = ⟨#[]⟩) : s.toList.isEmpty = false := by
  rw [Lib.toList_data]
  cases hl : s.data.toList with
  | cons _ _ => rfl
  | nil =>
    refine absurd ?_ h
    obtain ⟨a⟩ := s
    congr 1
    rw [← Array.toList_inj]
    exact hl
set_option maxHeartbeats 8000000 in
set_option maxRecDepth 100000 in
theorem ofn_is (a : Int) (ha : 0 ≤ a ∧ a < 18446744073709551616) (s : ByteArray) (A : Option Addr) (m c : Nat) (w : World) : Calls Tryz.prog 16 #[TyN 2 32 true, .agg #[.bool false, .int .u64 a, .string s, .slice A m c]] w fun e w' => e = .returned (.bool (fitsN 32 true m a s)) ∧ Below w.heap.size w w' := by
  have QO := Aside0.mk (fun w => obn_is 2 32 true (.inl rfl) w)
  obtain ⟨fr, hfr⟩ : ∃ fr, fr = fitsN 32 true m a s := ⟨_, rfl⟩
  rw [← hfr]
  have Qf := Aside0.mk (And.intro hfr ha)
  have hT : TyN 2 32 true = .agg (TyM 2 32 true) := rfl
  rw [hT] at QO ⊢
  clear hfr hT
  by_cases hm : m = 0
  · subst hm
    go_enter Tryz.func16, Tryz.ntmps16
    go_upto_region 5 with (fail)
    obtain ⟨W, hW⟩ : ∃ W, W = (w.alloc (.cells (TyM 2 32 true) 35)).alloc (.cells #[.bool false, .int .u64 a, .string s, .slice A 0 c] 52) := ⟨_, rfl⟩
    have g1 : W.heap[w.heap.size]? = some (.cells (TyM 2 32 true) 35 (0, 0)) := by rw [hW]; exact blk_alloc (blk_new w _) _
    have g2 : W.heap[w.heap.size + 1]? = some (.cells #[.bool false, .int .u64 a, .string s, .slice A 0 c] 52 (0, 0)) := by rw [hW]; have := blk_new (w.alloc (.cells (TyM 2 32 true) 35)) (.cells #[.bool false, .int .u64 a, .string s, .slice A 0 c] 52); rw [World.size_alloc] at this; exact this
    have QB0 := Aside0.mk (show Below w.heap.size w W by rw [hW]; exact b3 w _ _)
    rw [← hW]
    clear hW
    obtain ⟨t0, t1, t2, t3, t4, t5, t6, t7, t8, t9⟩ := TyM_cells g1
    have G1 := Aside0.mk g1
    have G2 := Aside0.mk g2
    clear g1 g2
    go_upto_region 9 with (go_at_call 27; refine (QO.out _).mono ?_; rintro e w1 ⟨rfl, hb⟩; have QB1 := Aside0.mk hb; clear hb)
    have g2 := (QB1.out.block _ (blk_lt G2.out)).trans G2.out
    clear t0 t1 t2 t3 t4 t5 t6 t7 t8 t9
    obtain ⟨v0, v1, v2, v3⟩ := VC_cells g2
    clear g2
    have QB := Aside0.mk (QB0.out.trans (QB1.out.mono QB0.out.size))
    clear QB0 QB1 G1 G2 QO
    by_cases hs : s = ⟨#[]⟩
    · subst hs
      go_upto_region 12 with (fail)
      go_quiet ((fail))
      go_wp2
      go_ret
      refine ⟨congrArg (fun b => Ending.returned (.bool b)) ?_, pw_below_drewN QB.out _⟩
      rw [Qf.out.1]
      have ha := Qf.out.2
      have hz : fitsN 32 true 0 a ⟨#[]⟩ = fitsA 32 true a := by unfold fitsN; simp
      rw [hz]
      exact fit_i32 a ha
    · have hs2 := empty_is s hs
      go_wp2
      go_ret
      exact ⟨congrArg (fun b => Ending.returned (.bool b)) (by rw [Qf.out.1]; simp [fitsN, hs]), QB.out⟩
  · go_enter Tryz.func16, Tryz.ntmps16
    have hm1 : (0 : Int) < (m : Int) := by omega
    have hm2 : 0 < m := by omega
    go_wp2
    go_ret
    exact ⟨congrArg (fun b => Ending.returned (.bool b)) (by rw [Qf.out.1]; simp [fitsN, hm]), b3 w _ _⟩
end Go.Proofs.YtlnbkmkdapeicaaGreatDoor.QR
