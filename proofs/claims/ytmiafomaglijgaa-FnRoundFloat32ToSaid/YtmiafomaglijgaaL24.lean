/- RoundFloatTo: what its call gives, and the error. -/
import Derived.Test.YtmiafomaglijgaaL23
import Derived.Laws.NewBlocks
namespace Go.Proofs.Ytmiafomaglijgaa.QR
open Ieee Go.Proofs.Ytmiafomaglijgaa.Fl Go.RowKit Go.Proofs.YtmiafomaglijgaaW.PrintWords Go.Proofs.YtmiafomaglijgaaW.PrintLast Go.Proofs.YtmiafomaglijgaaW.PrintMore
set_option linter.unusedVariables false
set_option linter.unusedSimpArgs false
theorem store_float {P : Program} {w : World} (a : Addr) (m : Mode) (k : FloatKind) (x : Nat) : (store a (.float k x) m).run P w = stored P w a (.float k x) m := run_store P w a _ m rfl
attribute [local go_sem] store_float
/-- The error cell after a call that went well, or not. -/
def ErrZ (b : Bool) (z : Value) : Prop := (b = true ∧ z = .nilIface) ∨ (b = false ∧ ∃ t x, z = .iface t x)
/-- What the kernel's call gives, in any world where its record and the error's cell lie. -/
def CallOK (mode v m y : Nat) (b : Bool) : Prop := ∀ (g ge N : Nat) (w : World), N ≤ ge → w.heap[g]? = some (.cells #[.float .f32 m, .int .i8 (mode : Int), .func (.func (fno mode)) #[] #[]] 48 (0, 0)) → w.heap[ge]? = some (.cells #[.nilIface] 37 (0, 0)) →
    Calls Try.prog 17 #[.pointer (some ⟨g, 0, none⟩), .float .f32 v, .pointer (some ⟨ge, 0, none⟩)] w fun e w' => ∃ z, e = .returned (.float .f32 y) ∧ Below N w w' ∧ w'.cell? ⟨ge, 0, none⟩ = some z ∧ ErrZ b z
theorem ok_whole (mode : Nat) {v m q : Nat} {sv s : Bool} {Mv M : Nat} (hv : Units (F32.read v) sv Mv) (hgv : Good Mv) (hq : Units (F32.read q) s M) (hg : Good M) (hdiv : floatBits .quo .f32 v m = some q) {X : Nat} (hX : Units (F32.read (W F32 false (Dz s M))) false X) (hX0 : X = 0) : CallOK mode v m v true := by
  intro g ge N w hN hs he
  refine (call_whole mode hv hgv hq hg hdiv hX hX0 g _ _ w hs).mono ?_
  rintro e w' ⟨rfl, hb⟩
  exact ⟨.nilIface, rfl, hb.mono (by have := blk_lt he; omega), cell_keep (blk_cell he 0) hb, .inl ⟨rfl, rfl⟩⟩
theorem ok_part (mode : Nat) (hm : mode < 10) {v m q pr xp : Nat} {sv s : Bool} {Mv M X : Nat} (hv : Units (F32.read v) sv Mv) (hgv : Good Mv) (hq : Units (F32.read q) s M) (hg : Good M) (hdiv : floatBits .quo .f32 v m = some q) (h : M % U1 ≠ 0)
    (hX : Units (F32.read (W F32 false (Df s M))) false X) (hX0 : X ≠ 0) {K : Nat} (hK : K = if 4 ≤ mode ∧ X ≠ H1 then Kr M else Kf mode s M)
    (hpr : floatBits .mul .f32 (W F32 s (K * U1)) m = some pr) (hxp : floatToFloatBits .f32 pr .f64 = some xp) (hlt : xp < 18446744073709551616) (hnp : (F64.read xp).isNaN = false) : CallOK mode v m (if (F64.read xp).isInfinity then v else pr) (!(F64.read xp).isInfinity) := by
  intro g ge N w hN hs he
  refine (call_part mode hm hv hgv hq hg hdiv h hX hX0 hK hpr hxp hlt hnp g ge N hN w hs he).mono ?_
  rintro e w' ⟨hb, ⟨hi, rfl, hc⟩ | ⟨hi, rfl, t, x, hc⟩⟩
  · rw [hi]
    exact ⟨.nilIface, by simp only [Bool.false_eq_true, if_false], hb, hc, .inl ⟨rfl, rfl⟩⟩
  · rw [hi]
    exact ⟨_, by simp only [if_true], hb, hc, .inr ⟨rfl, t, x, rfl⟩⟩
set_option maxHeartbeats 8000000 in
set_option maxRecDepth 100000 in
theorem to_is (mode : Nat) (hm : mode < 10) {v m y : Nat} {b : Bool} (hc : CallOK mode v m y b) (w : World) : Calls Try.prog 11 #[.float .f32 v, .float .f32 m, .int .i8 (mode : Int)] w fun e w' => ∃ z, e = .returned (.tuple #[.float .f32 y, z]) ∧ Below w.heap.size w w' ∧ ErrZ b z := by
  have QG := Aside0.mk (fun w => get_is mode hm w)
  unfold CallOK at hc
  have QC := Aside0.mk hc
  clear hm hc
  go_enter Try.func11, Try.ntmps11
  go_wp2_with (first | (go_at_call 16; with_reducible refine Calls.mono (QG.out _) ?_; rintro e w1 ⟨rfl, hb⟩; have Q1 := Aside0.mk hb; clear hb) | fail)
  have g1 : ((w1.alloc (Obj.cells #[.float .f32 m, .int .i8 (mode : Int), .func (.func (fno mode)) #[] #[]] 48)).alloc (Obj.cells #[.nilIface] 37)).heap[w1.heap.size]? = some (.cells #[.float .f32 m, .int .i8 (mode : Int), .func (.func (fno mode)) #[] #[]] 48 (0, 0)) := blk_alloc (blk_new w1 _) _
  have g2 : ((w1.alloc (Obj.cells #[.float .f32 m, .int .i8 (mode : Int), .func (.func (fno mode)) #[] #[]] 48)).alloc (Obj.cells #[.nilIface] 37)).heap[w1.heap.size + 1]? = some (.cells #[.nilIface] 37 (0, 0)) := by
    have := blk_new (w1.alloc (Obj.cells #[.float .f32 m, .int .i8 (mode : Int), .func (.func (fno mode)) #[] #[]] 48)) (.cells #[.nilIface] 37)
    rw [World.size_alloc] at this
    exact this
  have g3 : Below w.heap.size w ((w1.alloc (Obj.cells #[.float .f32 m, .int .i8 (mode : Int), .func (.func (fno mode)) #[] #[]] 48)).alloc (Obj.cells #[.nilIface] 37)) := below_alloc (below_alloc Q1.out _) _
  generalize (w1.alloc (Obj.cells #[.float .f32 m, .int .i8 (mode : Int), .func (.func (fno mode)) #[] #[]] 48)).alloc (Obj.cells #[.nilIface] 37) = W at g1 g2 g3 ⊢
  with_reducible refine Calls.mono (QC.out _ _ w.heap.size _ (Nat.le_succ_of_le Q1.out.size) g1 g2) ?_
  rintro e w2 ⟨z, rfl, hb, hcell, hz⟩
  have Q2 := Aside0.mk (And.intro (g3.trans hb) hz)
  clear hb hz g1 g2 g3
  go_wp2_with fail
  go_region_with (fail)
  all_goals
    go_wp2_with fail
    refine bodyPost_ret (v := .tuple #[.float .f32 y, z]) (by simp [results, Try.results11, go_sem]) rfl ?_
    first | exact ⟨z, rfl, Q2.out.1, Q2.out.2⟩ | exact ⟨z, rfl, Q2.out.1.drew, Q2.out.2⟩ | exact ⟨z, rfl, Q2.out.1.drew.drew, Q2.out.2⟩ | exact ⟨z, rfl, Q2.out.1.drew.drew.drew, Q2.out.2⟩
end Go.Proofs.Ytmiafomaglijgaa.QR
