/- CompareDecimals128: decimals are compared one by one, or with one number; the answers are bits from a place on. -/
import Derived.Test.YtlnbkmkdapeicaaDoorF11d
import Derived.Test.YtlnbkmkdapeicaaDoorF12d
import Derived.Test.YtlnbkmkdapeicaaDoorF13d
namespace Go.Proofs.YtlnbkmkdapeicaaDoor.QR
open Go.RowKit Go.Proofs.YtlnbkmkdapeicaaDoorW.PrintWords Go.Proofs.YtlnbkmkdapeicaaDoorW.PrintLast Go.Proofs.YtlnbkmkdapeicaaDoorW.PrintMore
set_option linter.unusedVariables false
set_option linter.unusedSimpArgs false
set_option maxRecDepth 100000 in
theorem cf_AA (op : Nat) (hop : op ≤ 3) (args : Array Value) (w : World) : (callFunc (fAA op) args).run Tryd.prog w = .ok (.enter (fAA op) args) w := by
  have h : op = 0 ∨ op = 1 ∨ op = 2 ∨ op = 3 := by omega
  rcases h with rfl | rfl | rfl | rfl
  · show (callFunc 45 args).run Tryd.prog w = _; simp [callFunc, Tryd.func45, go_sem]; rfl
  · show (callFunc 48 args).run Tryd.prog w = _; simp [callFunc, Tryd.func48, go_sem]; rfl
  · show (callFunc 51 args).run Tryd.prog w = _; simp [callFunc, Tryd.func51, go_sem]; rfl
  · show (callFunc 54 args).run Tryd.prog w = _; simp [callFunc, Tryd.func54, go_sem]; rfl
set_option maxRecDepth 100000 in
theorem cf_AS (op : Nat) (hop : op ≤ 3) (args : Array Value) (w : World) : (callFunc (fAS op) args).run Tryd.prog w = .ok (.enter (fAS op) args) w := by
  have h : op = 0 ∨ op = 1 ∨ op = 2 ∨ op = 3 := by omega
  rcases h with rfl | rfl | rfl | rfl
  · show (callFunc 46 args).run Tryd.prog w = _; simp [callFunc, Tryd.func46, go_sem]; rfl
  · show (callFunc 49 args).run Tryd.prog w = _; simp [callFunc, Tryd.func49, go_sem]; rfl
  · show (callFunc 52 args).run Tryd.prog w = _; simp [callFunc, Tryd.func52, go_sem]; rfl
  · show (callFunc 55 args).run Tryd.prog w = _; simp [callFunc, Tryd.func55, go_sem]; rfl
set_option maxRecDepth 100000 in
theorem cf_SA (op : Nat) (hop : op ≤ 3) (args : Array Value) (w : World) : (callFunc (fSA op) args).run Tryd.prog w = .ok (.enter (fSA op) args) w := by
  have h : op = 0 ∨ op = 1 ∨ op = 2 ∨ op = 3 := by omega
  rcases h with rfl | rfl | rfl | rfl
  · show (callFunc 47 args).run Tryd.prog w = _; simp [callFunc, Tryd.func47, go_sem]; rfl
  · show (callFunc 50 args).run Tryd.prog w = _; simp [callFunc, Tryd.func50, go_sem]; rfl
  · show (callFunc 53 args).run Tryd.prog w = _; simp [callFunc, Tryd.func53, go_sem]; rfl
  · show (callFunc 56 args).run Tryd.prog w = _; simp [callFunc, Tryd.func56, go_sem]; rfl
theorem opAA (op : Nat) (hop : op ≤ 3) (gm : Nat) : OpAA (fAA op) (capOf op gm) gm op := by
  have h : op = 0 ∨ op = 1 ∨ op = 2 ∨ op = 3 := by omega
  intro gl oA nA cA xs gr oB nB cB ys gT cT n ts w h1 h2 h3 h4 h5 h6 h7 h8 hm hnm h9 h10 h11
  have e0 : ∀ (a b c : Value), (#[a, b, c] : Array Value) ++ capOf 0 gm = #[a, b, c] := fun a b c => rfl
  have e1 : ∀ (a b c : Value), (#[a, b, c] : Array Value) ++ capOf 1 gm = #[a, b, c] := fun a b c => rfl
  have e2 : ∀ (a b c : Value), (#[a, b, c] : Array Value) ++ capOf 2 gm = #[a, b, c, .pointer (some ⟨gm, 0, none⟩)] := fun a b c => rfl
  have e3 : ∀ (a b c : Value), (#[a, b, c] : Array Value) ++ capOf 3 gm = #[a, b, c, .pointer (some ⟨gm, 0, none⟩)] := fun a b c => rfl
  rcases h with rfl | rfl | rfl | rfl
  · rw [e0]; exact aa0_is gl oA nA cA xs gr oB nB cB ys gT cT n gm ts w h1 h2 h3 h4 h5 h6 h7 h8 hm hnm h9 h10 h11
  · rw [e1]; exact aa1_is gl oA nA cA xs gr oB nB cB ys gT cT n gm ts w h1 h2 h3 h4 h5 h6 h7 h8 hm hnm h9 h10 h11
  · rw [e2]; exact aa2_is gl oA nA cA xs gr oB nB cB ys gT cT n gm ts w h1 h2 h3 h4 h5 h6 h7 h8 hm hnm h9 h10 h11
  · rw [e3]; exact aa3_is gl oA nA cA xs gr oB nB cB ys gT cT n gm ts w h1 h2 h3 h4 h5 h6 h7 h8 hm hnm h9 h10 h11
theorem opAS (op : Nat) (hop : op ≤ 3) (gm : Nat) : OpAS (fAS op) (capOf op gm) gm op := by
  have h : op = 0 ∨ op = 1 ∨ op = 2 ∨ op = 3 := by omega
  intro gl oA nA cA xs y gT cT n ts w h1 h2 h3 h4 hm hnm h9 h10 h11
  have e0 : ∀ (a b c : Value), (#[a, b, c] : Array Value) ++ capOf 0 gm = #[a, b, c] := fun a b c => rfl
  have e1 : ∀ (a b c : Value), (#[a, b, c] : Array Value) ++ capOf 1 gm = #[a, b, c] := fun a b c => rfl
  have e2 : ∀ (a b c : Value), (#[a, b, c] : Array Value) ++ capOf 2 gm = #[a, b, c, .pointer (some ⟨gm, 0, none⟩)] := fun a b c => rfl
  have e3 : ∀ (a b c : Value), (#[a, b, c] : Array Value) ++ capOf 3 gm = #[a, b, c, .pointer (some ⟨gm, 0, none⟩)] := fun a b c => rfl
  rcases h with rfl | rfl | rfl | rfl
  · rw [e0]; exact as0_is gl oA nA cA xs y gT cT n gm ts w h1 h2 h3 h4 hm hnm h9 h10 h11
  · rw [e1]; exact as1_is gl oA nA cA xs y gT cT n gm ts w h1 h2 h3 h4 hm hnm h9 h10 h11
  · rw [e2]; exact as2_is gl oA nA cA xs y gT cT n gm ts w h1 h2 h3 h4 hm hnm h9 h10 h11
  · rw [e3]; exact as3_is gl oA nA cA xs y gT cT n gm ts w h1 h2 h3 h4 hm hnm h9 h10 h11
theorem opSA (op : Nat) (hop : op ≤ 3) (gm : Nat) : OpSA (fSA op) (capOf op gm) gm op := by
  have h : op = 0 ∨ op = 1 ∨ op = 2 ∨ op = 3 := by omega
  intro x gl oA nA cA xs gT cT n ts w h1 h2 h3 h4 hm hnm h9 h10 h11
  have e0 : ∀ (a b c : Value), (#[a, b, c] : Array Value) ++ capOf 0 gm = #[a, b, c] := fun a b c => rfl
  have e1 : ∀ (a b c : Value), (#[a, b, c] : Array Value) ++ capOf 1 gm = #[a, b, c] := fun a b c => rfl
  have e2 : ∀ (a b c : Value), (#[a, b, c] : Array Value) ++ capOf 2 gm = #[a, b, c, .pointer (some ⟨gm, 0, none⟩)] := fun a b c => rfl
  have e3 : ∀ (a b c : Value), (#[a, b, c] : Array Value) ++ capOf 3 gm = #[a, b, c, .pointer (some ⟨gm, 0, none⟩)] := fun a b c => rfl
  rcases h with rfl | rfl | rfl | rfl
  · rw [e0]; exact sa0_is x gl oA nA cA xs gT cT n gm ts w h1 h2 h3 h4 hm hnm h9 h10 h11
  · rw [e1]; exact sa1_is x gl oA nA cA xs gT cT n gm ts w h1 h2 h3 h4 hm hnm h9 h10 h11
  · rw [e2]; exact sa2_is x gl oA nA cA xs gT cT n gm ts w h1 h2 h3 h4 hm hnm h9 h10 h11
  · rw [e3]; exact sa3_is x gl oA nA cA xs gT cT n gm ts w h1 h2 h3 h4 hm hnm h9 h10 h11
set_option maxHeartbeats 8000000 in
set_option maxRecDepth 100000 in
theorem kof_is (how gd : Nat) (v0 v1 v2 : Value) (hhow : how ≤ 2) (w : World) (hg : w.heap[gd]? = some (.cells #[v0, v1, v2] 137 (0, 0))) : Calls Tryd.prog 26 #[.int .i64 (how : Int), .pointer (some ⟨gd, 0, none⟩)] w fun e w' => e = .returned (if how = 0 then v0 else if how = 1 then v2 else v1) ∧ w' = w := by
  have k0 := blk_cell hg 0
  have k1 := blk_cell hg 1
  have k2 := blk_cell hg 2
  simp only [List.getElem?_toArray, List.getElem?_cons_succ, List.getElem?_cons_zero] at k0 k1 k2
  clear hg
  have h : how = 0 ∨ how = 1 ∨ how = 2 := by omega
  rcases h with rfl | rfl | rfl
  all_goals
    go_enter Tryd.func26, Tryd.ntmps26
    go_wp2
    go_ret
    exact ⟨rfl, rfl⟩
/-- Which numbers are compared. -/
def duB (op how : Nat) (xs ys : List Dc) (i : Nat) : Bool := cmpB op (rdD xs (if how = 2 then 0 else i)) (rdD ys (if how = 1 then 0 else i))
theorem elsI_zero {l : List Int} {m : Nat} (h : 1 ≤ m) : rdD (elsI l m) 0 = w16 l 0 := by
  unfold rdD elsI
  rw [List.getD_eq_getElem?_getD, List.getElem?_map, List.getElem?_range (by omega)]
  rfl
set_option maxHeartbeats 8000000 in
set_option maxRecDepth 100000 in
theorem cn_is (op how : Nat) (hop : op ≤ 3) (hhow : how ≤ 2) (Al : Option Addr) (lb : List Int) (cl : Nat) (Ar : Option Addr) (rb : List Int) (cr nl nr n gO L cO f : Nat) (us : List Value) (w : World)
    (hCl : Cu w Al lb) (hcl : lb.length ≤ cl) (hbl : bytesOk lb = true) (hnl : lb.length = 16 * nl) (hCr : Cu w Ar rb) (hcr : rb.length ≤ cr) (hbr : bytesOk rb = true) (hnr : rb.length = 16 * nr) (hn : n ≤ 300) (hl3 : nl ≤ 300) (hr3 : nr ≤ 300)
    (hp0 : how = 0 → nl = n ∧ nr = n) (hp1 : how = 1 → nl = n ∧ 1 ≤ nr) (hp2 : how = 2 → nr = n ∧ 1 ≤ nl)
    (Po : Option Addr) (hPo : 0 < L → Po = some ⟨gO, 0, none⟩) (hO : w.heap[gO]? = some (.cells us.toArray 5 (0, 0))) (hOk : OkU us L) (hLc : L ≤ cO) (hL6 : L ≤ 1000) (hf : f ≤ 7) (hfn : f + n ≤ 8 * L) (hM : Bm w) (hgO : 2 < gO ∧ 3 < gO) :
    Calls Tryd.prog 17 #[.int .i8 (op : Int), .int .i64 (how : Int), .slice Al lb.length cl, .slice Ar rb.length cr, .slice Po L cO, .int .i64 (f : Int)] w fun e w' => e = .returned (.tuple #[]) ∧ ∃ us', w'.heap[gO]? = some (.cells us'.toArray 5 (0, 0)) ∧ KInv us us' L f n (duB op how (elsI lb nl) (elsI rb nr)) ∧ Fr w w' gO gO := by
  have QG := Aside0.mk (fun w => gco_is op hop w)
  have hgs : gO < w.heap.size := blk_lt hO
  have QK := Aside0.mk (fun (w3 : World) (hb : Below w.heap.size w w3) (g1 g2 g3 gm : Nat) (h1 : w.heap.size ≤ g1 ∧ w3.heap[g1]? = some (.cells #[fcp (fAA op) (capOf op gm)] 140 (0, 0))) (h2 : w.heap.size ≤ g2 ∧ w3.heap[g2]? = some (.cells #[fcp (fAS op) (capOf op gm)] 142 (0, 0))) (h3 : w.heap.size ≤ g3 ∧ w3.heap[g3]? = some (.cells #[fcp (fSA op) (capOf op gm)] 144 (0, 0))) (h4 : w.heap.size ≤ gm ∧ w3.heap[gm]? = some (.cells #[.func (.func 58) #[] #[], .func (.func 60) #[] #[]] 74 (0, 0))) =>
    show (how = 0 → Calls Tryd.prog 64 #[.slice Al lb.length cl, .slice Ar rb.length cr, .slice Po L cO, .int .i64 (f : Int), .pointer (some ⟨g1, 0, none⟩)] w3 fun e w' => e = .returned (.tuple #[]) ∧ ∃ us', w'.heap[gO]? = some (.cells us'.toArray 5 (0, 0)) ∧ KInv us us' L f n (duB op how (elsI lb nl) (elsI rb nr)) ∧ Fr w3 w' gO gO)
      ∧ (how = 1 → Calls Tryd.prog 68 #[.slice Al lb.length cl, .slice Ar rb.length cr, .slice Po L cO, .int .i64 (f : Int), .pointer (some ⟨g2, 0, none⟩)] w3 fun e w' => e = .returned (.tuple #[]) ∧ ∃ us', w'.heap[gO]? = some (.cells us'.toArray 5 (0, 0)) ∧ KInv us us' L f n (duB op how (elsI lb nl) (elsI rb nr)) ∧ Fr w3 w' gO gO)
      ∧ (how = 2 → Calls Tryd.prog 70 #[.slice Al lb.length cl, .slice Ar rb.length cr, .slice Po L cO, .int .i64 (f : Int), .pointer (some ⟨g3, 0, none⟩)] w3 fun e w' => e = .returned (.tuple #[]) ∧ ∃ us', w'.heap[gO]? = some (.cells us'.toArray 5 (0, 0)) ∧ KInv us us' L f n (duB op how (elsI lb nl) (elsI rb nr)) ∧ Fr w3 w' gO gO) from by
    have hO3 := (hb.block gO hgs).trans hO
    have hM3 : Bm w3 := hM.below hb ⟨by omega, by omega⟩
    refine ⟨fun h => ?_, fun h => ?_, fun h => ?_⟩
    · obtain ⟨rfl, rfl⟩ := hp0 h
      have hr := kaa_is (fAA op) (capOf op gm) gm op (cf_AA op hop) (opAA op hop gm) Al lb cl Ar rb cr nr gO L cO f g1 us w3 (Kd.C_below hCl hb) hcl hbl hnl (Kd.C_below hCr hb) hcr hbr hnr hn hO3 hOk hLc hL6 hf hfn Po hPo h1.2 (by omega) h4.2 (by omega) hM3 hgO
      rw [show (fun (i : Nat) => cmpB op (rdD (elsI lb nr) i) (rdD (elsI rb nr) i)) = duB op how (elsI lb nr) (elsI rb nr) by funext i; unfold duB; rw [if_neg (by omega), if_neg (by omega)]] at hr
      exact hr
    · obtain ⟨rfl, hr1⟩ := hp1 h
      have hr := kas_is (fAS op) (capOf op gm) gm op (cf_AS op hop) (opAS op hop gm) Al lb cl Ar rb cr nl gO L cO f g2 us w3 (Kd.C_below hCl hb) hcl hbl (Kd.C_below hCr hb) hcr hbr hnl (by omega) (by omega) hn hO3 hOk hLc hL6 hf hfn Po hPo h2.2 (by omega) h4.2 (by omega) hM3 hgO
      rw [show (fun (i : Nat) => cmpB op (rdD (elsI lb nl) i) (w16 rb 0)) = duB op how (elsI lb nl) (elsI rb nr) by funext i; unfold duB; rw [if_neg (by omega), if_pos h, elsI_zero hr1]] at hr
      exact hr
    · obtain ⟨rfl, hl1⟩ := hp2 h
      have hr := ksa_is (fSA op) (capOf op gm) gm op (cf_SA op hop) (opSA op hop gm) Al lb cl Ar rb cr nr gO L cO f g3 us w3 (Kd.C_below hCl hb) hcl hbl (Kd.C_below hCr hb) hcr hbr hnr (by omega) (by omega) hn hO3 hOk hLc hL6 hf hfn Po hPo h3.2 (by omega) h4.2 (by omega) hM3 hgO
      rw [show (fun (i : Nat) => cmpB op (w16 lb 0) (rdD (elsI rb nr) i)) = duB op how (elsI lb nl) (elsI rb nr) by funext i; unfold duB; rw [if_pos h, if_neg (by omega), elsI_zero hl1]] at hr
      exact hr)
  obtain ⟨bf, hbf⟩ : ∃ bf, bf = duB op how (elsI lb nl) (elsI rb nr) := ⟨_, rfl⟩
  rw [← hbf] at QK ⊢
  obtain ⟨ll, hll⟩ : ∃ ll, ll = lb.length := ⟨_, rfl⟩
  obtain ⟨lr, hlr⟩ : ∃ lr, lr = rb.length := ⟨_, rfl⟩
  rw [← hll, ← hlr] at QK ⊢
  have Qs := Aside0.mk hgs
  clear hCl hcl hbl hnl hCr hcr hbr hnr hn hl3 hr3 hp0 hp1 hp2 hO hOk hLc hL6 hf hfn hM hgO hPo hbf hll hlr hgs
  go_enter Tryd.func17, Tryd.ntmps17
  have h : how = 0 ∨ how = 1 ∨ how = 2 := by omega
  rcases h with rfl | rfl | rfl
  · replace QK := Aside0.mk (fun w3 hb g1 g2 g3 gm h1 h2 h3 h4 => (QK.out w3 hb g1 g2 g3 gm h1 h2 h3 h4).1 rfl)
    go_wp2_with (first | (go_at_call 29; go_must (refine (dcm_is _).mono ?_; rintro e w0 ⟨rfl, hb⟩; have K0 := Aside0.mk hb; clear hb)) | (go_at_call 28; go_must (refine (QG.out _).mono ?_; rintro e w1 ⟨g, gm, rfl, h1, h2, h3, h4⟩; have K1 := Aside0.mk (And.intro h1 (And.intro h2 (K0.out.trans (h4.mono K0.out.size)))); have KM := Aside0.mk (And.intro (Nat.le_trans K0.out.size h3.1) h3.2); clear h1 h2 h3 h4)) | (go_at_call 27; go_must (refine (gen_is _ _ _ _ _ _ K1.out.2.1).mono ?_; rintro e w2 ⟨gd, g1, g2, g3, rfl, h1, h2, h3, h4, h5⟩; have hb2 := K1.out.2.2.trans (h5.mono K1.out.2.2.size); have QK2 := Aside0.mk (QK.out w2 hb2 g1 g2 g3 gm ⟨Nat.le_trans K1.out.2.2.size h2.1, h2.2⟩ ⟨Nat.le_trans K1.out.2.2.size h3.1, h3.2⟩ ⟨Nat.le_trans K1.out.2.2.size h4.1, h4.2⟩ ⟨KM.out.1, (h5.block gm (blk_lt KM.out.2)).trans KM.out.2⟩); have K2 := Aside0.mk (And.intro h1 hb2); clear h1 h2 h3 h4 h5 hb2)) | (go_at_call 26; go_must (refine (kof_is _ gd _ _ _ (by omega) _ K2.out.1).mono ?_; rintro e w3 ⟨rfl, hw⟩; subst w3)) | (go_at_call 64; go_must (refine QK2.out.mono ?_; rintro e w4 ⟨rfl, us', h1, h2, h3⟩; have K4 := Aside0.mk (And.intro h1 (And.intro h2 ((Fr.of_below K2.out.2).trans h3))); clear h1 h2 h3)))
    go_end0
    exact ⟨rfl, us', K4.out⟩
  · replace QK := Aside0.mk (fun w3 hb g1 g2 g3 gm h1 h2 h3 h4 => (QK.out w3 hb g1 g2 g3 gm h1 h2 h3 h4).2.1 rfl)
    go_wp2_with (first | (go_at_call 29; go_must (refine (dcm_is _).mono ?_; rintro e w0 ⟨rfl, hb⟩; have K0 := Aside0.mk hb; clear hb)) | (go_at_call 28; go_must (refine (QG.out _).mono ?_; rintro e w1 ⟨g, gm, rfl, h1, h2, h3, h4⟩; have K1 := Aside0.mk (And.intro h1 (And.intro h2 (K0.out.trans (h4.mono K0.out.size)))); have KM := Aside0.mk (And.intro (Nat.le_trans K0.out.size h3.1) h3.2); clear h1 h2 h3 h4)) | (go_at_call 27; go_must (refine (gen_is _ _ _ _ _ _ K1.out.2.1).mono ?_; rintro e w2 ⟨gd, g1, g2, g3, rfl, h1, h2, h3, h4, h5⟩; have hb2 := K1.out.2.2.trans (h5.mono K1.out.2.2.size); have QK2 := Aside0.mk (QK.out w2 hb2 g1 g2 g3 gm ⟨Nat.le_trans K1.out.2.2.size h2.1, h2.2⟩ ⟨Nat.le_trans K1.out.2.2.size h3.1, h3.2⟩ ⟨Nat.le_trans K1.out.2.2.size h4.1, h4.2⟩ ⟨KM.out.1, (h5.block gm (blk_lt KM.out.2)).trans KM.out.2⟩); have K2 := Aside0.mk (And.intro h1 hb2); clear h1 h2 h3 h4 h5 hb2)) | (go_at_call 26; go_must (refine (kof_is _ gd _ _ _ (by omega) _ K2.out.1).mono ?_; rintro e w3 ⟨rfl, hw⟩; subst w3)) | (go_at_call 68; go_must (refine QK2.out.mono ?_; rintro e w4 ⟨rfl, us', h1, h2, h3⟩; have K4 := Aside0.mk (And.intro h1 (And.intro h2 ((Fr.of_below K2.out.2).trans h3))); clear h1 h2 h3)))
    go_end0
    exact ⟨rfl, us', K4.out⟩
  · replace QK := Aside0.mk (fun w3 hb g1 g2 g3 gm h1 h2 h3 h4 => (QK.out w3 hb g1 g2 g3 gm h1 h2 h3 h4).2.2 rfl)
    go_wp2_with (first | (go_at_call 29; go_must (refine (dcm_is _).mono ?_; rintro e w0 ⟨rfl, hb⟩; have K0 := Aside0.mk hb; clear hb)) | (go_at_call 28; go_must (refine (QG.out _).mono ?_; rintro e w1 ⟨g, gm, rfl, h1, h2, h3, h4⟩; have K1 := Aside0.mk (And.intro h1 (And.intro h2 (K0.out.trans (h4.mono K0.out.size)))); have KM := Aside0.mk (And.intro (Nat.le_trans K0.out.size h3.1) h3.2); clear h1 h2 h3 h4)) | (go_at_call 27; go_must (refine (gen_is _ _ _ _ _ _ K1.out.2.1).mono ?_; rintro e w2 ⟨gd, g1, g2, g3, rfl, h1, h2, h3, h4, h5⟩; have hb2 := K1.out.2.2.trans (h5.mono K1.out.2.2.size); have QK2 := Aside0.mk (QK.out w2 hb2 g1 g2 g3 gm ⟨Nat.le_trans K1.out.2.2.size h2.1, h2.2⟩ ⟨Nat.le_trans K1.out.2.2.size h3.1, h3.2⟩ ⟨Nat.le_trans K1.out.2.2.size h4.1, h4.2⟩ ⟨KM.out.1, (h5.block gm (blk_lt KM.out.2)).trans KM.out.2⟩); have K2 := Aside0.mk (And.intro h1 hb2); clear h1 h2 h3 h4 h5 hb2)) | (go_at_call 26; go_must (refine (kof_is _ gd _ _ _ (by omega) _ K2.out.1).mono ?_; rintro e w3 ⟨rfl, hw⟩; subst w3)) | (go_at_call 70; go_must (refine QK2.out.mono ?_; rintro e w4 ⟨rfl, us', h1, h2, h3⟩; have K4 := Aside0.mk (And.intro h1 (And.intro h2 ((Fr.of_below K2.out.2).trans h3))); clear h1 h2 h3)))
    go_end0
    exact ⟨rfl, us', K4.out⟩
end Go.Proofs.YtlnbkmkdapeicaaDoor.QR
