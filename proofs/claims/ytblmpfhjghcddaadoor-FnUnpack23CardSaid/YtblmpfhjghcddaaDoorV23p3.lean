/- What the regions of unpack23_32 do, one by one, to the state between them. Printed by gen_regs.py of this session. -/
import Derived.Test.YtblmpfhjghcddaaDoorU8
namespace Go.Proofs.YtblmpfhjghcddaaDoor.QU
open Go.RowKit Go.Proofs.YtblmpfhjghcddaaDoorW.PrintWords Go.Proofs.YtblmpfhjghcddaaDoorW.PrintLast Go.Proofs.YtblmpfhjghcddaaDoorW.PrintMore
set_option linter.unusedVariables false
set_option linter.unusedSimpArgs false
set_option maxHeartbeats 4000000 in
set_option maxRecDepth 100000 in
theorem r23_73 (g h n c oc B : Nat) (A : Addr) (D : Nat → Int) (w0 w : World) (T : Array Value) (E : Env0 g h w0.heap.size n c A D) (hn : 92 ≤ n) (hBg : B ≤ g) (hBh : B ≤ h) (hBw : B ≤ w0.heap.size) (S : St 23 364 w0 g h n c oc B A D 88 29 5 T w) (K : Act → World → Prop) (R : Ending → World → Prop)
    (hk : ∀ T' w', St 23 364 w0 g h n c oc B A D 88 30 0 T' w' → K ⟨T', []⟩ w') :
    (regionOf Tryd.f37 73).wp Tryd.prog (Exit.then K (bodyPost Tryd.prog Tryd.f37 R)) ⟨T, []⟩ w := by
  conv => arg 2; whnf
  obtain ⟨hsz, h0, h1, h4, f, V, M, hG, hd, hp⟩ := S
  have z338 : 338 < T.size := by omega
  have z339 : 339 < T.size := by omega
  have z340 : 340 < T.size := by omega
  have z341 : 341 < T.size := by omega
  have z342 : 342 < T.size := by omega
  have z343 : 343 < T.size := by omega
  have z344 : 344 < T.size := by omega
  have z345 : 345 < T.size := by omega
  have QZ := Aside0.mk hsz
  clear hsz
  have QM := Aside0.mk M
  have QE := Aside0.mk E
  have QG := Aside0.mk hG
  have QD := Aside0.mk hd
  have QP := Aside0.mk hp
  have p := M.pc
  have pz := M.pz
  obtain ⟨y, cj, zj, ey⟩ := M.at 29 (by omega)
  clear hG hd hp M E
  have mixed : Tryd.prog.follows .mixedOrders = true := by kernel_rfl
  have hx : (Go.bits .or .u32 y (IntKind.u32.wrap (V.tmod 262144 * 32)) : Int) = numD D (23 * 29) 23 := pc_two' (t := 88 - 4) (QG.out (by omega)) QE.out.db (by omega) (23 * 29) 5 18 262144 32 (by decide) (by decide) (by omega) (by omega) (ey.out.trans (QP.out (by omega)))
  have HX := Aside0.mk hx
  clear hx
  go_region
  all_goals exact hk _ _ (St.whole_d QE.out hBh QM.out QG.out QD.out HX.out ⟨by simp [QZ.out], by simp [h0], by simp [h1], by simp [h4]⟩)
set_option maxHeartbeats 4000000 in
set_option maxRecDepth 100000 in
theorem r23_74 (g h n c oc B : Nat) (A : Addr) (D : Nat → Int) (w0 w : World) (T : Array Value) (E : Env0 g h w0.heap.size n c A D) (hn : 92 ≤ n) (hBg : B ≤ g) (hBh : B ≤ h) (hBw : B ≤ w0.heap.size) (S : St 23 364 w0 g h n c oc B A D 88 30 0 T w) (K : Act → World → Prop) (R : Ending → World → Prop)
    (hk : ∀ T' w', St 23 364 w0 g h n c oc B A D 88 30 14 T' w' → K ⟨T', []⟩ w') :
    (regionOf Tryd.f37 74).wp Tryd.prog (Exit.then K (bodyPost Tryd.prog Tryd.f37 R)) ⟨T, []⟩ w := by
  conv => arg 2; whnf
  obtain ⟨hsz, h0, h1, h4, f, V, M, hG, hd, hp⟩ := S
  have z346 : 346 < T.size := by omega
  have z347 : 347 < T.size := by omega
  have z348 : 348 < T.size := by omega
  have z349 : 349 < T.size := by omega
  have QZ := Aside0.mk hsz
  clear hsz
  have QM := Aside0.mk M
  have QE := Aside0.mk E
  have QG := Aside0.mk hG
  have QD := Aside0.mk hd
  have QP := Aside0.mk hp
  have p := M.pc
  have pz := M.pz
  obtain ⟨y, cj, zj, ey⟩ := M.at 30 (by omega)
  clear hG hd hp M E
  have hx : (V / 262144 : Int) = numD D (23 * 30) 14 := pc_last (t := 88 - 4) (QG.out (by omega)) QE.out.db (by omega) 18 14 262144 (by decide) (by omega)
  have HX := Aside0.mk hx
  clear hx
  go_wp2
  exact St.part QE.out hBh QM.out QG.out QD.out HX.out ⟨by simp [QZ.out], by simp [h0], by simp [h1], by simp [h4]⟩
set_option maxHeartbeats 4000000 in
set_option maxRecDepth 100000 in
theorem r23_75 (g h n c oc B : Nat) (A : Addr) (D : Nat → Int) (w0 w : World) (T : Array Value) (E : Env0 g h w0.heap.size n c A D) (hn : 92 ≤ n) (hBg : B ≤ g) (hBh : B ≤ h) (hBw : B ≤ w0.heap.size) (S : St 23 364 w0 g h n c oc B A D 88 30 14 T w) (K : Act → World → Prop) (R : Ending → World → Prop)
    (hk : ∀ T' w', St 23 364 w0 g h n c oc B A D 92 30 14 T' w' → K ⟨T', []⟩ w') :
    (regionOf Tryd.f37 75).wp Tryd.prog (Exit.then K (bodyPost Tryd.prog Tryd.f37 R)) ⟨T, []⟩ w := by
  conv => arg 2; whnf
  obtain ⟨hsz, h0, h1, h4, f, V, M, hG, hd, hp⟩ := S
  have z350 : 350 < T.size := by omega
  have z351 : 351 < T.size := by omega
  have QZ := Aside0.mk hsz
  clear hsz
  have QM := Aside0.mk M
  have QE := Aside0.mk E
  have QG := Aside0.mk hG
  have QD := Aside0.mk hd
  have QP := Aside0.mk hp
  have hi : 88 + 4 ≤ n := by omega
  have C := fun (Q : Ending → World → Prop) k => Mid.goS (Q := Q) (oc := oc) (nt := 364) QE.out hBg hBw hi QM.out QD.out QP.out k
  have C := Aside0.mk C
  clear hG hd hp M E hi
  go_wp2_with (go_at_call 40; refine C.out _ ?_; intro w' HS; have HS := Aside0.mk HS)
  exact HS.out _ (by simp [QZ.out]) (by simp [h0]) (by simp [h1]) (by simp [h4])
set_option maxHeartbeats 4000000 in
set_option maxRecDepth 100000 in
theorem r23_76 (g h n c oc B : Nat) (A : Addr) (D : Nat → Int) (w0 w : World) (T : Array Value) (E : Env0 g h w0.heap.size n c A D) (hn : 92 ≤ n) (hBg : B ≤ g) (hBh : B ≤ h) (hBw : B ≤ w0.heap.size) (S : St 23 364 w0 g h n c oc B A D 92 30 14 T w) (K : Act → World → Prop) (R : Ending → World → Prop)
    (hk : ∀ T' w', St 23 364 w0 g h n c oc B A D 92 31 0 T' w' → K ⟨T', []⟩ w') :
    (regionOf Tryd.f37 76).wp Tryd.prog (Exit.then K (bodyPost Tryd.prog Tryd.f37 R)) ⟨T, []⟩ w := by
  conv => arg 2; whnf
  obtain ⟨hsz, h0, h1, h4, f, V, M, hG, hd, hp⟩ := S
  have z352 : 352 < T.size := by omega
  have z353 : 353 < T.size := by omega
  have z354 : 354 < T.size := by omega
  have z355 : 355 < T.size := by omega
  have z356 : 356 < T.size := by omega
  have z357 : 357 < T.size := by omega
  have z358 : 358 < T.size := by omega
  have z359 : 359 < T.size := by omega
  have QZ := Aside0.mk hsz
  clear hsz
  have QM := Aside0.mk M
  have QE := Aside0.mk E
  have QG := Aside0.mk hG
  have QD := Aside0.mk hd
  have QP := Aside0.mk hp
  have p := M.pc
  have pz := M.pz
  obtain ⟨y, cj, zj, ey⟩ := M.at 30 (by omega)
  clear hG hd hp M E
  have mixed : Tryd.prog.follows .mixedOrders = true := by kernel_rfl
  have hx : (Go.bits .or .u32 y (IntKind.u32.wrap (V.tmod 512 * 16384)) : Int) = numD D (23 * 30) 23 := pc_two' (t := 92 - 4) (QG.out (by omega)) QE.out.db (by omega) (23 * 30) 14 9 512 16384 (by decide) (by decide) (by omega) (by omega) (ey.out.trans (QP.out (by omega)))
  have HX := Aside0.mk hx
  clear hx
  go_region
  all_goals exact hk _ _ (St.whole_d QE.out hBh QM.out QG.out QD.out HX.out ⟨by simp [QZ.out], by simp [h0], by simp [h1], by simp [h4]⟩)
set_option maxHeartbeats 4000000 in
set_option maxRecDepth 100000 in
theorem r23_77 (g h n c oc B : Nat) (A : Addr) (D : Nat → Int) (w0 w : World) (T : Array Value) (E : Env0 g h w0.heap.size n c A D) (hn : 92 ≤ n) (hBg : B ≤ g) (hBh : B ≤ h) (hBw : B ≤ w0.heap.size) (S : St 23 364 w0 g h n c oc B A D 92 31 0 T w) (K : Act → World → Prop) (R : Ending → World → Prop)
    (hk : ∀ T' w', St 23 364 w0 g h n c oc B A D 92 32 0 T' w' → K ⟨T', []⟩ w') :
    (regionOf Tryd.f37 77).wp Tryd.prog (Exit.then K (bodyPost Tryd.prog Tryd.f37 R)) ⟨T, []⟩ w := by
  conv => arg 2; whnf
  obtain ⟨hsz, h0, h1, h4, f, V, M, hG, hd, hp⟩ := S
  have z360 : 360 < T.size := by omega
  have z361 : 361 < T.size := by omega
  have z362 : 362 < T.size := by omega
  have z363 : 363 < T.size := by omega
  have QZ := Aside0.mk hsz
  clear hsz
  have QM := Aside0.mk M
  have QE := Aside0.mk E
  have QG := Aside0.mk hG
  have QD := Aside0.mk hd
  have QP := Aside0.mk hp
  have p := M.pc
  have pz := M.pz
  obtain ⟨y, cj, zj, ey⟩ := M.at 31 (by omega)
  clear hG hd hp M E
  have hx : (V / 512 : Int) = numD D (23 * 31) 23 := pc_last (t := 92 - 4) (QG.out (by omega)) QE.out.db (by omega) 9 23 512 (by decide) (by omega)
  have HX := Aside0.mk hx
  clear hx
  go_wp2
  exact St.whole QE.out hBh QM.out QG.out QD.out HX.out ⟨by simp [QZ.out], by simp [h0], by simp [h1], by simp [h4]⟩
end Go.Proofs.YtblmpfhjghcddaaDoor.QU
