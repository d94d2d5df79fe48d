/- What the regions of unpack27_32 do, one by one, to the state between them. Printed by gen_regs.py of this session. -/
import Derived.Test.YtblmpfhjghcddaaDoorU8
namespace Go.Proofs.YtblmpfhjghcddaaDoor.QU
open Go.RowKit Go.Proofs.YtblmpfhjghcddaaDoorW.PrintWords Go.Proofs.YtblmpfhjghcddaaDoorW.PrintLast Go.Proofs.YtblmpfhjghcddaaDoorW.PrintMore
set_option linter.unusedVariables false
set_option linter.unusedSimpArgs false
set_option maxHeartbeats 4000000 in
set_option maxRecDepth 100000 in
theorem r27_73 (g h n c oc B : Nat) (A : Addr) (D : Nat → Int) (w0 w : World) (T : Array Value) (E : Env0 g h w0.heap.size n c A D) (hn : 108 ≤ n) (hBg : B ≤ g) (hBh : B ≤ h) (hBw : B ≤ w0.heap.size) (S : St 27 400 w0 g h n c oc B A D 92 27 0 T w) (K : Act → World → Prop) (R : Ending → World → Prop)
    (hk : ∀ T' w', St 27 400 w0 g h n c oc B A D 92 27 7 T' w' → K ⟨T', []⟩ w') :
    (regionOf Tryd.f38 73).wp Tryd.prog (Exit.then K (bodyPost Tryd.prog Tryd.f38 R)) ⟨T, []⟩ w := by
  conv => arg 2; whnf
  obtain ⟨hsz, h0, h1, h4, f, V, M, hG, hd, hp⟩ := S
  have z340 : 340 < T.size := by omega
  have z341 : 341 < T.size := by omega
  have z342 : 342 < T.size := by omega
  have z343 : 343 < T.size := by omega
  have QZ := Aside0.mk hsz
  clear hsz
  have QM := Aside0.mk M
  have QE := Aside0.mk E
  have QG := Aside0.mk hG
  have QD := Aside0.mk hd
  have QP := Aside0.mk hp
  have p := M.pc
  have pz := M.pz
  obtain ⟨y, cj, zj, ey⟩ := M.at 27 (by omega)
  clear hG hd hp M E
  have hx : (V / 33554432 : Int) = numD D (27 * 27) 7 := pc_last (t := 92 - 4) (QG.out (by omega)) QE.out.db (by omega) 25 7 33554432 (by decide) (by omega)
  have HX := Aside0.mk hx
  clear hx
  go_wp2
  exact St.part QE.out hBh QM.out QG.out QD.out HX.out ⟨by simp [QZ.out], by simp [h0], by simp [h1], by simp [h4]⟩
set_option maxHeartbeats 4000000 in
set_option maxRecDepth 100000 in
theorem r27_74 (g h n c oc B : Nat) (A : Addr) (D : Nat → Int) (w0 w : World) (T : Array Value) (E : Env0 g h w0.heap.size n c A D) (hn : 108 ≤ n) (hBg : B ≤ g) (hBh : B ≤ h) (hBw : B ≤ w0.heap.size) (S : St 27 400 w0 g h n c oc B A D 92 27 7 T w) (K : Act → World → Prop) (R : Ending → World → Prop)
    (hk : ∀ T' w', St 27 400 w0 g h n c oc B A D 96 27 7 T' w' → K ⟨T', []⟩ w') :
    (regionOf Tryd.f38 74).wp Tryd.prog (Exit.then K (bodyPost Tryd.prog Tryd.f38 R)) ⟨T, []⟩ w := by
  conv => arg 2; whnf
  obtain ⟨hsz, h0, h1, h4, f, V, M, hG, hd, hp⟩ := S
  have z344 : 344 < T.size := by omega
  have z345 : 345 < T.size := by omega
  have QZ := Aside0.mk hsz
  clear hsz
  have QM := Aside0.mk M
  have QE := Aside0.mk E
  have QG := Aside0.mk hG
  have QD := Aside0.mk hd
  have QP := Aside0.mk hp
  have hi : 92 + 4 ≤ n := by omega
  have C := fun (Q : Ending → World → Prop) k => Mid.goS (Q := Q) (oc := oc) (nt := 400) QE.out hBg hBw hi QM.out QD.out QP.out k
  have C := Aside0.mk C
  clear hG hd hp M E hi
  go_wp2_with (go_at_call 40; refine C.out _ ?_; intro w' HS; have HS := Aside0.mk HS)
  exact HS.out _ (by simp [QZ.out]) (by simp [h0]) (by simp [h1]) (by simp [h4])
set_option maxHeartbeats 4000000 in
set_option maxRecDepth 100000 in
theorem r27_75 (g h n c oc B : Nat) (A : Addr) (D : Nat → Int) (w0 w : World) (T : Array Value) (E : Env0 g h w0.heap.size n c A D) (hn : 108 ≤ n) (hBg : B ≤ g) (hBh : B ≤ h) (hBw : B ≤ w0.heap.size) (S : St 27 400 w0 g h n c oc B A D 96 27 7 T w) (K : Act → World → Prop) (R : Ending → World → Prop)
    (hk : ∀ T' w', St 27 400 w0 g h n c oc B A D 96 28 0 T' w' → K ⟨T', []⟩ w') :
    (regionOf Tryd.f38 75).wp Tryd.prog (Exit.then K (bodyPost Tryd.prog Tryd.f38 R)) ⟨T, []⟩ w := by
  conv => arg 2; whnf
  obtain ⟨hsz, h0, h1, h4, f, V, M, hG, hd, hp⟩ := S
  have z346 : 346 < T.size := by omega
  have z347 : 347 < T.size := by omega
  have z348 : 348 < T.size := by omega
  have z349 : 349 < T.size := by omega
  have z350 : 350 < T.size := by omega
  have z351 : 351 < T.size := by omega
  have z352 : 352 < T.size := by omega
  have z353 : 353 < T.size := by omega
  have QZ := Aside0.mk hsz
  clear hsz
  have QM := Aside0.mk M
  have QE := Aside0.mk E
  have QG := Aside0.mk hG
  have QD := Aside0.mk hd
  have QP := Aside0.mk hp
  have p := M.pc
  have pz := M.pz
  obtain ⟨y, cj, zj, ey⟩ := M.at 27 (by omega)
  clear hG hd hp M E
  have mixed : Tryd.prog.follows .mixedOrders = true := by kernel_rfl
  have hx : (Go.bits .or .u32 y (IntKind.u32.wrap (V.tmod 1048576 * 128)) : Int) = numD D (27 * 27) 27 := pc_two' (t := 96 - 4) (QG.out (by omega)) QE.out.db (by omega) (27 * 27) 7 20 1048576 128 (by decide) (by decide) (by omega) (by omega) (ey.out.trans (QP.out (by omega)))
  have HX := Aside0.mk hx
  clear hx
  go_region
  all_goals exact hk _ _ (St.whole_d QE.out hBh QM.out QG.out QD.out HX.out ⟨by simp [QZ.out], by simp [h0], by simp [h1], by simp [h4]⟩)
set_option maxHeartbeats 4000000 in
set_option maxRecDepth 100000 in
theorem r27_76 (g h n c oc B : Nat) (A : Addr) (D : Nat → Int) (w0 w : World) (T : Array Value) (E : Env0 g h w0.heap.size n c A D) (hn : 108 ≤ n) (hBg : B ≤ g) (hBh : B ≤ h) (hBw : B ≤ w0.heap.size) (S : St 27 400 w0 g h n c oc B A D 96 28 0 T w) (K : Act → World → Prop) (R : Ending → World → Prop)
    (hk : ∀ T' w', St 27 400 w0 g h n c oc B A D 96 28 12 T' w' → K ⟨T', []⟩ w') :
    (regionOf Tryd.f38 76).wp Tryd.prog (Exit.then K (bodyPost Tryd.prog Tryd.f38 R)) ⟨T, []⟩ w := by
  conv => arg 2; whnf
  obtain ⟨hsz, h0, h1, h4, f, V, M, hG, hd, hp⟩ := S
  have z354 : 354 < T.size := by omega
  have z355 : 355 < T.size := by omega
  have z356 : 356 < T.size := by omega
  have z357 : 357 < T.size := by omega
  have QZ := Aside0.mk hsz
  clear hsz
  have QM := Aside0.mk M
  have QE := Aside0.mk E
  have QG := Aside0.mk hG
  have QD := Aside0.mk hd
  have QP := Aside0.mk hp
  have p := M.pc
  have pz := M.pz
  obtain ⟨y, cj, zj, ey⟩ := M.at 28 (by omega)
  clear hG hd hp M E
  have hx : (V / 1048576 : Int) = numD D (27 * 28) 12 := pc_last (t := 96 - 4) (QG.out (by omega)) QE.out.db (by omega) 20 12 1048576 (by decide) (by omega)
  have HX := Aside0.mk hx
  clear hx
  go_wp2
  exact St.part QE.out hBh QM.out QG.out QD.out HX.out ⟨by simp [QZ.out], by simp [h0], by simp [h1], by simp [h4]⟩
set_option maxHeartbeats 4000000 in
set_option maxRecDepth 100000 in
theorem r27_77 (g h n c oc B : Nat) (A : Addr) (D : Nat → Int) (w0 w : World) (T : Array Value) (E : Env0 g h w0.heap.size n c A D) (hn : 108 ≤ n) (hBg : B ≤ g) (hBh : B ≤ h) (hBw : B ≤ w0.heap.size) (S : St 27 400 w0 g h n c oc B A D 96 28 12 T w) (K : Act → World → Prop) (R : Ending → World → Prop)
    (hk : ∀ T' w', St 27 400 w0 g h n c oc B A D 100 28 12 T' w' → K ⟨T', []⟩ w') :
    (regionOf Tryd.f38 77).wp Tryd.prog (Exit.then K (bodyPost Tryd.prog Tryd.f38 R)) ⟨T, []⟩ w := by
  conv => arg 2; whnf
  obtain ⟨hsz, h0, h1, h4, f, V, M, hG, hd, hp⟩ := S
  have z358 : 358 < T.size := by omega
  have z359 : 359 < T.size := by omega
  have QZ := Aside0.mk hsz
  clear hsz
  have QM := Aside0.mk M
  have QE := Aside0.mk E
  have QG := Aside0.mk hG
  have QD := Aside0.mk hd
  have QP := Aside0.mk hp
  have hi : 96 + 4 ≤ n := by omega
  have C := fun (Q : Ending → World → Prop) k => Mid.goS (Q := Q) (oc := oc) (nt := 400) QE.out hBg hBw hi QM.out QD.out QP.out k
  have C := Aside0.mk C
  clear hG hd hp M E hi
  go_wp2_with (go_at_call 40; refine C.out _ ?_; intro w' HS; have HS := Aside0.mk HS)
  exact HS.out _ (by simp [QZ.out]) (by simp [h0]) (by simp [h1]) (by simp [h4])
set_option maxHeartbeats 4000000 in
set_option maxRecDepth 100000 in
theorem r27_78 (g h n c oc B : Nat) (A : Addr) (D : Nat → Int) (w0 w : World) (T : Array Value) (E : Env0 g h w0.heap.size n c A D) (hn : 108 ≤ n) (hBg : B ≤ g) (hBh : B ≤ h) (hBw : B ≤ w0.heap.size) (S : St 27 400 w0 g h n c oc B A D 100 28 12 T w) (K : Act → World → Prop) (R : Ending → World → Prop)
    (hk : ∀ T' w', St 27 400 w0 g h n c oc B A D 100 29 0 T' w' → K ⟨T', []⟩ w') :
    (regionOf Tryd.f38 78).wp Tryd.prog (Exit.then K (bodyPost Tryd.prog Tryd.f38 R)) ⟨T, []⟩ w := by
  conv => arg 2; whnf
  obtain ⟨hsz, h0, h1, h4, f, V, M, hG, hd, hp⟩ := S
  have z360 : 360 < T.size := by omega
  have z361 : 361 < T.size := by omega
  have z362 : 362 < T.size := by omega
  have z363 : 363 < T.size := by omega
  have z364 : 364 < T.size := by omega
  have z365 : 365 < T.size := by omega
  have z366 : 366 < T.size := by omega
  have z367 : 367 < T.size := by omega
  have QZ := Aside0.mk hsz
  clear hsz
  have QM := Aside0.mk M
  have QE := Aside0.mk E
  have QG := Aside0.mk hG
  have QD := Aside0.mk hd
  have QP := Aside0.mk hp
  have p := M.pc
  have pz := M.pz
  obtain ⟨y, cj, zj, ey⟩ := M.at 28 (by omega)
  clear hG hd hp M E
  have mixed : Tryd.prog.follows .mixedOrders = true := by kernel_rfl
  have hx : (Go.bits .or .u32 y (IntKind.u32.wrap (V.tmod 32768 * 4096)) : Int) = numD D (27 * 28) 27 := pc_two' (t := 100 - 4) (QG.out (by omega)) QE.out.db (by omega) (27 * 28) 12 15 32768 4096 (by decide) (by decide) (by omega) (by omega) (ey.out.trans (QP.out (by omega)))
  have HX := Aside0.mk hx
  clear hx
  go_region
  all_goals exact hk _ _ (St.whole_d QE.out hBh QM.out QG.out QD.out HX.out ⟨by simp [QZ.out], by simp [h0], by simp [h1], by simp [h4]⟩)
set_option maxHeartbeats 4000000 in
set_option maxRecDepth 100000 in
theorem r27_79 (g h n c oc B : Nat) (A : Addr) (D : Nat → Int) (w0 w : World) (T : Array Value) (E : Env0 g h w0.heap.size n c A D) (hn : 108 ≤ n) (hBg : B ≤ g) (hBh : B ≤ h) (hBw : B ≤ w0.heap.size) (S : St 27 400 w0 g h n c oc B A D 100 29 0 T w) (K : Act → World → Prop) (R : Ending → World → Prop)
    (hk : ∀ T' w', St 27 400 w0 g h n c oc B A D 100 29 17 T' w' → K ⟨T', []⟩ w') :
    (regionOf Tryd.f38 79).wp Tryd.prog (Exit.then K (bodyPost Tryd.prog Tryd.f38 R)) ⟨T, []⟩ w := by
  conv => arg 2; whnf
  obtain ⟨hsz, h0, h1, h4, f, V, M, hG, hd, hp⟩ := S
  have z368 : 368 < T.size := by omega
  have z369 : 369 < T.size := by omega
  have z370 : 370 < T.size := by omega
  have z371 : 371 < T.size := by omega
  have QZ := Aside0.mk hsz
  clear hsz
  have QM := Aside0.mk M
  have QE := Aside0.mk E
  have QG := Aside0.mk hG
  have QD := Aside0.mk hd
  have QP := Aside0.mk hp
  have p := M.pc
  have pz := M.pz
  obtain ⟨y, cj, zj, ey⟩ := M.at 29 (by omega)
  clear hG hd hp M E
  have hx : (V / 32768 : Int) = numD D (27 * 29) 17 := pc_last (t := 100 - 4) (QG.out (by omega)) QE.out.db (by omega) 15 17 32768 (by decide) (by omega)
  have HX := Aside0.mk hx
  clear hx
  go_wp2
  exact St.part QE.out hBh QM.out QG.out QD.out HX.out ⟨by simp [QZ.out], by simp [h0], by simp [h1], by simp [h4]⟩
set_option maxHeartbeats 4000000 in
set_option maxRecDepth 100000 in
theorem r27_80 (g h n c oc B : Nat) (A : Addr) (D : Nat → Int) (w0 w : World) (T : Array Value) (E : Env0 g h w0.heap.size n c A D) (hn : 108 ≤ n) (hBg : B ≤ g) (hBh : B ≤ h) (hBw : B ≤ w0.heap.size) (S : St 27 400 w0 g h n c oc B A D 100 29 17 T w) (K : Act → World → Prop) (R : Ending → World → Prop)
    (hk : ∀ T' w', St 27 400 w0 g h n c oc B A D 104 29 17 T' w' → K ⟨T', []⟩ w') :
    (regionOf Tryd.f38 80).wp Tryd.prog (Exit.then K (bodyPost Tryd.prog Tryd.f38 R)) ⟨T, []⟩ w := by
  conv => arg 2; whnf
  obtain ⟨hsz, h0, h1, h4, f, V, M, hG, hd, hp⟩ := S
  have z372 : 372 < T.size := by omega
  have z373 : 373 < T.size := by omega
  have QZ := Aside0.mk hsz
  clear hsz
  have QM := Aside0.mk M
  have QE := Aside0.mk E
  have QG := Aside0.mk hG
  have QD := Aside0.mk hd
  have QP := Aside0.mk hp
  have hi : 100 + 4 ≤ n := by omega
  have C := fun (Q : Ending → World → Prop) k => Mid.goS (Q := Q) (oc := oc) (nt := 400) QE.out hBg hBw hi QM.out QD.out QP.out k
  have C := Aside0.mk C
  clear hG hd hp M E hi
  go_wp2_with (go_at_call 40; refine C.out _ ?_; intro w' HS; have HS := Aside0.mk HS)
  exact HS.out _ (by simp [QZ.out]) (by simp [h0]) (by simp [h1]) (by simp [h4])
set_option maxHeartbeats 4000000 in
set_option maxRecDepth 100000 in
theorem r27_81 (g h n c oc B : Nat) (A : Addr) (D : Nat → Int) (w0 w : World) (T : Array Value) (E : Env0 g h w0.heap.size n c A D) (hn : 108 ≤ n) (hBg : B ≤ g) (hBh : B ≤ h) (hBw : B ≤ w0.heap.size) (S : St 27 400 w0 g h n c oc B A D 104 29 17 T w) (K : Act → World → Prop) (R : Ending → World → Prop)
    (hk : ∀ T' w', St 27 400 w0 g h n c oc B A D 104 30 0 T' w' → K ⟨T', []⟩ w') :
    (regionOf Tryd.f38 81).wp Tryd.prog (Exit.then K (bodyPost Tryd.prog Tryd.f38 R)) ⟨T, []⟩ w := by
  conv => arg 2; whnf
  obtain ⟨hsz, h0, h1, h4, f, V, M, hG, hd, hp⟩ := S
  have z374 : 374 < T.size := by omega
  have z375 : 375 < T.size := by omega
  have z376 : 376 < T.size := by omega
  have z377 : 377 < T.size := by omega
  have z378 : 378 < T.size := by omega
  have z379 : 379 < T.size := by omega
  have z380 : 380 < T.size := by omega
  have z381 : 381 < T.size := by omega
  have QZ := Aside0.mk hsz
  clear hsz
  have QM := Aside0.mk M
  have QE := Aside0.mk E
  have QG := Aside0.mk hG
  have QD := Aside0.mk hd
  have QP := Aside0.mk hp
  have p := M.pc
  have pz := M.pz
  obtain ⟨y, cj, zj, ey⟩ := M.at 29 (by omega)
  clear hG hd hp M E
  have mixed : Tryd.prog.follows .mixedOrders = true := by kernel_rfl
  have hx : (Go.bits .or .u32 y (IntKind.u32.wrap (V.tmod 1024 * 131072)) : Int) = numD D (27 * 29) 27 := pc_two' (t := 104 - 4) (QG.out (by omega)) QE.out.db (by omega) (27 * 29) 17 10 1024 131072 (by decide) (by decide) (by omega) (by omega) (ey.out.trans (QP.out (by omega)))
  have HX := Aside0.mk hx
  clear hx
  go_region
  all_goals exact hk _ _ (St.whole_d QE.out hBh QM.out QG.out QD.out HX.out ⟨by simp [QZ.out], by simp [h0], by simp [h1], by simp [h4]⟩)
set_option maxHeartbeats 4000000 in
set_option maxRecDepth 100000 in
theorem r27_82 (g h n c oc B : Nat) (A : Addr) (D : Nat → Int) (w0 w : World) (T : Array Value) (E : Env0 g h w0.heap.size n c A D) (hn : 108 ≤ n) (hBg : B ≤ g) (hBh : B ≤ h) (hBw : B ≤ w0.heap.size) (S : St 27 400 w0 g h n c oc B A D 104 30 0 T w) (K : Act → World → Prop) (R : Ending → World → Prop)
    (hk : ∀ T' w', St 27 400 w0 g h n c oc B A D 104 30 22 T' w' → K ⟨T', []⟩ w') :
    (regionOf Tryd.f38 82).wp Tryd.prog (Exit.then K (bodyPost Tryd.prog Tryd.f38 R)) ⟨T, []⟩ w := by
  conv => arg 2; whnf
  obtain ⟨hsz, h0, h1, h4, f, V, M, hG, hd, hp⟩ := S
  have z382 : 382 < T.size := by omega
  have z383 : 383 < T.size := by omega
  have z384 : 384 < T.size := by omega
  have z385 : 385 < T.size := by omega
  have QZ := Aside0.mk hsz
  clear hsz
  have QM := Aside0.mk M
  have QE := Aside0.mk E
  have QG := Aside0.mk hG
  have QD := Aside0.mk hd
  have QP := Aside0.mk hp
  have p := M.pc
  have pz := M.pz
  obtain ⟨y, cj, zj, ey⟩ := M.at 30 (by omega)
  clear hG hd hp M E
  have hx : (V / 1024 : Int) = numD D (27 * 30) 22 := pc_last (t := 104 - 4) (QG.out (by omega)) QE.out.db (by omega) 10 22 1024 (by decide) (by omega)
  have HX := Aside0.mk hx
  clear hx
  go_wp2
  exact St.part QE.out hBh QM.out QG.out QD.out HX.out ⟨by simp [QZ.out], by simp [h0], by simp [h1], by simp [h4]⟩
set_option maxHeartbeats 4000000 in
set_option maxRecDepth 100000 in
theorem r27_83 (g h n c oc B : Nat) (A : Addr) (D : Nat → Int) (w0 w : World) (T : Array Value) (E : Env0 g h w0.heap.size n c A D) (hn : 108 ≤ n) (hBg : B ≤ g) (hBh : B ≤ h) (hBw : B ≤ w0.heap.size) (S : St 27 400 w0 g h n c oc B A D 104 30 22 T w) (K : Act → World → Prop) (R : Ending → World → Prop)
    (hk : ∀ T' w', St 27 400 w0 g h n c oc B A D 108 30 22 T' w' → K ⟨T', []⟩ w') :
    (regionOf Tryd.f38 83).wp Tryd.prog (Exit.then K (bodyPost Tryd.prog Tryd.f38 R)) ⟨T, []⟩ w := by
  conv => arg 2; whnf
  obtain ⟨hsz, h0, h1, h4, f, V, M, hG, hd, hp⟩ := S
  have z386 : 386 < T.size := by omega
  have z387 : 387 < T.size := by omega
  have QZ := Aside0.mk hsz
  clear hsz
  have QM := Aside0.mk M
  have QE := Aside0.mk E
  have QG := Aside0.mk hG
  have QD := Aside0.mk hd
  have QP := Aside0.mk hp
  have hi : 104 + 4 ≤ n := by omega
  have C := fun (Q : Ending → World → Prop) k => Mid.goS (Q := Q) (oc := oc) (nt := 400) QE.out hBg hBw hi QM.out QD.out QP.out k
  have C := Aside0.mk C
  clear hG hd hp M E hi
  go_wp2_with (go_at_call 40; refine C.out _ ?_; intro w' HS; have HS := Aside0.mk HS)
  exact HS.out _ (by simp [QZ.out]) (by simp [h0]) (by simp [h1]) (by simp [h4])
set_option maxHeartbeats 4000000 in
set_option maxRecDepth 100000 in
theorem r27_84 (g h n c oc B : Nat) (A : Addr) (D : Nat → Int) (w0 w : World) (T : Array Value) (E : Env0 g h w0.heap.size n c A D) (hn : 108 ≤ n) (hBg : B ≤ g) (hBh : B ≤ h) (hBw : B ≤ w0.heap.size) (S : St 27 400 w0 g h n c oc B A D 108 30 22 T w) (K : Act → World → Prop) (R : Ending → World → Prop)
    (hk : ∀ T' w', St 27 400 w0 g h n c oc B A D 108 31 0 T' w' → K ⟨T', []⟩ w') :
    (regionOf Tryd.f38 84).wp Tryd.prog (Exit.then K (bodyPost Tryd.prog Tryd.f38 R)) ⟨T, []⟩ w := by
  conv => arg 2; whnf
  obtain ⟨hsz, h0, h1, h4, f, V, M, hG, hd, hp⟩ := S
  have z388 : 388 < T.size := by omega
  have z389 : 389 < T.size := by omega
  have z390 : 390 < T.size := by omega
  have z391 : 391 < T.size := by omega
  have z392 : 392 < T.size := by omega
  have z393 : 393 < T.size := by omega
  have z394 : 394 < T.size := by omega
  have z395 : 395 < T.size := by omega
  have QZ := Aside0.mk hsz
  clear hsz
  have QM := Aside0.mk M
  have QE := Aside0.mk E
  have QG := Aside0.mk hG
  have QD := Aside0.mk hd
  have QP := Aside0.mk hp
  have p := M.pc
  have pz := M.pz
  obtain ⟨y, cj, zj, ey⟩ := M.at 30 (by omega)
  clear hG hd hp M E
  have mixed : Tryd.prog.follows .mixedOrders = true := by kernel_rfl
  have hx : (Go.bits .or .u32 y (IntKind.u32.wrap (V.tmod 32 * 4194304)) : Int) = numD D (27 * 30) 27 := pc_two' (t := 108 - 4) (QG.out (by omega)) QE.out.db (by omega) (27 * 30) 22 5 32 4194304 (by decide) (by decide) (by omega) (by omega) (ey.out.trans (QP.out (by omega)))
  have HX := Aside0.mk hx
  clear hx
  go_region
  all_goals exact hk _ _ (St.whole_d QE.out hBh QM.out QG.out QD.out HX.out ⟨by simp [QZ.out], by simp [h0], by simp [h1], by simp [h4]⟩)
set_option maxHeartbeats 4000000 in
set_option maxRecDepth 100000 in
theorem r27_85 (g h n c oc B : Nat) (A : Addr) (D : Nat → Int) (w0 w : World) (T : Array Value) (E : Env0 g h w0.heap.size n c A D) (hn : 108 ≤ n) (hBg : B ≤ g) (hBh : B ≤ h) (hBw : B ≤ w0.heap.size) (S : St 27 400 w0 g h n c oc B A D 108 31 0 T w) (K : Act → World → Prop) (R : Ending → World → Prop)
    (hk : ∀ T' w', St 27 400 w0 g h n c oc B A D 108 32 0 T' w' → K ⟨T', []⟩ w') :
    (regionOf Tryd.f38 85).wp Tryd.prog (Exit.then K (bodyPost Tryd.prog Tryd.f38 R)) ⟨T, []⟩ w := by
  conv => arg 2; whnf
  obtain ⟨hsz, h0, h1, h4, f, V, M, hG, hd, hp⟩ := S
  have z396 : 396 < T.size := by omega
  have z397 : 397 < T.size := by omega
  have z398 : 398 < T.size := by omega
  have z399 : 399 < T.size := by omega
  have QZ := Aside0.mk hsz
  clear hsz
  have QM := Aside0.mk M
  have QE := Aside0.mk E
  have QG := Aside0.mk hG
  have QD := Aside0.mk hd
  have QP := Aside0.mk hp
  have p := M.pc
  have pz := M.pz
  obtain ⟨y, cj, zj, ey⟩ := M.at 31 (by omega)
  clear hG hd hp M E
  have hx : (V / 32 : Int) = numD D (27 * 31) 27 := pc_last (t := 108 - 4) (QG.out (by omega)) QE.out.db (by omega) 5 27 32 (by decide) (by omega)
  have HX := Aside0.mk hx
  clear hx
  go_wp2
  exact St.whole QE.out hBh QM.out QG.out QD.out HX.out ⟨by simp [QZ.out], by simp [h0], by simp [h1], by simp [h4]⟩
end Go.Proofs.YtblmpfhjghcddaaDoor.QU
