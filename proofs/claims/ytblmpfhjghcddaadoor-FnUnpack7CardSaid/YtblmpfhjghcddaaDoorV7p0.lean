/- What the regions of unpack7_32 do, one by one, to the state between them. Printed by gen_regs.py of this session. -/
import Derived.Test.YtblmpfhjghcddaaDoorU8
namespace Go.Proofs.YtblmpfhjghcddaaDoor.QU
open Go.RowKit Go.Proofs.YtblmpfhjghcddaaDoorW.PrintWords Go.Proofs.YtblmpfhjghcddaaDoorW.PrintLast Go.Proofs.YtblmpfhjghcddaaDoorW.PrintMore
set_option linter.unusedVariables false
set_option linter.unusedSimpArgs false
set_option maxHeartbeats 4000000 in
set_option maxRecDepth 100000 in
theorem r7_1 (g h n c oc B : Nat) (A : Addr) (D : Nat → Int) (w0 w : World) (T : Array Value) (E : Env0 g h w0.heap.size n c A D) (hn : 28 ≤ n) (hBg : B ≤ g) (hBh : B ≤ h) (hBw : B ≤ w0.heap.size) (S : St 7 220 w0 g h n c oc B A D 0 0 0 T w) (K : Act → World → Prop) (R : Ending → World → Prop)
    (hk : ∀ T' w', St 7 220 w0 g h n c oc B A D 4 0 0 T' w' → K ⟨T', []⟩ w') :
    (regionOf Tryd.f33 1).wp Tryd.prog (Exit.then K (bodyPost Tryd.prog Tryd.f33 R)) ⟨T, []⟩ w := by
  conv => arg 2; whnf
  obtain ⟨hsz, h0, h1, h4, f, V, M, hG, hd, hp⟩ := S
  have z5 : 5 < T.size := by omega
  have z6 : 6 < T.size := by omega
  have QZ := Aside0.mk hsz
  clear hsz
  have QM := Aside0.mk M
  have QE := Aside0.mk E
  have QG := Aside0.mk hG
  have QD := Aside0.mk hd
  have QP := Aside0.mk hp
  have hi : 0 + 4 ≤ n := by omega
  have C := fun (Q : Ending → World → Prop) k => Mid.goS (Q := Q) (oc := oc) (nt := 220) QE.out hBg hBw hi QM.out QD.out QP.out k
  have C := Aside0.mk C
  clear hG hd hp M E hi
  go_wp2_with (go_at_call 40; refine C.out _ ?_; intro w' HS; have HS := Aside0.mk HS)
  exact HS.out _ (by simp [QZ.out]) (by simp [h0]) (by simp [h1]) (by simp [h4])
set_option maxHeartbeats 4000000 in
set_option maxRecDepth 100000 in
theorem r7_2 (g h n c oc B : Nat) (A : Addr) (D : Nat → Int) (w0 w : World) (T : Array Value) (E : Env0 g h w0.heap.size n c A D) (hn : 28 ≤ n) (hBg : B ≤ g) (hBh : B ≤ h) (hBw : B ≤ w0.heap.size) (S : St 7 220 w0 g h n c oc B A D 4 0 0 T w) (K : Act → World → Prop) (R : Ending → World → Prop)
    (hk : ∀ T' w', St 7 220 w0 g h n c oc B A D 4 1 0 T' w' → K ⟨T', []⟩ w') :
    (regionOf Tryd.f33 2).wp Tryd.prog (Exit.then K (bodyPost Tryd.prog Tryd.f33 R)) ⟨T, []⟩ w := by
  conv => arg 2; whnf
  obtain ⟨hsz, h0, h1, h4, f, V, M, hG, hd, hp⟩ := S
  have z7 : 7 < T.size := by omega
  have z8 : 8 < T.size := by omega
  have z9 : 9 < T.size := by omega
  have z10 : 10 < T.size := by omega
  have z11 : 11 < T.size := by omega
  have QZ := Aside0.mk hsz
  clear hsz
  have QM := Aside0.mk M
  have QE := Aside0.mk E
  have QG := Aside0.mk hG
  have QD := Aside0.mk hd
  have QP := Aside0.mk hp
  have p := M.pc
  have pz := M.pz
  obtain ⟨y, cj, zj, ey⟩ := M.at 0 (by omega)
  clear hG hd hp M E
  have hx : (V.tmod 128 : Int) = numD D (7 * 0) 7 := pc_first (t := 4 - 4) (QG.out (by omega)) QE.out.db (by omega) 7 128 (by decide) (by omega)
  have HX := Aside0.mk hx
  clear hx
  go_wp2
  exact St.whole QE.out hBh QM.out QG.out QD.out HX.out ⟨by simp [QZ.out], by simp [h0], by simp [h1], by simp [h4]⟩
set_option maxHeartbeats 4000000 in
set_option maxRecDepth 100000 in
theorem r7_3 (g h n c oc B : Nat) (A : Addr) (D : Nat → Int) (w0 w : World) (T : Array Value) (E : Env0 g h w0.heap.size n c A D) (hn : 28 ≤ n) (hBg : B ≤ g) (hBh : B ≤ h) (hBw : B ≤ w0.heap.size) (S : St 7 220 w0 g h n c oc B A D 4 1 0 T w) (K : Act → World → Prop) (R : Ending → World → Prop)
    (hk : ∀ T' w', St 7 220 w0 g h n c oc B A D 4 2 0 T' w' → K ⟨T', []⟩ w') :
    (regionOf Tryd.f33 3).wp Tryd.prog (Exit.then K (bodyPost Tryd.prog Tryd.f33 R)) ⟨T, []⟩ w := by
  conv => arg 2; whnf
  obtain ⟨hsz, h0, h1, h4, f, V, M, hG, hd, hp⟩ := S
  have z12 : 12 < T.size := by omega
  have z13 : 13 < T.size := by omega
  have z14 : 14 < T.size := by omega
  have z15 : 15 < T.size := by omega
  have z16 : 16 < T.size := by omega
  have QZ := Aside0.mk hsz
  clear hsz
  have QM := Aside0.mk M
  have QE := Aside0.mk E
  have QG := Aside0.mk hG
  have QD := Aside0.mk hd
  have QP := Aside0.mk hp
  have p := M.pc
  have pz := M.pz
  obtain ⟨y, cj, zj, ey⟩ := M.at 1 (by omega)
  clear hG hd hp M E
  have hx : ((V / 128).tmod 128 : Int) = numD D (7 * 1) 7 := pc_mid (t := 4 - 4) (QG.out (by omega)) QE.out.db (by omega) 7 7 128 128 (by decide) (by decide) (by omega)
  have HX := Aside0.mk hx
  clear hx
  go_wp2
  exact St.whole QE.out hBh QM.out QG.out QD.out HX.out ⟨by simp [QZ.out], by simp [h0], by simp [h1], by simp [h4]⟩
set_option maxHeartbeats 4000000 in
set_option maxRecDepth 100000 in
theorem r7_4 (g h n c oc B : Nat) (A : Addr) (D : Nat → Int) (w0 w : World) (T : Array Value) (E : Env0 g h w0.heap.size n c A D) (hn : 28 ≤ n) (hBg : B ≤ g) (hBh : B ≤ h) (hBw : B ≤ w0.heap.size) (S : St 7 220 w0 g h n c oc B A D 4 2 0 T w) (K : Act → World → Prop) (R : Ending → World → Prop)
    (hk : ∀ T' w', St 7 220 w0 g h n c oc B A D 4 3 0 T' w' → K ⟨T', []⟩ w') :
    (regionOf Tryd.f33 4).wp Tryd.prog (Exit.then K (bodyPost Tryd.prog Tryd.f33 R)) ⟨T, []⟩ w := by
  conv => arg 2; whnf
  obtain ⟨hsz, h0, h1, h4, f, V, M, hG, hd, hp⟩ := S
  have z17 : 17 < T.size := by omega
  have z18 : 18 < T.size := by omega
  have z19 : 19 < T.size := by omega
  have z20 : 20 < T.size := by omega
  have z21 : 21 < T.size := by omega
  have QZ := Aside0.mk hsz
  clear hsz
  have QM := Aside0.mk M
  have QE := Aside0.mk E
  have QG := Aside0.mk hG
  have QD := Aside0.mk hd
  have QP := Aside0.mk hp
  have p := M.pc
  have pz := M.pz
  obtain ⟨y, cj, zj, ey⟩ := M.at 2 (by omega)
  clear hG hd hp M E
  have hx : ((V / 16384).tmod 128 : Int) = numD D (7 * 2) 7 := pc_mid (t := 4 - 4) (QG.out (by omega)) QE.out.db (by omega) 14 7 16384 128 (by decide) (by decide) (by omega)
  have HX := Aside0.mk hx
  clear hx
  go_wp2
  exact St.whole QE.out hBh QM.out QG.out QD.out HX.out ⟨by simp [QZ.out], by simp [h0], by simp [h1], by simp [h4]⟩
set_option maxHeartbeats 4000000 in
set_option maxRecDepth 100000 in
theorem r7_5 (g h n c oc B : Nat) (A : Addr) (D : Nat → Int) (w0 w : World) (T : Array Value) (E : Env0 g h w0.heap.size n c A D) (hn : 28 ≤ n) (hBg : B ≤ g) (hBh : B ≤ h) (hBw : B ≤ w0.heap.size) (S : St 7 220 w0 g h n c oc B A D 4 3 0 T w) (K : Act → World → Prop) (R : Ending → World → Prop)
    (hk : ∀ T' w', St 7 220 w0 g h n c oc B A D 4 4 0 T' w' → K ⟨T', []⟩ w') :
    (regionOf Tryd.f33 5).wp Tryd.prog (Exit.then K (bodyPost Tryd.prog Tryd.f33 R)) ⟨T, []⟩ w := by
  conv => arg 2; whnf
  obtain ⟨hsz, h0, h1, h4, f, V, M, hG, hd, hp⟩ := S
  have z22 : 22 < T.size := by omega
  have z23 : 23 < T.size := by omega
  have z24 : 24 < T.size := by omega
  have z25 : 25 < T.size := by omega
  have z26 : 26 < T.size := by omega
  have QZ := Aside0.mk hsz
  clear hsz
  have QM := Aside0.mk M
  have QE := Aside0.mk E
  have QG := Aside0.mk hG
  have QD := Aside0.mk hd
  have QP := Aside0.mk hp
  have p := M.pc
  have pz := M.pz
  obtain ⟨y, cj, zj, ey⟩ := M.at 3 (by omega)
  clear hG hd hp M E
  have hx : ((V / 2097152).tmod 128 : Int) = numD D (7 * 3) 7 := pc_mid (t := 4 - 4) (QG.out (by omega)) QE.out.db (by omega) 21 7 2097152 128 (by decide) (by decide) (by omega)
  have HX := Aside0.mk hx
  clear hx
  go_wp2
  exact St.whole QE.out hBh QM.out QG.out QD.out HX.out ⟨by simp [QZ.out], by simp [h0], by simp [h1], by simp [h4]⟩
set_option maxHeartbeats 4000000 in
set_option maxRecDepth 100000 in
theorem r7_6 (g h n c oc B : Nat) (A : Addr) (D : Nat → Int) (w0 w : World) (T : Array Value) (E : Env0 g h w0.heap.size n c A D) (hn : 28 ≤ n) (hBg : B ≤ g) (hBh : B ≤ h) (hBw : B ≤ w0.heap.size) (S : St 7 220 w0 g h n c oc B A D 4 4 0 T w) (K : Act → World → Prop) (R : Ending → World → Prop)
    (hk : ∀ T' w', St 7 220 w0 g h n c oc B A D 4 4 4 T' w' → K ⟨T', []⟩ w') :
    (regionOf Tryd.f33 6).wp Tryd.prog (Exit.then K (bodyPost Tryd.prog Tryd.f33 R)) ⟨T, []⟩ w := by
  conv => arg 2; whnf
  obtain ⟨hsz, h0, h1, h4, f, V, M, hG, hd, hp⟩ := S
  have z27 : 27 < T.size := by omega
  have z28 : 28 < T.size := by omega
  have z29 : 29 < T.size := by omega
  have z30 : 30 < T.size := by omega
  have QZ := Aside0.mk hsz
  clear hsz
  have QM := Aside0.mk M
  have QE := Aside0.mk E
  have QG := Aside0.mk hG
  have QD := Aside0.mk hd
  have QP := Aside0.mk hp
  have p := M.pc
  have pz := M.pz
  obtain ⟨y, cj, zj, ey⟩ := M.at 4 (by omega)
  clear hG hd hp M E
  have hx : (V / 268435456 : Int) = numD D (7 * 4) 4 := pc_last (t := 4 - 4) (QG.out (by omega)) QE.out.db (by omega) 28 4 268435456 (by decide) (by omega)
  have HX := Aside0.mk hx
  clear hx
  go_wp2
  exact St.part QE.out hBh QM.out QG.out QD.out HX.out ⟨by simp [QZ.out], by simp [h0], by simp [h1], by simp [h4]⟩
set_option maxHeartbeats 4000000 in
set_option maxRecDepth 100000 in
theorem r7_7 (g h n c oc B : Nat) (A : Addr) (D : Nat → Int) (w0 w : World) (T : Array Value) (E : Env0 g h w0.heap.size n c A D) (hn : 28 ≤ n) (hBg : B ≤ g) (hBh : B ≤ h) (hBw : B ≤ w0.heap.size) (S : St 7 220 w0 g h n c oc B A D 4 4 4 T w) (K : Act → World → Prop) (R : Ending → World → Prop)
    (hk : ∀ T' w', St 7 220 w0 g h n c oc B A D 8 4 4 T' w' → K ⟨T', []⟩ w') :
    (regionOf Tryd.f33 7).wp Tryd.prog (Exit.then K (bodyPost Tryd.prog Tryd.f33 R)) ⟨T, []⟩ w := by
  conv => arg 2; whnf
  obtain ⟨hsz, h0, h1, h4, f, V, M, hG, hd, hp⟩ := S
  have z31 : 31 < T.size := by omega
  have z32 : 32 < T.size := by omega
  have QZ := Aside0.mk hsz
  clear hsz
  have QM := Aside0.mk M
  have QE := Aside0.mk E
  have QG := Aside0.mk hG
  have QD := Aside0.mk hd
  have QP := Aside0.mk hp
  have hi : 4 + 4 ≤ n := by omega
  have C := fun (Q : Ending → World → Prop) k => Mid.goS (Q := Q) (oc := oc) (nt := 220) QE.out hBg hBw hi QM.out QD.out QP.out k
  have C := Aside0.mk C
  clear hG hd hp M E hi
  go_wp2_with (go_at_call 40; refine C.out _ ?_; intro w' HS; have HS := Aside0.mk HS)
  exact HS.out _ (by simp [QZ.out]) (by simp [h0]) (by simp [h1]) (by simp [h4])
set_option maxHeartbeats 4000000 in
set_option maxRecDepth 100000 in
theorem r7_8 (g h n c oc B : Nat) (A : Addr) (D : Nat → Int) (w0 w : World) (T : Array Value) (E : Env0 g h w0.heap.size n c A D) (hn : 28 ≤ n) (hBg : B ≤ g) (hBh : B ≤ h) (hBw : B ≤ w0.heap.size) (S : St 7 220 w0 g h n c oc B A D 8 4 4 T w) (K : Act → World → Prop) (R : Ending → World → Prop)
    (hk : ∀ T' w', St 7 220 w0 g h n c oc B A D 8 5 0 T' w' → K ⟨T', []⟩ w') :
    (regionOf Tryd.f33 8).wp Tryd.prog (Exit.then K (bodyPost Tryd.prog Tryd.f33 R)) ⟨T, []⟩ w := by
  conv => arg 2; whnf
  obtain ⟨hsz, h0, h1, h4, f, V, M, hG, hd, hp⟩ := S
  have z33 : 33 < T.size := by omega
  have z34 : 34 < T.size := by omega
  have z35 : 35 < T.size := by omega
  have z36 : 36 < T.size := by omega
  have z37 : 37 < T.size := by omega
  have z38 : 38 < T.size := by omega
  have z39 : 39 < T.size := by omega
  have z40 : 40 < T.size := by omega
  have QZ := Aside0.mk hsz
  clear hsz
  have QM := Aside0.mk M
  have QE := Aside0.mk E
  have QG := Aside0.mk hG
  have QD := Aside0.mk hd
  have QP := Aside0.mk hp
  have p := M.pc
  have pz := M.pz
  obtain ⟨y, cj, zj, ey⟩ := M.at 4 (by omega)
  clear hG hd hp M E
  have mixed : Tryd.prog.follows .mixedOrders = true := by kernel_rfl
  have hx : (Go.bits .or .u32 y (IntKind.u32.wrap (V.tmod 8 * 16)) : Int) = numD D (7 * 4) 7 := pc_two' (t := 8 - 4) (QG.out (by omega)) QE.out.db (by omega) (7 * 4) 4 3 8 16 (by decide) (by decide) (by omega) (by omega) (ey.out.trans (QP.out (by omega)))
  have HX := Aside0.mk hx
  clear hx
  go_region
  all_goals exact hk _ _ (St.whole_d QE.out hBh QM.out QG.out QD.out HX.out ⟨by simp [QZ.out], by simp [h0], by simp [h1], by simp [h4]⟩)
set_option maxHeartbeats 4000000 in
set_option maxRecDepth 100000 in
theorem r7_9 (g h n c oc B : Nat) (A : Addr) (D : Nat → Int) (w0 w : World) (T : Array Value) (E : Env0 g h w0.heap.size n c A D) (hn : 28 ≤ n) (hBg : B ≤ g) (hBh : B ≤ h) (hBw : B ≤ w0.heap.size) (S : St 7 220 w0 g h n c oc B A D 8 5 0 T w) (K : Act → World → Prop) (R : Ending → World → Prop)
    (hk : ∀ T' w', St 7 220 w0 g h n c oc B A D 8 6 0 T' w' → K ⟨T', []⟩ w') :
    (regionOf Tryd.f33 9).wp Tryd.prog (Exit.then K (bodyPost Tryd.prog Tryd.f33 R)) ⟨T, []⟩ w := by
  conv => arg 2; whnf
  obtain ⟨hsz, h0, h1, h4, f, V, M, hG, hd, hp⟩ := S
  have z41 : 41 < T.size := by omega
  have z42 : 42 < T.size := by omega
  have z43 : 43 < T.size := by omega
  have z44 : 44 < T.size := by omega
  have z45 : 45 < T.size := by omega
  have QZ := Aside0.mk hsz
  clear hsz
  have QM := Aside0.mk M
  have QE := Aside0.mk E
  have QG := Aside0.mk hG
  have QD := Aside0.mk hd
  have QP := Aside0.mk hp
  have p := M.pc
  have pz := M.pz
  obtain ⟨y, cj, zj, ey⟩ := M.at 5 (by omega)
  clear hG hd hp M E
  have hx : ((V / 8).tmod 128 : Int) = numD D (7 * 5) 7 := pc_mid (t := 8 - 4) (QG.out (by omega)) QE.out.db (by omega) 3 7 8 128 (by decide) (by decide) (by omega)
  have HX := Aside0.mk hx
  clear hx
  go_wp2
  exact St.whole QE.out hBh QM.out QG.out QD.out HX.out ⟨by simp [QZ.out], by simp [h0], by simp [h1], by simp [h4]⟩
set_option maxHeartbeats 4000000 in
set_option maxRecDepth 100000 in
theorem r7_10 (g h n c oc B : Nat) (A : Addr) (D : Nat → Int) (w0 w : World) (T : Array Value) (E : Env0 g h w0.heap.size n c A D) (hn : 28 ≤ n) (hBg : B ≤ g) (hBh : B ≤ h) (hBw : B ≤ w0.heap.size) (S : St 7 220 w0 g h n c oc B A D 8 6 0 T w) (K : Act → World → Prop) (R : Ending → World → Prop)
    (hk : ∀ T' w', St 7 220 w0 g h n c oc B A D 8 7 0 T' w' → K ⟨T', []⟩ w') :
    (regionOf Tryd.f33 10).wp Tryd.prog (Exit.then K (bodyPost Tryd.prog Tryd.f33 R)) ⟨T, []⟩ w := by
  conv => arg 2; whnf
  obtain ⟨hsz, h0, h1, h4, f, V, M, hG, hd, hp⟩ := S
  have z46 : 46 < T.size := by omega
  have z47 : 47 < T.size := by omega
  have z48 : 48 < T.size := by omega
  have z49 : 49 < T.size := by omega
  have z50 : 50 < T.size := by omega
  have QZ := Aside0.mk hsz
  clear hsz
  have QM := Aside0.mk M
  have QE := Aside0.mk E
  have QG := Aside0.mk hG
  have QD := Aside0.mk hd
  have QP := Aside0.mk hp
  have p := M.pc
  have pz := M.pz
  obtain ⟨y, cj, zj, ey⟩ := M.at 6 (by omega)
  clear hG hd hp M E
  have hx : ((V / 1024).tmod 128 : Int) = numD D (7 * 6) 7 := pc_mid (t := 8 - 4) (QG.out (by omega)) QE.out.db (by omega) 10 7 1024 128 (by decide) (by decide) (by omega)
  have HX := Aside0.mk hx
  clear hx
  go_wp2
  exact St.whole QE.out hBh QM.out QG.out QD.out HX.out ⟨by simp [QZ.out], by simp [h0], by simp [h1], by simp [h4]⟩
set_option maxHeartbeats 4000000 in
set_option maxRecDepth 100000 in
theorem r7_11 (g h n c oc B : Nat) (A : Addr) (D : Nat → Int) (w0 w : World) (T : Array Value) (E : Env0 g h w0.heap.size n c A D) (hn : 28 ≤ n) (hBg : B ≤ g) (hBh : B ≤ h) (hBw : B ≤ w0.heap.size) (S : St 7 220 w0 g h n c oc B A D 8 7 0 T w) (K : Act → World → Prop) (R : Ending → World → Prop)
    (hk : ∀ T' w', St 7 220 w0 g h n c oc B A D 8 8 0 T' w' → K ⟨T', []⟩ w') :
    (regionOf Tryd.f33 11).wp Tryd.prog (Exit.then K (bodyPost Tryd.prog Tryd.f33 R)) ⟨T, []⟩ w := by
  conv => arg 2; whnf
  obtain ⟨hsz, h0, h1, h4, f, V, M, hG, hd, hp⟩ := S
  have z51 : 51 < T.size := by omega
  have z52 : 52 < T.size := by omega
  have z53 : 53 < T.size := by omega
  have z54 : 54 < T.size := by omega
  have z55 : 55 < T.size := by omega
  have QZ := Aside0.mk hsz
  clear hsz
  have QM := Aside0.mk M
  have QE := Aside0.mk E
  have QG := Aside0.mk hG
  have QD := Aside0.mk hd
  have QP := Aside0.mk hp
  have p := M.pc
  have pz := M.pz
  obtain ⟨y, cj, zj, ey⟩ := M.at 7 (by omega)
  clear hG hd hp M E
  have hx : ((V / 131072).tmod 128 : Int) = numD D (7 * 7) 7 := pc_mid (t := 8 - 4) (QG.out (by omega)) QE.out.db (by omega) 17 7 131072 128 (by decide) (by decide) (by omega)
  have HX := Aside0.mk hx
  clear hx
  go_wp2
  exact St.whole QE.out hBh QM.out QG.out QD.out HX.out ⟨by simp [QZ.out], by simp [h0], by simp [h1], by simp [h4]⟩
set_option maxHeartbeats 4000000 in
set_option maxRecDepth 100000 in
theorem r7_12 (g h n c oc B : Nat) (A : Addr) (D : Nat → Int) (w0 w : World) (T : Array Value) (E : Env0 g h w0.heap.size n c A D) (hn : 28 ≤ n) (hBg : B ≤ g) (hBh : B ≤ h) (hBw : B ≤ w0.heap.size) (S : St 7 220 w0 g h n c oc B A D 8 8 0 T w) (K : Act → World → Prop) (R : Ending → World → Prop)
    (hk : ∀ T' w', St 7 220 w0 g h n c oc B A D 8 9 0 T' w' → K ⟨T', []⟩ w') :
    (regionOf Tryd.f33 12).wp Tryd.prog (Exit.then K (bodyPost Tryd.prog Tryd.f33 R)) ⟨T, []⟩ w := by
  conv => arg 2; whnf
  obtain ⟨hsz, h0, h1, h4, f, V, M, hG, hd, hp⟩ := S
  have z56 : 56 < T.size := by omega
  have z57 : 57 < T.size := by omega
  have z58 : 58 < T.size := by omega
  have z59 : 59 < T.size := by omega
  have z60 : 60 < T.size := by omega
  have QZ := Aside0.mk hsz
  clear hsz
  have QM := Aside0.mk M
  have QE := Aside0.mk E
  have QG := Aside0.mk hG
  have QD := Aside0.mk hd
  have QP := Aside0.mk hp
  have p := M.pc
  have pz := M.pz
  obtain ⟨y, cj, zj, ey⟩ := M.at 8 (by omega)
  clear hG hd hp M E
  have hx : ((V / 16777216).tmod 128 : Int) = numD D (7 * 8) 7 := pc_mid (t := 8 - 4) (QG.out (by omega)) QE.out.db (by omega) 24 7 16777216 128 (by decide) (by decide) (by omega)
  have HX := Aside0.mk hx
  clear hx
  go_wp2
  exact St.whole QE.out hBh QM.out QG.out QD.out HX.out ⟨by simp [QZ.out], by simp [h0], by simp [h1], by simp [h4]⟩
set_option maxHeartbeats 4000000 in
set_option maxRecDepth 100000 in
theorem r7_13 (g h n c oc B : Nat) (A : Addr) (D : Nat → Int) (w0 w : World) (T : Array Value) (E : Env0 g h w0.heap.size n c A D) (hn : 28 ≤ n) (hBg : B ≤ g) (hBh : B ≤ h) (hBw : B ≤ w0.heap.size) (S : St 7 220 w0 g h n c oc B A D 8 9 0 T w) (K : Act → World → Prop) (R : Ending → World → Prop)
    (hk : ∀ T' w', St 7 220 w0 g h n c oc B A D 8 9 1 T' w' → K ⟨T', []⟩ w') :
    (regionOf Tryd.f33 13).wp Tryd.prog (Exit.then K (bodyPost Tryd.prog Tryd.f33 R)) ⟨T, []⟩ w := by
  conv => arg 2; whnf
  obtain ⟨hsz, h0, h1, h4, f, V, M, hG, hd, hp⟩ := S
  have z61 : 61 < T.size := by omega
  have z62 : 62 < T.size := by omega
  have z63 : 63 < T.size := by omega
  have z64 : 64 < T.size := by omega
  have QZ := Aside0.mk hsz
  clear hsz
  have QM := Aside0.mk M
  have QE := Aside0.mk E
  have QG := Aside0.mk hG
  have QD := Aside0.mk hd
  have QP := Aside0.mk hp
  have p := M.pc
  have pz := M.pz
  obtain ⟨y, cj, zj, ey⟩ := M.at 9 (by omega)
  clear hG hd hp M E
  have hx : (V / 2147483648 : Int) = numD D (7 * 9) 1 := pc_last (t := 8 - 4) (QG.out (by omega)) QE.out.db (by omega) 31 1 2147483648 (by decide) (by omega)
  have HX := Aside0.mk hx
  clear hx
  go_wp2
  exact St.part QE.out hBh QM.out QG.out QD.out HX.out ⟨by simp [QZ.out], by simp [h0], by simp [h1], by simp [h4]⟩
set_option maxHeartbeats 4000000 in
set_option maxRecDepth 100000 in
theorem r7_14 (g h n c oc B : Nat) (A : Addr) (D : Nat → Int) (w0 w : World) (T : Array Value) (E : Env0 g h w0.heap.size n c A D) (hn : 28 ≤ n) (hBg : B ≤ g) (hBh : B ≤ h) (hBw : B ≤ w0.heap.size) (S : St 7 220 w0 g h n c oc B A D 8 9 1 T w) (K : Act → World → Prop) (R : Ending → World → Prop)
    (hk : ∀ T' w', St 7 220 w0 g h n c oc B A D 12 9 1 T' w' → K ⟨T', []⟩ w') :
    (regionOf Tryd.f33 14).wp Tryd.prog (Exit.then K (bodyPost Tryd.prog Tryd.f33 R)) ⟨T, []⟩ w := by
  conv => arg 2; whnf
  obtain ⟨hsz, h0, h1, h4, f, V, M, hG, hd, hp⟩ := S
  have z65 : 65 < T.size := by omega
  have z66 : 66 < T.size := by omega
  have QZ := Aside0.mk hsz
  clear hsz
  have QM := Aside0.mk M
  have QE := Aside0.mk E
  have QG := Aside0.mk hG
  have QD := Aside0.mk hd
  have QP := Aside0.mk hp
  have hi : 8 + 4 ≤ n := by omega
  have C := fun (Q : Ending → World → Prop) k => Mid.goS (Q := Q) (oc := oc) (nt := 220) QE.out hBg hBw hi QM.out QD.out QP.out k
  have C := Aside0.mk C
  clear hG hd hp M E hi
  go_wp2_with (go_at_call 40; refine C.out _ ?_; intro w' HS; have HS := Aside0.mk HS)
  exact HS.out _ (by simp [QZ.out]) (by simp [h0]) (by simp [h1]) (by simp [h4])
set_option maxHeartbeats 4000000 in
set_option maxRecDepth 100000 in
theorem r7_15 (g h n c oc B : Nat) (A : Addr) (D : Nat → Int) (w0 w : World) (T : Array Value) (E : Env0 g h w0.heap.size n c A D) (hn : 28 ≤ n) (hBg : B ≤ g) (hBh : B ≤ h) (hBw : B ≤ w0.heap.size) (S : St 7 220 w0 g h n c oc B A D 12 9 1 T w) (K : Act → World → Prop) (R : Ending → World → Prop)
    (hk : ∀ T' w', St 7 220 w0 g h n c oc B A D 12 10 0 T' w' → K ⟨T', []⟩ w') :
    (regionOf Tryd.f33 15).wp Tryd.prog (Exit.then K (bodyPost Tryd.prog Tryd.f33 R)) ⟨T, []⟩ w := by
  conv => arg 2; whnf
  obtain ⟨hsz, h0, h1, h4, f, V, M, hG, hd, hp⟩ := S
  have z67 : 67 < T.size := by omega
  have z68 : 68 < T.size := by omega
  have z69 : 69 < T.size := by omega
  have z70 : 70 < T.size := by omega
  have z71 : 71 < T.size := by omega
  have z72 : 72 < T.size := by omega
  have z73 : 73 < T.size := by omega
  have z74 : 74 < T.size := by omega
  have QZ := Aside0.mk hsz
  clear hsz
  have QM := Aside0.mk M
  have QE := Aside0.mk E
  have QG := Aside0.mk hG
  have QD := Aside0.mk hd
  have QP := Aside0.mk hp
  have p := M.pc
  have pz := M.pz
  obtain ⟨y, cj, zj, ey⟩ := M.at 9 (by omega)
  clear hG hd hp M E
  have mixed : Tryd.prog.follows .mixedOrders = true := by kernel_rfl
  have hx : (Go.bits .or .u32 y (IntKind.u32.wrap (V.tmod 64 * 2)) : Int) = numD D (7 * 9) 7 := pc_two' (t := 12 - 4) (QG.out (by omega)) QE.out.db (by omega) (7 * 9) 1 6 64 2 (by decide) (by decide) (by omega) (by omega) (ey.out.trans (QP.out (by omega)))
  have HX := Aside0.mk hx
  clear hx
  go_region
  all_goals exact hk _ _ (St.whole_d QE.out hBh QM.out QG.out QD.out HX.out ⟨by simp [QZ.out], by simp [h0], by simp [h1], by simp [h4]⟩)
set_option maxHeartbeats 4000000 in
set_option maxRecDepth 100000 in
theorem r7_16 (g h n c oc B : Nat) (A : Addr) (D : Nat → Int) (w0 w : World) (T : Array Value) (E : Env0 g h w0.heap.size n c A D) (hn : 28 ≤ n) (hBg : B ≤ g) (hBh : B ≤ h) (hBw : B ≤ w0.heap.size) (S : St 7 220 w0 g h n c oc B A D 12 10 0 T w) (K : Act → World → Prop) (R : Ending → World → Prop)
    (hk : ∀ T' w', St 7 220 w0 g h n c oc B A D 12 11 0 T' w' → K ⟨T', []⟩ w') :
    (regionOf Tryd.f33 16).wp Tryd.prog (Exit.then K (bodyPost Tryd.prog Tryd.f33 R)) ⟨T, []⟩ w := by
  conv => arg 2; whnf
  obtain ⟨hsz, h0, h1, h4, f, V, M, hG, hd, hp⟩ := S
  have z75 : 75 < T.size := by omega
  have z76 : 76 < T.size := by omega
  have z77 : 77 < T.size := by omega
  have z78 : 78 < T.size := by omega
  have z79 : 79 < T.size := by omega
  have QZ := Aside0.mk hsz
  clear hsz
  have QM := Aside0.mk M
  have QE := Aside0.mk E
  have QG := Aside0.mk hG
  have QD := Aside0.mk hd
  have QP := Aside0.mk hp
  have p := M.pc
  have pz := M.pz
  obtain ⟨y, cj, zj, ey⟩ := M.at 10 (by omega)
  clear hG hd hp M E
  have hx : ((V / 64).tmod 128 : Int) = numD D (7 * 10) 7 := pc_mid (t := 12 - 4) (QG.out (by omega)) QE.out.db (by omega) 6 7 64 128 (by decide) (by decide) (by omega)
  have HX := Aside0.mk hx
  clear hx
  go_wp2
  exact St.whole QE.out hBh QM.out QG.out QD.out HX.out ⟨by simp [QZ.out], by simp [h0], by simp [h1], by simp [h4]⟩
set_option maxHeartbeats 4000000 in
set_option maxRecDepth 100000 in
theorem r7_17 (g h n c oc B : Nat) (A : Addr) (D : Nat → Int) (w0 w : World) (T : Array Value) (E : Env0 g h w0.heap.size n c A D) (hn : 28 ≤ n) (hBg : B ≤ g) (hBh : B ≤ h) (hBw : B ≤ w0.heap.size) (S : St 7 220 w0 g h n c oc B A D 12 11 0 T w) (K : Act → World → Prop) (R : Ending → World → Prop)
    (hk : ∀ T' w', St 7 220 w0 g h n c oc B A D 12 12 0 T' w' → K ⟨T', []⟩ w') :
    (regionOf Tryd.f33 17).wp Tryd.prog (Exit.then K (bodyPost Tryd.prog Tryd.f33 R)) ⟨T, []⟩ w := by
  conv => arg 2; whnf
  obtain ⟨hsz, h0, h1, h4, f, V, M, hG, hd, hp⟩ := S
  have z80 : 80 < T.size := by omega
  have z81 : 81 < T.size := by omega
  have z82 : 82 < T.size := by omega
  have z83 : 83 < T.size := by omega
  have z84 : 84 < T.size := by omega
  have QZ := Aside0.mk hsz
  clear hsz
  have QM := Aside0.mk M
  have QE := Aside0.mk E
  have QG := Aside0.mk hG
  have QD := Aside0.mk hd
  have QP := Aside0.mk hp
  have p := M.pc
  have pz := M.pz
  obtain ⟨y, cj, zj, ey⟩ := M.at 11 (by omega)
  clear hG hd hp M E
  have hx : ((V / 8192).tmod 128 : Int) = numD D (7 * 11) 7 := pc_mid (t := 12 - 4) (QG.out (by omega)) QE.out.db (by omega) 13 7 8192 128 (by decide) (by decide) (by omega)
  have HX := Aside0.mk hx
  clear hx
  go_wp2
  exact St.whole QE.out hBh QM.out QG.out QD.out HX.out ⟨by simp [QZ.out], by simp [h0], by simp [h1], by simp [h4]⟩
set_option maxHeartbeats 4000000 in
set_option maxRecDepth 100000 in
theorem r7_18 (g h n c oc B : Nat) (A : Addr) (D : Nat → Int) (w0 w : World) (T : Array Value) (E : Env0 g h w0.heap.size n c A D) (hn : 28 ≤ n) (hBg : B ≤ g) (hBh : B ≤ h) (hBw : B ≤ w0.heap.size) (S : St 7 220 w0 g h n c oc B A D 12 12 0 T w) (K : Act → World → Prop) (R : Ending → World → Prop)
    (hk : ∀ T' w', St 7 220 w0 g h n c oc B A D 12 13 0 T' w' → K ⟨T', []⟩ w') :
    (regionOf Tryd.f33 18).wp Tryd.prog (Exit.then K (bodyPost Tryd.prog Tryd.f33 R)) ⟨T, []⟩ w := by
  conv => arg 2; whnf
  obtain ⟨hsz, h0, h1, h4, f, V, M, hG, hd, hp⟩ := S
  have z85 : 85 < T.size := by omega
  have z86 : 86 < T.size := by omega
  have z87 : 87 < T.size := by omega
  have z88 : 88 < T.size := by omega
  have z89 : 89 < T.size := by omega
  have QZ := Aside0.mk hsz
  clear hsz
  have QM := Aside0.mk M
  have QE := Aside0.mk E
  have QG := Aside0.mk hG
  have QD := Aside0.mk hd
  have QP := Aside0.mk hp
  have p := M.pc
  have pz := M.pz
  obtain ⟨y, cj, zj, ey⟩ := M.at 12 (by omega)
  clear hG hd hp M E
  have hx : ((V / 1048576).tmod 128 : Int) = numD D (7 * 12) 7 := pc_mid (t := 12 - 4) (QG.out (by omega)) QE.out.db (by omega) 20 7 1048576 128 (by decide) (by decide) (by omega)
  have HX := Aside0.mk hx
  clear hx
  go_wp2
  exact St.whole QE.out hBh QM.out QG.out QD.out HX.out ⟨by simp [QZ.out], by simp [h0], by simp [h1], by simp [h4]⟩
set_option maxHeartbeats 4000000 in
set_option maxRecDepth 100000 in
theorem r7_19 (g h n c oc B : Nat) (A : Addr) (D : Nat → Int) (w0 w : World) (T : Array Value) (E : Env0 g h w0.heap.size n c A D) (hn : 28 ≤ n) (hBg : B ≤ g) (hBh : B ≤ h) (hBw : B ≤ w0.heap.size) (S : St 7 220 w0 g h n c oc B A D 12 13 0 T w) (K : Act → World → Prop) (R : Ending → World → Prop)
    (hk : ∀ T' w', St 7 220 w0 g h n c oc B A D 12 13 5 T' w' → K ⟨T', []⟩ w') :
    (regionOf Tryd.f33 19).wp Tryd.prog (Exit.then K (bodyPost Tryd.prog Tryd.f33 R)) ⟨T, []⟩ w := by
  conv => arg 2; whnf
  obtain ⟨hsz, h0, h1, h4, f, V, M, hG, hd, hp⟩ := S
  have z90 : 90 < T.size := by omega
  have z91 : 91 < T.size := by omega
  have z92 : 92 < T.size := by omega
  have z93 : 93 < T.size := by omega
  have QZ := Aside0.mk hsz
  clear hsz
  have QM := Aside0.mk M
  have QE := Aside0.mk E
  have QG := Aside0.mk hG
  have QD := Aside0.mk hd
  have QP := Aside0.mk hp
  have p := M.pc
  have pz := M.pz
  obtain ⟨y, cj, zj, ey⟩ := M.at 13 (by omega)
  clear hG hd hp M E
  have hx : (V / 134217728 : Int) = numD D (7 * 13) 5 := pc_last (t := 12 - 4) (QG.out (by omega)) QE.out.db (by omega) 27 5 134217728 (by decide) (by omega)
  have HX := Aside0.mk hx
  clear hx
  go_wp2
  exact St.part QE.out hBh QM.out QG.out QD.out HX.out ⟨by simp [QZ.out], by simp [h0], by simp [h1], by simp [h4]⟩
set_option maxHeartbeats 4000000 in
set_option maxRecDepth 100000 in
theorem r7_20 (g h n c oc B : Nat) (A : Addr) (D : Nat → Int) (w0 w : World) (T : Array Value) (E : Env0 g h w0.heap.size n c A D) (hn : 28 ≤ n) (hBg : B ≤ g) (hBh : B ≤ h) (hBw : B ≤ w0.heap.size) (S : St 7 220 w0 g h n c oc B A D 12 13 5 T w) (K : Act → World → Prop) (R : Ending → World → Prop)
    (hk : ∀ T' w', St 7 220 w0 g h n c oc B A D 16 13 5 T' w' → K ⟨T', []⟩ w') :
    (regionOf Tryd.f33 20).wp Tryd.prog (Exit.then K (bodyPost Tryd.prog Tryd.f33 R)) ⟨T, []⟩ w := by
  conv => arg 2; whnf
  obtain ⟨hsz, h0, h1, h4, f, V, M, hG, hd, hp⟩ := S
  have z94 : 94 < T.size := by omega
  have z95 : 95 < T.size := by omega
  have QZ := Aside0.mk hsz
  clear hsz
  have QM := Aside0.mk M
  have QE := Aside0.mk E
  have QG := Aside0.mk hG
  have QD := Aside0.mk hd
  have QP := Aside0.mk hp
  have hi : 12 + 4 ≤ n := by omega
  have C := fun (Q : Ending → World → Prop) k => Mid.goS (Q := Q) (oc := oc) (nt := 220) QE.out hBg hBw hi QM.out QD.out QP.out k
  have C := Aside0.mk C
  clear hG hd hp M E hi
  go_wp2_with (go_at_call 40; refine C.out _ ?_; intro w' HS; have HS := Aside0.mk HS)
  exact HS.out _ (by simp [QZ.out]) (by simp [h0]) (by simp [h1]) (by simp [h4])
set_option maxHeartbeats 4000000 in
set_option maxRecDepth 100000 in
theorem r7_21 (g h n c oc B : Nat) (A : Addr) (D : Nat → Int) (w0 w : World) (T : Array Value) (E : Env0 g h w0.heap.size n c A D) (hn : 28 ≤ n) (hBg : B ≤ g) (hBh : B ≤ h) (hBw : B ≤ w0.heap.size) (S : St 7 220 w0 g h n c oc B A D 16 13 5 T w) (K : Act → World → Prop) (R : Ending → World → Prop)
    (hk : ∀ T' w', St 7 220 w0 g h n c oc B A D 16 14 0 T' w' → K ⟨T', []⟩ w') :
    (regionOf Tryd.f33 21).wp Tryd.prog (Exit.then K (bodyPost Tryd.prog Tryd.f33 R)) ⟨T, []⟩ w := by
  conv => arg 2; whnf
  obtain ⟨hsz, h0, h1, h4, f, V, M, hG, hd, hp⟩ := S
  have z96 : 96 < T.size := by omega
  have z97 : 97 < T.size := by omega
  have z98 : 98 < T.size := by omega
  have z99 : 99 < T.size := by omega
  have z100 : 100 < T.size := by omega
  have z101 : 101 < T.size := by omega
  have z102 : 102 < T.size := by omega
  have z103 : 103 < T.size := by omega
  have QZ := Aside0.mk hsz
  clear hsz
  have QM := Aside0.mk M
  have QE := Aside0.mk E
  have QG := Aside0.mk hG
  have QD := Aside0.mk hd
  have QP := Aside0.mk hp
  have p := M.pc
  have pz := M.pz
  obtain ⟨y, cj, zj, ey⟩ := M.at 13 (by omega)
  clear hG hd hp M E
  have mixed : Tryd.prog.follows .mixedOrders = true := by kernel_rfl
  have hx : (Go.bits .or .u32 y (IntKind.u32.wrap (V.tmod 4 * 32)) : Int) = numD D (7 * 13) 7 := pc_two' (t := 16 - 4) (QG.out (by omega)) QE.out.db (by omega) (7 * 13) 5 2 4 32 (by decide) (by decide) (by omega) (by omega) (ey.out.trans (QP.out (by omega)))
  have HX := Aside0.mk hx
  clear hx
  go_region
  all_goals exact hk _ _ (St.whole_d QE.out hBh QM.out QG.out QD.out HX.out ⟨by simp [QZ.out], by simp [h0], by simp [h1], by simp [h4]⟩)
set_option maxHeartbeats 4000000 in
set_option maxRecDepth 100000 in
theorem r7_22 (g h n c oc B : Nat) (A : Addr) (D : Nat → Int) (w0 w : World) (T : Array Value) (E : Env0 g h w0.heap.size n c A D) (hn : 28 ≤ n) (hBg : B ≤ g) (hBh : B ≤ h) (hBw : B ≤ w0.heap.size) (S : St 7 220 w0 g h n c oc B A D 16 14 0 T w) (K : Act → World → Prop) (R : Ending → World → Prop)
    (hk : ∀ T' w', St 7 220 w0 g h n c oc B A D 16 15 0 T' w' → K ⟨T', []⟩ w') :
    (regionOf Tryd.f33 22).wp Tryd.prog (Exit.then K (bodyPost Tryd.prog Tryd.f33 R)) ⟨T, []⟩ w := by
  conv => arg 2; whnf
  obtain ⟨hsz, h0, h1, h4, f, V, M, hG, hd, hp⟩ := S
  have z104 : 104 < T.size := by omega
  have z105 : 105 < T.size := by omega
  have z106 : 106 < T.size := by omega
  have z107 : 107 < T.size := by omega
  have z108 : 108 < T.size := by omega
  have QZ := Aside0.mk hsz
  clear hsz
  have QM := Aside0.mk M
  have QE := Aside0.mk E
  have QG := Aside0.mk hG
  have QD := Aside0.mk hd
  have QP := Aside0.mk hp
  have p := M.pc
  have pz := M.pz
  obtain ⟨y, cj, zj, ey⟩ := M.at 14 (by omega)
  clear hG hd hp M E
  have hx : ((V / 4).tmod 128 : Int) = numD D (7 * 14) 7 := pc_mid (t := 16 - 4) (QG.out (by omega)) QE.out.db (by omega) 2 7 4 128 (by decide) (by decide) (by omega)
  have HX := Aside0.mk hx
  clear hx
  go_wp2
  exact St.whole QE.out hBh QM.out QG.out QD.out HX.out ⟨by simp [QZ.out], by simp [h0], by simp [h1], by simp [h4]⟩
set_option maxHeartbeats 4000000 in
set_option maxRecDepth 100000 in
theorem r7_23 (g h n c oc B : Nat) (A : Addr) (D : Nat → Int) (w0 w : World) (T : Array Value) (E : Env0 g h w0.heap.size n c A D) (hn : 28 ≤ n) (hBg : B ≤ g) (hBh : B ≤ h) (hBw : B ≤ w0.heap.size) (S : St 7 220 w0 g h n c oc B A D 16 15 0 T w) (K : Act → World → Prop) (R : Ending → World → Prop)
    (hk : ∀ T' w', St 7 220 w0 g h n c oc B A D 16 16 0 T' w' → K ⟨T', []⟩ w') :
    (regionOf Tryd.f33 23).wp Tryd.prog (Exit.then K (bodyPost Tryd.prog Tryd.f33 R)) ⟨T, []⟩ w := by
  conv => arg 2; whnf
  obtain ⟨hsz, h0, h1, h4, f, V, M, hG, hd, hp⟩ := S
  have z109 : 109 < T.size := by omega
  have z110 : 110 < T.size := by omega
  have z111 : 111 < T.size := by omega
  have z112 : 112 < T.size := by omega
  have z113 : 113 < T.size := by omega
  have QZ := Aside0.mk hsz
  clear hsz
  have QM := Aside0.mk M
  have QE := Aside0.mk E
  have QG := Aside0.mk hG
  have QD := Aside0.mk hd
  have QP := Aside0.mk hp
  have p := M.pc
  have pz := M.pz
  obtain ⟨y, cj, zj, ey⟩ := M.at 15 (by omega)
  clear hG hd hp M E
  have hx : ((V / 512).tmod 128 : Int) = numD D (7 * 15) 7 := pc_mid (t := 16 - 4) (QG.out (by omega)) QE.out.db (by omega) 9 7 512 128 (by decide) (by decide) (by omega)
  have HX := Aside0.mk hx
  clear hx
  go_wp2
  exact St.whole QE.out hBh QM.out QG.out QD.out HX.out ⟨by simp [QZ.out], by simp [h0], by simp [h1], by simp [h4]⟩
set_option maxHeartbeats 4000000 in
set_option maxRecDepth 100000 in
theorem r7_24 (g h n c oc B : Nat) (A : Addr) (D : Nat → Int) (w0 w : World) (T : Array Value) (E : Env0 g h w0.heap.size n c A D) (hn : 28 ≤ n) (hBg : B ≤ g) (hBh : B ≤ h) (hBw : B ≤ w0.heap.size) (S : St 7 220 w0 g h n c oc B A D 16 16 0 T w) (K : Act → World → Prop) (R : Ending → World → Prop)
    (hk : ∀ T' w', St 7 220 w0 g h n c oc B A D 16 17 0 T' w' → K ⟨T', []⟩ w') :
    (regionOf Tryd.f33 24).wp Tryd.prog (Exit.then K (bodyPost Tryd.prog Tryd.f33 R)) ⟨T, []⟩ w := by
  conv => arg 2; whnf
  obtain ⟨hsz, h0, h1, h4, f, V, M, hG, hd, hp⟩ := S
  have z114 : 114 < T.size := by omega
  have z115 : 115 < T.size := by omega
  have z116 : 116 < T.size := by omega
  have z117 : 117 < T.size := by omega
  have z118 : 118 < T.size := by omega
  have QZ := Aside0.mk hsz
  clear hsz
  have QM := Aside0.mk M
  have QE := Aside0.mk E
  have QG := Aside0.mk hG
  have QD := Aside0.mk hd
  have QP := Aside0.mk hp
  have p := M.pc
  have pz := M.pz
  obtain ⟨y, cj, zj, ey⟩ := M.at 16 (by omega)
  clear hG hd hp M E
  have hx : ((V / 65536).tmod 128 : Int) = numD D (7 * 16) 7 := pc_mid (t := 16 - 4) (QG.out (by omega)) QE.out.db (by omega) 16 7 65536 128 (by decide) (by decide) (by omega)
  have HX := Aside0.mk hx
  clear hx
  go_wp2
  exact St.whole QE.out hBh QM.out QG.out QD.out HX.out ⟨by simp [QZ.out], by simp [h0], by simp [h1], by simp [h4]⟩
end Go.Proofs.YtblmpfhjghcddaaDoor.QU
