/- What the regions of unpack3_32 do, one by one, to the state between them. Printed by gen_regs.py of this session. -/
import Derived.Test.YtblmpfhjghcddaaDoorU8
namespace Go.Proofs.YtblmpfhjghcddaaDoor.QU
open Go.RowKit Go.Proofs.YtblmpfhjghcddaaDoorW.PrintWords Go.Proofs.YtblmpfhjghcddaaDoorW.PrintLast Go.Proofs.YtblmpfhjghcddaaDoorW.PrintMore
set_option linter.unusedVariables false
set_option linter.unusedSimpArgs false
set_option maxHeartbeats 4000000 in
set_option maxRecDepth 100000 in
theorem r3_1 (g h n c oc B : Nat) (A : Addr) (D : Nat → Int) (w0 w : World) (T : Array Value) (E : Env0 g h w0.heap.size n c A D) (hn : 12 ≤ n) (hBg : B ≤ g) (hBh : B ≤ h) (hBw : B ≤ w0.heap.size) (S : St 3 185 w0 g h n c oc B A D 0 0 0 T w) (K : Act → World → Prop) (R : Ending → World → Prop)
    (hk : ∀ T' w', St 3 185 w0 g h n c oc B A D 4 0 0 T' w' → K ⟨T', []⟩ w') :
    (regionOf Tryd.f32 1).wp Tryd.prog (Exit.then K (bodyPost Tryd.prog Tryd.f32 R)) ⟨T, []⟩ w := by
  conv => arg 2; whnf
  obtain ⟨hsz, h0, h1, h4, f, V, M, hG, hd, hp⟩ := S
  have z5 : 5 < T.size := by omega
  have z6 : 6 < T.size := by omega
  have QZ := Aside0.mk hsz
  clear hsz
  have QM := Aside0.mk M
  have QE := Aside0.mk E
  have QG := Aside0.mk hG
  have QD := Aside0.mk hd
  have QP := Aside0.mk hp
  have hi : 0 + 4 ≤ n := by omega
  have C := fun (Q : Ending → World → Prop) k => Mid.goS (Q := Q) (oc := oc) (nt := 185) QE.out hBg hBw hi QM.out QD.out QP.out k
  have C := Aside0.mk C
  clear hG hd hp M E hi
  go_wp2_with (go_at_call 40; refine C.out _ ?_; intro w' HS; have HS := Aside0.mk HS)
  exact HS.out _ (by simp [QZ.out]) (by simp [h0]) (by simp [h1]) (by simp [h4])
set_option maxHeartbeats 4000000 in
set_option maxRecDepth 100000 in
theorem r3_2 (g h n c oc B : Nat) (A : Addr) (D : Nat → Int) (w0 w : World) (T : Array Value) (E : Env0 g h w0.heap.size n c A D) (hn : 12 ≤ n) (hBg : B ≤ g) (hBh : B ≤ h) (hBw : B ≤ w0.heap.size) (S : St 3 185 w0 g h n c oc B A D 4 0 0 T w) (K : Act → World → Prop) (R : Ending → World → Prop)
    (hk : ∀ T' w', St 3 185 w0 g h n c oc B A D 4 1 0 T' w' → K ⟨T', []⟩ w') :
    (regionOf Tryd.f32 2).wp Tryd.prog (Exit.then K (bodyPost Tryd.prog Tryd.f32 R)) ⟨T, []⟩ w := by
  conv => arg 2; whnf
  obtain ⟨hsz, h0, h1, h4, f, V, M, hG, hd, hp⟩ := S
  have z7 : 7 < T.size := by omega
  have z8 : 8 < T.size := by omega
  have z9 : 9 < T.size := by omega
  have z10 : 10 < T.size := by omega
  have z11 : 11 < T.size := by omega
  have QZ := Aside0.mk hsz
  clear hsz
  have QM := Aside0.mk M
  have QE := Aside0.mk E
  have QG := Aside0.mk hG
  have QD := Aside0.mk hd
  have QP := Aside0.mk hp
  have p := M.pc
  have pz := M.pz
  obtain ⟨y, cj, zj, ey⟩ := M.at 0 (by omega)
  clear hG hd hp M E
  have hx : (V.tmod 8 : Int) = numD D (3 * 0) 3 := pc_first (t := 4 - 4) (QG.out (by omega)) QE.out.db (by omega) 3 8 (by decide) (by omega)
  have HX := Aside0.mk hx
  clear hx
  go_wp2
  exact St.whole QE.out hBh QM.out QG.out QD.out HX.out ⟨by simp [QZ.out], by simp [h0], by simp [h1], by simp [h4]⟩
set_option maxHeartbeats 4000000 in
set_option maxRecDepth 100000 in
theorem r3_3 (g h n c oc B : Nat) (A : Addr) (D : Nat → Int) (w0 w : World) (T : Array Value) (E : Env0 g h w0.heap.size n c A D) (hn : 12 ≤ n) (hBg : B ≤ g) (hBh : B ≤ h) (hBw : B ≤ w0.heap.size) (S : St 3 185 w0 g h n c oc B A D 4 1 0 T w) (K : Act → World → Prop) (R : Ending → World → Prop)
    (hk : ∀ T' w', St 3 185 w0 g h n c oc B A D 4 2 0 T' w' → K ⟨T', []⟩ w') :
    (regionOf Tryd.f32 3).wp Tryd.prog (Exit.then K (bodyPost Tryd.prog Tryd.f32 R)) ⟨T, []⟩ w := by
  conv => arg 2; whnf
  obtain ⟨hsz, h0, h1, h4, f, V, M, hG, hd, hp⟩ := S
  have z12 : 12 < T.size := by omega
  have z13 : 13 < T.size := by omega
  have z14 : 14 < T.size := by omega
  have z15 : 15 < T.size := by omega
  have z16 : 16 < T.size := by omega
  have QZ := Aside0.mk hsz
  clear hsz
  have QM := Aside0.mk M
  have QE := Aside0.mk E
  have QG := Aside0.mk hG
  have QD := Aside0.mk hd
  have QP := Aside0.mk hp
  have p := M.pc
  have pz := M.pz
  obtain ⟨y, cj, zj, ey⟩ := M.at 1 (by omega)
  clear hG hd hp M E
  have hx : ((V / 8).tmod 8 : Int) = numD D (3 * 1) 3 := pc_mid (t := 4 - 4) (QG.out (by omega)) QE.out.db (by omega) 3 3 8 8 (by decide) (by decide) (by omega)
  have HX := Aside0.mk hx
  clear hx
  go_wp2
  exact St.whole QE.out hBh QM.out QG.out QD.out HX.out ⟨by simp [QZ.out], by simp [h0], by simp [h1], by simp [h4]⟩
set_option maxHeartbeats 4000000 in
set_option maxRecDepth 100000 in
theorem r3_4 (g h n c oc B : Nat) (A : Addr) (D : Nat → Int) (w0 w : World) (T : Array Value) (E : Env0 g h w0.heap.size n c A D) (hn : 12 ≤ n) (hBg : B ≤ g) (hBh : B ≤ h) (hBw : B ≤ w0.heap.size) (S : St 3 185 w0 g h n c oc B A D 4 2 0 T w) (K : Act → World → Prop) (R : Ending → World → Prop)
    (hk : ∀ T' w', St 3 185 w0 g h n c oc B A D 4 3 0 T' w' → K ⟨T', []⟩ w') :
    (regionOf Tryd.f32 4).wp Tryd.prog (Exit.then K (bodyPost Tryd.prog Tryd.f32 R)) ⟨T, []⟩ w := by
  conv => arg 2; whnf
  obtain ⟨hsz, h0, h1, h4, f, V, M, hG, hd, hp⟩ := S
  have z17 : 17 < T.size := by omega
  have z18 : 18 < T.size := by omega
  have z19 : 19 < T.size := by omega
  have z20 : 20 < T.size := by omega
  have z21 : 21 < T.size := by omega
  have QZ := Aside0.mk hsz
  clear hsz
  have QM := Aside0.mk M
  have QE := Aside0.mk E
  have QG := Aside0.mk hG
  have QD := Aside0.mk hd
  have QP := Aside0.mk hp
  have p := M.pc
  have pz := M.pz
  obtain ⟨y, cj, zj, ey⟩ := M.at 2 (by omega)
  clear hG hd hp M E
  have hx : ((V / 64).tmod 8 : Int) = numD D (3 * 2) 3 := pc_mid (t := 4 - 4) (QG.out (by omega)) QE.out.db (by omega) 6 3 64 8 (by decide) (by decide) (by omega)
  have HX := Aside0.mk hx
  clear hx
  go_wp2
  exact St.whole QE.out hBh QM.out QG.out QD.out HX.out ⟨by simp [QZ.out], by simp [h0], by simp [h1], by simp [h4]⟩
set_option maxHeartbeats 4000000 in
set_option maxRecDepth 100000 in
theorem r3_5 (g h n c oc B : Nat) (A : Addr) (D : Nat → Int) (w0 w : World) (T : Array Value) (E : Env0 g h w0.heap.size n c A D) (hn : 12 ≤ n) (hBg : B ≤ g) (hBh : B ≤ h) (hBw : B ≤ w0.heap.size) (S : St 3 185 w0 g h n c oc B A D 4 3 0 T w) (K : Act → World → Prop) (R : Ending → World → Prop)
    (hk : ∀ T' w', St 3 185 w0 g h n c oc B A D 4 4 0 T' w' → K ⟨T', []⟩ w') :
    (regionOf Tryd.f32 5).wp Tryd.prog (Exit.then K (bodyPost Tryd.prog Tryd.f32 R)) ⟨T, []⟩ w := by
  conv => arg 2; whnf
  obtain ⟨hsz, h0, h1, h4, f, V, M, hG, hd, hp⟩ := S
  have z22 : 22 < T.size := by omega
  have z23 : 23 < T.size := by omega
  have z24 : 24 < T.size := by omega
  have z25 : 25 < T.size := by omega
  have z26 : 26 < T.size := by omega
  have QZ := Aside0.mk hsz
  clear hsz
  have QM := Aside0.mk M
  have QE := Aside0.mk E
  have QG := Aside0.mk hG
  have QD := Aside0.mk hd
  have QP := Aside0.mk hp
  have p := M.pc
  have pz := M.pz
  obtain ⟨y, cj, zj, ey⟩ := M.at 3 (by omega)
  clear hG hd hp M E
  have hx : ((V / 512).tmod 8 : Int) = numD D (3 * 3) 3 := pc_mid (t := 4 - 4) (QG.out (by omega)) QE.out.db (by omega) 9 3 512 8 (by decide) (by decide) (by omega)
  have HX := Aside0.mk hx
  clear hx
  go_wp2
  exact St.whole QE.out hBh QM.out QG.out QD.out HX.out ⟨by simp [QZ.out], by simp [h0], by simp [h1], by simp [h4]⟩
set_option maxHeartbeats 4000000 in
set_option maxRecDepth 100000 in
theorem r3_6 (g h n c oc B : Nat) (A : Addr) (D : Nat → Int) (w0 w : World) (T : Array Value) (E : Env0 g h w0.heap.size n c A D) (hn : 12 ≤ n) (hBg : B ≤ g) (hBh : B ≤ h) (hBw : B ≤ w0.heap.size) (S : St 3 185 w0 g h n c oc B A D 4 4 0 T w) (K : Act → World → Prop) (R : Ending → World → Prop)
    (hk : ∀ T' w', St 3 185 w0 g h n c oc B A D 4 5 0 T' w' → K ⟨T', []⟩ w') :
    (regionOf Tryd.f32 6).wp Tryd.prog (Exit.then K (bodyPost Tryd.prog Tryd.f32 R)) ⟨T, []⟩ w := by
  conv => arg 2; whnf
  obtain ⟨hsz, h0, h1, h4, f, V, M, hG, hd, hp⟩ := S
  have z27 : 27 < T.size := by omega
  have z28 : 28 < T.size := by omega
  have z29 : 29 < T.size := by omega
  have z30 : 30 < T.size := by omega
  have z31 : 31 < T.size := by omega
  have QZ := Aside0.mk hsz
  clear hsz
  have QM := Aside0.mk M
  have QE := Aside0.mk E
  have QG := Aside0.mk hG
  have QD := Aside0.mk hd
  have QP := Aside0.mk hp
  have p := M.pc
  have pz := M.pz
  obtain ⟨y, cj, zj, ey⟩ := M.at 4 (by omega)
  clear hG hd hp M E
  have hx : ((V / 4096).tmod 8 : Int) = numD D (3 * 4) 3 := pc_mid (t := 4 - 4) (QG.out (by omega)) QE.out.db (by omega) 12 3 4096 8 (by decide) (by decide) (by omega)
  have HX := Aside0.mk hx
  clear hx
  go_wp2
  exact St.whole QE.out hBh QM.out QG.out QD.out HX.out ⟨by simp [QZ.out], by simp [h0], by simp [h1], by simp [h4]⟩
set_option maxHeartbeats 4000000 in
set_option maxRecDepth 100000 in
theorem r3_7 (g h n c oc B : Nat) (A : Addr) (D : Nat → Int) (w0 w : World) (T : Array Value) (E : Env0 g h w0.heap.size n c A D) (hn : 12 ≤ n) (hBg : B ≤ g) (hBh : B ≤ h) (hBw : B ≤ w0.heap.size) (S : St 3 185 w0 g h n c oc B A D 4 5 0 T w) (K : Act → World → Prop) (R : Ending → World → Prop)
    (hk : ∀ T' w', St 3 185 w0 g h n c oc B A D 4 6 0 T' w' → K ⟨T', []⟩ w') :
    (regionOf Tryd.f32 7).wp Tryd.prog (Exit.then K (bodyPost Tryd.prog Tryd.f32 R)) ⟨T, []⟩ w := by
  conv => arg 2; whnf
  obtain ⟨hsz, h0, h1, h4, f, V, M, hG, hd, hp⟩ := S
  have z32 : 32 < T.size := by omega
  have z33 : 33 < T.size := by omega
  have z34 : 34 < T.size := by omega
  have z35 : 35 < T.size := by omega
  have z36 : 36 < T.size := by omega
  have QZ := Aside0.mk hsz
  clear hsz
  have QM := Aside0.mk M
  have QE := Aside0.mk E
  have QG := Aside0.mk hG
  have QD := Aside0.mk hd
  have QP := Aside0.mk hp
  have p := M.pc
  have pz := M.pz
  obtain ⟨y, cj, zj, ey⟩ := M.at 5 (by omega)
  clear hG hd hp M E
  have hx : ((V / 32768).tmod 8 : Int) = numD D (3 * 5) 3 := pc_mid (t := 4 - 4) (QG.out (by omega)) QE.out.db (by omega) 15 3 32768 8 (by decide) (by decide) (by omega)
  have HX := Aside0.mk hx
  clear hx
  go_wp2
  exact St.whole QE.out hBh QM.out QG.out QD.out HX.out ⟨by simp [QZ.out], by simp [h0], by simp [h1], by simp [h4]⟩
set_option maxHeartbeats 4000000 in
set_option maxRecDepth 100000 in
theorem r3_8 (g h n c oc B : Nat) (A : Addr) (D : Nat → Int) (w0 w : World) (T : Array Value) (E : Env0 g h w0.heap.size n c A D) (hn : 12 ≤ n) (hBg : B ≤ g) (hBh : B ≤ h) (hBw : B ≤ w0.heap.size) (S : St 3 185 w0 g h n c oc B A D 4 6 0 T w) (K : Act → World → Prop) (R : Ending → World → Prop)
    (hk : ∀ T' w', St 3 185 w0 g h n c oc B A D 4 7 0 T' w' → K ⟨T', []⟩ w') :
    (regionOf Tryd.f32 8).wp Tryd.prog (Exit.then K (bodyPost Tryd.prog Tryd.f32 R)) ⟨T, []⟩ w := by
  conv => arg 2; whnf
  obtain ⟨hsz, h0, h1, h4, f, V, M, hG, hd, hp⟩ := S
  have z37 : 37 < T.size := by omega
  have z38 : 38 < T.size := by omega
  have z39 : 39 < T.size := by omega
  have z40 : 40 < T.size := by omega
  have z41 : 41 < T.size := by omega
  have QZ := Aside0.mk hsz
  clear hsz
  have QM := Aside0.mk M
  have QE := Aside0.mk E
  have QG := Aside0.mk hG
  have QD := Aside0.mk hd
  have QP := Aside0.mk hp
  have p := M.pc
  have pz := M.pz
  obtain ⟨y, cj, zj, ey⟩ := M.at 6 (by omega)
  clear hG hd hp M E
  have hx : ((V / 262144).tmod 8 : Int) = numD D (3 * 6) 3 := pc_mid (t := 4 - 4) (QG.out (by omega)) QE.out.db (by omega) 18 3 262144 8 (by decide) (by decide) (by omega)
  have HX := Aside0.mk hx
  clear hx
  go_wp2
  exact St.whole QE.out hBh QM.out QG.out QD.out HX.out ⟨by simp [QZ.out], by simp [h0], by simp [h1], by simp [h4]⟩
set_option maxHeartbeats 4000000 in
set_option maxRecDepth 100000 in
theorem r3_9 (g h n c oc B : Nat) (A : Addr) (D : Nat → Int) (w0 w : World) (T : Array Value) (E : Env0 g h w0.heap.size n c A D) (hn : 12 ≤ n) (hBg : B ≤ g) (hBh : B ≤ h) (hBw : B ≤ w0.heap.size) (S : St 3 185 w0 g h n c oc B A D 4 7 0 T w) (K : Act → World → Prop) (R : Ending → World → Prop)
    (hk : ∀ T' w', St 3 185 w0 g h n c oc B A D 4 8 0 T' w' → K ⟨T', []⟩ w') :
    (regionOf Tryd.f32 9).wp Tryd.prog (Exit.then K (bodyPost Tryd.prog Tryd.f32 R)) ⟨T, []⟩ w := by
  conv => arg 2; whnf
  obtain ⟨hsz, h0, h1, h4, f, V, M, hG, hd, hp⟩ := S
  have z42 : 42 < T.size := by omega
  have z43 : 43 < T.size := by omega
  have z44 : 44 < T.size := by omega
  have z45 : 45 < T.size := by omega
  have z46 : 46 < T.size := by omega
  have QZ := Aside0.mk hsz
  clear hsz
  have QM := Aside0.mk M
  have QE := Aside0.mk E
  have QG := Aside0.mk hG
  have QD := Aside0.mk hd
  have QP := Aside0.mk hp
  have p := M.pc
  have pz := M.pz
  obtain ⟨y, cj, zj, ey⟩ := M.at 7 (by omega)
  clear hG hd hp M E
  have hx : ((V / 2097152).tmod 8 : Int) = numD D (3 * 7) 3 := pc_mid (t := 4 - 4) (QG.out (by omega)) QE.out.db (by omega) 21 3 2097152 8 (by decide) (by decide) (by omega)
  have HX := Aside0.mk hx
  clear hx
  go_wp2
  exact St.whole QE.out hBh QM.out QG.out QD.out HX.out ⟨by simp [QZ.out], by simp [h0], by simp [h1], by simp [h4]⟩
set_option maxHeartbeats 4000000 in
set_option maxRecDepth 100000 in
theorem r3_10 (g h n c oc B : Nat) (A : Addr) (D : Nat → Int) (w0 w : World) (T : Array Value) (E : Env0 g h w0.heap.size n c A D) (hn : 12 ≤ n) (hBg : B ≤ g) (hBh : B ≤ h) (hBw : B ≤ w0.heap.size) (S : St 3 185 w0 g h n c oc B A D 4 8 0 T w) (K : Act → World → Prop) (R : Ending → World → Prop)
    (hk : ∀ T' w', St 3 185 w0 g h n c oc B A D 4 9 0 T' w' → K ⟨T', []⟩ w') :
    (regionOf Tryd.f32 10).wp Tryd.prog (Exit.then K (bodyPost Tryd.prog Tryd.f32 R)) ⟨T, []⟩ w := by
  conv => arg 2; whnf
  obtain ⟨hsz, h0, h1, h4, f, V, M, hG, hd, hp⟩ := S
  have z47 : 47 < T.size := by omega
  have z48 : 48 < T.size := by omega
  have z49 : 49 < T.size := by omega
  have z50 : 50 < T.size := by omega
  have z51 : 51 < T.size := by omega
  have QZ := Aside0.mk hsz
  clear hsz
  have QM := Aside0.mk M
  have QE := Aside0.mk E
  have QG := Aside0.mk hG
  have QD := Aside0.mk hd
  have QP := Aside0.mk hp
  have p := M.pc
  have pz := M.pz
  obtain ⟨y, cj, zj, ey⟩ := M.at 8 (by omega)
  clear hG hd hp M E
  have hx : ((V / 16777216).tmod 8 : Int) = numD D (3 * 8) 3 := pc_mid (t := 4 - 4) (QG.out (by omega)) QE.out.db (by omega) 24 3 16777216 8 (by decide) (by decide) (by omega)
  have HX := Aside0.mk hx
  clear hx
  go_wp2
  exact St.whole QE.out hBh QM.out QG.out QD.out HX.out ⟨by simp [QZ.out], by simp [h0], by simp [h1], by simp [h4]⟩
set_option maxHeartbeats 4000000 in
set_option maxRecDepth 100000 in
theorem r3_11 (g h n c oc B : Nat) (A : Addr) (D : Nat → Int) (w0 w : World) (T : Array Value) (E : Env0 g h w0.heap.size n c A D) (hn : 12 ≤ n) (hBg : B ≤ g) (hBh : B ≤ h) (hBw : B ≤ w0.heap.size) (S : St 3 185 w0 g h n c oc B A D 4 9 0 T w) (K : Act → World → Prop) (R : Ending → World → Prop)
    (hk : ∀ T' w', St 3 185 w0 g h n c oc B A D 4 10 0 T' w' → K ⟨T', []⟩ w') :
    (regionOf Tryd.f32 11).wp Tryd.prog (Exit.then K (bodyPost Tryd.prog Tryd.f32 R)) ⟨T, []⟩ w := by
  conv => arg 2; whnf
  obtain ⟨hsz, h0, h1, h4, f, V, M, hG, hd, hp⟩ := S
  have z52 : 52 < T.size := by omega
  have z53 : 53 < T.size := by omega
  have z54 : 54 < T.size := by omega
  have z55 : 55 < T.size := by omega
  have z56 : 56 < T.size := by omega
  have QZ := Aside0.mk hsz
  clear hsz
  have QM := Aside0.mk M
  have QE := Aside0.mk E
  have QG := Aside0.mk hG
  have QD := Aside0.mk hd
  have QP := Aside0.mk hp
  have p := M.pc
  have pz := M.pz
  obtain ⟨y, cj, zj, ey⟩ := M.at 9 (by omega)
  clear hG hd hp M E
  have hx : ((V / 134217728).tmod 8 : Int) = numD D (3 * 9) 3 := pc_mid (t := 4 - 4) (QG.out (by omega)) QE.out.db (by omega) 27 3 134217728 8 (by decide) (by decide) (by omega)
  have HX := Aside0.mk hx
  clear hx
  go_wp2
  exact St.whole QE.out hBh QM.out QG.out QD.out HX.out ⟨by simp [QZ.out], by simp [h0], by simp [h1], by simp [h4]⟩
set_option maxHeartbeats 4000000 in
set_option maxRecDepth 100000 in
theorem r3_12 (g h n c oc B : Nat) (A : Addr) (D : Nat → Int) (w0 w : World) (T : Array Value) (E : Env0 g h w0.heap.size n c A D) (hn : 12 ≤ n) (hBg : B ≤ g) (hBh : B ≤ h) (hBw : B ≤ w0.heap.size) (S : St 3 185 w0 g h n c oc B A D 4 10 0 T w) (K : Act → World → Prop) (R : Ending → World → Prop)
    (hk : ∀ T' w', St 3 185 w0 g h n c oc B A D 4 10 2 T' w' → K ⟨T', []⟩ w') :
    (regionOf Tryd.f32 12).wp Tryd.prog (Exit.then K (bodyPost Tryd.prog Tryd.f32 R)) ⟨T, []⟩ w := by
  conv => arg 2; whnf
  obtain ⟨hsz, h0, h1, h4, f, V, M, hG, hd, hp⟩ := S
  have z57 : 57 < T.size := by omega
  have z58 : 58 < T.size := by omega
  have z59 : 59 < T.size := by omega
  have z60 : 60 < T.size := by omega
  have QZ := Aside0.mk hsz
  clear hsz
  have QM := Aside0.mk M
  have QE := Aside0.mk E
  have QG := Aside0.mk hG
  have QD := Aside0.mk hd
  have QP := Aside0.mk hp
  have p := M.pc
  have pz := M.pz
  obtain ⟨y, cj, zj, ey⟩ := M.at 10 (by omega)
  clear hG hd hp M E
  have hx : (V / 1073741824 : Int) = numD D (3 * 10) 2 := pc_last (t := 4 - 4) (QG.out (by omega)) QE.out.db (by omega) 30 2 1073741824 (by decide) (by omega)
  have HX := Aside0.mk hx
  clear hx
  go_wp2
  exact St.part QE.out hBh QM.out QG.out QD.out HX.out ⟨by simp [QZ.out], by simp [h0], by simp [h1], by simp [h4]⟩
set_option maxHeartbeats 4000000 in
set_option maxRecDepth 100000 in
theorem r3_13 (g h n c oc B : Nat) (A : Addr) (D : Nat → Int) (w0 w : World) (T : Array Value) (E : Env0 g h w0.heap.size n c A D) (hn : 12 ≤ n) (hBg : B ≤ g) (hBh : B ≤ h) (hBw : B ≤ w0.heap.size) (S : St 3 185 w0 g h n c oc B A D 4 10 2 T w) (K : Act → World → Prop) (R : Ending → World → Prop)
    (hk : ∀ T' w', St 3 185 w0 g h n c oc B A D 8 10 2 T' w' → K ⟨T', []⟩ w') :
    (regionOf Tryd.f32 13).wp Tryd.prog (Exit.then K (bodyPost Tryd.prog Tryd.f32 R)) ⟨T, []⟩ w := by
  conv => arg 2; whnf
  obtain ⟨hsz, h0, h1, h4, f, V, M, hG, hd, hp⟩ := S
  have z61 : 61 < T.size := by omega
  have z62 : 62 < T.size := by omega
  have QZ := Aside0.mk hsz
  clear hsz
  have QM := Aside0.mk M
  have QE := Aside0.mk E
  have QG := Aside0.mk hG
  have QD := Aside0.mk hd
  have QP := Aside0.mk hp
  have hi : 4 + 4 ≤ n := by omega
  have C := fun (Q : Ending → World → Prop) k => Mid.goS (Q := Q) (oc := oc) (nt := 185) QE.out hBg hBw hi QM.out QD.out QP.out k
  have C := Aside0.mk C
  clear hG hd hp M E hi
  go_wp2_with (go_at_call 40; refine C.out _ ?_; intro w' HS; have HS := Aside0.mk HS)
  exact HS.out _ (by simp [QZ.out]) (by simp [h0]) (by simp [h1]) (by simp [h4])
set_option maxHeartbeats 4000000 in
set_option maxRecDepth 100000 in
theorem r3_14 (g h n c oc B : Nat) (A : Addr) (D : Nat → Int) (w0 w : World) (T : Array Value) (E : Env0 g h w0.heap.size n c A D) (hn : 12 ≤ n) (hBg : B ≤ g) (hBh : B ≤ h) (hBw : B ≤ w0.heap.size) (S : St 3 185 w0 g h n c oc B A D 8 10 2 T w) (K : Act → World → Prop) (R : Ending → World → Prop)
    (hk : ∀ T' w', St 3 185 w0 g h n c oc B A D 8 11 0 T' w' → K ⟨T', []⟩ w') :
    (regionOf Tryd.f32 14).wp Tryd.prog (Exit.then K (bodyPost Tryd.prog Tryd.f32 R)) ⟨T, []⟩ w := by
  conv => arg 2; whnf
  obtain ⟨hsz, h0, h1, h4, f, V, M, hG, hd, hp⟩ := S
  have z63 : 63 < T.size := by omega
  have z64 : 64 < T.size := by omega
  have z65 : 65 < T.size := by omega
  have z66 : 66 < T.size := by omega
  have z67 : 67 < T.size := by omega
  have z68 : 68 < T.size := by omega
  have z69 : 69 < T.size := by omega
  have z70 : 70 < T.size := by omega
  have QZ := Aside0.mk hsz
  clear hsz
  have QM := Aside0.mk M
  have QE := Aside0.mk E
  have QG := Aside0.mk hG
  have QD := Aside0.mk hd
  have QP := Aside0.mk hp
  have p := M.pc
  have pz := M.pz
  obtain ⟨y, cj, zj, ey⟩ := M.at 10 (by omega)
  clear hG hd hp M E
  have mixed : Tryd.prog.follows .mixedOrders = true := by kernel_rfl
  have hx : (Go.bits .or .u32 y (IntKind.u32.wrap (V.tmod 2 * 4)) : Int) = numD D (3 * 10) 3 := pc_two' (t := 8 - 4) (QG.out (by omega)) QE.out.db (by omega) (3 * 10) 2 1 2 4 (by decide) (by decide) (by omega) (by omega) (ey.out.trans (QP.out (by omega)))
  have HX := Aside0.mk hx
  clear hx
  go_region
  all_goals exact hk _ _ (St.whole_d QE.out hBh QM.out QG.out QD.out HX.out ⟨by simp [QZ.out], by simp [h0], by simp [h1], by simp [h4]⟩)
set_option maxHeartbeats 4000000 in
set_option maxRecDepth 100000 in
theorem r3_15 (g h n c oc B : Nat) (A : Addr) (D : Nat → Int) (w0 w : World) (T : Array Value) (E : Env0 g h w0.heap.size n c A D) (hn : 12 ≤ n) (hBg : B ≤ g) (hBh : B ≤ h) (hBw : B ≤ w0.heap.size) (S : St 3 185 w0 g h n c oc B A D 8 11 0 T w) (K : Act → World → Prop) (R : Ending → World → Prop)
    (hk : ∀ T' w', St 3 185 w0 g h n c oc B A D 8 12 0 T' w' → K ⟨T', []⟩ w') :
    (regionOf Tryd.f32 15).wp Tryd.prog (Exit.then K (bodyPost Tryd.prog Tryd.f32 R)) ⟨T, []⟩ w := by
  conv => arg 2; whnf
  obtain ⟨hsz, h0, h1, h4, f, V, M, hG, hd, hp⟩ := S
  have z71 : 71 < T.size := by omega
  have z72 : 72 < T.size := by omega
  have z73 : 73 < T.size := by omega
  have z74 : 74 < T.size := by omega
  have z75 : 75 < T.size := by omega
  have QZ := Aside0.mk hsz
  clear hsz
  have QM := Aside0.mk M
  have QE := Aside0.mk E
  have QG := Aside0.mk hG
  have QD := Aside0.mk hd
  have QP := Aside0.mk hp
  have p := M.pc
  have pz := M.pz
  obtain ⟨y, cj, zj, ey⟩ := M.at 11 (by omega)
  clear hG hd hp M E
  have hx : ((V / 2).tmod 8 : Int) = numD D (3 * 11) 3 := pc_mid (t := 8 - 4) (QG.out (by omega)) QE.out.db (by omega) 1 3 2 8 (by decide) (by decide) (by omega)
  have HX := Aside0.mk hx
  clear hx
  go_wp2
  exact St.whole QE.out hBh QM.out QG.out QD.out HX.out ⟨by simp [QZ.out], by simp [h0], by simp [h1], by simp [h4]⟩
set_option maxHeartbeats 4000000 in
set_option maxRecDepth 100000 in
theorem r3_16 (g h n c oc B : Nat) (A : Addr) (D : Nat → Int) (w0 w : World) (T : Array Value) (E : Env0 g h w0.heap.size n c A D) (hn : 12 ≤ n) (hBg : B ≤ g) (hBh : B ≤ h) (hBw : B ≤ w0.heap.size) (S : St 3 185 w0 g h n c oc B A D 8 12 0 T w) (K : Act → World → Prop) (R : Ending → World → Prop)
    (hk : ∀ T' w', St 3 185 w0 g h n c oc B A D 8 13 0 T' w' → K ⟨T', []⟩ w') :
    (regionOf Tryd.f32 16).wp Tryd.prog (Exit.then K (bodyPost Tryd.prog Tryd.f32 R)) ⟨T, []⟩ w := by
  conv => arg 2; whnf
  obtain ⟨hsz, h0, h1, h4, f, V, M, hG, hd, hp⟩ := S
  have z76 : 76 < T.size := by omega
  have z77 : 77 < T.size := by omega
  have z78 : 78 < T.size := by omega
  have z79 : 79 < T.size := by omega
  have z80 : 80 < T.size := by omega
  have QZ := Aside0.mk hsz
  clear hsz
  have QM := Aside0.mk M
  have QE := Aside0.mk E
  have QG := Aside0.mk hG
  have QD := Aside0.mk hd
  have QP := Aside0.mk hp
  have p := M.pc
  have pz := M.pz
  obtain ⟨y, cj, zj, ey⟩ := M.at 12 (by omega)
  clear hG hd hp M E
  have hx : ((V / 16).tmod 8 : Int) = numD D (3 * 12) 3 := pc_mid (t := 8 - 4) (QG.out (by omega)) QE.out.db (by omega) 4 3 16 8 (by decide) (by decide) (by omega)
  have HX := Aside0.mk hx
  clear hx
  go_wp2
  exact St.whole QE.out hBh QM.out QG.out QD.out HX.out ⟨by simp [QZ.out], by simp [h0], by simp [h1], by simp [h4]⟩
set_option maxHeartbeats 4000000 in
set_option maxRecDepth 100000 in
theorem r3_17 (g h n c oc B : Nat) (A : Addr) (D : Nat → Int) (w0 w : World) (T : Array Value) (E : Env0 g h w0.heap.size n c A D) (hn : 12 ≤ n) (hBg : B ≤ g) (hBh : B ≤ h) (hBw : B ≤ w0.heap.size) (S : St 3 185 w0 g h n c oc B A D 8 13 0 T w) (K : Act → World → Prop) (R : Ending → World → Prop)
    (hk : ∀ T' w', St 3 185 w0 g h n c oc B A D 8 14 0 T' w' → K ⟨T', []⟩ w') :
    (regionOf Tryd.f32 17).wp Tryd.prog (Exit.then K (bodyPost Tryd.prog Tryd.f32 R)) ⟨T, []⟩ w := by
  conv => arg 2; whnf
  obtain ⟨hsz, h0, h1, h4, f, V, M, hG, hd, hp⟩ := S
  have z81 : 81 < T.size := by omega
  have z82 : 82 < T.size := by omega
  have z83 : 83 < T.size := by omega
  have z84 : 84 < T.size := by omega
  have z85 : 85 < T.size := by omega
  have QZ := Aside0.mk hsz
  clear hsz
  have QM := Aside0.mk M
  have QE := Aside0.mk E
  have QG := Aside0.mk hG
  have QD := Aside0.mk hd
  have QP := Aside0.mk hp
  have p := M.pc
  have pz := M.pz
  obtain ⟨y, cj, zj, ey⟩ := M.at 13 (by omega)
  clear hG hd hp M E
  have hx : ((V / 128).tmod 8 : Int) = numD D (3 * 13) 3 := pc_mid (t := 8 - 4) (QG.out (by omega)) QE.out.db (by omega) 7 3 128 8 (by decide) (by decide) (by omega)
  have HX := Aside0.mk hx
  clear hx
  go_wp2
  exact St.whole QE.out hBh QM.out QG.out QD.out HX.out ⟨by simp [QZ.out], by simp [h0], by simp [h1], by simp [h4]⟩
set_option maxHeartbeats 4000000 in
set_option maxRecDepth 100000 in
theorem r3_18 (g h n c oc B : Nat) (A : Addr) (D : Nat → Int) (w0 w : World) (T : Array Value) (E : Env0 g h w0.heap.size n c A D) (hn : 12 ≤ n) (hBg : B ≤ g) (hBh : B ≤ h) (hBw : B ≤ w0.heap.size) (S : St 3 185 w0 g h n c oc B A D 8 14 0 T w) (K : Act → World → Prop) (R : Ending → World → Prop)
    (hk : ∀ T' w', St 3 185 w0 g h n c oc B A D 8 15 0 T' w' → K ⟨T', []⟩ w') :
    (regionOf Tryd.f32 18).wp Tryd.prog (Exit.then K (bodyPost Tryd.prog Tryd.f32 R)) ⟨T, []⟩ w := by
  conv => arg 2; whnf
  obtain ⟨hsz, h0, h1, h4, f, V, M, hG, hd, hp⟩ := S
  have z86 : 86 < T.size := by omega
  have z87 : 87 < T.size := by omega
  have z88 : 88 < T.size := by omega
  have z89 : 89 < T.size := by omega
  have z90 : 90 < T.size := by omega
  have QZ := Aside0.mk hsz
  clear hsz
  have QM := Aside0.mk M
  have QE := Aside0.mk E
  have QG := Aside0.mk hG
  have QD := Aside0.mk hd
  have QP := Aside0.mk hp
  have p := M.pc
  have pz := M.pz
  obtain ⟨y, cj, zj, ey⟩ := M.at 14 (by omega)
  clear hG hd hp M E
  have hx : ((V / 1024).tmod 8 : Int) = numD D (3 * 14) 3 := pc_mid (t := 8 - 4) (QG.out (by omega)) QE.out.db (by omega) 10 3 1024 8 (by decide) (by decide) (by omega)
  have HX := Aside0.mk hx
  clear hx
  go_wp2
  exact St.whole QE.out hBh QM.out QG.out QD.out HX.out ⟨by simp [QZ.out], by simp [h0], by simp [h1], by simp [h4]⟩
set_option maxHeartbeats 4000000 in
set_option maxRecDepth 100000 in
theorem r3_19 (g h n c oc B : Nat) (A : Addr) (D : Nat → Int) (w0 w : World) (T : Array Value) (E : Env0 g h w0.heap.size n c A D) (hn : 12 ≤ n) (hBg : B ≤ g) (hBh : B ≤ h) (hBw : B ≤ w0.heap.size) (S : St 3 185 w0 g h n c oc B A D 8 15 0 T w) (K : Act → World → Prop) (R : Ending → World → Prop)
    (hk : ∀ T' w', St 3 185 w0 g h n c oc B A D 8 16 0 T' w' → K ⟨T', []⟩ w') :
    (regionOf Tryd.f32 19).wp Tryd.prog (Exit.then K (bodyPost Tryd.prog Tryd.f32 R)) ⟨T, []⟩ w := by
  conv => arg 2; whnf
  obtain ⟨hsz, h0, h1, h4, f, V, M, hG, hd, hp⟩ := S
  have z91 : 91 < T.size := by omega
  have z92 : 92 < T.size := by omega
  have z93 : 93 < T.size := by omega
  have z94 : 94 < T.size := by omega
  have z95 : 95 < T.size := by omega
  have QZ := Aside0.mk hsz
  clear hsz
  have QM := Aside0.mk M
  have QE := Aside0.mk E
  have QG := Aside0.mk hG
  have QD := Aside0.mk hd
  have QP := Aside0.mk hp
  have p := M.pc
  have pz := M.pz
  obtain ⟨y, cj, zj, ey⟩ := M.at 15 (by omega)
  clear hG hd hp M E
  have hx : ((V / 8192).tmod 8 : Int) = numD D (3 * 15) 3 := pc_mid (t := 8 - 4) (QG.out (by omega)) QE.out.db (by omega) 13 3 8192 8 (by decide) (by decide) (by omega)
  have HX := Aside0.mk hx
  clear hx
  go_wp2
  exact St.whole QE.out hBh QM.out QG.out QD.out HX.out ⟨by simp [QZ.out], by simp [h0], by simp [h1], by simp [h4]⟩
set_option maxHeartbeats 4000000 in
set_option maxRecDepth 100000 in
theorem r3_20 (g h n c oc B : Nat) (A : Addr) (D : Nat → Int) (w0 w : World) (T : Array Value) (E : Env0 g h w0.heap.size n c A D) (hn : 12 ≤ n) (hBg : B ≤ g) (hBh : B ≤ h) (hBw : B ≤ w0.heap.size) (S : St 3 185 w0 g h n c oc B A D 8 16 0 T w) (K : Act → World → Prop) (R : Ending → World → Prop)
    (hk : ∀ T' w', St 3 185 w0 g h n c oc B A D 8 17 0 T' w' → K ⟨T', []⟩ w') :
    (regionOf Tryd.f32 20).wp Tryd.prog (Exit.then K (bodyPost Tryd.prog Tryd.f32 R)) ⟨T, []⟩ w := by
  conv => arg 2; whnf
  obtain ⟨hsz, h0, h1, h4, f, V, M, hG, hd, hp⟩ := S
  have z96 : 96 < T.size := by omega
  have z97 : 97 < T.size := by omega
  have z98 : 98 < T.size := by omega
  have z99 : 99 < T.size := by omega
  have z100 : 100 < T.size := by omega
  have QZ := Aside0.mk hsz
  clear hsz
  have QM := Aside0.mk M
  have QE := Aside0.mk E
  have QG := Aside0.mk hG
  have QD := Aside0.mk hd
  have QP := Aside0.mk hp
  have p := M.pc
  have pz := M.pz
  obtain ⟨y, cj, zj, ey⟩ := M.at 16 (by omega)
  clear hG hd hp M E
  have hx : ((V / 65536).tmod 8 : Int) = numD D (3 * 16) 3 := pc_mid (t := 8 - 4) (QG.out (by omega)) QE.out.db (by omega) 16 3 65536 8 (by decide) (by decide) (by omega)
  have HX := Aside0.mk hx
  clear hx
  go_wp2
  exact St.whole QE.out hBh QM.out QG.out QD.out HX.out ⟨by simp [QZ.out], by simp [h0], by simp [h1], by simp [h4]⟩
set_option maxHeartbeats 4000000 in
set_option maxRecDepth 100000 in
theorem r3_21 (g h n c oc B : Nat) (A : Addr) (D : Nat → Int) (w0 w : World) (T : Array Value) (E : Env0 g h w0.heap.size n c A D) (hn : 12 ≤ n) (hBg : B ≤ g) (hBh : B ≤ h) (hBw : B ≤ w0.heap.size) (S : St 3 185 w0 g h n c oc B A D 8 17 0 T w) (K : Act → World → Prop) (R : Ending → World → Prop)
    (hk : ∀ T' w', St 3 185 w0 g h n c oc B A D 8 18 0 T' w' → K ⟨T', []⟩ w') :
    (regionOf Tryd.f32 21).wp Tryd.prog (Exit.then K (bodyPost Tryd.prog Tryd.f32 R)) ⟨T, []⟩ w := by
  conv => arg 2; whnf
  obtain ⟨hsz, h0, h1, h4, f, V, M, hG, hd, hp⟩ := S
  have z101 : 101 < T.size := by omega
  have z102 : 102 < T.size := by omega
  have z103 : 103 < T.size := by omega
  have z104 : 104 < T.size := by omega
  have z105 : 105 < T.size := by omega
  have QZ := Aside0.mk hsz
  clear hsz
  have QM := Aside0.mk M
  have QE := Aside0.mk E
  have QG := Aside0.mk hG
  have QD := Aside0.mk hd
  have QP := Aside0.mk hp
  have p := M.pc
  have pz := M.pz
  obtain ⟨y, cj, zj, ey⟩ := M.at 17 (by omega)
  clear hG hd hp M E
  have hx : ((V / 524288).tmod 8 : Int) = numD D (3 * 17) 3 := pc_mid (t := 8 - 4) (QG.out (by omega)) QE.out.db (by omega) 19 3 524288 8 (by decide) (by decide) (by omega)
  have HX := Aside0.mk hx
  clear hx
  go_wp2
  exact St.whole QE.out hBh QM.out QG.out QD.out HX.out ⟨by simp [QZ.out], by simp [h0], by simp [h1], by simp [h4]⟩
set_option maxHeartbeats 4000000 in
set_option maxRecDepth 100000 in
theorem r3_22 (g h n c oc B : Nat) (A : Addr) (D : Nat → Int) (w0 w : World) (T : Array Value) (E : Env0 g h w0.heap.size n c A D) (hn : 12 ≤ n) (hBg : B ≤ g) (hBh : B ≤ h) (hBw : B ≤ w0.heap.size) (S : St 3 185 w0 g h n c oc B A D 8 18 0 T w) (K : Act → World → Prop) (R : Ending → World → Prop)
    (hk : ∀ T' w', St 3 185 w0 g h n c oc B A D 8 19 0 T' w' → K ⟨T', []⟩ w') :
    (regionOf Tryd.f32 22).wp Tryd.prog (Exit.then K (bodyPost Tryd.prog Tryd.f32 R)) ⟨T, []⟩ w := by
  conv => arg 2; whnf
  obtain ⟨hsz, h0, h1, h4, f, V, M, hG, hd, hp⟩ := S
  have z106 : 106 < T.size := by omega
  have z107 : 107 < T.size := by omega
  have z108 : 108 < T.size := by omega
  have z109 : 109 < T.size := by omega
  have z110 : 110 < T.size := by omega
  have QZ := Aside0.mk hsz
  clear hsz
  have QM := Aside0.mk M
  have QE := Aside0.mk E
  have QG := Aside0.mk hG
  have QD := Aside0.mk hd
  have QP := Aside0.mk hp
  have p := M.pc
  have pz := M.pz
  obtain ⟨y, cj, zj, ey⟩ := M.at 18 (by omega)
  clear hG hd hp M E
  have hx : ((V / 4194304).tmod 8 : Int) = numD D (3 * 18) 3 := pc_mid (t := 8 - 4) (QG.out (by omega)) QE.out.db (by omega) 22 3 4194304 8 (by decide) (by decide) (by omega)
  have HX := Aside0.mk hx
  clear hx
  go_wp2
  exact St.whole QE.out hBh QM.out QG.out QD.out HX.out ⟨by simp [QZ.out], by simp [h0], by simp [h1], by simp [h4]⟩
set_option maxHeartbeats 4000000 in
set_option maxRecDepth 100000 in
theorem r3_23 (g h n c oc B : Nat) (A : Addr) (D : Nat → Int) (w0 w : World) (T : Array Value) (E : Env0 g h w0.heap.size n c A D) (hn : 12 ≤ n) (hBg : B ≤ g) (hBh : B ≤ h) (hBw : B ≤ w0.heap.size) (S : St 3 185 w0 g h n c oc B A D 8 19 0 T w) (K : Act → World → Prop) (R : Ending → World → Prop)
    (hk : ∀ T' w', St 3 185 w0 g h n c oc B A D 8 20 0 T' w' → K ⟨T', []⟩ w') :
    (regionOf Tryd.f32 23).wp Tryd.prog (Exit.then K (bodyPost Tryd.prog Tryd.f32 R)) ⟨T, []⟩ w := by
  conv => arg 2; whnf
  obtain ⟨hsz, h0, h1, h4, f, V, M, hG, hd, hp⟩ := S
  have z111 : 111 < T.size := by omega
  have z112 : 112 < T.size := by omega
  have z113 : 113 < T.size := by omega
  have z114 : 114 < T.size := by omega
  have z115 : 115 < T.size := by omega
  have QZ := Aside0.mk hsz
  clear hsz
  have QM := Aside0.mk M
  have QE := Aside0.mk E
  have QG := Aside0.mk hG
  have QD := Aside0.mk hd
  have QP := Aside0.mk hp
  have p := M.pc
  have pz := M.pz
  obtain ⟨y, cj, zj, ey⟩ := M.at 19 (by omega)
  clear hG hd hp M E
  have hx : ((V / 33554432).tmod 8 : Int) = numD D (3 * 19) 3 := pc_mid (t := 8 - 4) (QG.out (by omega)) QE.out.db (by omega) 25 3 33554432 8 (by decide) (by decide) (by omega)
  have HX := Aside0.mk hx
  clear hx
  go_wp2
  exact St.whole QE.out hBh QM.out QG.out QD.out HX.out ⟨by simp [QZ.out], by simp [h0], by simp [h1], by simp [h4]⟩
set_option maxHeartbeats 4000000 in
set_option maxRecDepth 100000 in
theorem r3_24 (g h n c oc B : Nat) (A : Addr) (D : Nat → Int) (w0 w : World) (T : Array Value) (E : Env0 g h w0.heap.size n c A D) (hn : 12 ≤ n) (hBg : B ≤ g) (hBh : B ≤ h) (hBw : B ≤ w0.heap.size) (S : St 3 185 w0 g h n c oc B A D 8 20 0 T w) (K : Act → World → Prop) (R : Ending → World → Prop)
    (hk : ∀ T' w', St 3 185 w0 g h n c oc B A D 8 21 0 T' w' → K ⟨T', []⟩ w') :
    (regionOf Tryd.f32 24).wp Tryd.prog (Exit.then K (bodyPost Tryd.prog Tryd.f32 R)) ⟨T, []⟩ w := by
  conv => arg 2; whnf
  obtain ⟨hsz, h0, h1, h4, f, V, M, hG, hd, hp⟩ := S
  have z116 : 116 < T.size := by omega
  have z117 : 117 < T.size := by omega
  have z118 : 118 < T.size := by omega
  have z119 : 119 < T.size := by omega
  have z120 : 120 < T.size := by omega
  have QZ := Aside0.mk hsz
  clear hsz
  have QM := Aside0.mk M
  have QE := Aside0.mk E
  have QG := Aside0.mk hG
  have QD := Aside0.mk hd
  have QP := Aside0.mk hp
  have p := M.pc
  have pz := M.pz
  obtain ⟨y, cj, zj, ey⟩ := M.at 20 (by omega)
  clear hG hd hp M E
  have hx : ((V / 268435456).tmod 8 : Int) = numD D (3 * 20) 3 := pc_mid (t := 8 - 4) (QG.out (by omega)) QE.out.db (by omega) 28 3 268435456 8 (by decide) (by decide) (by omega)
  have HX := Aside0.mk hx
  clear hx
  go_wp2
  exact St.whole QE.out hBh QM.out QG.out QD.out HX.out ⟨by simp [QZ.out], by simp [h0], by simp [h1], by simp [h4]⟩
end Go.Proofs.YtblmpfhjghcddaaDoor.QU
