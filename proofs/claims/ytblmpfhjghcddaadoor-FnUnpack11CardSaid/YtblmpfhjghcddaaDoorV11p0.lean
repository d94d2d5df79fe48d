/- What the regions of unpack11_32 do, one by one, to the state between them. Printed by gen_regs.py of this session. -/
import Derived.Test.YtblmpfhjghcddaaDoorU8
namespace Go.Proofs.YtblmpfhjghcddaaDoor.QU
open Go.RowKit Go.Proofs.YtblmpfhjghcddaaDoorW.PrintWords Go.Proofs.YtblmpfhjghcddaaDoorW.PrintLast Go.Proofs.YtblmpfhjghcddaaDoorW.PrintMore
set_option linter.unusedVariables false
set_option linter.unusedSimpArgs false
set_option maxHeartbeats 4000000 in
set_option maxRecDepth 100000 in
theorem r11_1 (g h n c oc B : Nat) (A : Addr) (D : Nat → Int) (w0 w : World) (T : Array Value) (E : Env0 g h w0.heap.size n c A D) (hn : 44 ≤ n) (hBg : B ≤ g) (hBh : B ≤ h) (hBw : B ≤ w0.heap.size) (S : St 11 256 w0 g h n c oc B A D 0 0 0 T w) (K : Act → World → Prop) (R : Ending → World → Prop)
    (hk : ∀ T' w', St 11 256 w0 g h n c oc B A D 4 0 0 T' w' → K ⟨T', []⟩ w') :
    (regionOf Tryd.f34 1).wp Tryd.prog (Exit.then K (bodyPost Tryd.prog Tryd.f34 R)) ⟨T, []⟩ w := by
  conv => arg 2; whnf
  obtain ⟨hsz, h0, h1, h4, f, V, M, hG, hd, hp⟩ := S
  have z5 : 5 < T.size := by omega
  have z6 : 6 < T.size := by omega
  have QZ := Aside0.mk hsz
  clear hsz
  have QM := Aside0.mk M
  have QE := Aside0.mk E
  have QG := Aside0.mk hG
  have QD := Aside0.mk hd
  have QP := Aside0.mk hp
  have hi : 0 + 4 ≤ n := by omega
  have C := fun (Q : Ending → World → Prop) k => Mid.goS (Q := Q) (oc := oc) (nt := 256) QE.out hBg hBw hi QM.out QD.out QP.out k
  have C := Aside0.mk C
  clear hG hd hp M E hi
  go_wp2_with (go_at_call 40; refine C.out _ ?_; intro w' HS; have HS := Aside0.mk HS)
  exact HS.out _ (by simp [QZ.out]) (by simp [h0]) (by simp [h1]) (by simp [h4])
set_option maxHeartbeats 4000000 in
set_option maxRecDepth 100000 in
theorem r11_2 (g h n c oc B : Nat) (A : Addr) (D : Nat → Int) (w0 w : World) (T : Array Value) (E : Env0 g h w0.heap.size n c A D) (hn : 44 ≤ n) (hBg : B ≤ g) (hBh : B ≤ h) (hBw : B ≤ w0.heap.size) (S : St 11 256 w0 g h n c oc B A D 4 0 0 T w) (K : Act → World → Prop) (R : Ending → World → Prop)
    (hk : ∀ T' w', St 11 256 w0 g h n c oc B A D 4 1 0 T' w' → K ⟨T', []⟩ w') :
    (regionOf Tryd.f34 2).wp Tryd.prog (Exit.then K (bodyPost Tryd.prog Tryd.f34 R)) ⟨T, []⟩ w := by
  conv => arg 2; whnf
  obtain ⟨hsz, h0, h1, h4, f, V, M, hG, hd, hp⟩ := S
  have z7 : 7 < T.size := by omega
  have z8 : 8 < T.size := by omega
  have z9 : 9 < T.size := by omega
  have z10 : 10 < T.size := by omega
  have z11 : 11 < T.size := by omega
  have QZ := Aside0.mk hsz
  clear hsz
  have QM := Aside0.mk M
  have QE := Aside0.mk E
  have QG := Aside0.mk hG
  have QD := Aside0.mk hd
  have QP := Aside0.mk hp
  have p := M.pc
  have pz := M.pz
  obtain ⟨y, cj, zj, ey⟩ := M.at 0 (by omega)
  clear hG hd hp M E
  have hx : (V.tmod 2048 : Int) = numD D (11 * 0) 11 := pc_first (t := 4 - 4) (QG.out (by omega)) QE.out.db (by omega) 11 2048 (by decide) (by omega)
  have HX := Aside0.mk hx
  clear hx
  go_wp2
  exact St.whole QE.out hBh QM.out QG.out QD.out HX.out ⟨by simp [QZ.out], by simp [h0], by simp [h1], by simp [h4]⟩
set_option maxHeartbeats 4000000 in
set_option maxRecDepth 100000 in
theorem r11_3 (g h n c oc B : Nat) (A : Addr) (D : Nat → Int) (w0 w : World) (T : Array Value) (E : Env0 g h w0.heap.size n c A D) (hn : 44 ≤ n) (hBg : B ≤ g) (hBh : B ≤ h) (hBw : B ≤ w0.heap.size) (S : St 11 256 w0 g h n c oc B A D 4 1 0 T w) (K : Act → World → Prop) (R : Ending → World → Prop)
    (hk : ∀ T' w', St 11 256 w0 g h n c oc B A D 4 2 0 T' w' → K ⟨T', []⟩ w') :
    (regionOf Tryd.f34 3).wp Tryd.prog (Exit.then K (bodyPost Tryd.prog Tryd.f34 R)) ⟨T, []⟩ w := by
  conv => arg 2; whnf
  obtain ⟨hsz, h0, h1, h4, f, V, M, hG, hd, hp⟩ := S
  have z12 : 12 < T.size := by omega
  have z13 : 13 < T.size := by omega
  have z14 : 14 < T.size := by omega
  have z15 : 15 < T.size := by omega
  have z16 : 16 < T.size := by omega
  have QZ := Aside0.mk hsz
  clear hsz
  have QM := Aside0.mk M
  have QE := Aside0.mk E
  have QG := Aside0.mk hG
  have QD := Aside0.mk hd
  have QP := Aside0.mk hp
  have p := M.pc
  have pz := M.pz
  obtain ⟨y, cj, zj, ey⟩ := M.at 1 (by omega)
  clear hG hd hp M E
  have hx : ((V / 2048).tmod 2048 : Int) = numD D (11 * 1) 11 := pc_mid (t := 4 - 4) (QG.out (by omega)) QE.out.db (by omega) 11 11 2048 2048 (by decide) (by decide) (by omega)
  have HX := Aside0.mk hx
  clear hx
  go_wp2
  exact St.whole QE.out hBh QM.out QG.out QD.out HX.out ⟨by simp [QZ.out], by simp [h0], by simp [h1], by simp [h4]⟩
set_option maxHeartbeats 4000000 in
set_option maxRecDepth 100000 in
theorem r11_4 (g h n c oc B : Nat) (A : Addr) (D : Nat → Int) (w0 w : World) (T : Array Value) (E : Env0 g h w0.heap.size n c A D) (hn : 44 ≤ n) (hBg : B ≤ g) (hBh : B ≤ h) (hBw : B ≤ w0.heap.size) (S : St 11 256 w0 g h n c oc B A D 4 2 0 T w) (K : Act → World → Prop) (R : Ending → World → Prop)
    (hk : ∀ T' w', St 11 256 w0 g h n c oc B A D 4 2 10 T' w' → K ⟨T', []⟩ w') :
    (regionOf Tryd.f34 4).wp Tryd.prog (Exit.then K (bodyPost Tryd.prog Tryd.f34 R)) ⟨T, []⟩ w := by
  conv => arg 2; whnf
  obtain ⟨hsz, h0, h1, h4, f, V, M, hG, hd, hp⟩ := S
  have z17 : 17 < T.size := by omega
  have z18 : 18 < T.size := by omega
  have z19 : 19 < T.size := by omega
  have z20 : 20 < T.size := by omega
  have QZ := Aside0.mk hsz
  clear hsz
  have QM := Aside0.mk M
  have QE := Aside0.mk E
  have QG := Aside0.mk hG
  have QD := Aside0.mk hd
  have QP := Aside0.mk hp
  have p := M.pc
  have pz := M.pz
  obtain ⟨y, cj, zj, ey⟩ := M.at 2 (by omega)
  clear hG hd hp M E
  have hx : (V / 4194304 : Int) = numD D (11 * 2) 10 := pc_last (t := 4 - 4) (QG.out (by omega)) QE.out.db (by omega) 22 10 4194304 (by decide) (by omega)
  have HX := Aside0.mk hx
  clear hx
  go_wp2
  exact St.part QE.out hBh QM.out QG.out QD.out HX.out ⟨by simp [QZ.out], by simp [h0], by simp [h1], by simp [h4]⟩
set_option maxHeartbeats 4000000 in
set_option maxRecDepth 100000 in
theorem r11_5 (g h n c oc B : Nat) (A : Addr) (D : Nat → Int) (w0 w : World) (T : Array Value) (E : Env0 g h w0.heap.size n c A D) (hn : 44 ≤ n) (hBg : B ≤ g) (hBh : B ≤ h) (hBw : B ≤ w0.heap.size) (S : St 11 256 w0 g h n c oc B A D 4 2 10 T w) (K : Act → World → Prop) (R : Ending → World → Prop)
    (hk : ∀ T' w', St 11 256 w0 g h n c oc B A D 8 2 10 T' w' → K ⟨T', []⟩ w') :
    (regionOf Tryd.f34 5).wp Tryd.prog (Exit.then K (bodyPost Tryd.prog Tryd.f34 R)) ⟨T, []⟩ w := by
  conv => arg 2; whnf
  obtain ⟨hsz, h0, h1, h4, f, V, M, hG, hd, hp⟩ := S
  have z21 : 21 < T.size := by omega
  have z22 : 22 < T.size := by omega
  have QZ := Aside0.mk hsz
  clear hsz
  have QM := Aside0.mk M
  have QE := Aside0.mk E
  have QG := Aside0.mk hG
  have QD := Aside0.mk hd
  have QP := Aside0.mk hp
  have hi : 4 + 4 ≤ n := by omega
  have C := fun (Q : Ending → World → Prop) k => Mid.goS (Q := Q) (oc := oc) (nt := 256) QE.out hBg hBw hi QM.out QD.out QP.out k
  have C := Aside0.mk C
  clear hG hd hp M E hi
  go_wp2_with (go_at_call 40; refine C.out _ ?_; intro w' HS; have HS := Aside0.mk HS)
  exact HS.out _ (by simp [QZ.out]) (by simp [h0]) (by simp [h1]) (by simp [h4])
set_option maxHeartbeats 4000000 in
set_option maxRecDepth 100000 in
theorem r11_6 (g h n c oc B : Nat) (A : Addr) (D : Nat → Int) (w0 w : World) (T : Array Value) (E : Env0 g h w0.heap.size n c A D) (hn : 44 ≤ n) (hBg : B ≤ g) (hBh : B ≤ h) (hBw : B ≤ w0.heap.size) (S : St 11 256 w0 g h n c oc B A D 8 2 10 T w) (K : Act → World → Prop) (R : Ending → World → Prop)
    (hk : ∀ T' w', St 11 256 w0 g h n c oc B A D 8 3 0 T' w' → K ⟨T', []⟩ w') :
    (regionOf Tryd.f34 6).wp Tryd.prog (Exit.then K (bodyPost Tryd.prog Tryd.f34 R)) ⟨T, []⟩ w := by
  conv => arg 2; whnf
  obtain ⟨hsz, h0, h1, h4, f, V, M, hG, hd, hp⟩ := S
  have z23 : 23 < T.size := by omega
  have z24 : 24 < T.size := by omega
  have z25 : 25 < T.size := by omega
  have z26 : 26 < T.size := by omega
  have z27 : 27 < T.size := by omega
  have z28 : 28 < T.size := by omega
  have z29 : 29 < T.size := by omega
  have z30 : 30 < T.size := by omega
  have QZ := Aside0.mk hsz
  clear hsz
  have QM := Aside0.mk M
  have QE := Aside0.mk E
  have QG := Aside0.mk hG
  have QD := Aside0.mk hd
  have QP := Aside0.mk hp
  have p := M.pc
  have pz := M.pz
  obtain ⟨y, cj, zj, ey⟩ := M.at 2 (by omega)
  clear hG hd hp M E
  have mixed : Tryd.prog.follows .mixedOrders = true := by kernel_rfl
  have hx : (Go.bits .or .u32 y (IntKind.u32.wrap (V.tmod 2 * 1024)) : Int) = numD D (11 * 2) 11 := pc_two' (t := 8 - 4) (QG.out (by omega)) QE.out.db (by omega) (11 * 2) 10 1 2 1024 (by decide) (by decide) (by omega) (by omega) (ey.out.trans (QP.out (by omega)))
  have HX := Aside0.mk hx
  clear hx
  go_region
  all_goals exact hk _ _ (St.whole_d QE.out hBh QM.out QG.out QD.out HX.out ⟨by simp [QZ.out], by simp [h0], by simp [h1], by simp [h4]⟩)
set_option maxHeartbeats 4000000 in
set_option maxRecDepth 100000 in
theorem r11_7 (g h n c oc B : Nat) (A : Addr) (D : Nat → Int) (w0 w : World) (T : Array Value) (E : Env0 g h w0.heap.size n c A D) (hn : 44 ≤ n) (hBg : B ≤ g) (hBh : B ≤ h) (hBw : B ≤ w0.heap.size) (S : St 11 256 w0 g h n c oc B A D 8 3 0 T w) (K : Act → World → Prop) (R : Ending → World → Prop)
    (hk : ∀ T' w', St 11 256 w0 g h n c oc B A D 8 4 0 T' w' → K ⟨T', []⟩ w') :
    (regionOf Tryd.f34 7).wp Tryd.prog (Exit.then K (bodyPost Tryd.prog Tryd.f34 R)) ⟨T, []⟩ w := by
  conv => arg 2; whnf
  obtain ⟨hsz, h0, h1, h4, f, V, M, hG, hd, hp⟩ := S
  have z31 : 31 < T.size := by omega
  have z32 : 32 < T.size := by omega
  have z33 : 33 < T.size := by omega
  have z34 : 34 < T.size := by omega
  have z35 : 35 < T.size := by omega
  have QZ := Aside0.mk hsz
  clear hsz
  have QM := Aside0.mk M
  have QE := Aside0.mk E
  have QG := Aside0.mk hG
  have QD := Aside0.mk hd
  have QP := Aside0.mk hp
  have p := M.pc
  have pz := M.pz
  obtain ⟨y, cj, zj, ey⟩ := M.at 3 (by omega)
  clear hG hd hp M E
  have hx : ((V / 2).tmod 2048 : Int) = numD D (11 * 3) 11 := pc_mid (t := 8 - 4) (QG.out (by omega)) QE.out.db (by omega) 1 11 2 2048 (by decide) (by decide) (by omega)
  have HX := Aside0.mk hx
  clear hx
  go_wp2
  exact St.whole QE.out hBh QM.out QG.out QD.out HX.out ⟨by simp [QZ.out], by simp [h0], by simp [h1], by simp [h4]⟩
set_option maxHeartbeats 4000000 in
set_option maxRecDepth 100000 in
theorem r11_8 (g h n c oc B : Nat) (A : Addr) (D : Nat → Int) (w0 w : World) (T : Array Value) (E : Env0 g h w0.heap.size n c A D) (hn : 44 ≤ n) (hBg : B ≤ g) (hBh : B ≤ h) (hBw : B ≤ w0.heap.size) (S : St 11 256 w0 g h n c oc B A D 8 4 0 T w) (K : Act → World → Prop) (R : Ending → World → Prop)
    (hk : ∀ T' w', St 11 256 w0 g h n c oc B A D 8 5 0 T' w' → K ⟨T', []⟩ w') :
    (regionOf Tryd.f34 8).wp Tryd.prog (Exit.then K (bodyPost Tryd.prog Tryd.f34 R)) ⟨T, []⟩ w := by
  conv => arg 2; whnf
  obtain ⟨hsz, h0, h1, h4, f, V, M, hG, hd, hp⟩ := S
  have z36 : 36 < T.size := by omega
  have z37 : 37 < T.size := by omega
  have z38 : 38 < T.size := by omega
  have z39 : 39 < T.size := by omega
  have z40 : 40 < T.size := by omega
  have QZ := Aside0.mk hsz
  clear hsz
  have QM := Aside0.mk M
  have QE := Aside0.mk E
  have QG := Aside0.mk hG
  have QD := Aside0.mk hd
  have QP := Aside0.mk hp
  have p := M.pc
  have pz := M.pz
  obtain ⟨y, cj, zj, ey⟩ := M.at 4 (by omega)
  clear hG hd hp M E
  have hx : ((V / 4096).tmod 2048 : Int) = numD D (11 * 4) 11 := pc_mid (t := 8 - 4) (QG.out (by omega)) QE.out.db (by omega) 12 11 4096 2048 (by decide) (by decide) (by omega)
  have HX := Aside0.mk hx
  clear hx
  go_wp2
  exact St.whole QE.out hBh QM.out QG.out QD.out HX.out ⟨by simp [QZ.out], by simp [h0], by simp [h1], by simp [h4]⟩
set_option maxHeartbeats 4000000 in
set_option maxRecDepth 100000 in
theorem r11_9 (g h n c oc B : Nat) (A : Addr) (D : Nat → Int) (w0 w : World) (T : Array Value) (E : Env0 g h w0.heap.size n c A D) (hn : 44 ≤ n) (hBg : B ≤ g) (hBh : B ≤ h) (hBw : B ≤ w0.heap.size) (S : St 11 256 w0 g h n c oc B A D 8 5 0 T w) (K : Act → World → Prop) (R : Ending → World → Prop)
    (hk : ∀ T' w', St 11 256 w0 g h n c oc B A D 8 5 9 T' w' → K ⟨T', []⟩ w') :
    (regionOf Tryd.f34 9).wp Tryd.prog (Exit.then K (bodyPost Tryd.prog Tryd.f34 R)) ⟨T, []⟩ w := by
  conv => arg 2; whnf
  obtain ⟨hsz, h0, h1, h4, f, V, M, hG, hd, hp⟩ := S
  have z41 : 41 < T.size := by omega
  have z42 : 42 < T.size := by omega
  have z43 : 43 < T.size := by omega
  have z44 : 44 < T.size := by omega
  have QZ := Aside0.mk hsz
  clear hsz
  have QM := Aside0.mk M
  have QE := Aside0.mk E
  have QG := Aside0.mk hG
  have QD := Aside0.mk hd
  have QP := Aside0.mk hp
  have p := M.pc
  have pz := M.pz
  obtain ⟨y, cj, zj, ey⟩ := M.at 5 (by omega)
  clear hG hd hp M E
  have hx : (V / 8388608 : Int) = numD D (11 * 5) 9 := pc_last (t := 8 - 4) (QG.out (by omega)) QE.out.db (by omega) 23 9 8388608 (by decide) (by omega)
  have HX := Aside0.mk hx
  clear hx
  go_wp2
  exact St.part QE.out hBh QM.out QG.out QD.out HX.out ⟨by simp [QZ.out], by simp [h0], by simp [h1], by simp [h4]⟩
set_option maxHeartbeats 4000000 in
set_option maxRecDepth 100000 in
theorem r11_10 (g h n c oc B : Nat) (A : Addr) (D : Nat → Int) (w0 w : World) (T : Array Value) (E : Env0 g h w0.heap.size n c A D) (hn : 44 ≤ n) (hBg : B ≤ g) (hBh : B ≤ h) (hBw : B ≤ w0.heap.size) (S : St 11 256 w0 g h n c oc B A D 8 5 9 T w) (K : Act → World → Prop) (R : Ending → World → Prop)
    (hk : ∀ T' w', St 11 256 w0 g h n c oc B A D 12 5 9 T' w' → K ⟨T', []⟩ w') :
    (regionOf Tryd.f34 10).wp Tryd.prog (Exit.then K (bodyPost Tryd.prog Tryd.f34 R)) ⟨T, []⟩ w := by
  conv => arg 2; whnf
  obtain ⟨hsz, h0, h1, h4, f, V, M, hG, hd, hp⟩ := S
  have z45 : 45 < T.size := by omega
  have z46 : 46 < T.size := by omega
  have QZ := Aside0.mk hsz
  clear hsz
  have QM := Aside0.mk M
  have QE := Aside0.mk E
  have QG := Aside0.mk hG
  have QD := Aside0.mk hd
  have QP := Aside0.mk hp
  have hi : 8 + 4 ≤ n := by omega
  have C := fun (Q : Ending → World → Prop) k => Mid.goS (Q := Q) (oc := oc) (nt := 256) QE.out hBg hBw hi QM.out QD.out QP.out k
  have C := Aside0.mk C
  clear hG hd hp M E hi
  go_wp2_with (go_at_call 40; refine C.out _ ?_; intro w' HS; have HS := Aside0.mk HS)
  exact HS.out _ (by simp [QZ.out]) (by simp [h0]) (by simp [h1]) (by simp [h4])
set_option maxHeartbeats 4000000 in
set_option maxRecDepth 100000 in
theorem r11_11 (g h n c oc B : Nat) (A : Addr) (D : Nat → Int) (w0 w : World) (T : Array Value) (E : Env0 g h w0.heap.size n c A D) (hn : 44 ≤ n) (hBg : B ≤ g) (hBh : B ≤ h) (hBw : B ≤ w0.heap.size) (S : St 11 256 w0 g h n c oc B A D 12 5 9 T w) (K : Act → World → Prop) (R : Ending → World → Prop)
    (hk : ∀ T' w', St 11 256 w0 g h n c oc B A D 12 6 0 T' w' → K ⟨T', []⟩ w') :
    (regionOf Tryd.f34 11).wp Tryd.prog (Exit.then K (bodyPost Tryd.prog Tryd.f34 R)) ⟨T, []⟩ w := by
  conv => arg 2; whnf
  obtain ⟨hsz, h0, h1, h4, f, V, M, hG, hd, hp⟩ := S
  have z47 : 47 < T.size := by omega
  have z48 : 48 < T.size := by omega
  have z49 : 49 < T.size := by omega
  have z50 : 50 < T.size := by omega
  have z51 : 51 < T.size := by omega
  have z52 : 52 < T.size := by omega
  have z53 : 53 < T.size := by omega
  have z54 : 54 < T.size := by omega
  have QZ := Aside0.mk hsz
  clear hsz
  have QM := Aside0.mk M
  have QE := Aside0.mk E
  have QG := Aside0.mk hG
  have QD := Aside0.mk hd
  have QP := Aside0.mk hp
  have p := M.pc
  have pz := M.pz
  obtain ⟨y, cj, zj, ey⟩ := M.at 5 (by omega)
  clear hG hd hp M E
  have mixed : Tryd.prog.follows .mixedOrders = true := by kernel_rfl
  have hx : (Go.bits .or .u32 y (IntKind.u32.wrap (V.tmod 4 * 512)) : Int) = numD D (11 * 5) 11 := pc_two' (t := 12 - 4) (QG.out (by omega)) QE.out.db (by omega) (11 * 5) 9 2 4 512 (by decide) (by decide) (by omega) (by omega) (ey.out.trans (QP.out (by omega)))
  have HX := Aside0.mk hx
  clear hx
  go_region
  all_goals exact hk _ _ (St.whole_d QE.out hBh QM.out QG.out QD.out HX.out ⟨by simp [QZ.out], by simp [h0], by simp [h1], by simp [h4]⟩)
set_option maxHeartbeats 4000000 in
set_option maxRecDepth 100000 in
theorem r11_12 (g h n c oc B : Nat) (A : Addr) (D : Nat → Int) (w0 w : World) (T : Array Value) (E : Env0 g h w0.heap.size n c A D) (hn : 44 ≤ n) (hBg : B ≤ g) (hBh : B ≤ h) (hBw : B ≤ w0.heap.size) (S : St 11 256 w0 g h n c oc B A D 12 6 0 T w) (K : Act → World → Prop) (R : Ending → World → Prop)
    (hk : ∀ T' w', St 11 256 w0 g h n c oc B A D 12 7 0 T' w' → K ⟨T', []⟩ w') :
    (regionOf Tryd.f34 12).wp Tryd.prog (Exit.then K (bodyPost Tryd.prog Tryd.f34 R)) ⟨T, []⟩ w := by
  conv => arg 2; whnf
  obtain ⟨hsz, h0, h1, h4, f, V, M, hG, hd, hp⟩ := S
  have z55 : 55 < T.size := by omega
  have z56 : 56 < T.size := by omega
  have z57 : 57 < T.size := by omega
  have z58 : 58 < T.size := by omega
  have z59 : 59 < T.size := by omega
  have QZ := Aside0.mk hsz
  clear hsz
  have QM := Aside0.mk M
  have QE := Aside0.mk E
  have QG := Aside0.mk hG
  have QD := Aside0.mk hd
  have QP := Aside0.mk hp
  have p := M.pc
  have pz := M.pz
  obtain ⟨y, cj, zj, ey⟩ := M.at 6 (by omega)
  clear hG hd hp M E
  have hx : ((V / 4).tmod 2048 : Int) = numD D (11 * 6) 11 := pc_mid (t := 12 - 4) (QG.out (by omega)) QE.out.db (by omega) 2 11 4 2048 (by decide) (by decide) (by omega)
  have HX := Aside0.mk hx
  clear hx
  go_wp2
  exact St.whole QE.out hBh QM.out QG.out QD.out HX.out ⟨by simp [QZ.out], by simp [h0], by simp [h1], by simp [h4]⟩
set_option maxHeartbeats 4000000 in
set_option maxRecDepth 100000 in
theorem r11_13 (g h n c oc B : Nat) (A : Addr) (D : Nat → Int) (w0 w : World) (T : Array Value) (E : Env0 g h w0.heap.size n c A D) (hn : 44 ≤ n) (hBg : B ≤ g) (hBh : B ≤ h) (hBw : B ≤ w0.heap.size) (S : St 11 256 w0 g h n c oc B A D 12 7 0 T w) (K : Act → World → Prop) (R : Ending → World → Prop)
    (hk : ∀ T' w', St 11 256 w0 g h n c oc B A D 12 8 0 T' w' → K ⟨T', []⟩ w') :
    (regionOf Tryd.f34 13).wp Tryd.prog (Exit.then K (bodyPost Tryd.prog Tryd.f34 R)) ⟨T, []⟩ w := by
  conv => arg 2; whnf
  obtain ⟨hsz, h0, h1, h4, f, V, M, hG, hd, hp⟩ := S
  have z60 : 60 < T.size := by omega
  have z61 : 61 < T.size := by omega
  have z62 : 62 < T.size := by omega
  have z63 : 63 < T.size := by omega
  have z64 : 64 < T.size := by omega
  have QZ := Aside0.mk hsz
  clear hsz
  have QM := Aside0.mk M
  have QE := Aside0.mk E
  have QG := Aside0.mk hG
  have QD := Aside0.mk hd
  have QP := Aside0.mk hp
  have p := M.pc
  have pz := M.pz
  obtain ⟨y, cj, zj, ey⟩ := M.at 7 (by omega)
  clear hG hd hp M E
  have hx : ((V / 8192).tmod 2048 : Int) = numD D (11 * 7) 11 := pc_mid (t := 12 - 4) (QG.out (by omega)) QE.out.db (by omega) 13 11 8192 2048 (by decide) (by decide) (by omega)
  have HX := Aside0.mk hx
  clear hx
  go_wp2
  exact St.whole QE.out hBh QM.out QG.out QD.out HX.out ⟨by simp [QZ.out], by simp [h0], by simp [h1], by simp [h4]⟩
set_option maxHeartbeats 4000000 in
set_option maxRecDepth 100000 in
theorem r11_14 (g h n c oc B : Nat) (A : Addr) (D : Nat → Int) (w0 w : World) (T : Array Value) (E : Env0 g h w0.heap.size n c A D) (hn : 44 ≤ n) (hBg : B ≤ g) (hBh : B ≤ h) (hBw : B ≤ w0.heap.size) (S : St 11 256 w0 g h n c oc B A D 12 8 0 T w) (K : Act → World → Prop) (R : Ending → World → Prop)
    (hk : ∀ T' w', St 11 256 w0 g h n c oc B A D 12 8 8 T' w' → K ⟨T', []⟩ w') :
    (regionOf Tryd.f34 14).wp Tryd.prog (Exit.then K (bodyPost Tryd.prog Tryd.f34 R)) ⟨T, []⟩ w := by
  conv => arg 2; whnf
  obtain ⟨hsz, h0, h1, h4, f, V, M, hG, hd, hp⟩ := S
  have z65 : 65 < T.size := by omega
  have z66 : 66 < T.size := by omega
  have z67 : 67 < T.size := by omega
  have z68 : 68 < T.size := by omega
  have QZ := Aside0.mk hsz
  clear hsz
  have QM := Aside0.mk M
  have QE := Aside0.mk E
  have QG := Aside0.mk hG
  have QD := Aside0.mk hd
  have QP := Aside0.mk hp
  have p := M.pc
  have pz := M.pz
  obtain ⟨y, cj, zj, ey⟩ := M.at 8 (by omega)
  clear hG hd hp M E
  have hx : (V / 16777216 : Int) = numD D (11 * 8) 8 := pc_last (t := 12 - 4) (QG.out (by omega)) QE.out.db (by omega) 24 8 16777216 (by decide) (by omega)
  have HX := Aside0.mk hx
  clear hx
  go_wp2
  exact St.part QE.out hBh QM.out QG.out QD.out HX.out ⟨by simp [QZ.out], by simp [h0], by simp [h1], by simp [h4]⟩
set_option maxHeartbeats 4000000 in
set_option maxRecDepth 100000 in
theorem r11_15 (g h n c oc B : Nat) (A : Addr) (D : Nat → Int) (w0 w : World) (T : Array Value) (E : Env0 g h w0.heap.size n c A D) (hn : 44 ≤ n) (hBg : B ≤ g) (hBh : B ≤ h) (hBw : B ≤ w0.heap.size) (S : St 11 256 w0 g h n c oc B A D 12 8 8 T w) (K : Act → World → Prop) (R : Ending → World → Prop)
    (hk : ∀ T' w', St 11 256 w0 g h n c oc B A D 16 8 8 T' w' → K ⟨T', []⟩ w') :
    (regionOf Tryd.f34 15).wp Tryd.prog (Exit.then K (bodyPost Tryd.prog Tryd.f34 R)) ⟨T, []⟩ w := by
  conv => arg 2; whnf
  obtain ⟨hsz, h0, h1, h4, f, V, M, hG, hd, hp⟩ := S
  have z69 : 69 < T.size := by omega
  have z70 : 70 < T.size := by omega
  have QZ := Aside0.mk hsz
  clear hsz
  have QM := Aside0.mk M
  have QE := Aside0.mk E
  have QG := Aside0.mk hG
  have QD := Aside0.mk hd
  have QP := Aside0.mk hp
  have hi : 12 + 4 ≤ n := by omega
  have C := fun (Q : Ending → World → Prop) k => Mid.goS (Q := Q) (oc := oc) (nt := 256) QE.out hBg hBw hi QM.out QD.out QP.out k
  have C := Aside0.mk C
  clear hG hd hp M E hi
  go_wp2_with (go_at_call 40; refine C.out _ ?_; intro w' HS; have HS := Aside0.mk HS)
  exact HS.out _ (by simp [QZ.out]) (by simp [h0]) (by simp [h1]) (by simp [h4])
set_option maxHeartbeats 4000000 in
set_option maxRecDepth 100000 in
theorem r11_16 (g h n c oc B : Nat) (A : Addr) (D : Nat → Int) (w0 w : World) (T : Array Value) (E : Env0 g h w0.heap.size n c A D) (hn : 44 ≤ n) (hBg : B ≤ g) (hBh : B ≤ h) (hBw : B ≤ w0.heap.size) (S : St 11 256 w0 g h n c oc B A D 16 8 8 T w) (K : Act → World → Prop) (R : Ending → World → Prop)
    (hk : ∀ T' w', St 11 256 w0 g h n c oc B A D 16 9 0 T' w' → K ⟨T', []⟩ w') :
    (regionOf Tryd.f34 16).wp Tryd.prog (Exit.then K (bodyPost Tryd.prog Tryd.f34 R)) ⟨T, []⟩ w := by
  conv => arg 2; whnf
  obtain ⟨hsz, h0, h1, h4, f, V, M, hG, hd, hp⟩ := S
  have z71 : 71 < T.size := by omega
  have z72 : 72 < T.size := by omega
  have z73 : 73 < T.size := by omega
  have z74 : 74 < T.size := by omega
  have z75 : 75 < T.size := by omega
  have z76 : 76 < T.size := by omega
  have z77 : 77 < T.size := by omega
  have z78 : 78 < T.size := by omega
  have QZ := Aside0.mk hsz
  clear hsz
  have QM := Aside0.mk M
  have QE := Aside0.mk E
  have QG := Aside0.mk hG
  have QD := Aside0.mk hd
  have QP := Aside0.mk hp
  have p := M.pc
  have pz := M.pz
  obtain ⟨y, cj, zj, ey⟩ := M.at 8 (by omega)
  clear hG hd hp M E
  have mixed : Tryd.prog.follows .mixedOrders = true := by kernel_rfl
  have hx : (Go.bits .or .u32 y (IntKind.u32.wrap (V.tmod 8 * 256)) : Int) = numD D (11 * 8) 11 := pc_two' (t := 16 - 4) (QG.out (by omega)) QE.out.db (by omega) (11 * 8) 8 3 8 256 (by decide) (by decide) (by omega) (by omega) (ey.out.trans (QP.out (by omega)))
  have HX := Aside0.mk hx
  clear hx
  go_region
  all_goals exact hk _ _ (St.whole_d QE.out hBh QM.out QG.out QD.out HX.out ⟨by simp [QZ.out], by simp [h0], by simp [h1], by simp [h4]⟩)
set_option maxHeartbeats 4000000 in
set_option maxRecDepth 100000 in
theorem r11_17 (g h n c oc B : Nat) (A : Addr) (D : Nat → Int) (w0 w : World) (T : Array Value) (E : Env0 g h w0.heap.size n c A D) (hn : 44 ≤ n) (hBg : B ≤ g) (hBh : B ≤ h) (hBw : B ≤ w0.heap.size) (S : St 11 256 w0 g h n c oc B A D 16 9 0 T w) (K : Act → World → Prop) (R : Ending → World → Prop)
    (hk : ∀ T' w', St 11 256 w0 g h n c oc B A D 16 10 0 T' w' → K ⟨T', []⟩ w') :
    (regionOf Tryd.f34 17).wp Tryd.prog (Exit.then K (bodyPost Tryd.prog Tryd.f34 R)) ⟨T, []⟩ w := by
  conv => arg 2; whnf
  obtain ⟨hsz, h0, h1, h4, f, V, M, hG, hd, hp⟩ := S
  have z79 : 79 < T.size := by omega
  have z80 : 80 < T.size := by omega
  have z81 : 81 < T.size := by omega
  have z82 : 82 < T.size := by omega
  have z83 : 83 < T.size := by omega
  have QZ := Aside0.mk hsz
  clear hsz
  have QM := Aside0.mk M
  have QE := Aside0.mk E
  have QG := Aside0.mk hG
  have QD := Aside0.mk hd
  have QP := Aside0.mk hp
  have p := M.pc
  have pz := M.pz
  obtain ⟨y, cj, zj, ey⟩ := M.at 9 (by omega)
  clear hG hd hp M E
  have hx : ((V / 8).tmod 2048 : Int) = numD D (11 * 9) 11 := pc_mid (t := 16 - 4) (QG.out (by omega)) QE.out.db (by omega) 3 11 8 2048 (by decide) (by decide) (by omega)
  have HX := Aside0.mk hx
  clear hx
  go_wp2
  exact St.whole QE.out hBh QM.out QG.out QD.out HX.out ⟨by simp [QZ.out], by simp [h0], by simp [h1], by simp [h4]⟩
set_option maxHeartbeats 4000000 in
set_option maxRecDepth 100000 in
theorem r11_18 (g h n c oc B : Nat) (A : Addr) (D : Nat → Int) (w0 w : World) (T : Array Value) (E : Env0 g h w0.heap.size n c A D) (hn : 44 ≤ n) (hBg : B ≤ g) (hBh : B ≤ h) (hBw : B ≤ w0.heap.size) (S : St 11 256 w0 g h n c oc B A D 16 10 0 T w) (K : Act → World → Prop) (R : Ending → World → Prop)
    (hk : ∀ T' w', St 11 256 w0 g h n c oc B A D 16 11 0 T' w' → K ⟨T', []⟩ w') :
    (regionOf Tryd.f34 18).wp Tryd.prog (Exit.then K (bodyPost Tryd.prog Tryd.f34 R)) ⟨T, []⟩ w := by
  conv => arg 2; whnf
  obtain ⟨hsz, h0, h1, h4, f, V, M, hG, hd, hp⟩ := S
  have z84 : 84 < T.size := by omega
  have z85 : 85 < T.size := by omega
  have z86 : 86 < T.size := by omega
  have z87 : 87 < T.size := by omega
  have z88 : 88 < T.size := by omega
  have QZ := Aside0.mk hsz
  clear hsz
  have QM := Aside0.mk M
  have QE := Aside0.mk E
  have QG := Aside0.mk hG
  have QD := Aside0.mk hd
  have QP := Aside0.mk hp
  have p := M.pc
  have pz := M.pz
  obtain ⟨y, cj, zj, ey⟩ := M.at 10 (by omega)
  clear hG hd hp M E
  have hx : ((V / 16384).tmod 2048 : Int) = numD D (11 * 10) 11 := pc_mid (t := 16 - 4) (QG.out (by omega)) QE.out.db (by omega) 14 11 16384 2048 (by decide) (by decide) (by omega)
  have HX := Aside0.mk hx
  clear hx
  go_wp2
  exact St.whole QE.out hBh QM.out QG.out QD.out HX.out ⟨by simp [QZ.out], by simp [h0], by simp [h1], by simp [h4]⟩
set_option maxHeartbeats 4000000 in
set_option maxRecDepth 100000 in
theorem r11_19 (g h n c oc B : Nat) (A : Addr) (D : Nat → Int) (w0 w : World) (T : Array Value) (E : Env0 g h w0.heap.size n c A D) (hn : 44 ≤ n) (hBg : B ≤ g) (hBh : B ≤ h) (hBw : B ≤ w0.heap.size) (S : St 11 256 w0 g h n c oc B A D 16 11 0 T w) (K : Act → World → Prop) (R : Ending → World → Prop)
    (hk : ∀ T' w', St 11 256 w0 g h n c oc B A D 16 11 7 T' w' → K ⟨T', []⟩ w') :
    (regionOf Tryd.f34 19).wp Tryd.prog (Exit.then K (bodyPost Tryd.prog Tryd.f34 R)) ⟨T, []⟩ w := by
  conv => arg 2; whnf
  obtain ⟨hsz, h0, h1, h4, f, V, M, hG, hd, hp⟩ := S
  have z89 : 89 < T.size := by omega
  have z90 : 90 < T.size := by omega
  have z91 : 91 < T.size := by omega
  have z92 : 92 < T.size := by omega
  have QZ := Aside0.mk hsz
  clear hsz
  have QM := Aside0.mk M
  have QE := Aside0.mk E
  have QG := Aside0.mk hG
  have QD := Aside0.mk hd
  have QP := Aside0.mk hp
  have p := M.pc
  have pz := M.pz
  obtain ⟨y, cj, zj, ey⟩ := M.at 11 (by omega)
  clear hG hd hp M E
  have hx : (V / 33554432 : Int) = numD D (11 * 11) 7 := pc_last (t := 16 - 4) (QG.out (by omega)) QE.out.db (by omega) 25 7 33554432 (by decide) (by omega)
  have HX := Aside0.mk hx
  clear hx
  go_wp2
  exact St.part QE.out hBh QM.out QG.out QD.out HX.out ⟨by simp [QZ.out], by simp [h0], by simp [h1], by simp [h4]⟩
set_option maxHeartbeats 4000000 in
set_option maxRecDepth 100000 in
theorem r11_20 (g h n c oc B : Nat) (A : Addr) (D : Nat → Int) (w0 w : World) (T : Array Value) (E : Env0 g h w0.heap.size n c A D) (hn : 44 ≤ n) (hBg : B ≤ g) (hBh : B ≤ h) (hBw : B ≤ w0.heap.size) (S : St 11 256 w0 g h n c oc B A D 16 11 7 T w) (K : Act → World → Prop) (R : Ending → World → Prop)
    (hk : ∀ T' w', St 11 256 w0 g h n c oc B A D 20 11 7 T' w' → K ⟨T', []⟩ w') :
    (regionOf Tryd.f34 20).wp Tryd.prog (Exit.then K (bodyPost Tryd.prog Tryd.f34 R)) ⟨T, []⟩ w := by
  conv => arg 2; whnf
  obtain ⟨hsz, h0, h1, h4, f, V, M, hG, hd, hp⟩ := S
  have z93 : 93 < T.size := by omega
  have z94 : 94 < T.size := by omega
  have QZ := Aside0.mk hsz
  clear hsz
  have QM := Aside0.mk M
  have QE := Aside0.mk E
  have QG := Aside0.mk hG
  have QD := Aside0.mk hd
  have QP := Aside0.mk hp
  have hi : 16 + 4 ≤ n := by omega
  have C := fun (Q : Ending → World → Prop) k => Mid.goS (Q := Q) (oc := oc) (nt := 256) QE.out hBg hBw hi QM.out QD.out QP.out k
  have C := Aside0.mk C
  clear hG hd hp M E hi
  go_wp2_with (go_at_call 40; refine C.out _ ?_; intro w' HS; have HS := Aside0.mk HS)
  exact HS.out _ (by simp [QZ.out]) (by simp [h0]) (by simp [h1]) (by simp [h4])
set_option maxHeartbeats 4000000 in
set_option maxRecDepth 100000 in
theorem r11_21 (g h n c oc B : Nat) (A : Addr) (D : Nat → Int) (w0 w : World) (T : Array Value) (E : Env0 g h w0.heap.size n c A D) (hn : 44 ≤ n) (hBg : B ≤ g) (hBh : B ≤ h) (hBw : B ≤ w0.heap.size) (S : St 11 256 w0 g h n c oc B A D 20 11 7 T w) (K : Act → World → Prop) (R : Ending → World → Prop)
    (hk : ∀ T' w', St 11 256 w0 g h n c oc B A D 20 12 0 T' w' → K ⟨T', []⟩ w') :
    (regionOf Tryd.f34 21).wp Tryd.prog (Exit.then K (bodyPost Tryd.prog Tryd.f34 R)) ⟨T, []⟩ w := by
  conv => arg 2; whnf
  obtain ⟨hsz, h0, h1, h4, f, V, M, hG, hd, hp⟩ := S
  have z95 : 95 < T.size := by omega
  have z96 : 96 < T.size := by omega
  have z97 : 97 < T.size := by omega
  have z98 : 98 < T.size := by omega
  have z99 : 99 < T.size := by omega
  have z100 : 100 < T.size := by omega
  have z101 : 101 < T.size := by omega
  have z102 : 102 < T.size := by omega
  have QZ := Aside0.mk hsz
  clear hsz
  have QM := Aside0.mk M
  have QE := Aside0.mk E
  have QG := Aside0.mk hG
  have QD := Aside0.mk hd
  have QP := Aside0.mk hp
  have p := M.pc
  have pz := M.pz
  obtain ⟨y, cj, zj, ey⟩ := M.at 11 (by omega)
  clear hG hd hp M E
  have mixed : Tryd.prog.follows .mixedOrders = true := by kernel_rfl
  have hx : (Go.bits .or .u32 y (IntKind.u32.wrap (V.tmod 16 * 128)) : Int) = numD D (11 * 11) 11 := pc_two' (t := 20 - 4) (QG.out (by omega)) QE.out.db (by omega) (11 * 11) 7 4 16 128 (by decide) (by decide) (by omega) (by omega) (ey.out.trans (QP.out (by omega)))
  have HX := Aside0.mk hx
  clear hx
  go_region
  all_goals exact hk _ _ (St.whole_d QE.out hBh QM.out QG.out QD.out HX.out ⟨by simp [QZ.out], by simp [h0], by simp [h1], by simp [h4]⟩)
set_option maxHeartbeats 4000000 in
set_option maxRecDepth 100000 in
theorem r11_22 (g h n c oc B : Nat) (A : Addr) (D : Nat → Int) (w0 w : World) (T : Array Value) (E : Env0 g h w0.heap.size n c A D) (hn : 44 ≤ n) (hBg : B ≤ g) (hBh : B ≤ h) (hBw : B ≤ w0.heap.size) (S : St 11 256 w0 g h n c oc B A D 20 12 0 T w) (K : Act → World → Prop) (R : Ending → World → Prop)
    (hk : ∀ T' w', St 11 256 w0 g h n c oc B A D 20 13 0 T' w' → K ⟨T', []⟩ w') :
    (regionOf Tryd.f34 22).wp Tryd.prog (Exit.then K (bodyPost Tryd.prog Tryd.f34 R)) ⟨T, []⟩ w := by
  conv => arg 2; whnf
  obtain ⟨hsz, h0, h1, h4, f, V, M, hG, hd, hp⟩ := S
  have z103 : 103 < T.size := by omega
  have z104 : 104 < T.size := by omega
  have z105 : 105 < T.size := by omega
  have z106 : 106 < T.size := by omega
  have z107 : 107 < T.size := by omega
  have QZ := Aside0.mk hsz
  clear hsz
  have QM := Aside0.mk M
  have QE := Aside0.mk E
  have QG := Aside0.mk hG
  have QD := Aside0.mk hd
  have QP := Aside0.mk hp
  have p := M.pc
  have pz := M.pz
  obtain ⟨y, cj, zj, ey⟩ := M.at 12 (by omega)
  clear hG hd hp M E
  have hx : ((V / 16).tmod 2048 : Int) = numD D (11 * 12) 11 := pc_mid (t := 20 - 4) (QG.out (by omega)) QE.out.db (by omega) 4 11 16 2048 (by decide) (by decide) (by omega)
  have HX := Aside0.mk hx
  clear hx
  go_wp2
  exact St.whole QE.out hBh QM.out QG.out QD.out HX.out ⟨by simp [QZ.out], by simp [h0], by simp [h1], by simp [h4]⟩
set_option maxHeartbeats 4000000 in
set_option maxRecDepth 100000 in
theorem r11_23 (g h n c oc B : Nat) (A : Addr) (D : Nat → Int) (w0 w : World) (T : Array Value) (E : Env0 g h w0.heap.size n c A D) (hn : 44 ≤ n) (hBg : B ≤ g) (hBh : B ≤ h) (hBw : B ≤ w0.heap.size) (S : St 11 256 w0 g h n c oc B A D 20 13 0 T w) (K : Act → World → Prop) (R : Ending → World → Prop)
    (hk : ∀ T' w', St 11 256 w0 g h n c oc B A D 20 14 0 T' w' → K ⟨T', []⟩ w') :
    (regionOf Tryd.f34 23).wp Tryd.prog (Exit.then K (bodyPost Tryd.prog Tryd.f34 R)) ⟨T, []⟩ w := by
  conv => arg 2; whnf
  obtain ⟨hsz, h0, h1, h4, f, V, M, hG, hd, hp⟩ := S
  have z108 : 108 < T.size := by omega
  have z109 : 109 < T.size := by omega
  have z110 : 110 < T.size := by omega
  have z111 : 111 < T.size := by omega
  have z112 : 112 < T.size := by omega
  have QZ := Aside0.mk hsz
  clear hsz
  have QM := Aside0.mk M
  have QE := Aside0.mk E
  have QG := Aside0.mk hG
  have QD := Aside0.mk hd
  have QP := Aside0.mk hp
  have p := M.pc
  have pz := M.pz
  obtain ⟨y, cj, zj, ey⟩ := M.at 13 (by omega)
  clear hG hd hp M E
  have hx : ((V / 32768).tmod 2048 : Int) = numD D (11 * 13) 11 := pc_mid (t := 20 - 4) (QG.out (by omega)) QE.out.db (by omega) 15 11 32768 2048 (by decide) (by decide) (by omega)
  have HX := Aside0.mk hx
  clear hx
  go_wp2
  exact St.whole QE.out hBh QM.out QG.out QD.out HX.out ⟨by simp [QZ.out], by simp [h0], by simp [h1], by simp [h4]⟩
set_option maxHeartbeats 4000000 in
set_option maxRecDepth 100000 in
theorem r11_24 (g h n c oc B : Nat) (A : Addr) (D : Nat → Int) (w0 w : World) (T : Array Value) (E : Env0 g h w0.heap.size n c A D) (hn : 44 ≤ n) (hBg : B ≤ g) (hBh : B ≤ h) (hBw : B ≤ w0.heap.size) (S : St 11 256 w0 g h n c oc B A D 20 14 0 T w) (K : Act → World → Prop) (R : Ending → World → Prop)
    (hk : ∀ T' w', St 11 256 w0 g h n c oc B A D 20 14 6 T' w' → K ⟨T', []⟩ w') :
    (regionOf Tryd.f34 24).wp Tryd.prog (Exit.then K (bodyPost Tryd.prog Tryd.f34 R)) ⟨T, []⟩ w := by
  conv => arg 2; whnf
  obtain ⟨hsz, h0, h1, h4, f, V, M, hG, hd, hp⟩ := S
  have z113 : 113 < T.size := by omega
  have z114 : 114 < T.size := by omega
  have z115 : 115 < T.size := by omega
  have z116 : 116 < T.size := by omega
  have QZ := Aside0.mk hsz
  clear hsz
  have QM := Aside0.mk M
  have QE := Aside0.mk E
  have QG := Aside0.mk hG
  have QD := Aside0.mk hd
  have QP := Aside0.mk hp
  have p := M.pc
  have pz := M.pz
  obtain ⟨y, cj, zj, ey⟩ := M.at 14 (by omega)
  clear hG hd hp M E
  have hx : (V / 67108864 : Int) = numD D (11 * 14) 6 := pc_last (t := 20 - 4) (QG.out (by omega)) QE.out.db (by omega) 26 6 67108864 (by decide) (by omega)
  have HX := Aside0.mk hx
  clear hx
  go_wp2
  exact St.part QE.out hBh QM.out QG.out QD.out HX.out ⟨by simp [QZ.out], by simp [h0], by simp [h1], by simp [h4]⟩
end Go.Proofs.YtblmpfhjghcddaaDoor.QU
