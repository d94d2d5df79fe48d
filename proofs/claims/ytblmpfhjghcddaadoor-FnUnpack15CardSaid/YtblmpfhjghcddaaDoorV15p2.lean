/- What the regions of unpack15_32 do, one by one, to the state between them. Printed by gen_regs.py of this session. -/
import Derived.Test.YtblmpfhjghcddaaDoorU8
namespace Go.Proofs.YtblmpfhjghcddaaDoor.QU
open Go.RowKit Go.Proofs.YtblmpfhjghcddaaDoorW.PrintWords Go.Proofs.YtblmpfhjghcddaaDoorW.PrintLast Go.Proofs.YtblmpfhjghcddaaDoorW.PrintMore
set_option linter.unusedVariables false
set_option linter.unusedSimpArgs false
set_option maxHeartbeats 4000000 in
set_option maxRecDepth 100000 in
theorem r15_49 (g h n c oc B : Nat) (A : Addr) (D : Nat → Int) (w0 w : World) (T : Array Value) (E : Env0 g h w0.heap.size n c A D) (hn : 60 ≤ n) (hBg : B ≤ g) (hBh : B ≤ h) (hBw : B ≤ w0.heap.size) (S : St 15 292 w0 g h n c oc B A D 48 25 0 T w) (K : Act → World → Prop) (R : Ending → World → Prop)
    (hk : ∀ T' w', St 15 292 w0 g h n c oc B A D 48 25 9 T' w' → K ⟨T', []⟩ w') :
    (regionOf Tryd.f35 49).wp Tryd.prog (Exit.then K (bodyPost Tryd.prog Tryd.f35 R)) ⟨T, []⟩ w := by
  conv => arg 2; whnf
  obtain ⟨hsz, h0, h1, h4, f, V, M, hG, hd, hp⟩ := S
  have z231 : 231 < T.size := by omega
  have z232 : 232 < T.size := by omega
  have z233 : 233 < T.size := by omega
  have z234 : 234 < T.size := by omega
  have QZ := Aside0.mk hsz
  clear hsz
  have QM := Aside0.mk M
  have QE := Aside0.mk E
  have QG := Aside0.mk hG
  have QD := Aside0.mk hd
  have QP := Aside0.mk hp
  have p := M.pc
  have pz := M.pz
  obtain ⟨y, cj, zj, ey⟩ := M.at 25 (by omega)
  clear hG hd hp M E
  have hx : (V / 8388608 : Int) = numD D (15 * 25) 9 := pc_last (t := 48 - 4) (QG.out (by omega)) QE.out.db (by omega) 23 9 8388608 (by decide) (by omega)
  have HX := Aside0.mk hx
  clear hx
  go_wp2
  exact St.part QE.out hBh QM.out QG.out QD.out HX.out ⟨by simp [QZ.out], by simp [h0], by simp [h1], by simp [h4]⟩
set_option maxHeartbeats 4000000 in
set_option maxRecDepth 100000 in
theorem r15_50 (g h n c oc B : Nat) (A : Addr) (D : Nat → Int) (w0 w : World) (T : Array Value) (E : Env0 g h w0.heap.size n c A D) (hn : 60 ≤ n) (hBg : B ≤ g) (hBh : B ≤ h) (hBw : B ≤ w0.heap.size) (S : St 15 292 w0 g h n c oc B A D 48 25 9 T w) (K : Act → World → Prop) (R : Ending → World → Prop)
    (hk : ∀ T' w', St 15 292 w0 g h n c oc B A D 52 25 9 T' w' → K ⟨T', []⟩ w') :
    (regionOf Tryd.f35 50).wp Tryd.prog (Exit.then K (bodyPost Tryd.prog Tryd.f35 R)) ⟨T, []⟩ w := by
  conv => arg 2; whnf
  obtain ⟨hsz, h0, h1, h4, f, V, M, hG, hd, hp⟩ := S
  have z235 : 235 < T.size := by omega
  have z236 : 236 < T.size := by omega
  have QZ := Aside0.mk hsz
  clear hsz
  have QM := Aside0.mk M
  have QE := Aside0.mk E
  have QG := Aside0.mk hG
  have QD := Aside0.mk hd
  have QP := Aside0.mk hp
  have hi : 48 + 4 ≤ n := by omega
  have C := fun (Q : Ending → World → Prop) k => Mid.goS (Q := Q) (oc := oc) (nt := 292) QE.out hBg hBw hi QM.out QD.out QP.out k
  have C := Aside0.mk C
  clear hG hd hp M E hi
  go_wp2_with (go_at_call 40; refine C.out _ ?_; intro w' HS; have HS := Aside0.mk HS)
  exact HS.out _ (by simp [QZ.out]) (by simp [h0]) (by simp [h1]) (by simp [h4])
set_option maxHeartbeats 4000000 in
set_option maxRecDepth 100000 in
theorem r15_51 (g h n c oc B : Nat) (A : Addr) (D : Nat → Int) (w0 w : World) (T : Array Value) (E : Env0 g h w0.heap.size n c A D) (hn : 60 ≤ n) (hBg : B ≤ g) (hBh : B ≤ h) (hBw : B ≤ w0.heap.size) (S : St 15 292 w0 g h n c oc B A D 52 25 9 T w) (K : Act → World → Prop) (R : Ending → World → Prop)
    (hk : ∀ T' w', St 15 292 w0 g h n c oc B A D 52 26 0 T' w' → K ⟨T', []⟩ w') :
    (regionOf Tryd.f35 51).wp Tryd.prog (Exit.then K (bodyPost Tryd.prog Tryd.f35 R)) ⟨T, []⟩ w := by
  conv => arg 2; whnf
  obtain ⟨hsz, h0, h1, h4, f, V, M, hG, hd, hp⟩ := S
  have z237 : 237 < T.size := by omega
  have z238 : 238 < T.size := by omega
  have z239 : 239 < T.size := by omega
  have z240 : 240 < T.size := by omega
  have z241 : 241 < T.size := by omega
  have z242 : 242 < T.size := by omega
  have z243 : 243 < T.size := by omega
  have z244 : 244 < T.size := by omega
  have QZ := Aside0.mk hsz
  clear hsz
  have QM := Aside0.mk M
  have QE := Aside0.mk E
  have QG := Aside0.mk hG
  have QD := Aside0.mk hd
  have QP := Aside0.mk hp
  have p := M.pc
  have pz := M.pz
  obtain ⟨y, cj, zj, ey⟩ := M.at 25 (by omega)
  clear hG hd hp M E
  have mixed : Tryd.prog.follows .mixedOrders = true := by kernel_rfl
  have hx : (Go.bits .or .u32 y (IntKind.u32.wrap (V.tmod 64 * 512)) : Int) = numD D (15 * 25) 15 := pc_two' (t := 52 - 4) (QG.out (by omega)) QE.out.db (by omega) (15 * 25) 9 6 64 512 (by decide) (by decide) (by omega) (by omega) (ey.out.trans (QP.out (by omega)))
  have HX := Aside0.mk hx
  clear hx
  go_region
  all_goals exact hk _ _ (St.whole_d QE.out hBh QM.out QG.out QD.out HX.out ⟨by simp [QZ.out], by simp [h0], by simp [h1], by simp [h4]⟩)
set_option maxHeartbeats 4000000 in
set_option maxRecDepth 100000 in
theorem r15_52 (g h n c oc B : Nat) (A : Addr) (D : Nat → Int) (w0 w : World) (T : Array Value) (E : Env0 g h w0.heap.size n c A D) (hn : 60 ≤ n) (hBg : B ≤ g) (hBh : B ≤ h) (hBw : B ≤ w0.heap.size) (S : St 15 292 w0 g h n c oc B A D 52 26 0 T w) (K : Act → World → Prop) (R : Ending → World → Prop)
    (hk : ∀ T' w', St 15 292 w0 g h n c oc B A D 52 27 0 T' w' → K ⟨T', []⟩ w') :
    (regionOf Tryd.f35 52).wp Tryd.prog (Exit.then K (bodyPost Tryd.prog Tryd.f35 R)) ⟨T, []⟩ w := by
  conv => arg 2; whnf
  obtain ⟨hsz, h0, h1, h4, f, V, M, hG, hd, hp⟩ := S
  have z245 : 245 < T.size := by omega
  have z246 : 246 < T.size := by omega
  have z247 : 247 < T.size := by omega
  have z248 : 248 < T.size := by omega
  have z249 : 249 < T.size := by omega
  have QZ := Aside0.mk hsz
  clear hsz
  have QM := Aside0.mk M
  have QE := Aside0.mk E
  have QG := Aside0.mk hG
  have QD := Aside0.mk hd
  have QP := Aside0.mk hp
  have p := M.pc
  have pz := M.pz
  obtain ⟨y, cj, zj, ey⟩ := M.at 26 (by omega)
  clear hG hd hp M E
  have hx : ((V / 64).tmod 32768 : Int) = numD D (15 * 26) 15 := pc_mid (t := 52 - 4) (QG.out (by omega)) QE.out.db (by omega) 6 15 64 32768 (by decide) (by decide) (by omega)
  have HX := Aside0.mk hx
  clear hx
  go_wp2
  exact St.whole QE.out hBh QM.out QG.out QD.out HX.out ⟨by simp [QZ.out], by simp [h0], by simp [h1], by simp [h4]⟩
set_option maxHeartbeats 4000000 in
set_option maxRecDepth 100000 in
theorem r15_53 (g h n c oc B : Nat) (A : Addr) (D : Nat → Int) (w0 w : World) (T : Array Value) (E : Env0 g h w0.heap.size n c A D) (hn : 60 ≤ n) (hBg : B ≤ g) (hBh : B ≤ h) (hBw : B ≤ w0.heap.size) (S : St 15 292 w0 g h n c oc B A D 52 27 0 T w) (K : Act → World → Prop) (R : Ending → World → Prop)
    (hk : ∀ T' w', St 15 292 w0 g h n c oc B A D 52 27 11 T' w' → K ⟨T', []⟩ w') :
    (regionOf Tryd.f35 53).wp Tryd.prog (Exit.then K (bodyPost Tryd.prog Tryd.f35 R)) ⟨T, []⟩ w := by
  conv => arg 2; whnf
  obtain ⟨hsz, h0, h1, h4, f, V, M, hG, hd, hp⟩ := S
  have z250 : 250 < T.size := by omega
  have z251 : 251 < T.size := by omega
  have z252 : 252 < T.size := by omega
  have z253 : 253 < T.size := by omega
  have QZ := Aside0.mk hsz
  clear hsz
  have QM := Aside0.mk M
  have QE := Aside0.mk E
  have QG := Aside0.mk hG
  have QD := Aside0.mk hd
  have QP := Aside0.mk hp
  have p := M.pc
  have pz := M.pz
  obtain ⟨y, cj, zj, ey⟩ := M.at 27 (by omega)
  clear hG hd hp M E
  have hx : (V / 2097152 : Int) = numD D (15 * 27) 11 := pc_last (t := 52 - 4) (QG.out (by omega)) QE.out.db (by omega) 21 11 2097152 (by decide) (by omega)
  have HX := Aside0.mk hx
  clear hx
  go_wp2
  exact St.part QE.out hBh QM.out QG.out QD.out HX.out ⟨by simp [QZ.out], by simp [h0], by simp [h1], by simp [h4]⟩
set_option maxHeartbeats 4000000 in
set_option maxRecDepth 100000 in
theorem r15_54 (g h n c oc B : Nat) (A : Addr) (D : Nat → Int) (w0 w : World) (T : Array Value) (E : Env0 g h w0.heap.size n c A D) (hn : 60 ≤ n) (hBg : B ≤ g) (hBh : B ≤ h) (hBw : B ≤ w0.heap.size) (S : St 15 292 w0 g h n c oc B A D 52 27 11 T w) (K : Act → World → Prop) (R : Ending → World → Prop)
    (hk : ∀ T' w', St 15 292 w0 g h n c oc B A D 56 27 11 T' w' → K ⟨T', []⟩ w') :
    (regionOf Tryd.f35 54).wp Tryd.prog (Exit.then K (bodyPost Tryd.prog Tryd.f35 R)) ⟨T, []⟩ w := by
  conv => arg 2; whnf
  obtain ⟨hsz, h0, h1, h4, f, V, M, hG, hd, hp⟩ := S
  have z254 : 254 < T.size := by omega
  have z255 : 255 < T.size := by omega
  have QZ := Aside0.mk hsz
  clear hsz
  have QM := Aside0.mk M
  have QE := Aside0.mk E
  have QG := Aside0.mk hG
  have QD := Aside0.mk hd
  have QP := Aside0.mk hp
  have hi : 52 + 4 ≤ n := by omega
  have C := fun (Q : Ending → World → Prop) k => Mid.goS (Q := Q) (oc := oc) (nt := 292) QE.out hBg hBw hi QM.out QD.out QP.out k
  have C := Aside0.mk C
  clear hG hd hp M E hi
  go_wp2_with (go_at_call 40; refine C.out _ ?_; intro w' HS; have HS := Aside0.mk HS)
  exact HS.out _ (by simp [QZ.out]) (by simp [h0]) (by simp [h1]) (by simp [h4])
set_option maxHeartbeats 4000000 in
set_option maxRecDepth 100000 in
theorem r15_55 (g h n c oc B : Nat) (A : Addr) (D : Nat → Int) (w0 w : World) (T : Array Value) (E : Env0 g h w0.heap.size n c A D) (hn : 60 ≤ n) (hBg : B ≤ g) (hBh : B ≤ h) (hBw : B ≤ w0.heap.size) (S : St 15 292 w0 g h n c oc B A D 56 27 11 T w) (K : Act → World → Prop) (R : Ending → World → Prop)
    (hk : ∀ T' w', St 15 292 w0 g h n c oc B A D 56 28 0 T' w' → K ⟨T', []⟩ w') :
    (regionOf Tryd.f35 55).wp Tryd.prog (Exit.then K (bodyPost Tryd.prog Tryd.f35 R)) ⟨T, []⟩ w := by
  conv => arg 2; whnf
  obtain ⟨hsz, h0, h1, h4, f, V, M, hG, hd, hp⟩ := S
  have z256 : 256 < T.size := by omega
  have z257 : 257 < T.size := by omega
  have z258 : 258 < T.size := by omega
  have z259 : 259 < T.size := by omega
  have z260 : 260 < T.size := by omega
  have z261 : 261 < T.size := by omega
  have z262 : 262 < T.size := by omega
  have z263 : 263 < T.size := by omega
  have QZ := Aside0.mk hsz
  clear hsz
  have QM := Aside0.mk M
  have QE := Aside0.mk E
  have QG := Aside0.mk hG
  have QD := Aside0.mk hd
  have QP := Aside0.mk hp
  have p := M.pc
  have pz := M.pz
  obtain ⟨y, cj, zj, ey⟩ := M.at 27 (by omega)
  clear hG hd hp M E
  have mixed : Tryd.prog.follows .mixedOrders = true := by kernel_rfl
  have hx : (Go.bits .or .u32 y (IntKind.u32.wrap (V.tmod 16 * 2048)) : Int) = numD D (15 * 27) 15 := pc_two' (t := 56 - 4) (QG.out (by omega)) QE.out.db (by omega) (15 * 27) 11 4 16 2048 (by decide) (by decide) (by omega) (by omega) (ey.out.trans (QP.out (by omega)))
  have HX := Aside0.mk hx
  clear hx
  go_region
  all_goals exact hk _ _ (St.whole_d QE.out hBh QM.out QG.out QD.out HX.out ⟨by simp [QZ.out], by simp [h0], by simp [h1], by simp [h4]⟩)
set_option maxHeartbeats 4000000 in
set_option maxRecDepth 100000 in
theorem r15_56 (g h n c oc B : Nat) (A : Addr) (D : Nat → Int) (w0 w : World) (T : Array Value) (E : Env0 g h w0.heap.size n c A D) (hn : 60 ≤ n) (hBg : B ≤ g) (hBh : B ≤ h) (hBw : B ≤ w0.heap.size) (S : St 15 292 w0 g h n c oc B A D 56 28 0 T w) (K : Act → World → Prop) (R : Ending → World → Prop)
    (hk : ∀ T' w', St 15 292 w0 g h n c oc B A D 56 29 0 T' w' → K ⟨T', []⟩ w') :
    (regionOf Tryd.f35 56).wp Tryd.prog (Exit.then K (bodyPost Tryd.prog Tryd.f35 R)) ⟨T, []⟩ w := by
  conv => arg 2; whnf
  obtain ⟨hsz, h0, h1, h4, f, V, M, hG, hd, hp⟩ := S
  have z264 : 264 < T.size := by omega
  have z265 : 265 < T.size := by omega
  have z266 : 266 < T.size := by omega
  have z267 : 267 < T.size := by omega
  have z268 : 268 < T.size := by omega
  have QZ := Aside0.mk hsz
  clear hsz
  have QM := Aside0.mk M
  have QE := Aside0.mk E
  have QG := Aside0.mk hG
  have QD := Aside0.mk hd
  have QP := Aside0.mk hp
  have p := M.pc
  have pz := M.pz
  obtain ⟨y, cj, zj, ey⟩ := M.at 28 (by omega)
  clear hG hd hp M E
  have hx : ((V / 16).tmod 32768 : Int) = numD D (15 * 28) 15 := pc_mid (t := 56 - 4) (QG.out (by omega)) QE.out.db (by omega) 4 15 16 32768 (by decide) (by decide) (by omega)
  have HX := Aside0.mk hx
  clear hx
  go_wp2
  exact St.whole QE.out hBh QM.out QG.out QD.out HX.out ⟨by simp [QZ.out], by simp [h0], by simp [h1], by simp [h4]⟩
set_option maxHeartbeats 4000000 in
set_option maxRecDepth 100000 in
theorem r15_57 (g h n c oc B : Nat) (A : Addr) (D : Nat → Int) (w0 w : World) (T : Array Value) (E : Env0 g h w0.heap.size n c A D) (hn : 60 ≤ n) (hBg : B ≤ g) (hBh : B ≤ h) (hBw : B ≤ w0.heap.size) (S : St 15 292 w0 g h n c oc B A D 56 29 0 T w) (K : Act → World → Prop) (R : Ending → World → Prop)
    (hk : ∀ T' w', St 15 292 w0 g h n c oc B A D 56 29 13 T' w' → K ⟨T', []⟩ w') :
    (regionOf Tryd.f35 57).wp Tryd.prog (Exit.then K (bodyPost Tryd.prog Tryd.f35 R)) ⟨T, []⟩ w := by
  conv => arg 2; whnf
  obtain ⟨hsz, h0, h1, h4, f, V, M, hG, hd, hp⟩ := S
  have z269 : 269 < T.size := by omega
  have z270 : 270 < T.size := by omega
  have z271 : 271 < T.size := by omega
  have z272 : 272 < T.size := by omega
  have QZ := Aside0.mk hsz
  clear hsz
  have QM := Aside0.mk M
  have QE := Aside0.mk E
  have QG := Aside0.mk hG
  have QD := Aside0.mk hd
  have QP := Aside0.mk hp
  have p := M.pc
  have pz := M.pz
  obtain ⟨y, cj, zj, ey⟩ := M.at 29 (by omega)
  clear hG hd hp M E
  have hx : (V / 524288 : Int) = numD D (15 * 29) 13 := pc_last (t := 56 - 4) (QG.out (by omega)) QE.out.db (by omega) 19 13 524288 (by decide) (by omega)
  have HX := Aside0.mk hx
  clear hx
  go_wp2
  exact St.part QE.out hBh QM.out QG.out QD.out HX.out ⟨by simp [QZ.out], by simp [h0], by simp [h1], by simp [h4]⟩
set_option maxHeartbeats 4000000 in
set_option maxRecDepth 100000 in
theorem r15_58 (g h n c oc B : Nat) (A : Addr) (D : Nat → Int) (w0 w : World) (T : Array Value) (E : Env0 g h w0.heap.size n c A D) (hn : 60 ≤ n) (hBg : B ≤ g) (hBh : B ≤ h) (hBw : B ≤ w0.heap.size) (S : St 15 292 w0 g h n c oc B A D 56 29 13 T w) (K : Act → World → Prop) (R : Ending → World → Prop)
    (hk : ∀ T' w', St 15 292 w0 g h n c oc B A D 60 29 13 T' w' → K ⟨T', []⟩ w') :
    (regionOf Tryd.f35 58).wp Tryd.prog (Exit.then K (bodyPost Tryd.prog Tryd.f35 R)) ⟨T, []⟩ w := by
  conv => arg 2; whnf
  obtain ⟨hsz, h0, h1, h4, f, V, M, hG, hd, hp⟩ := S
  have z273 : 273 < T.size := by omega
  have z274 : 274 < T.size := by omega
  have QZ := Aside0.mk hsz
  clear hsz
  have QM := Aside0.mk M
  have QE := Aside0.mk E
  have QG := Aside0.mk hG
  have QD := Aside0.mk hd
  have QP := Aside0.mk hp
  have hi : 56 + 4 ≤ n := by omega
  have C := fun (Q : Ending → World → Prop) k => Mid.goS (Q := Q) (oc := oc) (nt := 292) QE.out hBg hBw hi QM.out QD.out QP.out k
  have C := Aside0.mk C
  clear hG hd hp M E hi
  go_wp2_with (go_at_call 40; refine C.out _ ?_; intro w' HS; have HS := Aside0.mk HS)
  exact HS.out _ (by simp [QZ.out]) (by simp [h0]) (by simp [h1]) (by simp [h4])
set_option maxHeartbeats 4000000 in
set_option maxRecDepth 100000 in
theorem r15_59 (g h n c oc B : Nat) (A : Addr) (D : Nat → Int) (w0 w : World) (T : Array Value) (E : Env0 g h w0.heap.size n c A D) (hn : 60 ≤ n) (hBg : B ≤ g) (hBh : B ≤ h) (hBw : B ≤ w0.heap.size) (S : St 15 292 w0 g h n c oc B A D 60 29 13 T w) (K : Act → World → Prop) (R : Ending → World → Prop)
    (hk : ∀ T' w', St 15 292 w0 g h n c oc B A D 60 30 0 T' w' → K ⟨T', []⟩ w') :
    (regionOf Tryd.f35 59).wp Tryd.prog (Exit.then K (bodyPost Tryd.prog Tryd.f35 R)) ⟨T, []⟩ w := by
  conv => arg 2; whnf
  obtain ⟨hsz, h0, h1, h4, f, V, M, hG, hd, hp⟩ := S
  have z275 : 275 < T.size := by omega
  have z276 : 276 < T.size := by omega
  have z277 : 277 < T.size := by omega
  have z278 : 278 < T.size := by omega
  have z279 : 279 < T.size := by omega
  have z280 : 280 < T.size := by omega
  have z281 : 281 < T.size := by omega
  have z282 : 282 < T.size := by omega
  have QZ := Aside0.mk hsz
  clear hsz
  have QM := Aside0.mk M
  have QE := Aside0.mk E
  have QG := Aside0.mk hG
  have QD := Aside0.mk hd
  have QP := Aside0.mk hp
  have p := M.pc
  have pz := M.pz
  obtain ⟨y, cj, zj, ey⟩ := M.at 29 (by omega)
  clear hG hd hp M E
  have mixed : Tryd.prog.follows .mixedOrders = true := by kernel_rfl
  have hx : (Go.bits .or .u32 y (IntKind.u32.wrap (V.tmod 4 * 8192)) : Int) = numD D (15 * 29) 15 := pc_two' (t := 60 - 4) (QG.out (by omega)) QE.out.db (by omega) (15 * 29) 13 2 4 8192 (by decide) (by decide) (by omega) (by omega) (ey.out.trans (QP.out (by omega)))
  have HX := Aside0.mk hx
  clear hx
  go_region
  all_goals exact hk _ _ (St.whole_d QE.out hBh QM.out QG.out QD.out HX.out ⟨by simp [QZ.out], by simp [h0], by simp [h1], by simp [h4]⟩)
set_option maxHeartbeats 4000000 in
set_option maxRecDepth 100000 in
theorem r15_60 (g h n c oc B : Nat) (A : Addr) (D : Nat → Int) (w0 w : World) (T : Array Value) (E : Env0 g h w0.heap.size n c A D) (hn : 60 ≤ n) (hBg : B ≤ g) (hBh : B ≤ h) (hBw : B ≤ w0.heap.size) (S : St 15 292 w0 g h n c oc B A D 60 30 0 T w) (K : Act → World → Prop) (R : Ending → World → Prop)
    (hk : ∀ T' w', St 15 292 w0 g h n c oc B A D 60 31 0 T' w' → K ⟨T', []⟩ w') :
    (regionOf Tryd.f35 60).wp Tryd.prog (Exit.then K (bodyPost Tryd.prog Tryd.f35 R)) ⟨T, []⟩ w := by
  conv => arg 2; whnf
  obtain ⟨hsz, h0, h1, h4, f, V, M, hG, hd, hp⟩ := S
  have z283 : 283 < T.size := by omega
  have z284 : 284 < T.size := by omega
  have z285 : 285 < T.size := by omega
  have z286 : 286 < T.size := by omega
  have z287 : 287 < T.size := by omega
  have QZ := Aside0.mk hsz
  clear hsz
  have QM := Aside0.mk M
  have QE := Aside0.mk E
  have QG := Aside0.mk hG
  have QD := Aside0.mk hd
  have QP := Aside0.mk hp
  have p := M.pc
  have pz := M.pz
  obtain ⟨y, cj, zj, ey⟩ := M.at 30 (by omega)
  clear hG hd hp M E
  have hx : ((V / 4).tmod 32768 : Int) = numD D (15 * 30) 15 := pc_mid (t := 60 - 4) (QG.out (by omega)) QE.out.db (by omega) 2 15 4 32768 (by decide) (by decide) (by omega)
  have HX := Aside0.mk hx
  clear hx
  go_wp2
  exact St.whole QE.out hBh QM.out QG.out QD.out HX.out ⟨by simp [QZ.out], by simp [h0], by simp [h1], by simp [h4]⟩
set_option maxHeartbeats 4000000 in
set_option maxRecDepth 100000 in
theorem r15_61 (g h n c oc B : Nat) (A : Addr) (D : Nat → Int) (w0 w : World) (T : Array Value) (E : Env0 g h w0.heap.size n c A D) (hn : 60 ≤ n) (hBg : B ≤ g) (hBh : B ≤ h) (hBw : B ≤ w0.heap.size) (S : St 15 292 w0 g h n c oc B A D 60 31 0 T w) (K : Act → World → Prop) (R : Ending → World → Prop)
    (hk : ∀ T' w', St 15 292 w0 g h n c oc B A D 60 32 0 T' w' → K ⟨T', []⟩ w') :
    (regionOf Tryd.f35 61).wp Tryd.prog (Exit.then K (bodyPost Tryd.prog Tryd.f35 R)) ⟨T, []⟩ w := by
  conv => arg 2; whnf
  obtain ⟨hsz, h0, h1, h4, f, V, M, hG, hd, hp⟩ := S
  have z288 : 288 < T.size := by omega
  have z289 : 289 < T.size := by omega
  have z290 : 290 < T.size := by omega
  have z291 : 291 < T.size := by omega
  have QZ := Aside0.mk hsz
  clear hsz
  have QM := Aside0.mk M
  have QE := Aside0.mk E
  have QG := Aside0.mk hG
  have QD := Aside0.mk hd
  have QP := Aside0.mk hp
  have p := M.pc
  have pz := M.pz
  obtain ⟨y, cj, zj, ey⟩ := M.at 31 (by omega)
  clear hG hd hp M E
  have hx : (V / 131072 : Int) = numD D (15 * 31) 15 := pc_last (t := 60 - 4) (QG.out (by omega)) QE.out.db (by omega) 17 15 131072 (by decide) (by omega)
  have HX := Aside0.mk hx
  clear hx
  go_wp2
  exact St.whole QE.out hBh QM.out QG.out QD.out HX.out ⟨by simp [QZ.out], by simp [h0], by simp [h1], by simp [h4]⟩
end Go.Proofs.YtblmpfhjghcddaaDoor.QU
