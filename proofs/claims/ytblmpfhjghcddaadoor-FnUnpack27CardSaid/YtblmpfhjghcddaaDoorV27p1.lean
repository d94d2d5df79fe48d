/- What the regions of unpack27_32 do, one by one, to the state between them. Printed by gen_regs.py of this session. -/
import Derived.Test.YtblmpfhjghcddaaDoorU8
namespace Go.Proofs.YtblmpfhjghcddaaDoor.QU
open Go.RowKit Go.Proofs.YtblmpfhjghcddaaDoorW.PrintWords Go.Proofs.YtblmpfhjghcddaaDoorW.PrintLast Go.Proofs.YtblmpfhjghcddaaDoorW.PrintMore
set_option linter.unusedVariables false
set_option linter.unusedSimpArgs false
set_option maxHeartbeats 4000000 in
set_option maxRecDepth 100000 in
theorem r27_25 (g h n c oc B : Nat) (A : Addr) (D : Nat → Int) (w0 w : World) (T : Array Value) (E : Env0 g h w0.heap.size n c A D) (hn : 108 ≤ n) (hBg : B ≤ g) (hBh : B ≤ h) (hBw : B ≤ w0.heap.size) (S : St 27 400 w0 g h n c oc B A D 32 9 0 T w) (K : Act → World → Prop) (R : Ending → World → Prop)
    (hk : ∀ T' w', St 27 400 w0 g h n c oc B A D 32 9 13 T' w' → K ⟨T', []⟩ w') :
    (regionOf Tryd.f38 25).wp Tryd.prog (Exit.then K (bodyPost Tryd.prog Tryd.f38 R)) ⟨T, []⟩ w := by
  conv => arg 2; whnf
  obtain ⟨hsz, h0, h1, h4, f, V, M, hG, hd, hp⟩ := S
  have z115 : 115 < T.size := by omega
  have z116 : 116 < T.size := by omega
  have z117 : 117 < T.size := by omega
  have z118 : 118 < T.size := by omega
  have QZ := Aside0.mk hsz
  clear hsz
  have QM := Aside0.mk M
  have QE := Aside0.mk E
  have QG := Aside0.mk hG
  have QD := Aside0.mk hd
  have QP := Aside0.mk hp
  have p := M.pc
  have pz := M.pz
  obtain ⟨y, cj, zj, ey⟩ := M.at 9 (by omega)
  clear hG hd hp M E
  have hx : (V / 524288 : Int) = numD D (27 * 9) 13 := pc_last (t := 32 - 4) (QG.out (by omega)) QE.out.db (by omega) 19 13 524288 (by decide) (by omega)
  have HX := Aside0.mk hx
  clear hx
  go_wp2
  exact St.part QE.out hBh QM.out QG.out QD.out HX.out ⟨by simp [QZ.out], by simp [h0], by simp [h1], by simp [h4]⟩
set_option maxHeartbeats 4000000 in
set_option maxRecDepth 100000 in
theorem r27_26 (g h n c oc B : Nat) (A : Addr) (D : Nat → Int) (w0 w : World) (T : Array Value) (E : Env0 g h w0.heap.size n c A D) (hn : 108 ≤ n) (hBg : B ≤ g) (hBh : B ≤ h) (hBw : B ≤ w0.heap.size) (S : St 27 400 w0 g h n c oc B A D 32 9 13 T w) (K : Act → World → Prop) (R : Ending → World → Prop)
    (hk : ∀ T' w', St 27 400 w0 g h n c oc B A D 36 9 13 T' w' → K ⟨T', []⟩ w') :
    (regionOf Tryd.f38 26).wp Tryd.prog (Exit.then K (bodyPost Tryd.prog Tryd.f38 R)) ⟨T, []⟩ w := by
  conv => arg 2; whnf
  obtain ⟨hsz, h0, h1, h4, f, V, M, hG, hd, hp⟩ := S
  have z119 : 119 < T.size := by omega
  have z120 : 120 < T.size := by omega
  have QZ := Aside0.mk hsz
  clear hsz
  have QM := Aside0.mk M
  have QE := Aside0.mk E
  have QG := Aside0.mk hG
  have QD := Aside0.mk hd
  have QP := Aside0.mk hp
  have hi : 32 + 4 ≤ n := by omega
  have C := fun (Q : Ending → World → Prop) k => Mid.goS (Q := Q) (oc := oc) (nt := 400) QE.out hBg hBw hi QM.out QD.out QP.out k
  have C := Aside0.mk C
  clear hG hd hp M E hi
  go_wp2_with (go_at_call 40; refine C.out _ ?_; intro w' HS; have HS := Aside0.mk HS)
  exact HS.out _ (by simp [QZ.out]) (by simp [h0]) (by simp [h1]) (by simp [h4])
set_option maxHeartbeats 4000000 in
set_option maxRecDepth 100000 in
theorem r27_27 (g h n c oc B : Nat) (A : Addr) (D : Nat → Int) (w0 w : World) (T : Array Value) (E : Env0 g h w0.heap.size n c A D) (hn : 108 ≤ n) (hBg : B ≤ g) (hBh : B ≤ h) (hBw : B ≤ w0.heap.size) (S : St 27 400 w0 g h n c oc B A D 36 9 13 T w) (K : Act → World → Prop) (R : Ending → World → Prop)
    (hk : ∀ T' w', St 27 400 w0 g h n c oc B A D 36 10 0 T' w' → K ⟨T', []⟩ w') :
    (regionOf Tryd.f38 27).wp Tryd.prog (Exit.then K (bodyPost Tryd.prog Tryd.f38 R)) ⟨T, []⟩ w := by
  conv => arg 2; whnf
  obtain ⟨hsz, h0, h1, h4, f, V, M, hG, hd, hp⟩ := S
  have z121 : 121 < T.size := by omega
  have z122 : 122 < T.size := by omega
  have z123 : 123 < T.size := by omega
  have z124 : 124 < T.size := by omega
  have z125 : 125 < T.size := by omega
  have z126 : 126 < T.size := by omega
  have z127 : 127 < T.size := by omega
  have z128 : 128 < T.size := by omega
  have QZ := Aside0.mk hsz
  clear hsz
  have QM := Aside0.mk M
  have QE := Aside0.mk E
  have QG := Aside0.mk hG
  have QD := Aside0.mk hd
  have QP := Aside0.mk hp
  have p := M.pc
  have pz := M.pz
  obtain ⟨y, cj, zj, ey⟩ := M.at 9 (by omega)
  clear hG hd hp M E
  have mixed : Tryd.prog.follows .mixedOrders = true := by kernel_rfl
  have hx : (Go.bits .or .u32 y (IntKind.u32.wrap (V.tmod 16384 * 8192)) : Int) = numD D (27 * 9) 27 := pc_two' (t := 36 - 4) (QG.out (by omega)) QE.out.db (by omega) (27 * 9) 13 14 16384 8192 (by decide) (by decide) (by omega) (by omega) (ey.out.trans (QP.out (by omega)))
  have HX := Aside0.mk hx
  clear hx
  go_region
  all_goals exact hk _ _ (St.whole_d QE.out hBh QM.out QG.out QD.out HX.out ⟨by simp [QZ.out], by simp [h0], by simp [h1], by simp [h4]⟩)
set_option maxHeartbeats 4000000 in
set_option maxRecDepth 100000 in
theorem r27_28 (g h n c oc B : Nat) (A : Addr) (D : Nat → Int) (w0 w : World) (T : Array Value) (E : Env0 g h w0.heap.size n c A D) (hn : 108 ≤ n) (hBg : B ≤ g) (hBh : B ≤ h) (hBw : B ≤ w0.heap.size) (S : St 27 400 w0 g h n c oc B A D 36 10 0 T w) (K : Act → World → Prop) (R : Ending → World → Prop)
    (hk : ∀ T' w', St 27 400 w0 g h n c oc B A D 36 10 18 T' w' → K ⟨T', []⟩ w') :
    (regionOf Tryd.f38 28).wp Tryd.prog (Exit.then K (bodyPost Tryd.prog Tryd.f38 R)) ⟨T, []⟩ w := by
  conv => arg 2; whnf
  obtain ⟨hsz, h0, h1, h4, f, V, M, hG, hd, hp⟩ := S
  have z129 : 129 < T.size := by omega
  have z130 : 130 < T.size := by omega
  have z131 : 131 < T.size := by omega
  have z132 : 132 < T.size := by omega
  have QZ := Aside0.mk hsz
  clear hsz
  have QM := Aside0.mk M
  have QE := Aside0.mk E
  have QG := Aside0.mk hG
  have QD := Aside0.mk hd
  have QP := Aside0.mk hp
  have p := M.pc
  have pz := M.pz
  obtain ⟨y, cj, zj, ey⟩ := M.at 10 (by omega)
  clear hG hd hp M E
  have hx : (V / 16384 : Int) = numD D (27 * 10) 18 := pc_last (t := 36 - 4) (QG.out (by omega)) QE.out.db (by omega) 14 18 16384 (by decide) (by omega)
  have HX := Aside0.mk hx
  clear hx
  go_wp2
  exact St.part QE.out hBh QM.out QG.out QD.out HX.out ⟨by simp [QZ.out], by simp [h0], by simp [h1], by simp [h4]⟩
set_option maxHeartbeats 4000000 in
set_option maxRecDepth 100000 in
theorem r27_29 (g h n c oc B : Nat) (A : Addr) (D : Nat → Int) (w0 w : World) (T : Array Value) (E : Env0 g h w0.heap.size n c A D) (hn : 108 ≤ n) (hBg : B ≤ g) (hBh : B ≤ h) (hBw : B ≤ w0.heap.size) (S : St 27 400 w0 g h n c oc B A D 36 10 18 T w) (K : Act → World → Prop) (R : Ending → World → Prop)
    (hk : ∀ T' w', St 27 400 w0 g h n c oc B A D 40 10 18 T' w' → K ⟨T', []⟩ w') :
    (regionOf Tryd.f38 29).wp Tryd.prog (Exit.then K (bodyPost Tryd.prog Tryd.f38 R)) ⟨T, []⟩ w := by
  conv => arg 2; whnf
  obtain ⟨hsz, h0, h1, h4, f, V, M, hG, hd, hp⟩ := S
  have z133 : 133 < T.size := by omega
  have z134 : 134 < T.size := by omega
  have QZ := Aside0.mk hsz
  clear hsz
  have QM := Aside0.mk M
  have QE := Aside0.mk E
  have QG := Aside0.mk hG
  have QD := Aside0.mk hd
  have QP := Aside0.mk hp
  have hi : 36 + 4 ≤ n := by omega
  have C := fun (Q : Ending → World → Prop) k => Mid.goS (Q := Q) (oc := oc) (nt := 400) QE.out hBg hBw hi QM.out QD.out QP.out k
  have C := Aside0.mk C
  clear hG hd hp M E hi
  go_wp2_with (go_at_call 40; refine C.out _ ?_; intro w' HS; have HS := Aside0.mk HS)
  exact HS.out _ (by simp [QZ.out]) (by simp [h0]) (by simp [h1]) (by simp [h4])
set_option maxHeartbeats 4000000 in
set_option maxRecDepth 100000 in
theorem r27_30 (g h n c oc B : Nat) (A : Addr) (D : Nat → Int) (w0 w : World) (T : Array Value) (E : Env0 g h w0.heap.size n c A D) (hn : 108 ≤ n) (hBg : B ≤ g) (hBh : B ≤ h) (hBw : B ≤ w0.heap.size) (S : St 27 400 w0 g h n c oc B A D 40 10 18 T w) (K : Act → World → Prop) (R : Ending → World → Prop)
    (hk : ∀ T' w', St 27 400 w0 g h n c oc B A D 40 11 0 T' w' → K ⟨T', []⟩ w') :
    (regionOf Tryd.f38 30).wp Tryd.prog (Exit.then K (bodyPost Tryd.prog Tryd.f38 R)) ⟨T, []⟩ w := by
  conv => arg 2; whnf
  obtain ⟨hsz, h0, h1, h4, f, V, M, hG, hd, hp⟩ := S
  have z135 : 135 < T.size := by omega
  have z136 : 136 < T.size := by omega
  have z137 : 137 < T.size := by omega
  have z138 : 138 < T.size := by omega
  have z139 : 139 < T.size := by omega
  have z140 : 140 < T.size := by omega
  have z141 : 141 < T.size := by omega
  have z142 : 142 < T.size := by omega
  have QZ := Aside0.mk hsz
  clear hsz
  have QM := Aside0.mk M
  have QE := Aside0.mk E
  have QG := Aside0.mk hG
  have QD := Aside0.mk hd
  have QP := Aside0.mk hp
  have p := M.pc
  have pz := M.pz
  obtain ⟨y, cj, zj, ey⟩ := M.at 10 (by omega)
  clear hG hd hp M E
  have mixed : Tryd.prog.follows .mixedOrders = true := by kernel_rfl
  have hx : (Go.bits .or .u32 y (IntKind.u32.wrap (V.tmod 512 * 262144)) : Int) = numD D (27 * 10) 27 := pc_two' (t := 40 - 4) (QG.out (by omega)) QE.out.db (by omega) (27 * 10) 18 9 512 262144 (by decide) (by decide) (by omega) (by omega) (ey.out.trans (QP.out (by omega)))
  have HX := Aside0.mk hx
  clear hx
  go_region
  all_goals exact hk _ _ (St.whole_d QE.out hBh QM.out QG.out QD.out HX.out ⟨by simp [QZ.out], by simp [h0], by simp [h1], by simp [h4]⟩)
set_option maxHeartbeats 4000000 in
set_option maxRecDepth 100000 in
theorem r27_31 (g h n c oc B : Nat) (A : Addr) (D : Nat → Int) (w0 w : World) (T : Array Value) (E : Env0 g h w0.heap.size n c A D) (hn : 108 ≤ n) (hBg : B ≤ g) (hBh : B ≤ h) (hBw : B ≤ w0.heap.size) (S : St 27 400 w0 g h n c oc B A D 40 11 0 T w) (K : Act → World → Prop) (R : Ending → World → Prop)
    (hk : ∀ T' w', St 27 400 w0 g h n c oc B A D 40 11 23 T' w' → K ⟨T', []⟩ w') :
    (regionOf Tryd.f38 31).wp Tryd.prog (Exit.then K (bodyPost Tryd.prog Tryd.f38 R)) ⟨T, []⟩ w := by
  conv => arg 2; whnf
  obtain ⟨hsz, h0, h1, h4, f, V, M, hG, hd, hp⟩ := S
  have z143 : 143 < T.size := by omega
  have z144 : 144 < T.size := by omega
  have z145 : 145 < T.size := by omega
  have z146 : 146 < T.size := by omega
  have QZ := Aside0.mk hsz
  clear hsz
  have QM := Aside0.mk M
  have QE := Aside0.mk E
  have QG := Aside0.mk hG
  have QD := Aside0.mk hd
  have QP := Aside0.mk hp
  have p := M.pc
  have pz := M.pz
  obtain ⟨y, cj, zj, ey⟩ := M.at 11 (by omega)
  clear hG hd hp M E
  have hx : (V / 512 : Int) = numD D (27 * 11) 23 := pc_last (t := 40 - 4) (QG.out (by omega)) QE.out.db (by omega) 9 23 512 (by decide) (by omega)
  have HX := Aside0.mk hx
  clear hx
  go_wp2
  exact St.part QE.out hBh QM.out QG.out QD.out HX.out ⟨by simp [QZ.out], by simp [h0], by simp [h1], by simp [h4]⟩
set_option maxHeartbeats 4000000 in
set_option maxRecDepth 100000 in
theorem r27_32 (g h n c oc B : Nat) (A : Addr) (D : Nat → Int) (w0 w : World) (T : Array Value) (E : Env0 g h w0.heap.size n c A D) (hn : 108 ≤ n) (hBg : B ≤ g) (hBh : B ≤ h) (hBw : B ≤ w0.heap.size) (S : St 27 400 w0 g h n c oc B A D 40 11 23 T w) (K : Act → World → Prop) (R : Ending → World → Prop)
    (hk : ∀ T' w', St 27 400 w0 g h n c oc B A D 44 11 23 T' w' → K ⟨T', []⟩ w') :
    (regionOf Tryd.f38 32).wp Tryd.prog (Exit.then K (bodyPost Tryd.prog Tryd.f38 R)) ⟨T, []⟩ w := by
  conv => arg 2; whnf
  obtain ⟨hsz, h0, h1, h4, f, V, M, hG, hd, hp⟩ := S
  have z147 : 147 < T.size := by omega
  have z148 : 148 < T.size := by omega
  have QZ := Aside0.mk hsz
  clear hsz
  have QM := Aside0.mk M
  have QE := Aside0.mk E
  have QG := Aside0.mk hG
  have QD := Aside0.mk hd
  have QP := Aside0.mk hp
  have hi : 40 + 4 ≤ n := by omega
  have C := fun (Q : Ending → World → Prop) k => Mid.goS (Q := Q) (oc := oc) (nt := 400) QE.out hBg hBw hi QM.out QD.out QP.out k
  have C := Aside0.mk C
  clear hG hd hp M E hi
  go_wp2_with (go_at_call 40; refine C.out _ ?_; intro w' HS; have HS := Aside0.mk HS)
  exact HS.out _ (by simp [QZ.out]) (by simp [h0]) (by simp [h1]) (by simp [h4])
set_option maxHeartbeats 4000000 in
set_option maxRecDepth 100000 in
theorem r27_33 (g h n c oc B : Nat) (A : Addr) (D : Nat → Int) (w0 w : World) (T : Array Value) (E : Env0 g h w0.heap.size n c A D) (hn : 108 ≤ n) (hBg : B ≤ g) (hBh : B ≤ h) (hBw : B ≤ w0.heap.size) (S : St 27 400 w0 g h n c oc B A D 44 11 23 T w) (K : Act → World → Prop) (R : Ending → World → Prop)
    (hk : ∀ T' w', St 27 400 w0 g h n c oc B A D 44 12 0 T' w' → K ⟨T', []⟩ w') :
    (regionOf Tryd.f38 33).wp Tryd.prog (Exit.then K (bodyPost Tryd.prog Tryd.f38 R)) ⟨T, []⟩ w := by
  conv => arg 2; whnf
  obtain ⟨hsz, h0, h1, h4, f, V, M, hG, hd, hp⟩ := S
  have z149 : 149 < T.size := by omega
  have z150 : 150 < T.size := by omega
  have z151 : 151 < T.size := by omega
  have z152 : 152 < T.size := by omega
  have z153 : 153 < T.size := by omega
  have z154 : 154 < T.size := by omega
  have z155 : 155 < T.size := by omega
  have z156 : 156 < T.size := by omega
  have QZ := Aside0.mk hsz
  clear hsz
  have QM := Aside0.mk M
  have QE := Aside0.mk E
  have QG := Aside0.mk hG
  have QD := Aside0.mk hd
  have QP := Aside0.mk hp
  have p := M.pc
  have pz := M.pz
  obtain ⟨y, cj, zj, ey⟩ := M.at 11 (by omega)
  clear hG hd hp M E
  have mixed : Tryd.prog.follows .mixedOrders = true := by kernel_rfl
  have hx : (Go.bits .or .u32 y (IntKind.u32.wrap (V.tmod 16 * 8388608)) : Int) = numD D (27 * 11) 27 := pc_two' (t := 44 - 4) (QG.out (by omega)) QE.out.db (by omega) (27 * 11) 23 4 16 8388608 (by decide) (by decide) (by omega) (by omega) (ey.out.trans (QP.out (by omega)))
  have HX := Aside0.mk hx
  clear hx
  go_region
  all_goals exact hk _ _ (St.whole_d QE.out hBh QM.out QG.out QD.out HX.out ⟨by simp [QZ.out], by simp [h0], by simp [h1], by simp [h4]⟩)
set_option maxHeartbeats 4000000 in
set_option maxRecDepth 100000 in
theorem r27_34 (g h n c oc B : Nat) (A : Addr) (D : Nat → Int) (w0 w : World) (T : Array Value) (E : Env0 g h w0.heap.size n c A D) (hn : 108 ≤ n) (hBg : B ≤ g) (hBh : B ≤ h) (hBw : B ≤ w0.heap.size) (S : St 27 400 w0 g h n c oc B A D 44 12 0 T w) (K : Act → World → Prop) (R : Ending → World → Prop)
    (hk : ∀ T' w', St 27 400 w0 g h n c oc B A D 44 13 0 T' w' → K ⟨T', []⟩ w') :
    (regionOf Tryd.f38 34).wp Tryd.prog (Exit.then K (bodyPost Tryd.prog Tryd.f38 R)) ⟨T, []⟩ w := by
  conv => arg 2; whnf
  obtain ⟨hsz, h0, h1, h4, f, V, M, hG, hd, hp⟩ := S
  have z157 : 157 < T.size := by omega
  have z158 : 158 < T.size := by omega
  have z159 : 159 < T.size := by omega
  have z160 : 160 < T.size := by omega
  have z161 : 161 < T.size := by omega
  have QZ := Aside0.mk hsz
  clear hsz
  have QM := Aside0.mk M
  have QE := Aside0.mk E
  have QG := Aside0.mk hG
  have QD := Aside0.mk hd
  have QP := Aside0.mk hp
  have p := M.pc
  have pz := M.pz
  obtain ⟨y, cj, zj, ey⟩ := M.at 12 (by omega)
  clear hG hd hp M E
  have hx : ((V / 16).tmod 134217728 : Int) = numD D (27 * 12) 27 := pc_mid (t := 44 - 4) (QG.out (by omega)) QE.out.db (by omega) 4 27 16 134217728 (by decide) (by decide) (by omega)
  have HX := Aside0.mk hx
  clear hx
  go_wp2
  exact St.whole QE.out hBh QM.out QG.out QD.out HX.out ⟨by simp [QZ.out], by simp [h0], by simp [h1], by simp [h4]⟩
set_option maxHeartbeats 4000000 in
set_option maxRecDepth 100000 in
theorem r27_35 (g h n c oc B : Nat) (A : Addr) (D : Nat → Int) (w0 w : World) (T : Array Value) (E : Env0 g h w0.heap.size n c A D) (hn : 108 ≤ n) (hBg : B ≤ g) (hBh : B ≤ h) (hBw : B ≤ w0.heap.size) (S : St 27 400 w0 g h n c oc B A D 44 13 0 T w) (K : Act → World → Prop) (R : Ending → World → Prop)
    (hk : ∀ T' w', St 27 400 w0 g h n c oc B A D 44 13 1 T' w' → K ⟨T', []⟩ w') :
    (regionOf Tryd.f38 35).wp Tryd.prog (Exit.then K (bodyPost Tryd.prog Tryd.f38 R)) ⟨T, []⟩ w := by
  conv => arg 2; whnf
  obtain ⟨hsz, h0, h1, h4, f, V, M, hG, hd, hp⟩ := S
  have z162 : 162 < T.size := by omega
  have z163 : 163 < T.size := by omega
  have z164 : 164 < T.size := by omega
  have z165 : 165 < T.size := by omega
  have QZ := Aside0.mk hsz
  clear hsz
  have QM := Aside0.mk M
  have QE := Aside0.mk E
  have QG := Aside0.mk hG
  have QD := Aside0.mk hd
  have QP := Aside0.mk hp
  have p := M.pc
  have pz := M.pz
  obtain ⟨y, cj, zj, ey⟩ := M.at 13 (by omega)
  clear hG hd hp M E
  have hx : (V / 2147483648 : Int) = numD D (27 * 13) 1 := pc_last (t := 44 - 4) (QG.out (by omega)) QE.out.db (by omega) 31 1 2147483648 (by decide) (by omega)
  have HX := Aside0.mk hx
  clear hx
  go_wp2
  exact St.part QE.out hBh QM.out QG.out QD.out HX.out ⟨by simp [QZ.out], by simp [h0], by simp [h1], by simp [h4]⟩
set_option maxHeartbeats 4000000 in
set_option maxRecDepth 100000 in
theorem r27_36 (g h n c oc B : Nat) (A : Addr) (D : Nat → Int) (w0 w : World) (T : Array Value) (E : Env0 g h w0.heap.size n c A D) (hn : 108 ≤ n) (hBg : B ≤ g) (hBh : B ≤ h) (hBw : B ≤ w0.heap.size) (S : St 27 400 w0 g h n c oc B A D 44 13 1 T w) (K : Act → World → Prop) (R : Ending → World → Prop)
    (hk : ∀ T' w', St 27 400 w0 g h n c oc B A D 48 13 1 T' w' → K ⟨T', []⟩ w') :
    (regionOf Tryd.f38 36).wp Tryd.prog (Exit.then K (bodyPost Tryd.prog Tryd.f38 R)) ⟨T, []⟩ w := by
  conv => arg 2; whnf
  obtain ⟨hsz, h0, h1, h4, f, V, M, hG, hd, hp⟩ := S
  have z166 : 166 < T.size := by omega
  have z167 : 167 < T.size := by omega
  have QZ := Aside0.mk hsz
  clear hsz
  have QM := Aside0.mk M
  have QE := Aside0.mk E
  have QG := Aside0.mk hG
  have QD := Aside0.mk hd
  have QP := Aside0.mk hp
  have hi : 44 + 4 ≤ n := by omega
  have C := fun (Q : Ending → World → Prop) k => Mid.goS (Q := Q) (oc := oc) (nt := 400) QE.out hBg hBw hi QM.out QD.out QP.out k
  have C := Aside0.mk C
  clear hG hd hp M E hi
  go_wp2_with (go_at_call 40; refine C.out _ ?_; intro w' HS; have HS := Aside0.mk HS)
  exact HS.out _ (by simp [QZ.out]) (by simp [h0]) (by simp [h1]) (by simp [h4])
set_option maxHeartbeats 4000000 in
set_option maxRecDepth 100000 in
theorem r27_37 (g h n c oc B : Nat) (A : Addr) (D : Nat → Int) (w0 w : World) (T : Array Value) (E : Env0 g h w0.heap.size n c A D) (hn : 108 ≤ n) (hBg : B ≤ g) (hBh : B ≤ h) (hBw : B ≤ w0.heap.size) (S : St 27 400 w0 g h n c oc B A D 48 13 1 T w) (K : Act → World → Prop) (R : Ending → World → Prop)
    (hk : ∀ T' w', St 27 400 w0 g h n c oc B A D 48 14 0 T' w' → K ⟨T', []⟩ w') :
    (regionOf Tryd.f38 37).wp Tryd.prog (Exit.then K (bodyPost Tryd.prog Tryd.f38 R)) ⟨T, []⟩ w := by
  conv => arg 2; whnf
  obtain ⟨hsz, h0, h1, h4, f, V, M, hG, hd, hp⟩ := S
  have z168 : 168 < T.size := by omega
  have z169 : 169 < T.size := by omega
  have z170 : 170 < T.size := by omega
  have z171 : 171 < T.size := by omega
  have z172 : 172 < T.size := by omega
  have z173 : 173 < T.size := by omega
  have z174 : 174 < T.size := by omega
  have z175 : 175 < T.size := by omega
  have QZ := Aside0.mk hsz
  clear hsz
  have QM := Aside0.mk M
  have QE := Aside0.mk E
  have QG := Aside0.mk hG
  have QD := Aside0.mk hd
  have QP := Aside0.mk hp
  have p := M.pc
  have pz := M.pz
  obtain ⟨y, cj, zj, ey⟩ := M.at 13 (by omega)
  clear hG hd hp M E
  have mixed : Tryd.prog.follows .mixedOrders = true := by kernel_rfl
  have hx : (Go.bits .or .u32 y (IntKind.u32.wrap (V.tmod 67108864 * 2)) : Int) = numD D (27 * 13) 27 := pc_two' (t := 48 - 4) (QG.out (by omega)) QE.out.db (by omega) (27 * 13) 1 26 67108864 2 (by decide) (by decide) (by omega) (by omega) (ey.out.trans (QP.out (by omega)))
  have HX := Aside0.mk hx
  clear hx
  go_region
  all_goals exact hk _ _ (St.whole_d QE.out hBh QM.out QG.out QD.out HX.out ⟨by simp [QZ.out], by simp [h0], by simp [h1], by simp [h4]⟩)
set_option maxHeartbeats 4000000 in
set_option maxRecDepth 100000 in
theorem r27_38 (g h n c oc B : Nat) (A : Addr) (D : Nat → Int) (w0 w : World) (T : Array Value) (E : Env0 g h w0.heap.size n c A D) (hn : 108 ≤ n) (hBg : B ≤ g) (hBh : B ≤ h) (hBw : B ≤ w0.heap.size) (S : St 27 400 w0 g h n c oc B A D 48 14 0 T w) (K : Act → World → Prop) (R : Ending → World → Prop)
    (hk : ∀ T' w', St 27 400 w0 g h n c oc B A D 48 14 6 T' w' → K ⟨T', []⟩ w') :
    (regionOf Tryd.f38 38).wp Tryd.prog (Exit.then K (bodyPost Tryd.prog Tryd.f38 R)) ⟨T, []⟩ w := by
  conv => arg 2; whnf
  obtain ⟨hsz, h0, h1, h4, f, V, M, hG, hd, hp⟩ := S
  have z176 : 176 < T.size := by omega
  have z177 : 177 < T.size := by omega
  have z178 : 178 < T.size := by omega
  have z179 : 179 < T.size := by omega
  have QZ := Aside0.mk hsz
  clear hsz
  have QM := Aside0.mk M
  have QE := Aside0.mk E
  have QG := Aside0.mk hG
  have QD := Aside0.mk hd
  have QP := Aside0.mk hp
  have p := M.pc
  have pz := M.pz
  obtain ⟨y, cj, zj, ey⟩ := M.at 14 (by omega)
  clear hG hd hp M E
  have hx : (V / 67108864 : Int) = numD D (27 * 14) 6 := pc_last (t := 48 - 4) (QG.out (by omega)) QE.out.db (by omega) 26 6 67108864 (by decide) (by omega)
  have HX := Aside0.mk hx
  clear hx
  go_wp2
  exact St.part QE.out hBh QM.out QG.out QD.out HX.out ⟨by simp [QZ.out], by simp [h0], by simp [h1], by simp [h4]⟩
set_option maxHeartbeats 4000000 in
set_option maxRecDepth 100000 in
theorem r27_39 (g h n c oc B : Nat) (A : Addr) (D : Nat → Int) (w0 w : World) (T : Array Value) (E : Env0 g h w0.heap.size n c A D) (hn : 108 ≤ n) (hBg : B ≤ g) (hBh : B ≤ h) (hBw : B ≤ w0.heap.size) (S : St 27 400 w0 g h n c oc B A D 48 14 6 T w) (K : Act → World → Prop) (R : Ending → World → Prop)
    (hk : ∀ T' w', St 27 400 w0 g h n c oc B A D 52 14 6 T' w' → K ⟨T', []⟩ w') :
    (regionOf Tryd.f38 39).wp Tryd.prog (Exit.then K (bodyPost Tryd.prog Tryd.f38 R)) ⟨T, []⟩ w := by
  conv => arg 2; whnf
  obtain ⟨hsz, h0, h1, h4, f, V, M, hG, hd, hp⟩ := S
  have z180 : 180 < T.size := by omega
  have z181 : 181 < T.size := by omega
  have QZ := Aside0.mk hsz
  clear hsz
  have QM := Aside0.mk M
  have QE := Aside0.mk E
  have QG := Aside0.mk hG
  have QD := Aside0.mk hd
  have QP := Aside0.mk hp
  have hi : 48 + 4 ≤ n := by omega
  have C := fun (Q : Ending → World → Prop) k => Mid.goS (Q := Q) (oc := oc) (nt := 400) QE.out hBg hBw hi QM.out QD.out QP.out k
  have C := Aside0.mk C
  clear hG hd hp M E hi
  go_wp2_with (go_at_call 40; refine C.out _ ?_; intro w' HS; have HS := Aside0.mk HS)
  exact HS.out _ (by simp [QZ.out]) (by simp [h0]) (by simp [h1]) (by simp [h4])
set_option maxHeartbeats 4000000 in
set_option maxRecDepth 100000 in
theorem r27_40 (g h n c oc B : Nat) (A : Addr) (D : Nat → Int) (w0 w : World) (T : Array Value) (E : Env0 g h w0.heap.size n c A D) (hn : 108 ≤ n) (hBg : B ≤ g) (hBh : B ≤ h) (hBw : B ≤ w0.heap.size) (S : St 27 400 w0 g h n c oc B A D 52 14 6 T w) (K : Act → World → Prop) (R : Ending → World → Prop)
    (hk : ∀ T' w', St 27 400 w0 g h n c oc B A D 52 15 0 T' w' → K ⟨T', []⟩ w') :
    (regionOf Tryd.f38 40).wp Tryd.prog (Exit.then K (bodyPost Tryd.prog Tryd.f38 R)) ⟨T, []⟩ w := by
  conv => arg 2; whnf
  obtain ⟨hsz, h0, h1, h4, f, V, M, hG, hd, hp⟩ := S
  have z182 : 182 < T.size := by omega
  have z183 : 183 < T.size := by omega
  have z184 : 184 < T.size := by omega
  have z185 : 185 < T.size := by omega
  have z186 : 186 < T.size := by omega
  have z187 : 187 < T.size := by omega
  have z188 : 188 < T.size := by omega
  have z189 : 189 < T.size := by omega
  have QZ := Aside0.mk hsz
  clear hsz
  have QM := Aside0.mk M
  have QE := Aside0.mk E
  have QG := Aside0.mk hG
  have QD := Aside0.mk hd
  have QP := Aside0.mk hp
  have p := M.pc
  have pz := M.pz
  obtain ⟨y, cj, zj, ey⟩ := M.at 14 (by omega)
  clear hG hd hp M E
  have mixed : Tryd.prog.follows .mixedOrders = true := by kernel_rfl
  have hx : (Go.bits .or .u32 y (IntKind.u32.wrap (V.tmod 2097152 * 64)) : Int) = numD D (27 * 14) 27 := pc_two' (t := 52 - 4) (QG.out (by omega)) QE.out.db (by omega) (27 * 14) 6 21 2097152 64 (by decide) (by decide) (by omega) (by omega) (ey.out.trans (QP.out (by omega)))
  have HX := Aside0.mk hx
  clear hx
  go_region
  all_goals exact hk _ _ (St.whole_d QE.out hBh QM.out QG.out QD.out HX.out ⟨by simp [QZ.out], by simp [h0], by simp [h1], by simp [h4]⟩)
set_option maxHeartbeats 4000000 in
set_option maxRecDepth 100000 in
theorem r27_41 (g h n c oc B : Nat) (A : Addr) (D : Nat → Int) (w0 w : World) (T : Array Value) (E : Env0 g h w0.heap.size n c A D) (hn : 108 ≤ n) (hBg : B ≤ g) (hBh : B ≤ h) (hBw : B ≤ w0.heap.size) (S : St 27 400 w0 g h n c oc B A D 52 15 0 T w) (K : Act → World → Prop) (R : Ending → World → Prop)
    (hk : ∀ T' w', St 27 400 w0 g h n c oc B A D 52 15 11 T' w' → K ⟨T', []⟩ w') :
    (regionOf Tryd.f38 41).wp Tryd.prog (Exit.then K (bodyPost Tryd.prog Tryd.f38 R)) ⟨T, []⟩ w := by
  conv => arg 2; whnf
  obtain ⟨hsz, h0, h1, h4, f, V, M, hG, hd, hp⟩ := S
  have z190 : 190 < T.size := by omega
  have z191 : 191 < T.size := by omega
  have z192 : 192 < T.size := by omega
  have z193 : 193 < T.size := by omega
  have QZ := Aside0.mk hsz
  clear hsz
  have QM := Aside0.mk M
  have QE := Aside0.mk E
  have QG := Aside0.mk hG
  have QD := Aside0.mk hd
  have QP := Aside0.mk hp
  have p := M.pc
  have pz := M.pz
  obtain ⟨y, cj, zj, ey⟩ := M.at 15 (by omega)
  clear hG hd hp M E
  have hx : (V / 2097152 : Int) = numD D (27 * 15) 11 := pc_last (t := 52 - 4) (QG.out (by omega)) QE.out.db (by omega) 21 11 2097152 (by decide) (by omega)
  have HX := Aside0.mk hx
  clear hx
  go_wp2
  exact St.part QE.out hBh QM.out QG.out QD.out HX.out ⟨by simp [QZ.out], by simp [h0], by simp [h1], by simp [h4]⟩
set_option maxHeartbeats 4000000 in
set_option maxRecDepth 100000 in
theorem r27_42 (g h n c oc B : Nat) (A : Addr) (D : Nat → Int) (w0 w : World) (T : Array Value) (E : Env0 g h w0.heap.size n c A D) (hn : 108 ≤ n) (hBg : B ≤ g) (hBh : B ≤ h) (hBw : B ≤ w0.heap.size) (S : St 27 400 w0 g h n c oc B A D 52 15 11 T w) (K : Act → World → Prop) (R : Ending → World → Prop)
    (hk : ∀ T' w', St 27 400 w0 g h n c oc B A D 56 15 11 T' w' → K ⟨T', []⟩ w') :
    (regionOf Tryd.f38 42).wp Tryd.prog (Exit.then K (bodyPost Tryd.prog Tryd.f38 R)) ⟨T, []⟩ w := by
  conv => arg 2; whnf
  obtain ⟨hsz, h0, h1, h4, f, V, M, hG, hd, hp⟩ := S
  have z194 : 194 < T.size := by omega
  have z195 : 195 < T.size := by omega
  have QZ := Aside0.mk hsz
  clear hsz
  have QM := Aside0.mk M
  have QE := Aside0.mk E
  have QG := Aside0.mk hG
  have QD := Aside0.mk hd
  have QP := Aside0.mk hp
  have hi : 52 + 4 ≤ n := by omega
  have C := fun (Q : Ending → World → Prop) k => Mid.goS (Q := Q) (oc := oc) (nt := 400) QE.out hBg hBw hi QM.out QD.out QP.out k
  have C := Aside0.mk C
  clear hG hd hp M E hi
  go_wp2_with (go_at_call 40; refine C.out _ ?_; intro w' HS; have HS := Aside0.mk HS)
  exact HS.out _ (by simp [QZ.out]) (by simp [h0]) (by simp [h1]) (by simp [h4])
set_option maxHeartbeats 4000000 in
set_option maxRecDepth 100000 in
theorem r27_43 (g h n c oc B : Nat) (A : Addr) (D : Nat → Int) (w0 w : World) (T : Array Value) (E : Env0 g h w0.heap.size n c A D) (hn : 108 ≤ n) (hBg : B ≤ g) (hBh : B ≤ h) (hBw : B ≤ w0.heap.size) (S : St 27 400 w0 g h n c oc B A D 56 15 11 T w) (K : Act → World → Prop) (R : Ending → World → Prop)
    (hk : ∀ T' w', St 27 400 w0 g h n c oc B A D 56 16 0 T' w' → K ⟨T', []⟩ w') :
    (regionOf Tryd.f38 43).wp Tryd.prog (Exit.then K (bodyPost Tryd.prog Tryd.f38 R)) ⟨T, []⟩ w := by
  conv => arg 2; whnf
  obtain ⟨hsz, h0, h1, h4, f, V, M, hG, hd, hp⟩ := S
  have z196 : 196 < T.size := by omega
  have z197 : 197 < T.size := by omega
  have z198 : 198 < T.size := by omega
  have z199 : 199 < T.size := by omega
  have z200 : 200 < T.size := by omega
  have z201 : 201 < T.size := by omega
  have z202 : 202 < T.size := by omega
  have z203 : 203 < T.size := by omega
  have QZ := Aside0.mk hsz
  clear hsz
  have QM := Aside0.mk M
  have QE := Aside0.mk E
  have QG := Aside0.mk hG
  have QD := Aside0.mk hd
  have QP := Aside0.mk hp
  have p := M.pc
  have pz := M.pz
  obtain ⟨y, cj, zj, ey⟩ := M.at 15 (by omega)
  clear hG hd hp M E
  have mixed : Tryd.prog.follows .mixedOrders = true := by kernel_rfl
  have hx : (Go.bits .or .u32 y (IntKind.u32.wrap (V.tmod 65536 * 2048)) : Int) = numD D (27 * 15) 27 := pc_two' (t := 56 - 4) (QG.out (by omega)) QE.out.db (by omega) (27 * 15) 11 16 65536 2048 (by decide) (by decide) (by omega) (by omega) (ey.out.trans (QP.out (by omega)))
  have HX := Aside0.mk hx
  clear hx
  go_region
  all_goals exact hk _ _ (St.whole_d QE.out hBh QM.out QG.out QD.out HX.out ⟨by simp [QZ.out], by simp [h0], by simp [h1], by simp [h4]⟩)
set_option maxHeartbeats 4000000 in
set_option maxRecDepth 100000 in
theorem r27_44 (g h n c oc B : Nat) (A : Addr) (D : Nat → Int) (w0 w : World) (T : Array Value) (E : Env0 g h w0.heap.size n c A D) (hn : 108 ≤ n) (hBg : B ≤ g) (hBh : B ≤ h) (hBw : B ≤ w0.heap.size) (S : St 27 400 w0 g h n c oc B A D 56 16 0 T w) (K : Act → World → Prop) (R : Ending → World → Prop)
    (hk : ∀ T' w', St 27 400 w0 g h n c oc B A D 56 16 16 T' w' → K ⟨T', []⟩ w') :
    (regionOf Tryd.f38 44).wp Tryd.prog (Exit.then K (bodyPost Tryd.prog Tryd.f38 R)) ⟨T, []⟩ w := by
  conv => arg 2; whnf
  obtain ⟨hsz, h0, h1, h4, f, V, M, hG, hd, hp⟩ := S
  have z204 : 204 < T.size := by omega
  have z205 : 205 < T.size := by omega
  have z206 : 206 < T.size := by omega
  have z207 : 207 < T.size := by omega
  have QZ := Aside0.mk hsz
  clear hsz
  have QM := Aside0.mk M
  have QE := Aside0.mk E
  have QG := Aside0.mk hG
  have QD := Aside0.mk hd
  have QP := Aside0.mk hp
  have p := M.pc
  have pz := M.pz
  obtain ⟨y, cj, zj, ey⟩ := M.at 16 (by omega)
  clear hG hd hp M E
  have hx : (V / 65536 : Int) = numD D (27 * 16) 16 := pc_last (t := 56 - 4) (QG.out (by omega)) QE.out.db (by omega) 16 16 65536 (by decide) (by omega)
  have HX := Aside0.mk hx
  clear hx
  go_wp2
  exact St.part QE.out hBh QM.out QG.out QD.out HX.out ⟨by simp [QZ.out], by simp [h0], by simp [h1], by simp [h4]⟩
set_option maxHeartbeats 4000000 in
set_option maxRecDepth 100000 in
theorem r27_45 (g h n c oc B : Nat) (A : Addr) (D : Nat → Int) (w0 w : World) (T : Array Value) (E : Env0 g h w0.heap.size n c A D) (hn : 108 ≤ n) (hBg : B ≤ g) (hBh : B ≤ h) (hBw : B ≤ w0.heap.size) (S : St 27 400 w0 g h n c oc B A D 56 16 16 T w) (K : Act → World → Prop) (R : Ending → World → Prop)
    (hk : ∀ T' w', St 27 400 w0 g h n c oc B A D 60 16 16 T' w' → K ⟨T', []⟩ w') :
    (regionOf Tryd.f38 45).wp Tryd.prog (Exit.then K (bodyPost Tryd.prog Tryd.f38 R)) ⟨T, []⟩ w := by
  conv => arg 2; whnf
  obtain ⟨hsz, h0, h1, h4, f, V, M, hG, hd, hp⟩ := S
  have z208 : 208 < T.size := by omega
  have z209 : 209 < T.size := by omega
  have QZ := Aside0.mk hsz
  clear hsz
  have QM := Aside0.mk M
  have QE := Aside0.mk E
  have QG := Aside0.mk hG
  have QD := Aside0.mk hd
  have QP := Aside0.mk hp
  have hi : 56 + 4 ≤ n := by omega
  have C := fun (Q : Ending → World → Prop) k => Mid.goS (Q := Q) (oc := oc) (nt := 400) QE.out hBg hBw hi QM.out QD.out QP.out k
  have C := Aside0.mk C
  clear hG hd hp M E hi
  go_wp2_with (go_at_call 40; refine C.out _ ?_; intro w' HS; have HS := Aside0.mk HS)
  exact HS.out _ (by simp [QZ.out]) (by simp [h0]) (by simp [h1]) (by simp [h4])
set_option maxHeartbeats 4000000 in
set_option maxRecDepth 100000 in
theorem r27_46 (g h n c oc B : Nat) (A : Addr) (D : Nat → Int) (w0 w : World) (T : Array Value) (E : Env0 g h w0.heap.size n c A D) (hn : 108 ≤ n) (hBg : B ≤ g) (hBh : B ≤ h) (hBw : B ≤ w0.heap.size) (S : St 27 400 w0 g h n c oc B A D 60 16 16 T w) (K : Act → World → Prop) (R : Ending → World → Prop)
    (hk : ∀ T' w', St 27 400 w0 g h n c oc B A D 60 17 0 T' w' → K ⟨T', []⟩ w') :
    (regionOf Tryd.f38 46).wp Tryd.prog (Exit.then K (bodyPost Tryd.prog Tryd.f38 R)) ⟨T, []⟩ w := by
  conv => arg 2; whnf
  obtain ⟨hsz, h0, h1, h4, f, V, M, hG, hd, hp⟩ := S
  have z210 : 210 < T.size := by omega
  have z211 : 211 < T.size := by omega
  have z212 : 212 < T.size := by omega
  have z213 : 213 < T.size := by omega
  have z214 : 214 < T.size := by omega
  have z215 : 215 < T.size := by omega
  have z216 : 216 < T.size := by omega
  have z217 : 217 < T.size := by omega
  have QZ := Aside0.mk hsz
  clear hsz
  have QM := Aside0.mk M
  have QE := Aside0.mk E
  have QG := Aside0.mk hG
  have QD := Aside0.mk hd
  have QP := Aside0.mk hp
  have p := M.pc
  have pz := M.pz
  obtain ⟨y, cj, zj, ey⟩ := M.at 16 (by omega)
  clear hG hd hp M E
  have mixed : Tryd.prog.follows .mixedOrders = true := by kernel_rfl
  have hx : (Go.bits .or .u32 y (IntKind.u32.wrap (V.tmod 2048 * 65536)) : Int) = numD D (27 * 16) 27 := pc_two' (t := 60 - 4) (QG.out (by omega)) QE.out.db (by omega) (27 * 16) 16 11 2048 65536 (by decide) (by decide) (by omega) (by omega) (ey.out.trans (QP.out (by omega)))
  have HX := Aside0.mk hx
  clear hx
  go_region
  all_goals exact hk _ _ (St.whole_d QE.out hBh QM.out QG.out QD.out HX.out ⟨by simp [QZ.out], by simp [h0], by simp [h1], by simp [h4]⟩)
set_option maxHeartbeats 4000000 in
set_option maxRecDepth 100000 in
theorem r27_47 (g h n c oc B : Nat) (A : Addr) (D : Nat → Int) (w0 w : World) (T : Array Value) (E : Env0 g h w0.heap.size n c A D) (hn : 108 ≤ n) (hBg : B ≤ g) (hBh : B ≤ h) (hBw : B ≤ w0.heap.size) (S : St 27 400 w0 g h n c oc B A D 60 17 0 T w) (K : Act → World → Prop) (R : Ending → World → Prop)
    (hk : ∀ T' w', St 27 400 w0 g h n c oc B A D 60 17 21 T' w' → K ⟨T', []⟩ w') :
    (regionOf Tryd.f38 47).wp Tryd.prog (Exit.then K (bodyPost Tryd.prog Tryd.f38 R)) ⟨T, []⟩ w := by
  conv => arg 2; whnf
  obtain ⟨hsz, h0, h1, h4, f, V, M, hG, hd, hp⟩ := S
  have z218 : 218 < T.size := by omega
  have z219 : 219 < T.size := by omega
  have z220 : 220 < T.size := by omega
  have z221 : 221 < T.size := by omega
  have QZ := Aside0.mk hsz
  clear hsz
  have QM := Aside0.mk M
  have QE := Aside0.mk E
  have QG := Aside0.mk hG
  have QD := Aside0.mk hd
  have QP := Aside0.mk hp
  have p := M.pc
  have pz := M.pz
  obtain ⟨y, cj, zj, ey⟩ := M.at 17 (by omega)
  clear hG hd hp M E
  have hx : (V / 2048 : Int) = numD D (27 * 17) 21 := pc_last (t := 60 - 4) (QG.out (by omega)) QE.out.db (by omega) 11 21 2048 (by decide) (by omega)
  have HX := Aside0.mk hx
  clear hx
  go_wp2
  exact St.part QE.out hBh QM.out QG.out QD.out HX.out ⟨by simp [QZ.out], by simp [h0], by simp [h1], by simp [h4]⟩
set_option maxHeartbeats 4000000 in
set_option maxRecDepth 100000 in
theorem r27_48 (g h n c oc B : Nat) (A : Addr) (D : Nat → Int) (w0 w : World) (T : Array Value) (E : Env0 g h w0.heap.size n c A D) (hn : 108 ≤ n) (hBg : B ≤ g) (hBh : B ≤ h) (hBw : B ≤ w0.heap.size) (S : St 27 400 w0 g h n c oc B A D 60 17 21 T w) (K : Act → World → Prop) (R : Ending → World → Prop)
    (hk : ∀ T' w', St 27 400 w0 g h n c oc B A D 64 17 21 T' w' → K ⟨T', []⟩ w') :
    (regionOf Tryd.f38 48).wp Tryd.prog (Exit.then K (bodyPost Tryd.prog Tryd.f38 R)) ⟨T, []⟩ w := by
  conv => arg 2; whnf
  obtain ⟨hsz, h0, h1, h4, f, V, M, hG, hd, hp⟩ := S
  have z222 : 222 < T.size := by omega
  have z223 : 223 < T.size := by omega
  have QZ := Aside0.mk hsz
  clear hsz
  have QM := Aside0.mk M
  have QE := Aside0.mk E
  have QG := Aside0.mk hG
  have QD := Aside0.mk hd
  have QP := Aside0.mk hp
  have hi : 60 + 4 ≤ n := by omega
  have C := fun (Q : Ending → World → Prop) k => Mid.goS (Q := Q) (oc := oc) (nt := 400) QE.out hBg hBw hi QM.out QD.out QP.out k
  have C := Aside0.mk C
  clear hG hd hp M E hi
  go_wp2_with (go_at_call 40; refine C.out _ ?_; intro w' HS; have HS := Aside0.mk HS)
  exact HS.out _ (by simp [QZ.out]) (by simp [h0]) (by simp [h1]) (by simp [h4])
end Go.Proofs.YtblmpfhjghcddaaDoor.QU
