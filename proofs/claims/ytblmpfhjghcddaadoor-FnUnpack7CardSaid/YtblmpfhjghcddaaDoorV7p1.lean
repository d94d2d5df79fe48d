/- What the regions of unpack7_32 do, one by one, to the state between them. Printed by gen_regs.py of this session. -/
import Derived.Test.YtblmpfhjghcddaaDoorU8
namespace Go.Proofs.YtblmpfhjghcddaaDoor.QU
open Go.RowKit Go.Proofs.YtblmpfhjghcddaaDoorW.PrintWords Go.Proofs.YtblmpfhjghcddaaDoorW.PrintLast Go.Proofs.YtblmpfhjghcddaaDoorW.PrintMore
set_option linter.unusedVariables false
set_option linter.unusedSimpArgs false
set_option maxHeartbeats 4000000 in
set_option maxRecDepth 100000 in
theorem r7_25 (g h n c oc B : Nat) (A : Addr) (D : Nat → Int) (w0 w : World) (T : Array Value) (E : Env0 g h w0.heap.size n c A D) (hn : 28 ≤ n) (hBg : B ≤ g) (hBh : B ≤ h) (hBw : B ≤ w0.heap.size) (S : St 7 220 w0 g h n c oc B A D 16 17 0 T w) (K : Act → World → Prop) (R : Ending → World → Prop)
    (hk : ∀ T' w', St 7 220 w0 g h n c oc B A D 16 18 0 T' w' → K ⟨T', []⟩ w') :
    (regionOf Tryd.f33 25).wp Tryd.prog (Exit.then K (bodyPost Tryd.prog Tryd.f33 R)) ⟨T, []⟩ w := by
  conv => arg 2; whnf
  obtain ⟨hsz, h0, h1, h4, f, V, M, hG, hd, hp⟩ := S
  have z119 : 119 < T.size := by omega
  have z120 : 120 < T.size := by omega
  have z121 : 121 < T.size := by omega
  have z122 : 122 < T.size := by omega
  have z123 : 123 < T.size := by omega
  have QZ := Aside0.mk hsz
  clear hsz
  have QM := Aside0.mk M
  have QE := Aside0.mk E
  have QG := Aside0.mk hG
  have QD := Aside0.mk hd
  have QP := Aside0.mk hp
  have p := M.pc
  have pz := M.pz
  obtain ⟨y, cj, zj, ey⟩ := M.at 17 (by omega)
  clear hG hd hp M E
  have hx : ((V / 8388608).tmod 128 : Int) = numD D (7 * 17) 7 := pc_mid (t := 16 - 4) (QG.out (by omega)) QE.out.db (by omega) 23 7 8388608 128 (by decide) (by decide) (by omega)
  have HX := Aside0.mk hx
  clear hx
  go_wp2
  exact St.whole QE.out hBh QM.out QG.out QD.out HX.out ⟨by simp [QZ.out], by simp [h0], by simp [h1], by simp [h4]⟩
set_option maxHeartbeats 4000000 in
set_option maxRecDepth 100000 in
theorem r7_26 (g h n c oc B : Nat) (A : Addr) (D : Nat → Int) (w0 w : World) (T : Array Value) (E : Env0 g h w0.heap.size n c A D) (hn : 28 ≤ n) (hBg : B ≤ g) (hBh : B ≤ h) (hBw : B ≤ w0.heap.size) (S : St 7 220 w0 g h n c oc B A D 16 18 0 T w) (K : Act → World → Prop) (R : Ending → World → Prop)
    (hk : ∀ T' w', St 7 220 w0 g h n c oc B A D 16 18 2 T' w' → K ⟨T', []⟩ w') :
    (regionOf Tryd.f33 26).wp Tryd.prog (Exit.then K (bodyPost Tryd.prog Tryd.f33 R)) ⟨T, []⟩ w := by
  conv => arg 2; whnf
  obtain ⟨hsz, h0, h1, h4, f, V, M, hG, hd, hp⟩ := S
  have z124 : 124 < T.size := by omega
  have z125 : 125 < T.size := by omega
  have z126 : 126 < T.size := by omega
  have z127 : 127 < T.size := by omega
  have QZ := Aside0.mk hsz
  clear hsz
  have QM := Aside0.mk M
  have QE := Aside0.mk E
  have QG := Aside0.mk hG
  have QD := Aside0.mk hd
  have QP := Aside0.mk hp
  have p := M.pc
  have pz := M.pz
  obtain ⟨y, cj, zj, ey⟩ := M.at 18 (by omega)
  clear hG hd hp M E
  have hx : (V / 1073741824 : Int) = numD D (7 * 18) 2 := pc_last (t := 16 - 4) (QG.out (by omega)) QE.out.db (by omega) 30 2 1073741824 (by decide) (by omega)
  have HX := Aside0.mk hx
  clear hx
  go_wp2
  exact St.part QE.out hBh QM.out QG.out QD.out HX.out ⟨by simp [QZ.out], by simp [h0], by simp [h1], by simp [h4]⟩
set_option maxHeartbeats 4000000 in
set_option maxRecDepth 100000 in
theorem r7_27 (g h n c oc B : Nat) (A : Addr) (D : Nat → Int) (w0 w : World) (T : Array Value) (E : Env0 g h w0.heap.size n c A D) (hn : 28 ≤ n) (hBg : B ≤ g) (hBh : B ≤ h) (hBw : B ≤ w0.heap.size) (S : St 7 220 w0 g h n c oc B A D 16 18 2 T w) (K : Act → World → Prop) (R : Ending → World → Prop)
    (hk : ∀ T' w', St 7 220 w0 g h n c oc B A D 20 18 2 T' w' → K ⟨T', []⟩ w') :
    (regionOf Tryd.f33 27).wp Tryd.prog (Exit.then K (bodyPost Tryd.prog Tryd.f33 R)) ⟨T, []⟩ w := by
  conv => arg 2; whnf
  obtain ⟨hsz, h0, h1, h4, f, V, M, hG, hd, hp⟩ := S
  have z128 : 128 < T.size := by omega
  have z129 : 129 < T.size := by omega
  have QZ := Aside0.mk hsz
  clear hsz
  have QM := Aside0.mk M
  have QE := Aside0.mk E
  have QG := Aside0.mk hG
  have QD := Aside0.mk hd
  have QP := Aside0.mk hp
  have hi : 16 + 4 ≤ n := by omega
  have C := fun (Q : Ending → World → Prop) k => Mid.goS (Q := Q) (oc := oc) (nt := 220) QE.out hBg hBw hi QM.out QD.out QP.out k
  have C := Aside0.mk C
  clear hG hd hp M E hi
  go_wp2_with (go_at_call 40; refine C.out _ ?_; intro w' HS; have HS := Aside0.mk HS)
  exact HS.out _ (by simp [QZ.out]) (by simp [h0]) (by simp [h1]) (by simp [h4])
set_option maxHeartbeats 4000000 in
set_option maxRecDepth 100000 in
theorem r7_28 (g h n c oc B : Nat) (A : Addr) (D : Nat → Int) (w0 w : World) (T : Array Value) (E : Env0 g h w0.heap.size n c A D) (hn : 28 ≤ n) (hBg : B ≤ g) (hBh : B ≤ h) (hBw : B ≤ w0.heap.size) (S : St 7 220 w0 g h n c oc B A D 20 18 2 T w) (K : Act → World → Prop) (R : Ending → World → Prop)
    (hk : ∀ T' w', St 7 220 w0 g h n c oc B A D 20 19 0 T' w' → K ⟨T', []⟩ w') :
    (regionOf Tryd.f33 28).wp Tryd.prog (Exit.then K (bodyPost Tryd.prog Tryd.f33 R)) ⟨T, []⟩ w := by
  conv => arg 2; whnf
  obtain ⟨hsz, h0, h1, h4, f, V, M, hG, hd, hp⟩ := S
  have z130 : 130 < T.size := by omega
  have z131 : 131 < T.size := by omega
  have z132 : 132 < T.size := by omega
  have z133 : 133 < T.size := by omega
  have z134 : 134 < T.size := by omega
  have z135 : 135 < T.size := by omega
  have z136 : 136 < T.size := by omega
  have z137 : 137 < T.size := by omega
  have QZ := Aside0.mk hsz
  clear hsz
  have QM := Aside0.mk M
  have QE := Aside0.mk E
  have QG := Aside0.mk hG
  have QD := Aside0.mk hd
  have QP := Aside0.mk hp
  have p := M.pc
  have pz := M.pz
  obtain ⟨y, cj, zj, ey⟩ := M.at 18 (by omega)
  clear hG hd hp M E
  have mixed : Tryd.prog.follows .mixedOrders = true := by kernel_rfl
  have hx : (Go.bits .or .u32 y (IntKind.u32.wrap (V.tmod 32 * 4)) : Int) = numD D (7 * 18) 7 := pc_two' (t := 20 - 4) (QG.out (by omega)) QE.out.db (by omega) (7 * 18) 2 5 32 4 (by decide) (by decide) (by omega) (by omega) (ey.out.trans (QP.out (by omega)))
  have HX := Aside0.mk hx
  clear hx
  go_region
  all_goals exact hk _ _ (St.whole_d QE.out hBh QM.out QG.out QD.out HX.out ⟨by simp [QZ.out], by simp [h0], by simp [h1], by simp [h4]⟩)
set_option maxHeartbeats 4000000 in
set_option maxRecDepth 100000 in
theorem r7_29 (g h n c oc B : Nat) (A : Addr) (D : Nat → Int) (w0 w : World) (T : Array Value) (E : Env0 g h w0.heap.size n c A D) (hn : 28 ≤ n) (hBg : B ≤ g) (hBh : B ≤ h) (hBw : B ≤ w0.heap.size) (S : St 7 220 w0 g h n c oc B A D 20 19 0 T w) (K : Act → World → Prop) (R : Ending → World → Prop)
    (hk : ∀ T' w', St 7 220 w0 g h n c oc B A D 20 20 0 T' w' → K ⟨T', []⟩ w') :
    (regionOf Tryd.f33 29).wp Tryd.prog (Exit.then K (bodyPost Tryd.prog Tryd.f33 R)) ⟨T, []⟩ w := by
  conv => arg 2; whnf
  obtain ⟨hsz, h0, h1, h4, f, V, M, hG, hd, hp⟩ := S
  have z138 : 138 < T.size := by omega
  have z139 : 139 < T.size := by omega
  have z140 : 140 < T.size := by omega
  have z141 : 141 < T.size := by omega
  have z142 : 142 < T.size := by omega
  have QZ := Aside0.mk hsz
  clear hsz
  have QM := Aside0.mk M
  have QE := Aside0.mk E
  have QG := Aside0.mk hG
  have QD := Aside0.mk hd
  have QP := Aside0.mk hp
  have p := M.pc
  have pz := M.pz
  obtain ⟨y, cj, zj, ey⟩ := M.at 19 (by omega)
  clear hG hd hp M E
  have hx : ((V / 32).tmod 128 : Int) = numD D (7 * 19) 7 := pc_mid (t := 20 - 4) (QG.out (by omega)) QE.out.db (by omega) 5 7 32 128 (by decide) (by decide) (by omega)
  have HX := Aside0.mk hx
  clear hx
  go_wp2
  exact St.whole QE.out hBh QM.out QG.out QD.out HX.out ⟨by simp [QZ.out], by simp [h0], by simp [h1], by simp [h4]⟩
set_option maxHeartbeats 4000000 in
set_option maxRecDepth 100000 in
theorem r7_30 (g h n c oc B : Nat) (A : Addr) (D : Nat → Int) (w0 w : World) (T : Array Value) (E : Env0 g h w0.heap.size n c A D) (hn : 28 ≤ n) (hBg : B ≤ g) (hBh : B ≤ h) (hBw : B ≤ w0.heap.size) (S : St 7 220 w0 g h n c oc B A D 20 20 0 T w) (K : Act → World → Prop) (R : Ending → World → Prop)
    (hk : ∀ T' w', St 7 220 w0 g h n c oc B A D 20 21 0 T' w' → K ⟨T', []⟩ w') :
    (regionOf Tryd.f33 30).wp Tryd.prog (Exit.then K (bodyPost Tryd.prog Tryd.f33 R)) ⟨T, []⟩ w := by
  conv => arg 2; whnf
  obtain ⟨hsz, h0, h1, h4, f, V, M, hG, hd, hp⟩ := S
  have z143 : 143 < T.size := by omega
  have z144 : 144 < T.size := by omega
  have z145 : 145 < T.size := by omega
  have z146 : 146 < T.size := by omega
  have z147 : 147 < T.size := by omega
  have QZ := Aside0.mk hsz
  clear hsz
  have QM := Aside0.mk M
  have QE := Aside0.mk E
  have QG := Aside0.mk hG
  have QD := Aside0.mk hd
  have QP := Aside0.mk hp
  have p := M.pc
  have pz := M.pz
  obtain ⟨y, cj, zj, ey⟩ := M.at 20 (by omega)
  clear hG hd hp M E
  have hx : ((V / 4096).tmod 128 : Int) = numD D (7 * 20) 7 := pc_mid (t := 20 - 4) (QG.out (by omega)) QE.out.db (by omega) 12 7 4096 128 (by decide) (by decide) (by omega)
  have HX := Aside0.mk hx
  clear hx
  go_wp2
  exact St.whole QE.out hBh QM.out QG.out QD.out HX.out ⟨by simp [QZ.out], by simp [h0], by simp [h1], by simp [h4]⟩
set_option maxHeartbeats 4000000 in
set_option maxRecDepth 100000 in
theorem r7_31 (g h n c oc B : Nat) (A : Addr) (D : Nat → Int) (w0 w : World) (T : Array Value) (E : Env0 g h w0.heap.size n c A D) (hn : 28 ≤ n) (hBg : B ≤ g) (hBh : B ≤ h) (hBw : B ≤ w0.heap.size) (S : St 7 220 w0 g h n c oc B A D 20 21 0 T w) (K : Act → World → Prop) (R : Ending → World → Prop)
    (hk : ∀ T' w', St 7 220 w0 g h n c oc B A D 20 22 0 T' w' → K ⟨T', []⟩ w') :
    (regionOf Tryd.f33 31).wp Tryd.prog (Exit.then K (bodyPost Tryd.prog Tryd.f33 R)) ⟨T, []⟩ w := by
  conv => arg 2; whnf
  obtain ⟨hsz, h0, h1, h4, f, V, M, hG, hd, hp⟩ := S
  have z148 : 148 < T.size := by omega
  have z149 : 149 < T.size := by omega
  have z150 : 150 < T.size := by omega
  have z151 : 151 < T.size := by omega
  have z152 : 152 < T.size := by omega
  have QZ := Aside0.mk hsz
  clear hsz
  have QM := Aside0.mk M
  have QE := Aside0.mk E
  have QG := Aside0.mk hG
  have QD := Aside0.mk hd
  have QP := Aside0.mk hp
  have p := M.pc
  have pz := M.pz
  obtain ⟨y, cj, zj, ey⟩ := M.at 21 (by omega)
  clear hG hd hp M E
  have hx : ((V / 524288).tmod 128 : Int) = numD D (7 * 21) 7 := pc_mid (t := 20 - 4) (QG.out (by omega)) QE.out.db (by omega) 19 7 524288 128 (by decide) (by decide) (by omega)
  have HX := Aside0.mk hx
  clear hx
  go_wp2
  exact St.whole QE.out hBh QM.out QG.out QD.out HX.out ⟨by simp [QZ.out], by simp [h0], by simp [h1], by simp [h4]⟩
set_option maxHeartbeats 4000000 in
set_option maxRecDepth 100000 in
theorem r7_32 (g h n c oc B : Nat) (A : Addr) (D : Nat → Int) (w0 w : World) (T : Array Value) (E : Env0 g h w0.heap.size n c A D) (hn : 28 ≤ n) (hBg : B ≤ g) (hBh : B ≤ h) (hBw : B ≤ w0.heap.size) (S : St 7 220 w0 g h n c oc B A D 20 22 0 T w) (K : Act → World → Prop) (R : Ending → World → Prop)
    (hk : ∀ T' w', St 7 220 w0 g h n c oc B A D 20 22 6 T' w' → K ⟨T', []⟩ w') :
    (regionOf Tryd.f33 32).wp Tryd.prog (Exit.then K (bodyPost Tryd.prog Tryd.f33 R)) ⟨T, []⟩ w := by
  conv => arg 2; whnf
  obtain ⟨hsz, h0, h1, h4, f, V, M, hG, hd, hp⟩ := S
  have z153 : 153 < T.size := by omega
  have z154 : 154 < T.size := by omega
  have z155 : 155 < T.size := by omega
  have z156 : 156 < T.size := by omega
  have QZ := Aside0.mk hsz
  clear hsz
  have QM := Aside0.mk M
  have QE := Aside0.mk E
  have QG := Aside0.mk hG
  have QD := Aside0.mk hd
  have QP := Aside0.mk hp
  have p := M.pc
  have pz := M.pz
  obtain ⟨y, cj, zj, ey⟩ := M.at 22 (by omega)
  clear hG hd hp M E
  have hx : (V / 67108864 : Int) = numD D (7 * 22) 6 := pc_last (t := 20 - 4) (QG.out (by omega)) QE.out.db (by omega) 26 6 67108864 (by decide) (by omega)
  have HX := Aside0.mk hx
  clear hx
  go_wp2
  exact St.part QE.out hBh QM.out QG.out QD.out HX.out ⟨by simp [QZ.out], by simp [h0], by simp [h1], by simp [h4]⟩
set_option maxHeartbeats 4000000 in
set_option maxRecDepth 100000 in
theorem r7_33 (g h n c oc B : Nat) (A : Addr) (D : Nat → Int) (w0 w : World) (T : Array Value) (E : Env0 g h w0.heap.size n c A D) (hn : 28 ≤ n) (hBg : B ≤ g) (hBh : B ≤ h) (hBw : B ≤ w0.heap.size) (S : St 7 220 w0 g h n c oc B A D 20 22 6 T w) (K : Act → World → Prop) (R : Ending → World → Prop)
    (hk : ∀ T' w', St 7 220 w0 g h n c oc B A D 24 22 6 T' w' → K ⟨T', []⟩ w') :
    (regionOf Tryd.f33 33).wp Tryd.prog (Exit.then K (bodyPost Tryd.prog Tryd.f33 R)) ⟨T, []⟩ w := by
  conv => arg 2; whnf
  obtain ⟨hsz, h0, h1, h4, f, V, M, hG, hd, hp⟩ := S
  have z157 : 157 < T.size := by omega
  have z158 : 158 < T.size := by omega
  have QZ := Aside0.mk hsz
  clear hsz
  have QM := Aside0.mk M
  have QE := Aside0.mk E
  have QG := Aside0.mk hG
  have QD := Aside0.mk hd
  have QP := Aside0.mk hp
  have hi : 20 + 4 ≤ n := by omega
  have C := fun (Q : Ending → World → Prop) k => Mid.goS (Q := Q) (oc := oc) (nt := 220) QE.out hBg hBw hi QM.out QD.out QP.out k
  have C := Aside0.mk C
  clear hG hd hp M E hi
  go_wp2_with (go_at_call 40; refine C.out _ ?_; intro w' HS; have HS := Aside0.mk HS)
  exact HS.out _ (by simp [QZ.out]) (by simp [h0]) (by simp [h1]) (by simp [h4])
set_option maxHeartbeats 4000000 in
set_option maxRecDepth 100000 in
theorem r7_34 (g h n c oc B : Nat) (A : Addr) (D : Nat → Int) (w0 w : World) (T : Array Value) (E : Env0 g h w0.heap.size n c A D) (hn : 28 ≤ n) (hBg : B ≤ g) (hBh : B ≤ h) (hBw : B ≤ w0.heap.size) (S : St 7 220 w0 g h n c oc B A D 24 22 6 T w) (K : Act → World → Prop) (R : Ending → World → Prop)
    (hk : ∀ T' w', St 7 220 w0 g h n c oc B A D 24 23 0 T' w' → K ⟨T', []⟩ w') :
    (regionOf Tryd.f33 34).wp Tryd.prog (Exit.then K (bodyPost Tryd.prog Tryd.f33 R)) ⟨T, []⟩ w := by
  conv => arg 2; whnf
  obtain ⟨hsz, h0, h1, h4, f, V, M, hG, hd, hp⟩ := S
  have z159 : 159 < T.size := by omega
  have z160 : 160 < T.size := by omega
  have z161 : 161 < T.size := by omega
  have z162 : 162 < T.size := by omega
  have z163 : 163 < T.size := by omega
  have z164 : 164 < T.size := by omega
  have z165 : 165 < T.size := by omega
  have z166 : 166 < T.size := by omega
  have QZ := Aside0.mk hsz
  clear hsz
  have QM := Aside0.mk M
  have QE := Aside0.mk E
  have QG := Aside0.mk hG
  have QD := Aside0.mk hd
  have QP := Aside0.mk hp
  have p := M.pc
  have pz := M.pz
  obtain ⟨y, cj, zj, ey⟩ := M.at 22 (by omega)
  clear hG hd hp M E
  have mixed : Tryd.prog.follows .mixedOrders = true := by kernel_rfl
  have hx : (Go.bits .or .u32 y (IntKind.u32.wrap (V.tmod 2 * 64)) : Int) = numD D (7 * 22) 7 := pc_two' (t := 24 - 4) (QG.out (by omega)) QE.out.db (by omega) (7 * 22) 6 1 2 64 (by decide) (by decide) (by omega) (by omega) (ey.out.trans (QP.out (by omega)))
  have HX := Aside0.mk hx
  clear hx
  go_region
  all_goals exact hk _ _ (St.whole_d QE.out hBh QM.out QG.out QD.out HX.out ⟨by simp [QZ.out], by simp [h0], by simp [h1], by simp [h4]⟩)
set_option maxHeartbeats 4000000 in
set_option maxRecDepth 100000 in
theorem r7_35 (g h n c oc B : Nat) (A : Addr) (D : Nat → Int) (w0 w : World) (T : Array Value) (E : Env0 g h w0.heap.size n c A D) (hn : 28 ≤ n) (hBg : B ≤ g) (hBh : B ≤ h) (hBw : B ≤ w0.heap.size) (S : St 7 220 w0 g h n c oc B A D 24 23 0 T w) (K : Act → World → Prop) (R : Ending → World → Prop)
    (hk : ∀ T' w', St 7 220 w0 g h n c oc B A D 24 24 0 T' w' → K ⟨T', []⟩ w') :
    (regionOf Tryd.f33 35).wp Tryd.prog (Exit.then K (bodyPost Tryd.prog Tryd.f33 R)) ⟨T, []⟩ w := by
  conv => arg 2; whnf
  obtain ⟨hsz, h0, h1, h4, f, V, M, hG, hd, hp⟩ := S
  have z167 : 167 < T.size := by omega
  have z168 : 168 < T.size := by omega
  have z169 : 169 < T.size := by omega
  have z170 : 170 < T.size := by omega
  have z171 : 171 < T.size := by omega
  have QZ := Aside0.mk hsz
  clear hsz
  have QM := Aside0.mk M
  have QE := Aside0.mk E
  have QG := Aside0.mk hG
  have QD := Aside0.mk hd
  have QP := Aside0.mk hp
  have p := M.pc
  have pz := M.pz
  obtain ⟨y, cj, zj, ey⟩ := M.at 23 (by omega)
  clear hG hd hp M E
  have hx : ((V / 2).tmod 128 : Int) = numD D (7 * 23) 7 := pc_mid (t := 24 - 4) (QG.out (by omega)) QE.out.db (by omega) 1 7 2 128 (by decide) (by decide) (by omega)
  have HX := Aside0.mk hx
  clear hx
  go_wp2
  exact St.whole QE.out hBh QM.out QG.out QD.out HX.out ⟨by simp [QZ.out], by simp [h0], by simp [h1], by simp [h4]⟩
set_option maxHeartbeats 4000000 in
set_option maxRecDepth 100000 in
theorem r7_36 (g h n c oc B : Nat) (A : Addr) (D : Nat → Int) (w0 w : World) (T : Array Value) (E : Env0 g h w0.heap.size n c A D) (hn : 28 ≤ n) (hBg : B ≤ g) (hBh : B ≤ h) (hBw : B ≤ w0.heap.size) (S : St 7 220 w0 g h n c oc B A D 24 24 0 T w) (K : Act → World → Prop) (R : Ending → World → Prop)
    (hk : ∀ T' w', St 7 220 w0 g h n c oc B A D 24 25 0 T' w' → K ⟨T', []⟩ w') :
    (regionOf Tryd.f33 36).wp Tryd.prog (Exit.then K (bodyPost Tryd.prog Tryd.f33 R)) ⟨T, []⟩ w := by
  conv => arg 2; whnf
  obtain ⟨hsz, h0, h1, h4, f, V, M, hG, hd, hp⟩ := S
  have z172 : 172 < T.size := by omega
  have z173 : 173 < T.size := by omega
  have z174 : 174 < T.size := by omega
  have z175 : 175 < T.size := by omega
  have z176 : 176 < T.size := by omega
  have QZ := Aside0.mk hsz
  clear hsz
  have QM := Aside0.mk M
  have QE := Aside0.mk E
  have QG := Aside0.mk hG
  have QD := Aside0.mk hd
  have QP := Aside0.mk hp
  have p := M.pc
  have pz := M.pz
  obtain ⟨y, cj, zj, ey⟩ := M.at 24 (by omega)
  clear hG hd hp M E
  have hx : ((V / 256).tmod 128 : Int) = numD D (7 * 24) 7 := pc_mid (t := 24 - 4) (QG.out (by omega)) QE.out.db (by omega) 8 7 256 128 (by decide) (by decide) (by omega)
  have HX := Aside0.mk hx
  clear hx
  go_wp2
  exact St.whole QE.out hBh QM.out QG.out QD.out HX.out ⟨by simp [QZ.out], by simp [h0], by simp [h1], by simp [h4]⟩
set_option maxHeartbeats 4000000 in
set_option maxRecDepth 100000 in
theorem r7_37 (g h n c oc B : Nat) (A : Addr) (D : Nat → Int) (w0 w : World) (T : Array Value) (E : Env0 g h w0.heap.size n c A D) (hn : 28 ≤ n) (hBg : B ≤ g) (hBh : B ≤ h) (hBw : B ≤ w0.heap.size) (S : St 7 220 w0 g h n c oc B A D 24 25 0 T w) (K : Act → World → Prop) (R : Ending → World → Prop)
    (hk : ∀ T' w', St 7 220 w0 g h n c oc B A D 24 26 0 T' w' → K ⟨T', []⟩ w') :
    (regionOf Tryd.f33 37).wp Tryd.prog (Exit.then K (bodyPost Tryd.prog Tryd.f33 R)) ⟨T, []⟩ w := by
  conv => arg 2; whnf
  obtain ⟨hsz, h0, h1, h4, f, V, M, hG, hd, hp⟩ := S
  have z177 : 177 < T.size := by omega
  have z178 : 178 < T.size := by omega
  have z179 : 179 < T.size := by omega
  have z180 : 180 < T.size := by omega
  have z181 : 181 < T.size := by omega
  have QZ := Aside0.mk hsz
  clear hsz
  have QM := Aside0.mk M
  have QE := Aside0.mk E
  have QG := Aside0.mk hG
  have QD := Aside0.mk hd
  have QP := Aside0.mk hp
  have p := M.pc
  have pz := M.pz
  obtain ⟨y, cj, zj, ey⟩ := M.at 25 (by omega)
  clear hG hd hp M E
  have hx : ((V / 32768).tmod 128 : Int) = numD D (7 * 25) 7 := pc_mid (t := 24 - 4) (QG.out (by omega)) QE.out.db (by omega) 15 7 32768 128 (by decide) (by decide) (by omega)
  have HX := Aside0.mk hx
  clear hx
  go_wp2
  exact St.whole QE.out hBh QM.out QG.out QD.out HX.out ⟨by simp [QZ.out], by simp [h0], by simp [h1], by simp [h4]⟩
set_option maxHeartbeats 4000000 in
set_option maxRecDepth 100000 in
theorem r7_38 (g h n c oc B : Nat) (A : Addr) (D : Nat → Int) (w0 w : World) (T : Array Value) (E : Env0 g h w0.heap.size n c A D) (hn : 28 ≤ n) (hBg : B ≤ g) (hBh : B ≤ h) (hBw : B ≤ w0.heap.size) (S : St 7 220 w0 g h n c oc B A D 24 26 0 T w) (K : Act → World → Prop) (R : Ending → World → Prop)
    (hk : ∀ T' w', St 7 220 w0 g h n c oc B A D 24 27 0 T' w' → K ⟨T', []⟩ w') :
    (regionOf Tryd.f33 38).wp Tryd.prog (Exit.then K (bodyPost Tryd.prog Tryd.f33 R)) ⟨T, []⟩ w := by
  conv => arg 2; whnf
  obtain ⟨hsz, h0, h1, h4, f, V, M, hG, hd, hp⟩ := S
  have z182 : 182 < T.size := by omega
  have z183 : 183 < T.size := by omega
  have z184 : 184 < T.size := by omega
  have z185 : 185 < T.size := by omega
  have z186 : 186 < T.size := by omega
  have QZ := Aside0.mk hsz
  clear hsz
  have QM := Aside0.mk M
  have QE := Aside0.mk E
  have QG := Aside0.mk hG
  have QD := Aside0.mk hd
  have QP := Aside0.mk hp
  have p := M.pc
  have pz := M.pz
  obtain ⟨y, cj, zj, ey⟩ := M.at 26 (by omega)
  clear hG hd hp M E
  have hx : ((V / 4194304).tmod 128 : Int) = numD D (7 * 26) 7 := pc_mid (t := 24 - 4) (QG.out (by omega)) QE.out.db (by omega) 22 7 4194304 128 (by decide) (by decide) (by omega)
  have HX := Aside0.mk hx
  clear hx
  go_wp2
  exact St.whole QE.out hBh QM.out QG.out QD.out HX.out ⟨by simp [QZ.out], by simp [h0], by simp [h1], by simp [h4]⟩
set_option maxHeartbeats 4000000 in
set_option maxRecDepth 100000 in
theorem r7_39 (g h n c oc B : Nat) (A : Addr) (D : Nat → Int) (w0 w : World) (T : Array Value) (E : Env0 g h w0.heap.size n c A D) (hn : 28 ≤ n) (hBg : B ≤ g) (hBh : B ≤ h) (hBw : B ≤ w0.heap.size) (S : St 7 220 w0 g h n c oc B A D 24 27 0 T w) (K : Act → World → Prop) (R : Ending → World → Prop)
    (hk : ∀ T' w', St 7 220 w0 g h n c oc B A D 24 27 3 T' w' → K ⟨T', []⟩ w') :
    (regionOf Tryd.f33 39).wp Tryd.prog (Exit.then K (bodyPost Tryd.prog Tryd.f33 R)) ⟨T, []⟩ w := by
  conv => arg 2; whnf
  obtain ⟨hsz, h0, h1, h4, f, V, M, hG, hd, hp⟩ := S
  have z187 : 187 < T.size := by omega
  have z188 : 188 < T.size := by omega
  have z189 : 189 < T.size := by omega
  have z190 : 190 < T.size := by omega
  have QZ := Aside0.mk hsz
  clear hsz
  have QM := Aside0.mk M
  have QE := Aside0.mk E
  have QG := Aside0.mk hG
  have QD := Aside0.mk hd
  have QP := Aside0.mk hp
  have p := M.pc
  have pz := M.pz
  obtain ⟨y, cj, zj, ey⟩ := M.at 27 (by omega)
  clear hG hd hp M E
  have hx : (V / 536870912 : Int) = numD D (7 * 27) 3 := pc_last (t := 24 - 4) (QG.out (by omega)) QE.out.db (by omega) 29 3 536870912 (by decide) (by omega)
  have HX := Aside0.mk hx
  clear hx
  go_wp2
  exact St.part QE.out hBh QM.out QG.out QD.out HX.out ⟨by simp [QZ.out], by simp [h0], by simp [h1], by simp [h4]⟩
set_option maxHeartbeats 4000000 in
set_option maxRecDepth 100000 in
theorem r7_40 (g h n c oc B : Nat) (A : Addr) (D : Nat → Int) (w0 w : World) (T : Array Value) (E : Env0 g h w0.heap.size n c A D) (hn : 28 ≤ n) (hBg : B ≤ g) (hBh : B ≤ h) (hBw : B ≤ w0.heap.size) (S : St 7 220 w0 g h n c oc B A D 24 27 3 T w) (K : Act → World → Prop) (R : Ending → World → Prop)
    (hk : ∀ T' w', St 7 220 w0 g h n c oc B A D 28 27 3 T' w' → K ⟨T', []⟩ w') :
    (regionOf Tryd.f33 40).wp Tryd.prog (Exit.then K (bodyPost Tryd.prog Tryd.f33 R)) ⟨T, []⟩ w := by
  conv => arg 2; whnf
  obtain ⟨hsz, h0, h1, h4, f, V, M, hG, hd, hp⟩ := S
  have z191 : 191 < T.size := by omega
  have z192 : 192 < T.size := by omega
  have QZ := Aside0.mk hsz
  clear hsz
  have QM := Aside0.mk M
  have QE := Aside0.mk E
  have QG := Aside0.mk hG
  have QD := Aside0.mk hd
  have QP := Aside0.mk hp
  have hi : 24 + 4 ≤ n := by omega
  have C := fun (Q : Ending → World → Prop) k => Mid.goS (Q := Q) (oc := oc) (nt := 220) QE.out hBg hBw hi QM.out QD.out QP.out k
  have C := Aside0.mk C
  clear hG hd hp M E hi
  go_wp2_with (go_at_call 40; refine C.out _ ?_; intro w' HS; have HS := Aside0.mk HS)
  exact HS.out _ (by simp [QZ.out]) (by simp [h0]) (by simp [h1]) (by simp [h4])
set_option maxHeartbeats 4000000 in
set_option maxRecDepth 100000 in
theorem r7_41 (g h n c oc B : Nat) (A : Addr) (D : Nat → Int) (w0 w : World) (T : Array Value) (E : Env0 g h w0.heap.size n c A D) (hn : 28 ≤ n) (hBg : B ≤ g) (hBh : B ≤ h) (hBw : B ≤ w0.heap.size) (S : St 7 220 w0 g h n c oc B A D 28 27 3 T w) (K : Act → World → Prop) (R : Ending → World → Prop)
    (hk : ∀ T' w', St 7 220 w0 g h n c oc B A D 28 28 0 T' w' → K ⟨T', []⟩ w') :
    (regionOf Tryd.f33 41).wp Tryd.prog (Exit.then K (bodyPost Tryd.prog Tryd.f33 R)) ⟨T, []⟩ w := by
  conv => arg 2; whnf
  obtain ⟨hsz, h0, h1, h4, f, V, M, hG, hd, hp⟩ := S
  have z193 : 193 < T.size := by omega
  have z194 : 194 < T.size := by omega
  have z195 : 195 < T.size := by omega
  have z196 : 196 < T.size := by omega
  have z197 : 197 < T.size := by omega
  have z198 : 198 < T.size := by omega
  have z199 : 199 < T.size := by omega
  have z200 : 200 < T.size := by omega
  have QZ := Aside0.mk hsz
  clear hsz
  have QM := Aside0.mk M
  have QE := Aside0.mk E
  have QG := Aside0.mk hG
  have QD := Aside0.mk hd
  have QP := Aside0.mk hp
  have p := M.pc
  have pz := M.pz
  obtain ⟨y, cj, zj, ey⟩ := M.at 27 (by omega)
  clear hG hd hp M E
  have mixed : Tryd.prog.follows .mixedOrders = true := by kernel_rfl
  have hx : (Go.bits .or .u32 y (IntKind.u32.wrap (V.tmod 16 * 8)) : Int) = numD D (7 * 27) 7 := pc_two' (t := 28 - 4) (QG.out (by omega)) QE.out.db (by omega) (7 * 27) 3 4 16 8 (by decide) (by decide) (by omega) (by omega) (ey.out.trans (QP.out (by omega)))
  have HX := Aside0.mk hx
  clear hx
  go_region
  all_goals exact hk _ _ (St.whole_d QE.out hBh QM.out QG.out QD.out HX.out ⟨by simp [QZ.out], by simp [h0], by simp [h1], by simp [h4]⟩)
set_option maxHeartbeats 4000000 in
set_option maxRecDepth 100000 in
theorem r7_42 (g h n c oc B : Nat) (A : Addr) (D : Nat → Int) (w0 w : World) (T : Array Value) (E : Env0 g h w0.heap.size n c A D) (hn : 28 ≤ n) (hBg : B ≤ g) (hBh : B ≤ h) (hBw : B ≤ w0.heap.size) (S : St 7 220 w0 g h n c oc B A D 28 28 0 T w) (K : Act → World → Prop) (R : Ending → World → Prop)
    (hk : ∀ T' w', St 7 220 w0 g h n c oc B A D 28 29 0 T' w' → K ⟨T', []⟩ w') :
    (regionOf Tryd.f33 42).wp Tryd.prog (Exit.then K (bodyPost Tryd.prog Tryd.f33 R)) ⟨T, []⟩ w := by
  conv => arg 2; whnf
  obtain ⟨hsz, h0, h1, h4, f, V, M, hG, hd, hp⟩ := S
  have z201 : 201 < T.size := by omega
  have z202 : 202 < T.size := by omega
  have z203 : 203 < T.size := by omega
  have z204 : 204 < T.size := by omega
  have z205 : 205 < T.size := by omega
  have QZ := Aside0.mk hsz
  clear hsz
  have QM := Aside0.mk M
  have QE := Aside0.mk E
  have QG := Aside0.mk hG
  have QD := Aside0.mk hd
  have QP := Aside0.mk hp
  have p := M.pc
  have pz := M.pz
  obtain ⟨y, cj, zj, ey⟩ := M.at 28 (by omega)
  clear hG hd hp M E
  have hx : ((V / 16).tmod 128 : Int) = numD D (7 * 28) 7 := pc_mid (t := 28 - 4) (QG.out (by omega)) QE.out.db (by omega) 4 7 16 128 (by decide) (by decide) (by omega)
  have HX := Aside0.mk hx
  clear hx
  go_wp2
  exact St.whole QE.out hBh QM.out QG.out QD.out HX.out ⟨by simp [QZ.out], by simp [h0], by simp [h1], by simp [h4]⟩
set_option maxHeartbeats 4000000 in
set_option maxRecDepth 100000 in
theorem r7_43 (g h n c oc B : Nat) (A : Addr) (D : Nat → Int) (w0 w : World) (T : Array Value) (E : Env0 g h w0.heap.size n c A D) (hn : 28 ≤ n) (hBg : B ≤ g) (hBh : B ≤ h) (hBw : B ≤ w0.heap.size) (S : St 7 220 w0 g h n c oc B A D 28 29 0 T w) (K : Act → World → Prop) (R : Ending → World → Prop)
    (hk : ∀ T' w', St 7 220 w0 g h n c oc B A D 28 30 0 T' w' → K ⟨T', []⟩ w') :
    (regionOf Tryd.f33 43).wp Tryd.prog (Exit.then K (bodyPost Tryd.prog Tryd.f33 R)) ⟨T, []⟩ w := by
  conv => arg 2; whnf
  obtain ⟨hsz, h0, h1, h4, f, V, M, hG, hd, hp⟩ := S
  have z206 : 206 < T.size := by omega
  have z207 : 207 < T.size := by omega
  have z208 : 208 < T.size := by omega
  have z209 : 209 < T.size := by omega
  have z210 : 210 < T.size := by omega
  have QZ := Aside0.mk hsz
  clear hsz
  have QM := Aside0.mk M
  have QE := Aside0.mk E
  have QG := Aside0.mk hG
  have QD := Aside0.mk hd
  have QP := Aside0.mk hp
  have p := M.pc
  have pz := M.pz
  obtain ⟨y, cj, zj, ey⟩ := M.at 29 (by omega)
  clear hG hd hp M E
  have hx : ((V / 2048).tmod 128 : Int) = numD D (7 * 29) 7 := pc_mid (t := 28 - 4) (QG.out (by omega)) QE.out.db (by omega) 11 7 2048 128 (by decide) (by decide) (by omega)
  have HX := Aside0.mk hx
  clear hx
  go_wp2
  exact St.whole QE.out hBh QM.out QG.out QD.out HX.out ⟨by simp [QZ.out], by simp [h0], by simp [h1], by simp [h4]⟩
set_option maxHeartbeats 4000000 in
set_option maxRecDepth 100000 in
theorem r7_44 (g h n c oc B : Nat) (A : Addr) (D : Nat → Int) (w0 w : World) (T : Array Value) (E : Env0 g h w0.heap.size n c A D) (hn : 28 ≤ n) (hBg : B ≤ g) (hBh : B ≤ h) (hBw : B ≤ w0.heap.size) (S : St 7 220 w0 g h n c oc B A D 28 30 0 T w) (K : Act → World → Prop) (R : Ending → World → Prop)
    (hk : ∀ T' w', St 7 220 w0 g h n c oc B A D 28 31 0 T' w' → K ⟨T', []⟩ w') :
    (regionOf Tryd.f33 44).wp Tryd.prog (Exit.then K (bodyPost Tryd.prog Tryd.f33 R)) ⟨T, []⟩ w := by
  conv => arg 2; whnf
  obtain ⟨hsz, h0, h1, h4, f, V, M, hG, hd, hp⟩ := S
  have z211 : 211 < T.size := by omega
  have z212 : 212 < T.size := by omega
  have z213 : 213 < T.size := by omega
  have z214 : 214 < T.size := by omega
  have z215 : 215 < T.size := by omega
  have QZ := Aside0.mk hsz
  clear hsz
  have QM := Aside0.mk M
  have QE := Aside0.mk E
  have QG := Aside0.mk hG
  have QD := Aside0.mk hd
  have QP := Aside0.mk hp
  have p := M.pc
  have pz := M.pz
  obtain ⟨y, cj, zj, ey⟩ := M.at 30 (by omega)
  clear hG hd hp M E
  have hx : ((V / 262144).tmod 128 : Int) = numD D (7 * 30) 7 := pc_mid (t := 28 - 4) (QG.out (by omega)) QE.out.db (by omega) 18 7 262144 128 (by decide) (by decide) (by omega)
  have HX := Aside0.mk hx
  clear hx
  go_wp2
  exact St.whole QE.out hBh QM.out QG.out QD.out HX.out ⟨by simp [QZ.out], by simp [h0], by simp [h1], by simp [h4]⟩
set_option maxHeartbeats 4000000 in
set_option maxRecDepth 100000 in
theorem r7_45 (g h n c oc B : Nat) (A : Addr) (D : Nat → Int) (w0 w : World) (T : Array Value) (E : Env0 g h w0.heap.size n c A D) (hn : 28 ≤ n) (hBg : B ≤ g) (hBh : B ≤ h) (hBw : B ≤ w0.heap.size) (S : St 7 220 w0 g h n c oc B A D 28 31 0 T w) (K : Act → World → Prop) (R : Ending → World → Prop)
    (hk : ∀ T' w', St 7 220 w0 g h n c oc B A D 28 32 0 T' w' → K ⟨T', []⟩ w') :
    (regionOf Tryd.f33 45).wp Tryd.prog (Exit.then K (bodyPost Tryd.prog Tryd.f33 R)) ⟨T, []⟩ w := by
  conv => arg 2; whnf
  obtain ⟨hsz, h0, h1, h4, f, V, M, hG, hd, hp⟩ := S
  have z216 : 216 < T.size := by omega
  have z217 : 217 < T.size := by omega
  have z218 : 218 < T.size := by omega
  have z219 : 219 < T.size := by omega
  have QZ := Aside0.mk hsz
  clear hsz
  have QM := Aside0.mk M
  have QE := Aside0.mk E
  have QG := Aside0.mk hG
  have QD := Aside0.mk hd
  have QP := Aside0.mk hp
  have p := M.pc
  have pz := M.pz
  obtain ⟨y, cj, zj, ey⟩ := M.at 31 (by omega)
  clear hG hd hp M E
  have hx : (V / 33554432 : Int) = numD D (7 * 31) 7 := pc_last (t := 28 - 4) (QG.out (by omega)) QE.out.db (by omega) 25 7 33554432 (by decide) (by omega)
  have HX := Aside0.mk hx
  clear hx
  go_wp2
  exact St.whole QE.out hBh QM.out QG.out QD.out HX.out ⟨by simp [QZ.out], by simp [h0], by simp [h1], by simp [h4]⟩
end Go.Proofs.YtblmpfhjghcddaaDoor.QU
