/- What the regions of unpack3_32 do, one by one, to the state between them. Printed by gen_regs.py of this session. -/
import Derived.Test.YtblmpfhjghcddaaDoorU8
namespace Go.Proofs.YtblmpfhjghcddaaDoor.QU
open Go.RowKit Go.Proofs.YtblmpfhjghcddaaDoorW.PrintWords Go.Proofs.YtblmpfhjghcddaaDoorW.PrintLast Go.Proofs.YtblmpfhjghcddaaDoorW.PrintMore
set_option linter.unusedVariables false
set_option linter.unusedSimpArgs false
set_option maxHeartbeats 4000000 in
set_option maxRecDepth 100000 in
theorem r3_25 (g h n c oc B : Nat) (A : Addr) (D : Nat → Int) (w0 w : World) (T : Array Value) (E : Env0 g h w0.heap.size n c A D) (hn : 12 ≤ n) (hBg : B ≤ g) (hBh : B ≤ h) (hBw : B ≤ w0.heap.size) (S : St 3 185 w0 g h n c oc B A D 8 21 0 T w) (K : Act → World → Prop) (R : Ending → World → Prop)
    (hk : ∀ T' w', St 3 185 w0 g h n c oc B A D 8 21 1 T' w' → K ⟨T', []⟩ w') :
    (regionOf Tryd.f32 25).wp Tryd.prog (Exit.then K (bodyPost Tryd.prog Tryd.f32 R)) ⟨T, []⟩ w := by
  conv => arg 2; whnf
  obtain ⟨hsz, h0, h1, h4, f, V, M, hG, hd, hp⟩ := S
  have z121 : 121 < T.size := by omega
  have z122 : 122 < T.size := by omega
  have z123 : 123 < T.size := by omega
  have z124 : 124 < T.size := by omega
  have z125 : 125 < T.size := by omega
  have QZ := Aside0.mk hsz
  clear hsz
  have QM := Aside0.mk M
  have QE := Aside0.mk E
  have QG := Aside0.mk hG
  have QD := Aside0.mk hd
  have QP := Aside0.mk hp
  have p := M.pc
  have pz := M.pz
  obtain ⟨y, cj, zj, ey⟩ := M.at 21 (by omega)
  clear hG hd hp M E
  have hx : ((V / 2147483648).tmod 8 : Int) = numD D (3 * 21) 1 := (pc_rem (t := 8 - 4) (QG.out (by omega)) QE.out.db (by omega) 31 1 3 2147483648 8 (by decide) (by decide) (by omega) (by omega)).trans (pc_last (t := 8 - 4) (QG.out (by omega)) QE.out.db (by omega) 31 1 2147483648 (by decide) (by omega))
  have HX := Aside0.mk hx
  clear hx
  go_wp2
  exact St.part QE.out hBh QM.out QG.out QD.out HX.out ⟨by simp [QZ.out], by simp [h0], by simp [h1], by simp [h4]⟩
set_option maxHeartbeats 4000000 in
set_option maxRecDepth 100000 in
theorem r3_26 (g h n c oc B : Nat) (A : Addr) (D : Nat → Int) (w0 w : World) (T : Array Value) (E : Env0 g h w0.heap.size n c A D) (hn : 12 ≤ n) (hBg : B ≤ g) (hBh : B ≤ h) (hBw : B ≤ w0.heap.size) (S : St 3 185 w0 g h n c oc B A D 8 21 1 T w) (K : Act → World → Prop) (R : Ending → World → Prop)
    (hk : ∀ T' w', St 3 185 w0 g h n c oc B A D 12 21 1 T' w' → K ⟨T', []⟩ w') :
    (regionOf Tryd.f32 26).wp Tryd.prog (Exit.then K (bodyPost Tryd.prog Tryd.f32 R)) ⟨T, []⟩ w := by
  conv => arg 2; whnf
  obtain ⟨hsz, h0, h1, h4, f, V, M, hG, hd, hp⟩ := S
  have z126 : 126 < T.size := by omega
  have z127 : 127 < T.size := by omega
  have QZ := Aside0.mk hsz
  clear hsz
  have QM := Aside0.mk M
  have QE := Aside0.mk E
  have QG := Aside0.mk hG
  have QD := Aside0.mk hd
  have QP := Aside0.mk hp
  have hi : 8 + 4 ≤ n := by omega
  have C := fun (Q : Ending → World → Prop) k => Mid.goS (Q := Q) (oc := oc) (nt := 185) QE.out hBg hBw hi QM.out QD.out QP.out k
  have C := Aside0.mk C
  clear hG hd hp M E hi
  go_wp2_with (go_at_call 40; refine C.out _ ?_; intro w' HS; have HS := Aside0.mk HS)
  exact HS.out _ (by simp [QZ.out]) (by simp [h0]) (by simp [h1]) (by simp [h4])
set_option maxHeartbeats 4000000 in
set_option maxRecDepth 100000 in
theorem r3_27 (g h n c oc B : Nat) (A : Addr) (D : Nat → Int) (w0 w : World) (T : Array Value) (E : Env0 g h w0.heap.size n c A D) (hn : 12 ≤ n) (hBg : B ≤ g) (hBh : B ≤ h) (hBw : B ≤ w0.heap.size) (S : St 3 185 w0 g h n c oc B A D 12 21 1 T w) (K : Act → World → Prop) (R : Ending → World → Prop)
    (hk : ∀ T' w', St 3 185 w0 g h n c oc B A D 12 22 0 T' w' → K ⟨T', []⟩ w') :
    (regionOf Tryd.f32 27).wp Tryd.prog (Exit.then K (bodyPost Tryd.prog Tryd.f32 R)) ⟨T, []⟩ w := by
  conv => arg 2; whnf
  obtain ⟨hsz, h0, h1, h4, f, V, M, hG, hd, hp⟩ := S
  have z128 : 128 < T.size := by omega
  have z129 : 129 < T.size := by omega
  have z130 : 130 < T.size := by omega
  have z131 : 131 < T.size := by omega
  have z132 : 132 < T.size := by omega
  have z133 : 133 < T.size := by omega
  have z134 : 134 < T.size := by omega
  have z135 : 135 < T.size := by omega
  have QZ := Aside0.mk hsz
  clear hsz
  have QM := Aside0.mk M
  have QE := Aside0.mk E
  have QG := Aside0.mk hG
  have QD := Aside0.mk hd
  have QP := Aside0.mk hp
  have p := M.pc
  have pz := M.pz
  obtain ⟨y, cj, zj, ey⟩ := M.at 21 (by omega)
  clear hG hd hp M E
  have mixed : Tryd.prog.follows .mixedOrders = true := by kernel_rfl
  have hx : (Go.bits .or .u32 y (IntKind.u32.wrap (V.tmod 4 * 2)) : Int) = numD D (3 * 21) 3 := pc_two' (t := 12 - 4) (QG.out (by omega)) QE.out.db (by omega) (3 * 21) 1 2 4 2 (by decide) (by decide) (by omega) (by omega) (ey.out.trans (QP.out (by omega)))
  have HX := Aside0.mk hx
  clear hx
  go_region
  all_goals exact hk _ _ (St.whole_d QE.out hBh QM.out QG.out QD.out HX.out ⟨by simp [QZ.out], by simp [h0], by simp [h1], by simp [h4]⟩)
set_option maxHeartbeats 4000000 in
set_option maxRecDepth 100000 in
theorem r3_28 (g h n c oc B : Nat) (A : Addr) (D : Nat → Int) (w0 w : World) (T : Array Value) (E : Env0 g h w0.heap.size n c A D) (hn : 12 ≤ n) (hBg : B ≤ g) (hBh : B ≤ h) (hBw : B ≤ w0.heap.size) (S : St 3 185 w0 g h n c oc B A D 12 22 0 T w) (K : Act → World → Prop) (R : Ending → World → Prop)
    (hk : ∀ T' w', St 3 185 w0 g h n c oc B A D 12 23 0 T' w' → K ⟨T', []⟩ w') :
    (regionOf Tryd.f32 28).wp Tryd.prog (Exit.then K (bodyPost Tryd.prog Tryd.f32 R)) ⟨T, []⟩ w := by
  conv => arg 2; whnf
  obtain ⟨hsz, h0, h1, h4, f, V, M, hG, hd, hp⟩ := S
  have z136 : 136 < T.size := by omega
  have z137 : 137 < T.size := by omega
  have z138 : 138 < T.size := by omega
  have z139 : 139 < T.size := by omega
  have z140 : 140 < T.size := by omega
  have QZ := Aside0.mk hsz
  clear hsz
  have QM := Aside0.mk M
  have QE := Aside0.mk E
  have QG := Aside0.mk hG
  have QD := Aside0.mk hd
  have QP := Aside0.mk hp
  have p := M.pc
  have pz := M.pz
  obtain ⟨y, cj, zj, ey⟩ := M.at 22 (by omega)
  clear hG hd hp M E
  have hx : ((V / 4).tmod 8 : Int) = numD D (3 * 22) 3 := pc_mid (t := 12 - 4) (QG.out (by omega)) QE.out.db (by omega) 2 3 4 8 (by decide) (by decide) (by omega)
  have HX := Aside0.mk hx
  clear hx
  go_wp2
  exact St.whole QE.out hBh QM.out QG.out QD.out HX.out ⟨by simp [QZ.out], by simp [h0], by simp [h1], by simp [h4]⟩
set_option maxHeartbeats 4000000 in
set_option maxRecDepth 100000 in
theorem r3_29 (g h n c oc B : Nat) (A : Addr) (D : Nat → Int) (w0 w : World) (T : Array Value) (E : Env0 g h w0.heap.size n c A D) (hn : 12 ≤ n) (hBg : B ≤ g) (hBh : B ≤ h) (hBw : B ≤ w0.heap.size) (S : St 3 185 w0 g h n c oc B A D 12 23 0 T w) (K : Act → World → Prop) (R : Ending → World → Prop)
    (hk : ∀ T' w', St 3 185 w0 g h n c oc B A D 12 24 0 T' w' → K ⟨T', []⟩ w') :
    (regionOf Tryd.f32 29).wp Tryd.prog (Exit.then K (bodyPost Tryd.prog Tryd.f32 R)) ⟨T, []⟩ w := by
  conv => arg 2; whnf
  obtain ⟨hsz, h0, h1, h4, f, V, M, hG, hd, hp⟩ := S
  have z141 : 141 < T.size := by omega
  have z142 : 142 < T.size := by omega
  have z143 : 143 < T.size := by omega
  have z144 : 144 < T.size := by omega
  have z145 : 145 < T.size := by omega
  have QZ := Aside0.mk hsz
  clear hsz
  have QM := Aside0.mk M
  have QE := Aside0.mk E
  have QG := Aside0.mk hG
  have QD := Aside0.mk hd
  have QP := Aside0.mk hp
  have p := M.pc
  have pz := M.pz
  obtain ⟨y, cj, zj, ey⟩ := M.at 23 (by omega)
  clear hG hd hp M E
  have hx : ((V / 32).tmod 8 : Int) = numD D (3 * 23) 3 := pc_mid (t := 12 - 4) (QG.out (by omega)) QE.out.db (by omega) 5 3 32 8 (by decide) (by decide) (by omega)
  have HX := Aside0.mk hx
  clear hx
  go_wp2
  exact St.whole QE.out hBh QM.out QG.out QD.out HX.out ⟨by simp [QZ.out], by simp [h0], by simp [h1], by simp [h4]⟩
set_option maxHeartbeats 4000000 in
set_option maxRecDepth 100000 in
theorem r3_30 (g h n c oc B : Nat) (A : Addr) (D : Nat → Int) (w0 w : World) (T : Array Value) (E : Env0 g h w0.heap.size n c A D) (hn : 12 ≤ n) (hBg : B ≤ g) (hBh : B ≤ h) (hBw : B ≤ w0.heap.size) (S : St 3 185 w0 g h n c oc B A D 12 24 0 T w) (K : Act → World → Prop) (R : Ending → World → Prop)
    (hk : ∀ T' w', St 3 185 w0 g h n c oc B A D 12 25 0 T' w' → K ⟨T', []⟩ w') :
    (regionOf Tryd.f32 30).wp Tryd.prog (Exit.then K (bodyPost Tryd.prog Tryd.f32 R)) ⟨T, []⟩ w := by
  conv => arg 2; whnf
  obtain ⟨hsz, h0, h1, h4, f, V, M, hG, hd, hp⟩ := S
  have z146 : 146 < T.size := by omega
  have z147 : 147 < T.size := by omega
  have z148 : 148 < T.size := by omega
  have z149 : 149 < T.size := by omega
  have z150 : 150 < T.size := by omega
  have QZ := Aside0.mk hsz
  clear hsz
  have QM := Aside0.mk M
  have QE := Aside0.mk E
  have QG := Aside0.mk hG
  have QD := Aside0.mk hd
  have QP := Aside0.mk hp
  have p := M.pc
  have pz := M.pz
  obtain ⟨y, cj, zj, ey⟩ := M.at 24 (by omega)
  clear hG hd hp M E
  have hx : ((V / 256).tmod 8 : Int) = numD D (3 * 24) 3 := pc_mid (t := 12 - 4) (QG.out (by omega)) QE.out.db (by omega) 8 3 256 8 (by decide) (by decide) (by omega)
  have HX := Aside0.mk hx
  clear hx
  go_wp2
  exact St.whole QE.out hBh QM.out QG.out QD.out HX.out ⟨by simp [QZ.out], by simp [h0], by simp [h1], by simp [h4]⟩
set_option maxHeartbeats 4000000 in
set_option maxRecDepth 100000 in
theorem r3_31 (g h n c oc B : Nat) (A : Addr) (D : Nat → Int) (w0 w : World) (T : Array Value) (E : Env0 g h w0.heap.size n c A D) (hn : 12 ≤ n) (hBg : B ≤ g) (hBh : B ≤ h) (hBw : B ≤ w0.heap.size) (S : St 3 185 w0 g h n c oc B A D 12 25 0 T w) (K : Act → World → Prop) (R : Ending → World → Prop)
    (hk : ∀ T' w', St 3 185 w0 g h n c oc B A D 12 26 0 T' w' → K ⟨T', []⟩ w') :
    (regionOf Tryd.f32 31).wp Tryd.prog (Exit.then K (bodyPost Tryd.prog Tryd.f32 R)) ⟨T, []⟩ w := by
  conv => arg 2; whnf
  obtain ⟨hsz, h0, h1, h4, f, V, M, hG, hd, hp⟩ := S
  have z151 : 151 < T.size := by omega
  have z152 : 152 < T.size := by omega
  have z153 : 153 < T.size := by omega
  have z154 : 154 < T.size := by omega
  have z155 : 155 < T.size := by omega
  have QZ := Aside0.mk hsz
  clear hsz
  have QM := Aside0.mk M
  have QE := Aside0.mk E
  have QG := Aside0.mk hG
  have QD := Aside0.mk hd
  have QP := Aside0.mk hp
  have p := M.pc
  have pz := M.pz
  obtain ⟨y, cj, zj, ey⟩ := M.at 25 (by omega)
  clear hG hd hp M E
  have hx : ((V / 2048).tmod 8 : Int) = numD D (3 * 25) 3 := pc_mid (t := 12 - 4) (QG.out (by omega)) QE.out.db (by omega) 11 3 2048 8 (by decide) (by decide) (by omega)
  have HX := Aside0.mk hx
  clear hx
  go_wp2
  exact St.whole QE.out hBh QM.out QG.out QD.out HX.out ⟨by simp [QZ.out], by simp [h0], by simp [h1], by simp [h4]⟩
set_option maxHeartbeats 4000000 in
set_option maxRecDepth 100000 in
theorem r3_32 (g h n c oc B : Nat) (A : Addr) (D : Nat → Int) (w0 w : World) (T : Array Value) (E : Env0 g h w0.heap.size n c A D) (hn : 12 ≤ n) (hBg : B ≤ g) (hBh : B ≤ h) (hBw : B ≤ w0.heap.size) (S : St 3 185 w0 g h n c oc B A D 12 26 0 T w) (K : Act → World → Prop) (R : Ending → World → Prop)
    (hk : ∀ T' w', St 3 185 w0 g h n c oc B A D 12 27 0 T' w' → K ⟨T', []⟩ w') :
    (regionOf Tryd.f32 32).wp Tryd.prog (Exit.then K (bodyPost Tryd.prog Tryd.f32 R)) ⟨T, []⟩ w := by
  conv => arg 2; whnf
  obtain ⟨hsz, h0, h1, h4, f, V, M, hG, hd, hp⟩ := S
  have z156 : 156 < T.size := by omega
  have z157 : 157 < T.size := by omega
  have z158 : 158 < T.size := by omega
  have z159 : 159 < T.size := by omega
  have z160 : 160 < T.size := by omega
  have QZ := Aside0.mk hsz
  clear hsz
  have QM := Aside0.mk M
  have QE := Aside0.mk E
  have QG := Aside0.mk hG
  have QD := Aside0.mk hd
  have QP := Aside0.mk hp
  have p := M.pc
  have pz := M.pz
  obtain ⟨y, cj, zj, ey⟩ := M.at 26 (by omega)
  clear hG hd hp M E
  have hx : ((V / 16384).tmod 8 : Int) = numD D (3 * 26) 3 := pc_mid (t := 12 - 4) (QG.out (by omega)) QE.out.db (by omega) 14 3 16384 8 (by decide) (by decide) (by omega)
  have HX := Aside0.mk hx
  clear hx
  go_wp2
  exact St.whole QE.out hBh QM.out QG.out QD.out HX.out ⟨by simp [QZ.out], by simp [h0], by simp [h1], by simp [h4]⟩
set_option maxHeartbeats 4000000 in
set_option maxRecDepth 100000 in
theorem r3_33 (g h n c oc B : Nat) (A : Addr) (D : Nat → Int) (w0 w : World) (T : Array Value) (E : Env0 g h w0.heap.size n c A D) (hn : 12 ≤ n) (hBg : B ≤ g) (hBh : B ≤ h) (hBw : B ≤ w0.heap.size) (S : St 3 185 w0 g h n c oc B A D 12 27 0 T w) (K : Act → World → Prop) (R : Ending → World → Prop)
    (hk : ∀ T' w', St 3 185 w0 g h n c oc B A D 12 28 0 T' w' → K ⟨T', []⟩ w') :
    (regionOf Tryd.f32 33).wp Tryd.prog (Exit.then K (bodyPost Tryd.prog Tryd.f32 R)) ⟨T, []⟩ w := by
  conv => arg 2; whnf
  obtain ⟨hsz, h0, h1, h4, f, V, M, hG, hd, hp⟩ := S
  have z161 : 161 < T.size := by omega
  have z162 : 162 < T.size := by omega
  have z163 : 163 < T.size := by omega
  have z164 : 164 < T.size := by omega
  have z165 : 165 < T.size := by omega
  have QZ := Aside0.mk hsz
  clear hsz
  have QM := Aside0.mk M
  have QE := Aside0.mk E
  have QG := Aside0.mk hG
  have QD := Aside0.mk hd
  have QP := Aside0.mk hp
  have p := M.pc
  have pz := M.pz
  obtain ⟨y, cj, zj, ey⟩ := M.at 27 (by omega)
  clear hG hd hp M E
  have hx : ((V / 131072).tmod 8 : Int) = numD D (3 * 27) 3 := pc_mid (t := 12 - 4) (QG.out (by omega)) QE.out.db (by omega) 17 3 131072 8 (by decide) (by decide) (by omega)
  have HX := Aside0.mk hx
  clear hx
  go_wp2
  exact St.whole QE.out hBh QM.out QG.out QD.out HX.out ⟨by simp [QZ.out], by simp [h0], by simp [h1], by simp [h4]⟩
set_option maxHeartbeats 4000000 in
set_option maxRecDepth 100000 in
theorem r3_34 (g h n c oc B : Nat) (A : Addr) (D : Nat → Int) (w0 w : World) (T : Array Value) (E : Env0 g h w0.heap.size n c A D) (hn : 12 ≤ n) (hBg : B ≤ g) (hBh : B ≤ h) (hBw : B ≤ w0.heap.size) (S : St 3 185 w0 g h n c oc B A D 12 28 0 T w) (K : Act → World → Prop) (R : Ending → World → Prop)
    (hk : ∀ T' w', St 3 185 w0 g h n c oc B A D 12 29 0 T' w' → K ⟨T', []⟩ w') :
    (regionOf Tryd.f32 34).wp Tryd.prog (Exit.then K (bodyPost Tryd.prog Tryd.f32 R)) ⟨T, []⟩ w := by
  conv => arg 2; whnf
  obtain ⟨hsz, h0, h1, h4, f, V, M, hG, hd, hp⟩ := S
  have z166 : 166 < T.size := by omega
  have z167 : 167 < T.size := by omega
  have z168 : 168 < T.size := by omega
  have z169 : 169 < T.size := by omega
  have z170 : 170 < T.size := by omega
  have QZ := Aside0.mk hsz
  clear hsz
  have QM := Aside0.mk M
  have QE := Aside0.mk E
  have QG := Aside0.mk hG
  have QD := Aside0.mk hd
  have QP := Aside0.mk hp
  have p := M.pc
  have pz := M.pz
  obtain ⟨y, cj, zj, ey⟩ := M.at 28 (by omega)
  clear hG hd hp M E
  have hx : ((V / 1048576).tmod 8 : Int) = numD D (3 * 28) 3 := pc_mid (t := 12 - 4) (QG.out (by omega)) QE.out.db (by omega) 20 3 1048576 8 (by decide) (by decide) (by omega)
  have HX := Aside0.mk hx
  clear hx
  go_wp2
  exact St.whole QE.out hBh QM.out QG.out QD.out HX.out ⟨by simp [QZ.out], by simp [h0], by simp [h1], by simp [h4]⟩
set_option maxHeartbeats 4000000 in
set_option maxRecDepth 100000 in
theorem r3_35 (g h n c oc B : Nat) (A : Addr) (D : Nat → Int) (w0 w : World) (T : Array Value) (E : Env0 g h w0.heap.size n c A D) (hn : 12 ≤ n) (hBg : B ≤ g) (hBh : B ≤ h) (hBw : B ≤ w0.heap.size) (S : St 3 185 w0 g h n c oc B A D 12 29 0 T w) (K : Act → World → Prop) (R : Ending → World → Prop)
    (hk : ∀ T' w', St 3 185 w0 g h n c oc B A D 12 30 0 T' w' → K ⟨T', []⟩ w') :
    (regionOf Tryd.f32 35).wp Tryd.prog (Exit.then K (bodyPost Tryd.prog Tryd.f32 R)) ⟨T, []⟩ w := by
  conv => arg 2; whnf
  obtain ⟨hsz, h0, h1, h4, f, V, M, hG, hd, hp⟩ := S
  have z171 : 171 < T.size := by omega
  have z172 : 172 < T.size := by omega
  have z173 : 173 < T.size := by omega
  have z174 : 174 < T.size := by omega
  have z175 : 175 < T.size := by omega
  have QZ := Aside0.mk hsz
  clear hsz
  have QM := Aside0.mk M
  have QE := Aside0.mk E
  have QG := Aside0.mk hG
  have QD := Aside0.mk hd
  have QP := Aside0.mk hp
  have p := M.pc
  have pz := M.pz
  obtain ⟨y, cj, zj, ey⟩ := M.at 29 (by omega)
  clear hG hd hp M E
  have hx : ((V / 8388608).tmod 8 : Int) = numD D (3 * 29) 3 := pc_mid (t := 12 - 4) (QG.out (by omega)) QE.out.db (by omega) 23 3 8388608 8 (by decide) (by decide) (by omega)
  have HX := Aside0.mk hx
  clear hx
  go_wp2
  exact St.whole QE.out hBh QM.out QG.out QD.out HX.out ⟨by simp [QZ.out], by simp [h0], by simp [h1], by simp [h4]⟩
set_option maxHeartbeats 4000000 in
set_option maxRecDepth 100000 in
theorem r3_36 (g h n c oc B : Nat) (A : Addr) (D : Nat → Int) (w0 w : World) (T : Array Value) (E : Env0 g h w0.heap.size n c A D) (hn : 12 ≤ n) (hBg : B ≤ g) (hBh : B ≤ h) (hBw : B ≤ w0.heap.size) (S : St 3 185 w0 g h n c oc B A D 12 30 0 T w) (K : Act → World → Prop) (R : Ending → World → Prop)
    (hk : ∀ T' w', St 3 185 w0 g h n c oc B A D 12 31 0 T' w' → K ⟨T', []⟩ w') :
    (regionOf Tryd.f32 36).wp Tryd.prog (Exit.then K (bodyPost Tryd.prog Tryd.f32 R)) ⟨T, []⟩ w := by
  conv => arg 2; whnf
  obtain ⟨hsz, h0, h1, h4, f, V, M, hG, hd, hp⟩ := S
  have z176 : 176 < T.size := by omega
  have z177 : 177 < T.size := by omega
  have z178 : 178 < T.size := by omega
  have z179 : 179 < T.size := by omega
  have z180 : 180 < T.size := by omega
  have QZ := Aside0.mk hsz
  clear hsz
  have QM := Aside0.mk M
  have QE := Aside0.mk E
  have QG := Aside0.mk hG
  have QD := Aside0.mk hd
  have QP := Aside0.mk hp
  have p := M.pc
  have pz := M.pz
  obtain ⟨y, cj, zj, ey⟩ := M.at 30 (by omega)
  clear hG hd hp M E
  have hx : ((V / 67108864).tmod 8 : Int) = numD D (3 * 30) 3 := pc_mid (t := 12 - 4) (QG.out (by omega)) QE.out.db (by omega) 26 3 67108864 8 (by decide) (by decide) (by omega)
  have HX := Aside0.mk hx
  clear hx
  go_wp2
  exact St.whole QE.out hBh QM.out QG.out QD.out HX.out ⟨by simp [QZ.out], by simp [h0], by simp [h1], by simp [h4]⟩
set_option maxHeartbeats 4000000 in
set_option maxRecDepth 100000 in
theorem r3_37 (g h n c oc B : Nat) (A : Addr) (D : Nat → Int) (w0 w : World) (T : Array Value) (E : Env0 g h w0.heap.size n c A D) (hn : 12 ≤ n) (hBg : B ≤ g) (hBh : B ≤ h) (hBw : B ≤ w0.heap.size) (S : St 3 185 w0 g h n c oc B A D 12 31 0 T w) (K : Act → World → Prop) (R : Ending → World → Prop)
    (hk : ∀ T' w', St 3 185 w0 g h n c oc B A D 12 32 0 T' w' → K ⟨T', []⟩ w') :
    (regionOf Tryd.f32 37).wp Tryd.prog (Exit.then K (bodyPost Tryd.prog Tryd.f32 R)) ⟨T, []⟩ w := by
  conv => arg 2; whnf
  obtain ⟨hsz, h0, h1, h4, f, V, M, hG, hd, hp⟩ := S
  have z181 : 181 < T.size := by omega
  have z182 : 182 < T.size := by omega
  have z183 : 183 < T.size := by omega
  have z184 : 184 < T.size := by omega
  have QZ := Aside0.mk hsz
  clear hsz
  have QM := Aside0.mk M
  have QE := Aside0.mk E
  have QG := Aside0.mk hG
  have QD := Aside0.mk hd
  have QP := Aside0.mk hp
  have p := M.pc
  have pz := M.pz
  obtain ⟨y, cj, zj, ey⟩ := M.at 31 (by omega)
  clear hG hd hp M E
  have hx : (V / 536870912 : Int) = numD D (3 * 31) 3 := pc_last (t := 12 - 4) (QG.out (by omega)) QE.out.db (by omega) 29 3 536870912 (by decide) (by omega)
  have HX := Aside0.mk hx
  clear hx
  go_wp2
  exact St.whole QE.out hBh QM.out QG.out QD.out HX.out ⟨by simp [QZ.out], by simp [h0], by simp [h1], by simp [h4]⟩
end Go.Proofs.YtblmpfhjghcddaaDoor.QU
