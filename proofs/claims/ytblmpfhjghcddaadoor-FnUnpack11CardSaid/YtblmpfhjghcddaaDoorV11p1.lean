/- What the regions of unpack11_32 do, one by one, to the state between them. Printed by gen_regs.py of this session. -/
import Derived.Test.YtblmpfhjghcddaaDoorU8
namespace Go.Proofs.YtblmpfhjghcddaaDoor.QU
open Go.RowKit Go.Proofs.YtblmpfhjghcddaaDoorW.PrintWords Go.Proofs.YtblmpfhjghcddaaDoorW.PrintLast Go.Proofs.YtblmpfhjghcddaaDoorW.PrintMore
set_option linter.unusedVariables false
set_option linter.unusedSimpArgs false
set_option maxHeartbeats 4000000 in
set_option maxRecDepth 100000 in
theorem r11_25 (g h n c oc B : Nat) (A : Addr) (D : Nat → Int) (w0 w : World) (T : Array Value) (E : Env0 g h w0.heap.size n c A D) (hn : 44 ≤ n) (hBg : B ≤ g) (hBh : B ≤ h) (hBw : B ≤ w0.heap.size) (S : St 11 256 w0 g h n c oc B A D 20 14 6 T w) (K : Act → World → Prop) (R : Ending → World → Prop)
    (hk : ∀ T' w', St 11 256 w0 g h n c oc B A D 24 14 6 T' w' → K ⟨T', []⟩ w') :
    (regionOf Tryd.f34 25).wp Tryd.prog (Exit.then K (bodyPost Tryd.prog Tryd.f34 R)) ⟨T, []⟩ w := by
  conv => arg 2; whnf
  obtain ⟨hsz, h0, h1, h4, f, V, M, hG, hd, hp⟩ := S
  have z117 : 117 < T.size := by omega
  have z118 : 118 < T.size := by omega
  have QZ := Aside0.mk hsz
  clear hsz
  have QM := Aside0.mk M
  have QE := Aside0.mk E
  have QG := Aside0.mk hG
  have QD := Aside0.mk hd
  have QP := Aside0.mk hp
  have hi : 20 + 4 ≤ n := by omega
  have C := fun (Q : Ending → World → Prop) k => Mid.goS (Q := Q) (oc := oc) (nt := 256) QE.out hBg hBw hi QM.out QD.out QP.out k
  have C := Aside0.mk C
  clear hG hd hp M E hi
  go_wp2_with (go_at_call 40; refine C.out _ ?_; intro w' HS; have HS := Aside0.mk HS)
  exact HS.out _ (by simp [QZ.out]) (by simp [h0]) (by simp [h1]) (by simp [h4])
set_option maxHeartbeats 4000000 in
set_option maxRecDepth 100000 in
theorem r11_26 (g h n c oc B : Nat) (A : Addr) (D : Nat → Int) (w0 w : World) (T : Array Value) (E : Env0 g h w0.heap.size n c A D) (hn : 44 ≤ n) (hBg : B ≤ g) (hBh : B ≤ h) (hBw : B ≤ w0.heap.size) (S : St 11 256 w0 g h n c oc B A D 24 14 6 T w) (K : Act → World → Prop) (R : Ending → World → Prop)
    (hk : ∀ T' w', St 11 256 w0 g h n c oc B A D 24 15 0 T' w' → K ⟨T', []⟩ w') :
    (regionOf Tryd.f34 26).wp Tryd.prog (Exit.then K (bodyPost Tryd.prog Tryd.f34 R)) ⟨T, []⟩ w := by
  conv => arg 2; whnf
  obtain ⟨hsz, h0, h1, h4, f, V, M, hG, hd, hp⟩ := S
  have z119 : 119 < T.size := by omega
  have z120 : 120 < T.size := by omega
  have z121 : 121 < T.size := by omega
  have z122 : 122 < T.size := by omega
  have z123 : 123 < T.size := by omega
  have z124 : 124 < T.size := by omega
  have z125 : 125 < T.size := by omega
  have z126 : 126 < T.size := by omega
  have QZ := Aside0.mk hsz
  clear hsz
  have QM := Aside0.mk M
  have QE := Aside0.mk E
  have QG := Aside0.mk hG
  have QD := Aside0.mk hd
  have QP := Aside0.mk hp
  have p := M.pc
  have pz := M.pz
  obtain ⟨y, cj, zj, ey⟩ := M.at 14 (by omega)
  clear hG hd hp M E
  have mixed : Tryd.prog.follows .mixedOrders = true := by kernel_rfl
  have hx : (Go.bits .or .u32 y (IntKind.u32.wrap (V.tmod 32 * 64)) : Int) = numD D (11 * 14) 11 := pc_two' (t := 24 - 4) (QG.out (by omega)) QE.out.db (by omega) (11 * 14) 6 5 32 64 (by decide) (by decide) (by omega) (by omega) (ey.out.trans (QP.out (by omega)))
  have HX := Aside0.mk hx
  clear hx
  go_region
  all_goals exact hk _ _ (St.whole_d QE.out hBh QM.out QG.out QD.out HX.out ⟨by simp [QZ.out], by simp [h0], by simp [h1], by simp [h4]⟩)
set_option maxHeartbeats 4000000 in
set_option maxRecDepth 100000 in
theorem r11_27 (g h n c oc B : Nat) (A : Addr) (D : Nat → Int) (w0 w : World) (T : Array Value) (E : Env0 g h w0.heap.size n c A D) (hn : 44 ≤ n) (hBg : B ≤ g) (hBh : B ≤ h) (hBw : B ≤ w0.heap.size) (S : St 11 256 w0 g h n c oc B A D 24 15 0 T w) (K : Act → World → Prop) (R : Ending → World → Prop)
    (hk : ∀ T' w', St 11 256 w0 g h n c oc B A D 24 16 0 T' w' → K ⟨T', []⟩ w') :
    (regionOf Tryd.f34 27).wp Tryd.prog (Exit.then K (bodyPost Tryd.prog Tryd.f34 R)) ⟨T, []⟩ w := by
  conv => arg 2; whnf
  obtain ⟨hsz, h0, h1, h4, f, V, M, hG, hd, hp⟩ := S
  have z127 : 127 < T.size := by omega
  have z128 : 128 < T.size := by omega
  have z129 : 129 < T.size := by omega
  have z130 : 130 < T.size := by omega
  have z131 : 131 < T.size := by omega
  have QZ := Aside0.mk hsz
  clear hsz
  have QM := Aside0.mk M
  have QE := Aside0.mk E
  have QG := Aside0.mk hG
  have QD := Aside0.mk hd
  have QP := Aside0.mk hp
  have p := M.pc
  have pz := M.pz
  obtain ⟨y, cj, zj, ey⟩ := M.at 15 (by omega)
  clear hG hd hp M E
  have hx : ((V / 32).tmod 2048 : Int) = numD D (11 * 15) 11 := pc_mid (t := 24 - 4) (QG.out (by omega)) QE.out.db (by omega) 5 11 32 2048 (by decide) (by decide) (by omega)
  have HX := Aside0.mk hx
  clear hx
  go_wp2
  exact St.whole QE.out hBh QM.out QG.out QD.out HX.out ⟨by simp [QZ.out], by simp [h0], by simp [h1], by simp [h4]⟩
set_option maxHeartbeats 4000000 in
set_option maxRecDepth 100000 in
theorem r11_28 (g h n c oc B : Nat) (A : Addr) (D : Nat → Int) (w0 w : World) (T : Array Value) (E : Env0 g h w0.heap.size n c A D) (hn : 44 ≤ n) (hBg : B ≤ g) (hBh : B ≤ h) (hBw : B ≤ w0.heap.size) (S : St 11 256 w0 g h n c oc B A D 24 16 0 T w) (K : Act → World → Prop) (R : Ending → World → Prop)
    (hk : ∀ T' w', St 11 256 w0 g h n c oc B A D 24 17 0 T' w' → K ⟨T', []⟩ w') :
    (regionOf Tryd.f34 28).wp Tryd.prog (Exit.then K (bodyPost Tryd.prog Tryd.f34 R)) ⟨T, []⟩ w := by
  conv => arg 2; whnf
  obtain ⟨hsz, h0, h1, h4, f, V, M, hG, hd, hp⟩ := S
  have z132 : 132 < T.size := by omega
  have z133 : 133 < T.size := by omega
  have z134 : 134 < T.size := by omega
  have z135 : 135 < T.size := by omega
  have z136 : 136 < T.size := by omega
  have QZ := Aside0.mk hsz
  clear hsz
  have QM := Aside0.mk M
  have QE := Aside0.mk E
  have QG := Aside0.mk hG
  have QD := Aside0.mk hd
  have QP := Aside0.mk hp
  have p := M.pc
  have pz := M.pz
  obtain ⟨y, cj, zj, ey⟩ := M.at 16 (by omega)
  clear hG hd hp M E
  have hx : ((V / 65536).tmod 2048 : Int) = numD D (11 * 16) 11 := pc_mid (t := 24 - 4) (QG.out (by omega)) QE.out.db (by omega) 16 11 65536 2048 (by decide) (by decide) (by omega)
  have HX := Aside0.mk hx
  clear hx
  go_wp2
  exact St.whole QE.out hBh QM.out QG.out QD.out HX.out ⟨by simp [QZ.out], by simp [h0], by simp [h1], by simp [h4]⟩
set_option maxHeartbeats 4000000 in
set_option maxRecDepth 100000 in
theorem r11_29 (g h n c oc B : Nat) (A : Addr) (D : Nat → Int) (w0 w : World) (T : Array Value) (E : Env0 g h w0.heap.size n c A D) (hn : 44 ≤ n) (hBg : B ≤ g) (hBh : B ≤ h) (hBw : B ≤ w0.heap.size) (S : St 11 256 w0 g h n c oc B A D 24 17 0 T w) (K : Act → World → Prop) (R : Ending → World → Prop)
    (hk : ∀ T' w', St 11 256 w0 g h n c oc B A D 24 17 5 T' w' → K ⟨T', []⟩ w') :
    (regionOf Tryd.f34 29).wp Tryd.prog (Exit.then K (bodyPost Tryd.prog Tryd.f34 R)) ⟨T, []⟩ w := by
  conv => arg 2; whnf
  obtain ⟨hsz, h0, h1, h4, f, V, M, hG, hd, hp⟩ := S
  have z137 : 137 < T.size := by omega
  have z138 : 138 < T.size := by omega
  have z139 : 139 < T.size := by omega
  have z140 : 140 < T.size := by omega
  have QZ := Aside0.mk hsz
  clear hsz
  have QM := Aside0.mk M
  have QE := Aside0.mk E
  have QG := Aside0.mk hG
  have QD := Aside0.mk hd
  have QP := Aside0.mk hp
  have p := M.pc
  have pz := M.pz
  obtain ⟨y, cj, zj, ey⟩ := M.at 17 (by omega)
  clear hG hd hp M E
  have hx : (V / 134217728 : Int) = numD D (11 * 17) 5 := pc_last (t := 24 - 4) (QG.out (by omega)) QE.out.db (by omega) 27 5 134217728 (by decide) (by omega)
  have HX := Aside0.mk hx
  clear hx
  go_wp2
  exact St.part QE.out hBh QM.out QG.out QD.out HX.out ⟨by simp [QZ.out], by simp [h0], by simp [h1], by simp [h4]⟩
set_option maxHeartbeats 4000000 in
set_option maxRecDepth 100000 in
theorem r11_30 (g h n c oc B : Nat) (A : Addr) (D : Nat → Int) (w0 w : World) (T : Array Value) (E : Env0 g h w0.heap.size n c A D) (hn : 44 ≤ n) (hBg : B ≤ g) (hBh : B ≤ h) (hBw : B ≤ w0.heap.size) (S : St 11 256 w0 g h n c oc B A D 24 17 5 T w) (K : Act → World → Prop) (R : Ending → World → Prop)
    (hk : ∀ T' w', St 11 256 w0 g h n c oc B A D 28 17 5 T' w' → K ⟨T', []⟩ w') :
    (regionOf Tryd.f34 30).wp Tryd.prog (Exit.then K (bodyPost Tryd.prog Tryd.f34 R)) ⟨T, []⟩ w := by
  conv => arg 2; whnf
  obtain ⟨hsz, h0, h1, h4, f, V, M, hG, hd, hp⟩ := S
  have z141 : 141 < T.size := by omega
  have z142 : 142 < T.size := by omega
  have QZ := Aside0.mk hsz
  clear hsz
  have QM := Aside0.mk M
  have QE := Aside0.mk E
  have QG := Aside0.mk hG
  have QD := Aside0.mk hd
  have QP := Aside0.mk hp
  have hi : 24 + 4 ≤ n := by omega
  have C := fun (Q : Ending → World → Prop) k => Mid.goS (Q := Q) (oc := oc) (nt := 256) QE.out hBg hBw hi QM.out QD.out QP.out k
  have C := Aside0.mk C
  clear hG hd hp M E hi
  go_wp2_with (go_at_call 40; refine C.out _ ?_; intro w' HS; have HS := Aside0.mk HS)
  exact HS.out _ (by simp [QZ.out]) (by simp [h0]) (by simp [h1]) (by simp [h4])
set_option maxHeartbeats 4000000 in
set_option maxRecDepth 100000 in
theorem r11_31 (g h n c oc B : Nat) (A : Addr) (D : Nat → Int) (w0 w : World) (T : Array Value) (E : Env0 g h w0.heap.size n c A D) (hn : 44 ≤ n) (hBg : B ≤ g) (hBh : B ≤ h) (hBw : B ≤ w0.heap.size) (S : St 11 256 w0 g h n c oc B A D 28 17 5 T w) (K : Act → World → Prop) (R : Ending → World → Prop)
    (hk : ∀ T' w', St 11 256 w0 g h n c oc B A D 28 18 0 T' w' → K ⟨T', []⟩ w') :
    (regionOf Tryd.f34 31).wp Tryd.prog (Exit.then K (bodyPost Tryd.prog Tryd.f34 R)) ⟨T, []⟩ w := by
  conv => arg 2; whnf
  obtain ⟨hsz, h0, h1, h4, f, V, M, hG, hd, hp⟩ := S
  have z143 : 143 < T.size := by omega
  have z144 : 144 < T.size := by omega
  have z145 : 145 < T.size := by omega
  have z146 : 146 < T.size := by omega
  have z147 : 147 < T.size := by omega
  have z148 : 148 < T.size := by omega
  have z149 : 149 < T.size := by omega
  have z150 : 150 < T.size := by omega
  have QZ := Aside0.mk hsz
  clear hsz
  have QM := Aside0.mk M
  have QE := Aside0.mk E
  have QG := Aside0.mk hG
  have QD := Aside0.mk hd
  have QP := Aside0.mk hp
  have p := M.pc
  have pz := M.pz
  obtain ⟨y, cj, zj, ey⟩ := M.at 17 (by omega)
  clear hG hd hp M E
  have mixed : Tryd.prog.follows .mixedOrders = true := by kernel_rfl
  have hx : (Go.bits .or .u32 y (IntKind.u32.wrap (V.tmod 64 * 32)) : Int) = numD D (11 * 17) 11 := pc_two' (t := 28 - 4) (QG.out (by omega)) QE.out.db (by omega) (11 * 17) 5 6 64 32 (by decide) (by decide) (by omega) (by omega) (ey.out.trans (QP.out (by omega)))
  have HX := Aside0.mk hx
  clear hx
  go_region
  all_goals exact hk _ _ (St.whole_d QE.out hBh QM.out QG.out QD.out HX.out ⟨by simp [QZ.out], by simp [h0], by simp [h1], by simp [h4]⟩)
set_option maxHeartbeats 4000000 in
set_option maxRecDepth 100000 in
theorem r11_32 (g h n c oc B : Nat) (A : Addr) (D : Nat → Int) (w0 w : World) (T : Array Value) (E : Env0 g h w0.heap.size n c A D) (hn : 44 ≤ n) (hBg : B ≤ g) (hBh : B ≤ h) (hBw : B ≤ w0.heap.size) (S : St 11 256 w0 g h n c oc B A D 28 18 0 T w) (K : Act → World → Prop) (R : Ending → World → Prop)
    (hk : ∀ T' w', St 11 256 w0 g h n c oc B A D 28 19 0 T' w' → K ⟨T', []⟩ w') :
    (regionOf Tryd.f34 32).wp Tryd.prog (Exit.then K (bodyPost Tryd.prog Tryd.f34 R)) ⟨T, []⟩ w := by
  conv => arg 2; whnf
  obtain ⟨hsz, h0, h1, h4, f, V, M, hG, hd, hp⟩ := S
  have z151 : 151 < T.size := by omega
  have z152 : 152 < T.size := by omega
  have z153 : 153 < T.size := by omega
  have z154 : 154 < T.size := by omega
  have z155 : 155 < T.size := by omega
  have QZ := Aside0.mk hsz
  clear hsz
  have QM := Aside0.mk M
  have QE := Aside0.mk E
  have QG := Aside0.mk hG
  have QD := Aside0.mk hd
  have QP := Aside0.mk hp
  have p := M.pc
  have pz := M.pz
  obtain ⟨y, cj, zj, ey⟩ := M.at 18 (by omega)
  clear hG hd hp M E
  have hx : ((V / 64).tmod 2048 : Int) = numD D (11 * 18) 11 := pc_mid (t := 28 - 4) (QG.out (by omega)) QE.out.db (by omega) 6 11 64 2048 (by decide) (by decide) (by omega)
  have HX := Aside0.mk hx
  clear hx
  go_wp2
  exact St.whole QE.out hBh QM.out QG.out QD.out HX.out ⟨by simp [QZ.out], by simp [h0], by simp [h1], by simp [h4]⟩
set_option maxHeartbeats 4000000 in
set_option maxRecDepth 100000 in
theorem r11_33 (g h n c oc B : Nat) (A : Addr) (D : Nat → Int) (w0 w : World) (T : Array Value) (E : Env0 g h w0.heap.size n c A D) (hn : 44 ≤ n) (hBg : B ≤ g) (hBh : B ≤ h) (hBw : B ≤ w0.heap.size) (S : St 11 256 w0 g h n c oc B A D 28 19 0 T w) (K : Act → World → Prop) (R : Ending → World → Prop)
    (hk : ∀ T' w', St 11 256 w0 g h n c oc B A D 28 20 0 T' w' → K ⟨T', []⟩ w') :
    (regionOf Tryd.f34 33).wp Tryd.prog (Exit.then K (bodyPost Tryd.prog Tryd.f34 R)) ⟨T, []⟩ w := by
  conv => arg 2; whnf
  obtain ⟨hsz, h0, h1, h4, f, V, M, hG, hd, hp⟩ := S
  have z156 : 156 < T.size := by omega
  have z157 : 157 < T.size := by omega
  have z158 : 158 < T.size := by omega
  have z159 : 159 < T.size := by omega
  have z160 : 160 < T.size := by omega
  have QZ := Aside0.mk hsz
  clear hsz
  have QM := Aside0.mk M
  have QE := Aside0.mk E
  have QG := Aside0.mk hG
  have QD := Aside0.mk hd
  have QP := Aside0.mk hp
  have p := M.pc
  have pz := M.pz
  obtain ⟨y, cj, zj, ey⟩ := M.at 19 (by omega)
  clear hG hd hp M E
  have hx : ((V / 131072).tmod 2048 : Int) = numD D (11 * 19) 11 := pc_mid (t := 28 - 4) (QG.out (by omega)) QE.out.db (by omega) 17 11 131072 2048 (by decide) (by decide) (by omega)
  have HX := Aside0.mk hx
  clear hx
  go_wp2
  exact St.whole QE.out hBh QM.out QG.out QD.out HX.out ⟨by simp [QZ.out], by simp [h0], by simp [h1], by simp [h4]⟩
set_option maxHeartbeats 4000000 in
set_option maxRecDepth 100000 in
theorem r11_34 (g h n c oc B : Nat) (A : Addr) (D : Nat → Int) (w0 w : World) (T : Array Value) (E : Env0 g h w0.heap.size n c A D) (hn : 44 ≤ n) (hBg : B ≤ g) (hBh : B ≤ h) (hBw : B ≤ w0.heap.size) (S : St 11 256 w0 g h n c oc B A D 28 20 0 T w) (K : Act → World → Prop) (R : Ending → World → Prop)
    (hk : ∀ T' w', St 11 256 w0 g h n c oc B A D 28 20 4 T' w' → K ⟨T', []⟩ w') :
    (regionOf Tryd.f34 34).wp Tryd.prog (Exit.then K (bodyPost Tryd.prog Tryd.f34 R)) ⟨T, []⟩ w := by
  conv => arg 2; whnf
  obtain ⟨hsz, h0, h1, h4, f, V, M, hG, hd, hp⟩ := S
  have z161 : 161 < T.size := by omega
  have z162 : 162 < T.size := by omega
  have z163 : 163 < T.size := by omega
  have z164 : 164 < T.size := by omega
  have QZ := Aside0.mk hsz
  clear hsz
  have QM := Aside0.mk M
  have QE := Aside0.mk E
  have QG := Aside0.mk hG
  have QD := Aside0.mk hd
  have QP := Aside0.mk hp
  have p := M.pc
  have pz := M.pz
  obtain ⟨y, cj, zj, ey⟩ := M.at 20 (by omega)
  clear hG hd hp M E
  have hx : (V / 268435456 : Int) = numD D (11 * 20) 4 := pc_last (t := 28 - 4) (QG.out (by omega)) QE.out.db (by omega) 28 4 268435456 (by decide) (by omega)
  have HX := Aside0.mk hx
  clear hx
  go_wp2
  exact St.part QE.out hBh QM.out QG.out QD.out HX.out ⟨by simp [QZ.out], by simp [h0], by simp [h1], by simp [h4]⟩
set_option maxHeartbeats 4000000 in
set_option maxRecDepth 100000 in
theorem r11_35 (g h n c oc B : Nat) (A : Addr) (D : Nat → Int) (w0 w : World) (T : Array Value) (E : Env0 g h w0.heap.size n c A D) (hn : 44 ≤ n) (hBg : B ≤ g) (hBh : B ≤ h) (hBw : B ≤ w0.heap.size) (S : St 11 256 w0 g h n c oc B A D 28 20 4 T w) (K : Act → World → Prop) (R : Ending → World → Prop)
    (hk : ∀ T' w', St 11 256 w0 g h n c oc B A D 32 20 4 T' w' → K ⟨T', []⟩ w') :
    (regionOf Tryd.f34 35).wp Tryd.prog (Exit.then K (bodyPost Tryd.prog Tryd.f34 R)) ⟨T, []⟩ w := by
  conv => arg 2; whnf
  obtain ⟨hsz, h0, h1, h4, f, V, M, hG, hd, hp⟩ := S
  have z165 : 165 < T.size := by omega
  have z166 : 166 < T.size := by omega
  have QZ := Aside0.mk hsz
  clear hsz
  have QM := Aside0.mk M
  have QE := Aside0.mk E
  have QG := Aside0.mk hG
  have QD := Aside0.mk hd
  have QP := Aside0.mk hp
  have hi : 28 + 4 ≤ n := by omega
  have C := fun (Q : Ending → World → Prop) k => Mid.goS (Q := Q) (oc := oc) (nt := 256) QE.out hBg hBw hi QM.out QD.out QP.out k
  have C := Aside0.mk C
  clear hG hd hp M E hi
  go_wp2_with (go_at_call 40; refine C.out _ ?_; intro w' HS; have HS := Aside0.mk HS)
  exact HS.out _ (by simp [QZ.out]) (by simp [h0]) (by simp [h1]) (by simp [h4])
set_option maxHeartbeats 4000000 in
set_option maxRecDepth 100000 in
theorem r11_36 (g h n c oc B : Nat) (A : Addr) (D : Nat → Int) (w0 w : World) (T : Array Value) (E : Env0 g h w0.heap.size n c A D) (hn : 44 ≤ n) (hBg : B ≤ g) (hBh : B ≤ h) (hBw : B ≤ w0.heap.size) (S : St 11 256 w0 g h n c oc B A D 32 20 4 T w) (K : Act → World → Prop) (R : Ending → World → Prop)
    (hk : ∀ T' w', St 11 256 w0 g h n c oc B A D 32 21 0 T' w' → K ⟨T', []⟩ w') :
    (regionOf Tryd.f34 36).wp Tryd.prog (Exit.then K (bodyPost Tryd.prog Tryd.f34 R)) ⟨T, []⟩ w := by
  conv => arg 2; whnf
  obtain ⟨hsz, h0, h1, h4, f, V, M, hG, hd, hp⟩ := S
  have z167 : 167 < T.size := by omega
  have z168 : 168 < T.size := by omega
  have z169 : 169 < T.size := by omega
  have z170 : 170 < T.size := by omega
  have z171 : 171 < T.size := by omega
  have z172 : 172 < T.size := by omega
  have z173 : 173 < T.size := by omega
  have z174 : 174 < T.size := by omega
  have QZ := Aside0.mk hsz
  clear hsz
  have QM := Aside0.mk M
  have QE := Aside0.mk E
  have QG := Aside0.mk hG
  have QD := Aside0.mk hd
  have QP := Aside0.mk hp
  have p := M.pc
  have pz := M.pz
  obtain ⟨y, cj, zj, ey⟩ := M.at 20 (by omega)
  clear hG hd hp M E
  have mixed : Tryd.prog.follows .mixedOrders = true := by kernel_rfl
  have hx : (Go.bits .or .u32 y (IntKind.u32.wrap (V.tmod 128 * 16)) : Int) = numD D (11 * 20) 11 := pc_two' (t := 32 - 4) (QG.out (by omega)) QE.out.db (by omega) (11 * 20) 4 7 128 16 (by decide) (by decide) (by omega) (by omega) (ey.out.trans (QP.out (by omega)))
  have HX := Aside0.mk hx
  clear hx
  go_region
  all_goals exact hk _ _ (St.whole_d QE.out hBh QM.out QG.out QD.out HX.out ⟨by simp [QZ.out], by simp [h0], by simp [h1], by simp [h4]⟩)
set_option maxHeartbeats 4000000 in
set_option maxRecDepth 100000 in
theorem r11_37 (g h n c oc B : Nat) (A : Addr) (D : Nat → Int) (w0 w : World) (T : Array Value) (E : Env0 g h w0.heap.size n c A D) (hn : 44 ≤ n) (hBg : B ≤ g) (hBh : B ≤ h) (hBw : B ≤ w0.heap.size) (S : St 11 256 w0 g h n c oc B A D 32 21 0 T w) (K : Act → World → Prop) (R : Ending → World → Prop)
    (hk : ∀ T' w', St 11 256 w0 g h n c oc B A D 32 22 0 T' w' → K ⟨T', []⟩ w') :
    (regionOf Tryd.f34 37).wp Tryd.prog (Exit.then K (bodyPost Tryd.prog Tryd.f34 R)) ⟨T, []⟩ w := by
  conv => arg 2; whnf
  obtain ⟨hsz, h0, h1, h4, f, V, M, hG, hd, hp⟩ := S
  have z175 : 175 < T.size := by omega
  have z176 : 176 < T.size := by omega
  have z177 : 177 < T.size := by omega
  have z178 : 178 < T.size := by omega
  have z179 : 179 < T.size := by omega
  have QZ := Aside0.mk hsz
  clear hsz
  have QM := Aside0.mk M
  have QE := Aside0.mk E
  have QG := Aside0.mk hG
  have QD := Aside0.mk hd
  have QP := Aside0.mk hp
  have p := M.pc
  have pz := M.pz
  obtain ⟨y, cj, zj, ey⟩ := M.at 21 (by omega)
  clear hG hd hp M E
  have hx : ((V / 128).tmod 2048 : Int) = numD D (11 * 21) 11 := pc_mid (t := 32 - 4) (QG.out (by omega)) QE.out.db (by omega) 7 11 128 2048 (by decide) (by decide) (by omega)
  have HX := Aside0.mk hx
  clear hx
  go_wp2
  exact St.whole QE.out hBh QM.out QG.out QD.out HX.out ⟨by simp [QZ.out], by simp [h0], by simp [h1], by simp [h4]⟩
set_option maxHeartbeats 4000000 in
set_option maxRecDepth 100000 in
theorem r11_38 (g h n c oc B : Nat) (A : Addr) (D : Nat → Int) (w0 w : World) (T : Array Value) (E : Env0 g h w0.heap.size n c A D) (hn : 44 ≤ n) (hBg : B ≤ g) (hBh : B ≤ h) (hBw : B ≤ w0.heap.size) (S : St 11 256 w0 g h n c oc B A D 32 22 0 T w) (K : Act → World → Prop) (R : Ending → World → Prop)
    (hk : ∀ T' w', St 11 256 w0 g h n c oc B A D 32 23 0 T' w' → K ⟨T', []⟩ w') :
    (regionOf Tryd.f34 38).wp Tryd.prog (Exit.then K (bodyPost Tryd.prog Tryd.f34 R)) ⟨T, []⟩ w := by
  conv => arg 2; whnf
  obtain ⟨hsz, h0, h1, h4, f, V, M, hG, hd, hp⟩ := S
  have z180 : 180 < T.size := by omega
  have z181 : 181 < T.size := by omega
  have z182 : 182 < T.size := by omega
  have z183 : 183 < T.size := by omega
  have z184 : 184 < T.size := by omega
  have QZ := Aside0.mk hsz
  clear hsz
  have QM := Aside0.mk M
  have QE := Aside0.mk E
  have QG := Aside0.mk hG
  have QD := Aside0.mk hd
  have QP := Aside0.mk hp
  have p := M.pc
  have pz := M.pz
  obtain ⟨y, cj, zj, ey⟩ := M.at 22 (by omega)
  clear hG hd hp M E
  have hx : ((V / 262144).tmod 2048 : Int) = numD D (11 * 22) 11 := pc_mid (t := 32 - 4) (QG.out (by omega)) QE.out.db (by omega) 18 11 262144 2048 (by decide) (by decide) (by omega)
  have HX := Aside0.mk hx
  clear hx
  go_wp2
  exact St.whole QE.out hBh QM.out QG.out QD.out HX.out ⟨by simp [QZ.out], by simp [h0], by simp [h1], by simp [h4]⟩
set_option maxHeartbeats 4000000 in
set_option maxRecDepth 100000 in
theorem r11_39 (g h n c oc B : Nat) (A : Addr) (D : Nat → Int) (w0 w : World) (T : Array Value) (E : Env0 g h w0.heap.size n c A D) (hn : 44 ≤ n) (hBg : B ≤ g) (hBh : B ≤ h) (hBw : B ≤ w0.heap.size) (S : St 11 256 w0 g h n c oc B A D 32 23 0 T w) (K : Act → World → Prop) (R : Ending → World → Prop)
    (hk : ∀ T' w', St 11 256 w0 g h n c oc B A D 32 23 3 T' w' → K ⟨T', []⟩ w') :
    (regionOf Tryd.f34 39).wp Tryd.prog (Exit.then K (bodyPost Tryd.prog Tryd.f34 R)) ⟨T, []⟩ w := by
  conv => arg 2; whnf
  obtain ⟨hsz, h0, h1, h4, f, V, M, hG, hd, hp⟩ := S
  have z185 : 185 < T.size := by omega
  have z186 : 186 < T.size := by omega
  have z187 : 187 < T.size := by omega
  have z188 : 188 < T.size := by omega
  have QZ := Aside0.mk hsz
  clear hsz
  have QM := Aside0.mk M
  have QE := Aside0.mk E
  have QG := Aside0.mk hG
  have QD := Aside0.mk hd
  have QP := Aside0.mk hp
  have p := M.pc
  have pz := M.pz
  obtain ⟨y, cj, zj, ey⟩ := M.at 23 (by omega)
  clear hG hd hp M E
  have hx : (V / 536870912 : Int) = numD D (11 * 23) 3 := pc_last (t := 32 - 4) (QG.out (by omega)) QE.out.db (by omega) 29 3 536870912 (by decide) (by omega)
  have HX := Aside0.mk hx
  clear hx
  go_wp2
  exact St.part QE.out hBh QM.out QG.out QD.out HX.out ⟨by simp [QZ.out], by simp [h0], by simp [h1], by simp [h4]⟩
set_option maxHeartbeats 4000000 in
set_option maxRecDepth 100000 in
theorem r11_40 (g h n c oc B : Nat) (A : Addr) (D : Nat → Int) (w0 w : World) (T : Array Value) (E : Env0 g h w0.heap.size n c A D) (hn : 44 ≤ n) (hBg : B ≤ g) (hBh : B ≤ h) (hBw : B ≤ w0.heap.size) (S : St 11 256 w0 g h n c oc B A D 32 23 3 T w) (K : Act → World → Prop) (R : Ending → World → Prop)
    (hk : ∀ T' w', St 11 256 w0 g h n c oc B A D 36 23 3 T' w' → K ⟨T', []⟩ w') :
    (regionOf Tryd.f34 40).wp Tryd.prog (Exit.then K (bodyPost Tryd.prog Tryd.f34 R)) ⟨T, []⟩ w := by
  conv => arg 2; whnf
  obtain ⟨hsz, h0, h1, h4, f, V, M, hG, hd, hp⟩ := S
  have z189 : 189 < T.size := by omega
  have z190 : 190 < T.size := by omega
  have QZ := Aside0.mk hsz
  clear hsz
  have QM := Aside0.mk M
  have QE := Aside0.mk E
  have QG := Aside0.mk hG
  have QD := Aside0.mk hd
  have QP := Aside0.mk hp
  have hi : 32 + 4 ≤ n := by omega
  have C := fun (Q : Ending → World → Prop) k => Mid.goS (Q := Q) (oc := oc) (nt := 256) QE.out hBg hBw hi QM.out QD.out QP.out k
  have C := Aside0.mk C
  clear hG hd hp M E hi
  go_wp2_with (go_at_call 40; refine C.out _ ?_; intro w' HS; have HS := Aside0.mk HS)
  exact HS.out _ (by simp [QZ.out]) (by simp [h0]) (by simp [h1]) (by simp [h4])
set_option maxHeartbeats 4000000 in
set_option maxRecDepth 100000 in
theorem r11_41 (g h n c oc B : Nat) (A : Addr) (D : Nat → Int) (w0 w : World) (T : Array Value) (E : Env0 g h w0.heap.size n c A D) (hn : 44 ≤ n) (hBg : B ≤ g) (hBh : B ≤ h) (hBw : B ≤ w0.heap.size) (S : St 11 256 w0 g h n c oc B A D 36 23 3 T w) (K : Act → World → Prop) (R : Ending → World → Prop)
    (hk : ∀ T' w', St 11 256 w0 g h n c oc B A D 36 24 0 T' w' → K ⟨T', []⟩ w') :
    (regionOf Tryd.f34 41).wp Tryd.prog (Exit.then K (bodyPost Tryd.prog Tryd.f34 R)) ⟨T, []⟩ w := by
  conv => arg 2; whnf
  obtain ⟨hsz, h0, h1, h4, f, V, M, hG, hd, hp⟩ := S
  have z191 : 191 < T.size := by omega
  have z192 : 192 < T.size := by omega
  have z193 : 193 < T.size := by omega
  have z194 : 194 < T.size := by omega
  have z195 : 195 < T.size := by omega
  have z196 : 196 < T.size := by omega
  have z197 : 197 < T.size := by omega
  have z198 : 198 < T.size := by omega
  have QZ := Aside0.mk hsz
  clear hsz
  have QM := Aside0.mk M
  have QE := Aside0.mk E
  have QG := Aside0.mk hG
  have QD := Aside0.mk hd
  have QP := Aside0.mk hp
  have p := M.pc
  have pz := M.pz
  obtain ⟨y, cj, zj, ey⟩ := M.at 23 (by omega)
  clear hG hd hp M E
  have mixed : Tryd.prog.follows .mixedOrders = true := by kernel_rfl
  have hx : (Go.bits .or .u32 y (IntKind.u32.wrap (V.tmod 256 * 8)) : Int) = numD D (11 * 23) 11 := pc_two' (t := 36 - 4) (QG.out (by omega)) QE.out.db (by omega) (11 * 23) 3 8 256 8 (by decide) (by decide) (by omega) (by omega) (ey.out.trans (QP.out (by omega)))
  have HX := Aside0.mk hx
  clear hx
  go_region
  all_goals exact hk _ _ (St.whole_d QE.out hBh QM.out QG.out QD.out HX.out ⟨by simp [QZ.out], by simp [h0], by simp [h1], by simp [h4]⟩)
set_option maxHeartbeats 4000000 in
set_option maxRecDepth 100000 in
theorem r11_42 (g h n c oc B : Nat) (A : Addr) (D : Nat → Int) (w0 w : World) (T : Array Value) (E : Env0 g h w0.heap.size n c A D) (hn : 44 ≤ n) (hBg : B ≤ g) (hBh : B ≤ h) (hBw : B ≤ w0.heap.size) (S : St 11 256 w0 g h n c oc B A D 36 24 0 T w) (K : Act → World → Prop) (R : Ending → World → Prop)
    (hk : ∀ T' w', St 11 256 w0 g h n c oc B A D 36 25 0 T' w' → K ⟨T', []⟩ w') :
    (regionOf Tryd.f34 42).wp Tryd.prog (Exit.then K (bodyPost Tryd.prog Tryd.f34 R)) ⟨T, []⟩ w := by
  conv => arg 2; whnf
  obtain ⟨hsz, h0, h1, h4, f, V, M, hG, hd, hp⟩ := S
  have z199 : 199 < T.size := by omega
  have z200 : 200 < T.size := by omega
  have z201 : 201 < T.size := by omega
  have z202 : 202 < T.size := by omega
  have z203 : 203 < T.size := by omega
  have QZ := Aside0.mk hsz
  clear hsz
  have QM := Aside0.mk M
  have QE := Aside0.mk E
  have QG := Aside0.mk hG
  have QD := Aside0.mk hd
  have QP := Aside0.mk hp
  have p := M.pc
  have pz := M.pz
  obtain ⟨y, cj, zj, ey⟩ := M.at 24 (by omega)
  clear hG hd hp M E
  have hx : ((V / 256).tmod 2048 : Int) = numD D (11 * 24) 11 := pc_mid (t := 36 - 4) (QG.out (by omega)) QE.out.db (by omega) 8 11 256 2048 (by decide) (by decide) (by omega)
  have HX := Aside0.mk hx
  clear hx
  go_wp2
  exact St.whole QE.out hBh QM.out QG.out QD.out HX.out ⟨by simp [QZ.out], by simp [h0], by simp [h1], by simp [h4]⟩
set_option maxHeartbeats 4000000 in
set_option maxRecDepth 100000 in
theorem r11_43 (g h n c oc B : Nat) (A : Addr) (D : Nat → Int) (w0 w : World) (T : Array Value) (E : Env0 g h w0.heap.size n c A D) (hn : 44 ≤ n) (hBg : B ≤ g) (hBh : B ≤ h) (hBw : B ≤ w0.heap.size) (S : St 11 256 w0 g h n c oc B A D 36 25 0 T w) (K : Act → World → Prop) (R : Ending → World → Prop)
    (hk : ∀ T' w', St 11 256 w0 g h n c oc B A D 36 26 0 T' w' → K ⟨T', []⟩ w') :
    (regionOf Tryd.f34 43).wp Tryd.prog (Exit.then K (bodyPost Tryd.prog Tryd.f34 R)) ⟨T, []⟩ w := by
  conv => arg 2; whnf
  obtain ⟨hsz, h0, h1, h4, f, V, M, hG, hd, hp⟩ := S
  have z204 : 204 < T.size := by omega
  have z205 : 205 < T.size := by omega
  have z206 : 206 < T.size := by omega
  have z207 : 207 < T.size := by omega
  have z208 : 208 < T.size := by omega
  have QZ := Aside0.mk hsz
  clear hsz
  have QM := Aside0.mk M
  have QE := Aside0.mk E
  have QG := Aside0.mk hG
  have QD := Aside0.mk hd
  have QP := Aside0.mk hp
  have p := M.pc
  have pz := M.pz
  obtain ⟨y, cj, zj, ey⟩ := M.at 25 (by omega)
  clear hG hd hp M E
  have hx : ((V / 524288).tmod 2048 : Int) = numD D (11 * 25) 11 := pc_mid (t := 36 - 4) (QG.out (by omega)) QE.out.db (by omega) 19 11 524288 2048 (by decide) (by decide) (by omega)
  have HX := Aside0.mk hx
  clear hx
  go_wp2
  exact St.whole QE.out hBh QM.out QG.out QD.out HX.out ⟨by simp [QZ.out], by simp [h0], by simp [h1], by simp [h4]⟩
set_option maxHeartbeats 4000000 in
set_option maxRecDepth 100000 in
theorem r11_44 (g h n c oc B : Nat) (A : Addr) (D : Nat → Int) (w0 w : World) (T : Array Value) (E : Env0 g h w0.heap.size n c A D) (hn : 44 ≤ n) (hBg : B ≤ g) (hBh : B ≤ h) (hBw : B ≤ w0.heap.size) (S : St 11 256 w0 g h n c oc B A D 36 26 0 T w) (K : Act → World → Prop) (R : Ending → World → Prop)
    (hk : ∀ T' w', St 11 256 w0 g h n c oc B A D 36 26 2 T' w' → K ⟨T', []⟩ w') :
    (regionOf Tryd.f34 44).wp Tryd.prog (Exit.then K (bodyPost Tryd.prog Tryd.f34 R)) ⟨T, []⟩ w := by
  conv => arg 2; whnf
  obtain ⟨hsz, h0, h1, h4, f, V, M, hG, hd, hp⟩ := S
  have z209 : 209 < T.size := by omega
  have z210 : 210 < T.size := by omega
  have z211 : 211 < T.size := by omega
  have z212 : 212 < T.size := by omega
  have QZ := Aside0.mk hsz
  clear hsz
  have QM := Aside0.mk M
  have QE := Aside0.mk E
  have QG := Aside0.mk hG
  have QD := Aside0.mk hd
  have QP := Aside0.mk hp
  have p := M.pc
  have pz := M.pz
  obtain ⟨y, cj, zj, ey⟩ := M.at 26 (by omega)
  clear hG hd hp M E
  have hx : (V / 1073741824 : Int) = numD D (11 * 26) 2 := pc_last (t := 36 - 4) (QG.out (by omega)) QE.out.db (by omega) 30 2 1073741824 (by decide) (by omega)
  have HX := Aside0.mk hx
  clear hx
  go_wp2
  exact St.part QE.out hBh QM.out QG.out QD.out HX.out ⟨by simp [QZ.out], by simp [h0], by simp [h1], by simp [h4]⟩
set_option maxHeartbeats 4000000 in
set_option maxRecDepth 100000 in
theorem r11_45 (g h n c oc B : Nat) (A : Addr) (D : Nat → Int) (w0 w : World) (T : Array Value) (E : Env0 g h w0.heap.size n c A D) (hn : 44 ≤ n) (hBg : B ≤ g) (hBh : B ≤ h) (hBw : B ≤ w0.heap.size) (S : St 11 256 w0 g h n c oc B A D 36 26 2 T w) (K : Act → World → Prop) (R : Ending → World → Prop)
    (hk : ∀ T' w', St 11 256 w0 g h n c oc B A D 40 26 2 T' w' → K ⟨T', []⟩ w') :
    (regionOf Tryd.f34 45).wp Tryd.prog (Exit.then K (bodyPost Tryd.prog Tryd.f34 R)) ⟨T, []⟩ w := by
  conv => arg 2; whnf
  obtain ⟨hsz, h0, h1, h4, f, V, M, hG, hd, hp⟩ := S
  have z213 : 213 < T.size := by omega
  have z214 : 214 < T.size := by omega
  have QZ := Aside0.mk hsz
  clear hsz
  have QM := Aside0.mk M
  have QE := Aside0.mk E
  have QG := Aside0.mk hG
  have QD := Aside0.mk hd
  have QP := Aside0.mk hp
  have hi : 36 + 4 ≤ n := by omega
  have C := fun (Q : Ending → World → Prop) k => Mid.goS (Q := Q) (oc := oc) (nt := 256) QE.out hBg hBw hi QM.out QD.out QP.out k
  have C := Aside0.mk C
  clear hG hd hp M E hi
  go_wp2_with (go_at_call 40; refine C.out _ ?_; intro w' HS; have HS := Aside0.mk HS)
  exact HS.out _ (by simp [QZ.out]) (by simp [h0]) (by simp [h1]) (by simp [h4])
set_option maxHeartbeats 4000000 in
set_option maxRecDepth 100000 in
theorem r11_46 (g h n c oc B : Nat) (A : Addr) (D : Nat → Int) (w0 w : World) (T : Array Value) (E : Env0 g h w0.heap.size n c A D) (hn : 44 ≤ n) (hBg : B ≤ g) (hBh : B ≤ h) (hBw : B ≤ w0.heap.size) (S : St 11 256 w0 g h n c oc B A D 40 26 2 T w) (K : Act → World → Prop) (R : Ending → World → Prop)
    (hk : ∀ T' w', St 11 256 w0 g h n c oc B A D 40 27 0 T' w' → K ⟨T', []⟩ w') :
    (regionOf Tryd.f34 46).wp Tryd.prog (Exit.then K (bodyPost Tryd.prog Tryd.f34 R)) ⟨T, []⟩ w := by
  conv => arg 2; whnf
  obtain ⟨hsz, h0, h1, h4, f, V, M, hG, hd, hp⟩ := S
  have z215 : 215 < T.size := by omega
  have z216 : 216 < T.size := by omega
  have z217 : 217 < T.size := by omega
  have z218 : 218 < T.size := by omega
  have z219 : 219 < T.size := by omega
  have z220 : 220 < T.size := by omega
  have z221 : 221 < T.size := by omega
  have z222 : 222 < T.size := by omega
  have QZ := Aside0.mk hsz
  clear hsz
  have QM := Aside0.mk M
  have QE := Aside0.mk E
  have QG := Aside0.mk hG
  have QD := Aside0.mk hd
  have QP := Aside0.mk hp
  have p := M.pc
  have pz := M.pz
  obtain ⟨y, cj, zj, ey⟩ := M.at 26 (by omega)
  clear hG hd hp M E
  have mixed : Tryd.prog.follows .mixedOrders = true := by kernel_rfl
  have hx : (Go.bits .or .u32 y (IntKind.u32.wrap (V.tmod 512 * 4)) : Int) = numD D (11 * 26) 11 := pc_two' (t := 40 - 4) (QG.out (by omega)) QE.out.db (by omega) (11 * 26) 2 9 512 4 (by decide) (by decide) (by omega) (by omega) (ey.out.trans (QP.out (by omega)))
  have HX := Aside0.mk hx
  clear hx
  go_region
  all_goals exact hk _ _ (St.whole_d QE.out hBh QM.out QG.out QD.out HX.out ⟨by simp [QZ.out], by simp [h0], by simp [h1], by simp [h4]⟩)
set_option maxHeartbeats 4000000 in
set_option maxRecDepth 100000 in
theorem r11_47 (g h n c oc B : Nat) (A : Addr) (D : Nat → Int) (w0 w : World) (T : Array Value) (E : Env0 g h w0.heap.size n c A D) (hn : 44 ≤ n) (hBg : B ≤ g) (hBh : B ≤ h) (hBw : B ≤ w0.heap.size) (S : St 11 256 w0 g h n c oc B A D 40 27 0 T w) (K : Act → World → Prop) (R : Ending → World → Prop)
    (hk : ∀ T' w', St 11 256 w0 g h n c oc B A D 40 28 0 T' w' → K ⟨T', []⟩ w') :
    (regionOf Tryd.f34 47).wp Tryd.prog (Exit.then K (bodyPost Tryd.prog Tryd.f34 R)) ⟨T, []⟩ w := by
  conv => arg 2; whnf
  obtain ⟨hsz, h0, h1, h4, f, V, M, hG, hd, hp⟩ := S
  have z223 : 223 < T.size := by omega
  have z224 : 224 < T.size := by omega
  have z225 : 225 < T.size := by omega
  have z226 : 226 < T.size := by omega
  have z227 : 227 < T.size := by omega
  have QZ := Aside0.mk hsz
  clear hsz
  have QM := Aside0.mk M
  have QE := Aside0.mk E
  have QG := Aside0.mk hG
  have QD := Aside0.mk hd
  have QP := Aside0.mk hp
  have p := M.pc
  have pz := M.pz
  obtain ⟨y, cj, zj, ey⟩ := M.at 27 (by omega)
  clear hG hd hp M E
  have hx : ((V / 512).tmod 2048 : Int) = numD D (11 * 27) 11 := pc_mid (t := 40 - 4) (QG.out (by omega)) QE.out.db (by omega) 9 11 512 2048 (by decide) (by decide) (by omega)
  have HX := Aside0.mk hx
  clear hx
  go_wp2
  exact St.whole QE.out hBh QM.out QG.out QD.out HX.out ⟨by simp [QZ.out], by simp [h0], by simp [h1], by simp [h4]⟩
set_option maxHeartbeats 4000000 in
set_option maxRecDepth 100000 in
theorem r11_48 (g h n c oc B : Nat) (A : Addr) (D : Nat → Int) (w0 w : World) (T : Array Value) (E : Env0 g h w0.heap.size n c A D) (hn : 44 ≤ n) (hBg : B ≤ g) (hBh : B ≤ h) (hBw : B ≤ w0.heap.size) (S : St 11 256 w0 g h n c oc B A D 40 28 0 T w) (K : Act → World → Prop) (R : Ending → World → Prop)
    (hk : ∀ T' w', St 11 256 w0 g h n c oc B A D 40 29 0 T' w' → K ⟨T', []⟩ w') :
    (regionOf Tryd.f34 48).wp Tryd.prog (Exit.then K (bodyPost Tryd.prog Tryd.f34 R)) ⟨T, []⟩ w := by
  conv => arg 2; whnf
  obtain ⟨hsz, h0, h1, h4, f, V, M, hG, hd, hp⟩ := S
  have z228 : 228 < T.size := by omega
  have z229 : 229 < T.size := by omega
  have z230 : 230 < T.size := by omega
  have z231 : 231 < T.size := by omega
  have z232 : 232 < T.size := by omega
  have QZ := Aside0.mk hsz
  clear hsz
  have QM := Aside0.mk M
  have QE := Aside0.mk E
  have QG := Aside0.mk hG
  have QD := Aside0.mk hd
  have QP := Aside0.mk hp
  have p := M.pc
  have pz := M.pz
  obtain ⟨y, cj, zj, ey⟩ := M.at 28 (by omega)
  clear hG hd hp M E
  have hx : ((V / 1048576).tmod 2048 : Int) = numD D (11 * 28) 11 := pc_mid (t := 40 - 4) (QG.out (by omega)) QE.out.db (by omega) 20 11 1048576 2048 (by decide) (by decide) (by omega)
  have HX := Aside0.mk hx
  clear hx
  go_wp2
  exact St.whole QE.out hBh QM.out QG.out QD.out HX.out ⟨by simp [QZ.out], by simp [h0], by simp [h1], by simp [h4]⟩
end Go.Proofs.YtblmpfhjghcddaaDoor.QU
