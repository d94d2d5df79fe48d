/- Bits are set: the walk. -/
import Derived.Test.YtoceclgljmdkeaaDoorA8
import Derived.Laws.LoneSync
import Derived.Laws.NewBlocks
namespace Go.Proofs.YtoceclgljmdkeaaDoor.QR
open Go.RowKit Go.Proofs.YtoceclgljmdkeaaDoorW.PrintWords Go.Proofs.YtoceclgljmdkeaaDoorW.PrintLast Go.Proofs.YtoceclgljmdkeaaDoorW.PrintMore
set_option linter.unusedVariables false
set_option linter.unusedSimpArgs false
set_option maxHeartbeats 8000000 in
set_option maxRecDepth 100000 in
theorem sbt_is {us0 : List Value} {L : Nat} (gd cd d len et : Nat) (w : World) (h0 : OkN us0 L) (hs : w.heap[gd]? = some (.cells us0.toArray et (0, 0))) (hd : d < 100000) (hlen : len < 100000) (hl1 : 1 ≤ len) (hn : d + len ≤ 8 * L) (hL : L < 100000) (hLc : L ≤ cd) (hG : Gm w) (hg4 : 4 ≤ gd) :
    Calls Tryd.prog 25 #[.slice (some ⟨gd, 0, none⟩) L cd, .int .i64 (d : Int), .int .i64 (len : Int), .bool true] w fun e w' => e = .returned (.tuple #[]) ∧ Fr w w' gd gd ∧ ∃ us' : List Value, w'.heap[gd]? = some (.cells us'.toArray et (0, 0)) ∧ KN us0 us' L d len (fun _ => true) := by
  obtain ⟨qd, hqd⟩ : ∃ qd, qd = d / 8 := ⟨_, rfl⟩
  obtain ⟨o1, ho1⟩ : ∃ o1, o1 = d % 8 := ⟨_, rfl⟩
  obtain ⟨qe, hqe⟩ : ∃ qe, qe = (d + len) / 8 := ⟨_, rfl⟩
  obtain ⟨o2, ho2⟩ : ∃ o2, o2 = (d + len) % 8 := ⟨_, rfl⟩
  have l1 : qd < 100000 := by omega
  have l2 : qe < 100000 := by omega
  have l3 : o1 < 8 := by omega
  have l4 : o2 < 8 := by omega
  have t1 : (d : Int) / 8 = (qd : Int) := by omega
  have t2 : (d : Int) % 8 = (o1 : Int) := by omega
  have t3 : ((d : Int) + (len : Int)) / 8 = (qe : Int) := by omega
  have t4 : ((d : Int) + (len : Int)) % 8 = (o2 : Int) := by omega
  have t5 : (o1 : Int) < 8 := by omega
  have t6 : (o2 : Int) < 8 := by omega
  have hl0 : ¬ (len : Int) = 0 := by omega
  have k1 := hG.2.2.1 o1 l3
  have k2 := hG.2.2.2 o2 l4
  have hm1 : 2 ^ o1 - 1 < 256 := Nat.lt_of_lt_of_le (Nat.sub_lt (Nat.two_pow_pos _) (by omega)) (show 2 ^ o1 ≤ 2 ^ 8 from Nat.pow_le_pow_right (by omega) (by omega))
  have hm2 : 256 - 2 ^ o2 < 256 := Nat.sub_lt (by omega) (Nat.two_pow_pos _)
  have kx := h0.at (show qd < L by omega)
  have k0 := blk_cell hs qd
  rw [List.getElem?_toArray, kx.1] at k0
  have z0 := blk_frozen hs qd
  have g0 : ¬ gd = 0 := by omega
  have g1 : ¬ gd = 1 := by omega
  have g2 : ¬ 0 = gd := by omega
  have g3 : ¬ 1 = gd := by omega
  have i1 : (qd : Int) < (L : Int) := by omega
  have i2 : qd < L := by omega
  by_cases hS : qe = qd
  · have hko := kn_one (L := L) (d := d) (len := len) h0 (show d = 8 * qd + o1 by omega) (show d + len = 8 * qd + o2 by omega) l3 l4 i2
    have hmo : (2 ^ o1 - 1 ||| (256 - 2 ^ o2)) < 256 := Nat.or_lt_two_pow (n := 8) hm1 hm2
    have eO : bits .or .u8 ((2 ^ o1 - 1 : Nat) : Int) ((256 - 2 ^ o2 : Nat) : Int) = ((2 ^ o1 - 1 ||| (256 - 2 ^ o2) : Nat) : Int) := u8_or_nat _ _ hm1 hm2
    obtain ⟨eA, eB⟩ := fill_is kx.2 hmo
    have n2 : ¬ (o2 : Int) = 0 := by omega
    have hqi : (qe : Int) = (qd : Int) := by omega
    generalize mix8 (byN us0 qd) 255 (2 ^ o1 - 1 ||| (256 - 2 ^ o2)) = y at *
    generalize byN us0 qd &&& (2 ^ o1 - 1 ||| (256 - 2 ^ o2)) = xa at *
    generalize (2 ^ o1 - 1 ||| (256 - 2 ^ o2)) = mo at *
    generalize byN us0 qd = x at *
    generalize 2 ^ o1 - 1 = mk1 at *
    generalize 256 - 2 ^ o2 = mk2 at *
    have Qs := Aside0.mk (And.intro hs hko)
    clear hs hko hmo h0 hn hG hm1 hm2 kx hqd ho1 hqe ho2 hS hl1
    go_enter Tryd.func25, Tryd.ntmps25
    go_wp2
    refine bodyPost_ret (v := .tuple #[]) (by simp [results, Tryd.results25, go_sem]) rfl ?_
    have hh := blk_set (blk_set Qs.out.1 qd (.int .u8 (xa : Int))) qd (.int .u8 (y : Int))
    simp only [List.setIfInBounds_toArray, List.set_set] at hh
    exact ⟨rfl, ((Fr.refl w gd gd).set gd qd _ (.inl rfl)).set gd qd _ (.inl rfl), _, hh, Qs.out.2⟩
  by_cases hM : qe = qd + 1
  · by_cases hT : o2 = 0
    · subst hT
      clear t4 t6
      have t4 : ((d : Int) + (len : Int)) % 8 = 0 := by omega
      have hkf := kn_first (L := L) (d := d) h0 (show d = 8 * qd + o1 by omega) l3 i2
      obtain ⟨eA, eB⟩ := fill_is kx.2 hm1
      have hqi : ¬ (qe : Int) = (qd : Int) := by omega
      generalize mix8 (byN us0 qd) 255 (2 ^ o1 - 1) = y at *
      generalize byN us0 qd &&& (2 ^ o1 - 1) = xa at *
      generalize byN us0 qd = x at *
      generalize 2 ^ o1 - 1 = mk1 at *
      have hh := blk_set (blk_set hs qd (.int .u8 (xa : Int))) qd (.int .u8 (y : Int))
      simp only [List.setIfInBounds_toArray, List.set_set] at hh
      have FF : Fr w ((w.setCell ⟨gd, qd, none⟩ (.int .u8 (xa : Int))).setCell ⟨gd, qd, none⟩ (.int .u8 (y : Int))) gd gd := ((Fr.refl w gd gd).set gd qd _ (.inl rfl)).set gd qd _ (.inl rfl)
      have hq2 : ¬ (2 : Int) < (qe : Int) + 1 - (qd : Int) := by omega
      have hkm := hkf
      rw [show 8 - o1 = 8 * qe - d by omega] at hkm
      have Qm := Aside0.mk hkm
      clear hkm
      have Qt := Aside0.mk (show 8 * qe - d = len by omega)
      generalize 256 - 2 ^ 0 = mk2 at *
      have Qs := Aside0.mk (And.intro hh FF)
      clear hs h0 hn hG hm1 hm2 kx hqd ho1 hqe ho2 hl1 hkf hh FF hS hM
      go_enter Tryd.func25, Tryd.ntmps25
      go_upto_region 20 with fail
      go_wp2
      refine bodyPost_ret (v := .tuple #[]) (by simp [results, Tryd.results25, go_sem]) rfl ?_
      have hk := Qm.out
      rw [Qt.out] at hk
      exact ⟨rfl, Qs.out.2, _, Qs.out.1, hk⟩
    · have hkf := kn_first (L := L) (d := d) h0 (show d = 8 * qd + o1 by omega) l3 i2
      obtain ⟨eA, eB⟩ := fill_is kx.2 hm1
      have hqi : ¬ (qe : Int) = (qd : Int) := by omega
      generalize mix8 (byN us0 qd) 255 (2 ^ o1 - 1) = y at *
      generalize byN us0 qd &&& (2 ^ o1 - 1) = xa at *
      generalize byN us0 qd = x at *
      generalize 2 ^ o1 - 1 = mk1 at *
      have hh := blk_set (blk_set hs qd (.int .u8 (xa : Int))) qd (.int .u8 (y : Int))
      simp only [List.setIfInBounds_toArray, List.set_set] at hh
      have FF : Fr w ((w.setCell ⟨gd, qd, none⟩ (.int .u8 (xa : Int))).setCell ⟨gd, qd, none⟩ (.int .u8 (y : Int))) gd gd := ((Fr.refl w gd gd).set gd qd _ (.inl rfl)).set gd qd _ (.inl rfl)
      have hq2 : ¬ (2 : Int) < (qe : Int) + 1 - (qd : Int) := by omega
      have hkm := hkf
      rw [show 8 - o1 = 8 * qe - d by omega] at hkm
      have Qm := Aside0.mk hkm
      clear hkm
      have n2 : ¬ (o2 : Int) = 0 := by omega
      obtain ⟨us3, hus3⟩ : ∃ us3, us3 = us0.set qd (.int .u8 (y : Int)) := ⟨_, rfl⟩
      rw [← hus3] at Qm
      have hkt := kn_tail (q := qe) (o2 := o2) Qm.out (by omega) l4 (by omega)
      rw [show 8 * qe - d + o2 = len by omega] at hkt
      have kq := Qm.out.1.at (show qe < L by omega)
      obtain ⟨eC, eD⟩ := fill_is kq.2 hm2
      generalize mix8 (byN us3 qe) 255 (256 - 2 ^ o2) = y2 at *
      generalize byN us3 qe &&& (256 - 2 ^ o2) = xa2 at *
      generalize byN us3 qe = x2 at *
      generalize 256 - 2 ^ o2 = mk2 at *
      have i5 : (qe : Int) < (L : Int) := by omega
      have i6 : qe < L := by omega
      have Qt := Aside0.mk (And.intro hkt kq.1)
      clear hkt kq
      have Qs := Aside0.mk (And.intro hh FF)
      clear hs h0 hn hG hm1 hm2 kx hqd ho1 hqe ho2 hl1 hkf hh FF hS hM
      go_enter Tryd.func25, Tryd.ntmps25
      go_upto_region 20 with fail
      refine wp_as (fun V => V.heap[gd]? = some (.cells us3.toArray et (0, 0)) ∧ Fr w V gd gd) ⟨by rw [hus3]; exact Qs.out.1, Qs.out.2⟩ ?_
      rintro V ⟨v1, v2⟩
      clear k0 z0
      have k := blk_cell v1 qe
      rw [List.getElem?_toArray, Qt.out.2] at k
      have z := blk_frozen v1 qe
      have Qv := Aside0.mk (And.intro v1 v2)
      clear v1 v2 hus3
      go_wp2
      go_end0
      have hh := blk_set (blk_set Qv.out.1 qe (.int .u8 (xa2 : Int))) qe (.int .u8 (y2 : Int))
      simp only [List.setIfInBounds_toArray, List.set_set] at hh
      exact ⟨rfl, (Qv.out.2.set gd qe _ (.inl rfl)).set gd qe _ (.inl rfl), _, hh, Qt.out.1⟩
  · by_cases hT : o2 = 0
    · subst hT
      clear t4 t6
      have t4 : ((d : Int) + (len : Int)) % 8 = 0 := by omega
      have hkf := kn_first (L := L) (d := d) h0 (show d = 8 * qd + o1 by omega) l3 i2
      obtain ⟨eA, eB⟩ := fill_is kx.2 hm1
      have hqi : ¬ (qe : Int) = (qd : Int) := by omega
      generalize mix8 (byN us0 qd) 255 (2 ^ o1 - 1) = y at *
      generalize byN us0 qd &&& (2 ^ o1 - 1) = xa at *
      generalize byN us0 qd = x at *
      generalize 2 ^ o1 - 1 = mk1 at *
      have hh := blk_set (blk_set hs qd (.int .u8 (xa : Int))) qd (.int .u8 (y : Int))
      simp only [List.setIfInBounds_toArray, List.set_set] at hh
      have FF : Fr w ((w.setCell ⟨gd, qd, none⟩ (.int .u8 (xa : Int))).setCell ⟨gd, qd, none⟩ (.int .u8 (y : Int))) gd gd := ((Fr.refl w gd gd).set gd qd _ (.inl rfl)).set gd qd _ (.inl rfl)
      have hq2 : (2 : Int) < (qe : Int) + 1 - (qd : Int) := by omega
      have hi1 : (qd : Int) + 1 ≤ (qe : Int) := by omega
      have hi2 : (qe : Int) ≤ (cd : Int) := by omega
      have hi3 : qd + 1 ≤ qe := by omega
      have hi4 : qe ≤ cd := by omega
      have hi5 : ¬ cd - (qd + 1) = 0 := by omega
      have hi6 : ¬ cd = qd + 1 := by omega
      obtain ⟨nn, hnn⟩ : ∃ nn, nn = qe - (qd + 1) := ⟨_, rfl⟩
      have s1 : qe - (qd + 1) = nn := hnn.symm
      have QM := Aside0.mk (fun W hW => set_is gd (qd + 1) nn (cd - (qd + 1)) et 255 (us0.set qd (.int .u8 (y : Int))) W hW (by rw [List.length_set]; have := h0.1; omega) (by omega))
      have QM1 := Aside0.mk (QM.out _ hh)
      have hkm := kn_fill (q := qd + 1) (n := nn) hkf (by omega) (by omega)
      rw [show 8 - o1 + 8 * nn = 8 * qe - d by omega] at hkm
      have Qm := Aside0.mk hkm
      clear QM hkm
      have Qt := Aside0.mk (show 8 * qe - d = len by omega)
      generalize 256 - 2 ^ 0 = mk2 at *
      have Qs := Aside0.mk (And.intro hh FF)
      clear hs h0 hn hG hm1 hm2 kx hqd ho1 hqe ho2 hl1 hkf hh FF hS hM hnn
      go_enter Tryd.func25, Tryd.ntmps25
      go_upto_region 20 with (go_at_call 32; with_reducible refine Calls.mono QM1.out ?_; rintro e w3 ⟨rfl, j1, j2⟩; have Q3 := Aside0.mk (And.intro j1 (Qs.out.2.trans j2)); clear j1 j2)
      go_wp2
      refine bodyPost_ret (v := .tuple #[]) (by simp [results, Tryd.results25, go_sem]) rfl ?_
      have hk := Qm.out
      rw [Qt.out] at hk
      exact ⟨rfl, Q3.out.2, _, Q3.out.1, hk⟩
    · have hkf := kn_first (L := L) (d := d) h0 (show d = 8 * qd + o1 by omega) l3 i2
      obtain ⟨eA, eB⟩ := fill_is kx.2 hm1
      have hqi : ¬ (qe : Int) = (qd : Int) := by omega
      generalize mix8 (byN us0 qd) 255 (2 ^ o1 - 1) = y at *
      generalize byN us0 qd &&& (2 ^ o1 - 1) = xa at *
      generalize byN us0 qd = x at *
      generalize 2 ^ o1 - 1 = mk1 at *
      have hh := blk_set (blk_set hs qd (.int .u8 (xa : Int))) qd (.int .u8 (y : Int))
      simp only [List.setIfInBounds_toArray, List.set_set] at hh
      have FF : Fr w ((w.setCell ⟨gd, qd, none⟩ (.int .u8 (xa : Int))).setCell ⟨gd, qd, none⟩ (.int .u8 (y : Int))) gd gd := ((Fr.refl w gd gd).set gd qd _ (.inl rfl)).set gd qd _ (.inl rfl)
      have hq2 : (2 : Int) < (qe : Int) + 1 - (qd : Int) := by omega
      have hi1 : (qd : Int) + 1 ≤ (qe : Int) := by omega
      have hi2 : (qe : Int) ≤ (cd : Int) := by omega
      have hi3 : qd + 1 ≤ qe := by omega
      have hi4 : qe ≤ cd := by omega
      have hi5 : ¬ cd - (qd + 1) = 0 := by omega
      have hi6 : ¬ cd = qd + 1 := by omega
      obtain ⟨nn, hnn⟩ : ∃ nn, nn = qe - (qd + 1) := ⟨_, rfl⟩
      have s1 : qe - (qd + 1) = nn := hnn.symm
      have QM := Aside0.mk (fun W hW => set_is gd (qd + 1) nn (cd - (qd + 1)) et 255 (us0.set qd (.int .u8 (y : Int))) W hW (by rw [List.length_set]; have := h0.1; omega) (by omega))
      have QM1 := Aside0.mk (QM.out _ hh)
      have hkm := kn_fill (q := qd + 1) (n := nn) hkf (by omega) (by omega)
      rw [show 8 - o1 + 8 * nn = 8 * qe - d by omega] at hkm
      have Qm := Aside0.mk hkm
      clear QM hkm
      have n2 : ¬ (o2 : Int) = 0 := by omega
      obtain ⟨us3, hus3⟩ : ∃ us3, us3 = put (us0.set qd (.int .u8 (y : Int))) (qd + 1) (List.replicate nn (.int .u8 255)) := ⟨_, rfl⟩
      rw [← hus3] at Qm
      have hkt := kn_tail (q := qe) (o2 := o2) Qm.out (by omega) l4 (by omega)
      rw [show 8 * qe - d + o2 = len by omega] at hkt
      have kq := Qm.out.1.at (show qe < L by omega)
      obtain ⟨eC, eD⟩ := fill_is kq.2 hm2
      generalize mix8 (byN us3 qe) 255 (256 - 2 ^ o2) = y2 at *
      generalize byN us3 qe &&& (256 - 2 ^ o2) = xa2 at *
      generalize byN us3 qe = x2 at *
      generalize 256 - 2 ^ o2 = mk2 at *
      have i5 : (qe : Int) < (L : Int) := by omega
      have i6 : qe < L := by omega
      have Qt := Aside0.mk (And.intro hkt kq.1)
      clear hkt kq
      have Qs := Aside0.mk (And.intro hh FF)
      clear hs h0 hn hG hm1 hm2 kx hqd ho1 hqe ho2 hl1 hkf hh FF hS hM hnn
      go_enter Tryd.func25, Tryd.ntmps25
      go_upto_region 20 with (go_at_call 32; with_reducible refine Calls.mono QM1.out ?_; rintro e w3 ⟨rfl, j1, j2⟩; have Q3 := Aside0.mk (And.intro j1 (Qs.out.2.trans j2)); clear j1 j2)
      refine wp_as (fun V => V.heap[gd]? = some (.cells us3.toArray et (0, 0)) ∧ Fr w V gd gd) ⟨by rw [hus3]; exact Q3.out.1, Q3.out.2⟩ ?_
      rintro V ⟨v1, v2⟩
      clear k0 z0
      have k := blk_cell v1 qe
      rw [List.getElem?_toArray, Qt.out.2] at k
      have z := blk_frozen v1 qe
      have Qv := Aside0.mk (And.intro v1 v2)
      clear v1 v2 hus3
      go_wp2
      go_end0
      have hh := blk_set (blk_set Qv.out.1 qe (.int .u8 (xa2 : Int))) qe (.int .u8 (y2 : Int))
      simp only [List.setIfInBounds_toArray, List.set_set] at hh
      exact ⟨rfl, (Qv.out.2.set gd qe _ (.inl rfl)).set gd qe _ (.inl rfl), _, hh, Qt.out.1⟩
end Go.Proofs.YtoceclgljmdkeaaDoor.QR
/- Buffers: counters, new ones. -/
namespace Go.Proofs.YtoceclgljmdkeaaDoor.QR
open Go.RowKit Go.Proofs.YtoceclgljmdkeaaDoorW.PrintWords Go.Proofs.YtoceclgljmdkeaaDoorW.PrintLast Go.Proofs.YtoceclgljmdkeaaDoorW.PrintMore
set_option linter.unusedVariables false
set_option linter.unusedSimpArgs false
set_option maxHeartbeats 8000000 in
set_option maxRecDepth 100000 in
theorem add_is (g o : Nat) (x y : Int) (w : World) (hc : w.cell? ⟨g, o, none⟩ = some (.int .i64 x)) (hz : w.frozen? ⟨g, o, none⟩ = false) (hs : -1000000 ≤ x + y ∧ x + y ≤ 1000000) :
    Calls Tryd.prog 28 #[.pointer (some ⟨g, o, none⟩), .int .i64 y] w fun e w' => e = .returned (.int .i64 (x + y)) ∧ w' = w.setCell ⟨g, o, none⟩ (.int .i64 (x + y)) := by
  have hf : Tryd.prog.funcs[34]? = some Tryd.f34 := by kernel_rfl
  have ha := run_call_add (P := Tryd.prog) (f := 34) (fn := Tryd.f34) hf (by kernel_rfl) (by kernel_rfl) (by kernel_rfl) .i64 (by kernel_rfl) (a := ⟨g, o, none⟩) (x := x) (y := y) (s := x + y) (w := w) hc hz (by simp [Op.intArith, go_sem, IntWalk.i64_in _ (show -9223372036854775808 ≤ x + y ∧ x + y ≤ 9223372036854775807 by omega)])
  clear hf hs
  go_enter Tryd.func28, Tryd.ntmps28
  go_wp2
  go_ret
  exact ⟨rfl, rfl⟩
set_option maxHeartbeats 8000000 in
set_option maxRecDepth 100000 in
theorem nbb_is (A : Option Addr) (n c : Nat) (w : World) : Calls Tryd.prog 16 #[.slice A n c] w fun e w' => e = .returned (.pointer (some ⟨w.heap.size, 0, none⟩)) ∧ w' = w.alloc (.cells #[.int .i64 0, .slice A n c, .int .i64 (n : Int), .bool false, .nilIface, .pointer none] 62) := by
  go_enter Tryd.func16, Tryd.ntmps16
  go_wp2
  go_ret
  exact ⟨rfl, rfl⟩
/-- A buffer without a counter: its record. -/
def bfC (A : Option Addr) (n c : Nat) : Array Value := #[.int .i64 0, .slice A n c, .int .i64 (n : Int), .bool false, .nilIface, .pointer none]
set_option maxHeartbeats 8000000 in
set_option maxRecDepth 100000 in
theorem retain_is (A : Option Addr) (n c g : Nat) (w : World) (hg : w.heap[g]? = some (.cells (bfC A n c) 62 (0, 0))) : Calls Tryd.prog 27 #[.pointer (some ⟨g, 0, none⟩)] w fun e w' => e = .returned (.tuple #[]) ∧ Below w.heap.size w w' := by
  have c4 : w.cell? ⟨g, 4, none⟩ = some .nilIface := blk_cell hg 4
  have c5 : w.cell? ⟨g, 5, none⟩ = some (.pointer none) := blk_cell hg 5
  clear hg
  go_enter Tryd.func27, Tryd.ntmps27
  go_wp2
  go_end0
  exact ⟨rfl, Below.refl _ _⟩
end Go.Proofs.YtoceclgljmdkeaaDoor.QR
/- The record of a part: made, and read. -/
namespace Go.Proofs.YtoceclgljmdkeaaDoor.QR
open Go.RowKit Go.Proofs.YtoceclgljmdkeaaDoorW.PrintWords Go.Proofs.YtoceclgljmdkeaaDoorW.PrintLast Go.Proofs.YtoceclgljmdkeaaDoorW.PrintMore
set_option linter.unusedVariables false
set_option linter.unusedSimpArgs false
/-- A row of bytes of one's own, as its block. -/
theorem bytes_own {w : World} {base : Nat} {ok : Nat → Prop} {v : Value} {l : List Int} (h : (Kd.int .u8).R 5 w base ok v l) (hb : bytesOk l = true) : ∃ A c, v = .slice A l.length c ∧ l.length ≤ c ∧ c ≤ 9223372036854775807 ∧ (A = none → c = 0) ∧ (0 < l.length → ∃ g us, A = some ⟨g, 0, none⟩ ∧ base ≤ g ∧ w.heap[g]? = some (.cells us 5 (0, 0)) ∧ us.size = c ∧ OkN us.toList l.length ∧ ∀ q, q < l.length → byN us.toList q = (rd l (q : Int)).toNat) := by
  obtain ⟨hlen, ho⟩ := Kd.own_of_R h
  rcases ho with ⟨rfl, hn⟩ | ⟨g, cap, cur, rfl, hg, hh, hn, hm, hs, ht⟩
  · exact ⟨none, 0, by rw [hn], by omega, by omega, fun _ => rfl, fun hp => by omega⟩
  · refine ⟨_, cap, rfl, hn, by unfold maxLen at hm; omega, fun h => (by cases h), fun hp => ⟨g, cur, rfl, hg, hh, by rw [hs, Nat.mul_one], ?_, fun q hq => ?_⟩⟩
    · refine ⟨by have e : cur.toList.length = cur.size := Array.length_toList; omega, fun q hq => ?_⟩
      have hc : cur.toList[q]? = some (.int .u8 (rd l (q : Int))) := by
        have e : (cur.toList.take (l.length * 1))[q]? = cur.toList[q]? := by rw [List.getElem?_take, if_pos (by omega)]
        rw [← e, ht]
        simp [encs, rd, List.getD_eq_getElem?_getD, hq]
      have hb1 := bytes_ok hb (q : Int)
      exact ⟨(rd l (q : Int)).toNat, by rw [hc, Int.toNat_of_nonneg hb1.1], by omega⟩
    · have hc : cur.toList[q]? = some (.int .u8 (rd l (q : Int))) := by
        have e : (cur.toList.take (l.length * 1))[q]? = cur.toList[q]? := by rw [List.getElem?_take, if_pos (by omega)]
        rw [← e, ht]
        simp [encs, rd, List.getD_eq_getElem?_getD, hq]
      unfold byN
      rw [hc]
/-- A part's record. -/
def dtC (dt : Value) (off len : Int) (gb : Nat) : Array Value := #[.int .i64 1, dt, .int .i64 0, .int .i64 off, .int .i64 len, .slice (some ⟨gb, 0, none⟩) 1 1, .slice none 0 0, .pointer none]
theorem dt_cells {V : World} {dt : Value} {off len : Int} {gb g : Nat} (h : V.heap[g]? = some (.cells (dtC dt off len gb) 78 (0, 0))) : V.cell? ⟨g, 3, none⟩ = some (.int .i64 off) ∧ V.cell? ⟨g, 4, none⟩ = some (.int .i64 len) ∧ V.cell? ⟨g, 5, none⟩ = some (.slice (some ⟨gb, 0, none⟩) 1 1) := ⟨blk_cell h 3, blk_cell h 4, blk_cell h 5⟩
theorem dlen_is (dt : Value) (off len : Int) (gb g : Nat) (w : World) (h : w.heap[g]? = some (.cells (dtC dt off len gb) 78 (0, 0))) : Calls Tryd.prog 82 #[.pointer (some ⟨g, 0, none⟩)] w fun e w' => e = .returned (.int .i64 len) ∧ w' = w := by
  obtain ⟨c3, c4, c5⟩ := dt_cells h
  clear h
  go_enter Tryd.func82, Tryd.ntmps82
  go_wp2
  go_ret
  exact ⟨rfl, rfl⟩
theorem doff_is (dt : Value) (off len : Int) (gb g : Nat) (w : World) (h : w.heap[g]? = some (.cells (dtC dt off len gb) 78 (0, 0))) : Calls Tryd.prog 83 #[.pointer (some ⟨g, 0, none⟩)] w fun e w' => e = .returned (.int .i64 off) ∧ w' = w := by
  obtain ⟨c3, c4, c5⟩ := dt_cells h
  clear h
  go_enter Tryd.func83, Tryd.ntmps83
  go_wp2
  go_ret
  exact ⟨rfl, rfl⟩
theorem dbuf_is (dt : Value) (off len : Int) (gb g : Nat) (w : World) (h : w.heap[g]? = some (.cells (dtC dt off len gb) 78 (0, 0))) : Calls Tryd.prog 81 #[.pointer (some ⟨g, 0, none⟩)] w fun e w' => e = .returned (.slice (some ⟨gb, 0, none⟩) 1 1) ∧ w' = w := by
  obtain ⟨c3, c4, c5⟩ := dt_cells h
  clear h
  go_enter Tryd.func81, Tryd.ntmps81
  go_wp2
  go_ret
  exact ⟨rfl, rfl⟩
set_option maxHeartbeats 8000000 in
set_option maxRecDepth 100000 in
/-- NewData, of one buffer or none. -/
theorem nd_is (dx : Nat) (pv : Value) (off len : Int) (gb : Nat) (w : World) (hb : w.heap[gb]? = some (.cells #[pv] 38 (0, 0))) (hp : pv = .pointer none ∨ ∃ g A n c, pv = .pointer (some ⟨g, 0, none⟩) ∧ w.heap[g]? = some (.cells (bfC A n c) 62 (0, 0))) :
    Calls Tryd.prog 17 #[.iface 54 (.pointer (some ⟨dx, 0, none⟩)), .int .i64 len, .slice (some ⟨gb, 0, none⟩) 1 1, .slice none 0 0, .int .i64 0, .int .i64 off] w fun e w' => ∃ r, e = .returned (.pointer (some ⟨r, 0, none⟩)) ∧ w.heap.size ≤ r ∧ w'.heap[r]? = some (.cells (dtC (.iface 54 (.pointer (some ⟨dx, 0, none⟩))) off len gb) 78 (0, 0)) ∧ Below w.heap.size w w' := by
  have c0 := blk_cell hb 0
  rw [show (#[pv] : Array Value)[0]? = some pv from rfl] at c0
  have Qb := Aside0.mk hb
  clear hb
  rcases hp with rfl | ⟨g, A, n, c, rfl, hg⟩
  · go_enter Tryd.func17, Tryd.ntmps17
    go_wp2
    go_loopg [20] 1 (fun kq v20 w' => ∃ (k : Nat), v20 = .int .i64 (k : Int) ∧ Aside0 (k + kq = 1) ∧ Aside0 (Below w.heap.size w w') ∧ Aside0 (kq = 1 → w' = w))
    case atStart => exact ⟨0, rfl, ⟨rfl⟩, ⟨Below.refl _ _⟩, ⟨fun _ => rfl⟩⟩
    case round =>
      obtain ⟨k, rfl, HA, HB, HE⟩ := hrel
      rcases Nat.eq_zero_or_pos gk with h0 | h0
      · obtain rfl : k = 1 := by have := HA.out; omega
        have Qb1 := Aside0.mk ((HB.out.block gb (blk_lt Qb.out)).trans Qb.out)
        clear HA HE
        go_wp2
        go_loopg [31] 0 (fun kq v31 w' => v31 = .int .i64 0 ∧ Aside0 (Below w.heap.size w w'))
        case atStart => exact ⟨rfl, HB⟩
        case round =>
          obtain ⟨rfl, HB2⟩ := hrel
          clear Qb1 HB
          have QA := Aside0.mk (add_is wr.heap.size 0 0 1 (wr.alloc (.cells #[.int .i64 0, .iface 54 (.pointer (some ⟨dx, 0, none⟩)), .int .i64 0, .int .i64 off, .int .i64 len, .slice (some ⟨gb, 0, none⟩) 1 1, .slice none 0 0, .pointer none] 78)) (blk_cell (blk_new wr _) 0) (blk_frozen (blk_new wr _) 0) ⟨by omega, by omega⟩)
          go_wp2_with (go_at_call 28; with_reducible refine Calls.mono QA.out ?_; rintro e w6 ⟨rfl, rfl⟩)
          go_ret
          exact ⟨wr.heap.size, rfl, HB2.out.size, blk_new wr _, below_alloc HB2.out _⟩
      · obtain rfl : k = 0 := by have := HA.out; omega
        obtain rfl : gk = 1 := by have := HA.out; omega
        obtain rfl := HE.out rfl
        clear HE
        go_wp2
        go_roundg 0
        case rel => exact ⟨1, rfl, ⟨rfl⟩, ⟨Below.refl _ _⟩, ⟨fun h => by cases h⟩⟩
        · omega
  · have QR := Aside0.mk (retain_is A n c g w hg)
    go_enter Tryd.func17, Tryd.ntmps17
    go_wp2
    go_loopg [20] 1 (fun kq v20 w' => ∃ (k : Nat), v20 = .int .i64 (k : Int) ∧ Aside0 (k + kq = 1) ∧ Aside0 (Below w.heap.size w w') ∧ Aside0 (kq = 1 → w' = w))
    case atStart => exact ⟨0, rfl, ⟨rfl⟩, ⟨Below.refl _ _⟩, ⟨fun _ => rfl⟩⟩
    case round =>
      obtain ⟨k, rfl, HA, HB, HE⟩ := hrel
      rcases Nat.eq_zero_or_pos gk with h0 | h0
      · obtain rfl : k = 1 := by have := HA.out; omega
        have Qb1 := Aside0.mk ((HB.out.block gb (blk_lt Qb.out)).trans Qb.out)
        clear HA HE
        go_wp2
        go_loopg [31] 0 (fun kq v31 w' => v31 = .int .i64 0 ∧ Aside0 (Below w.heap.size w w'))
        case atStart => exact ⟨rfl, HB⟩
        case round =>
          obtain ⟨rfl, HB2⟩ := hrel
          clear Qb1 HB
          have QA := Aside0.mk (add_is wr.heap.size 0 0 1 (wr.alloc (.cells #[.int .i64 0, .iface 54 (.pointer (some ⟨dx, 0, none⟩)), .int .i64 0, .int .i64 off, .int .i64 len, .slice (some ⟨gb, 0, none⟩) 1 1, .slice none 0 0, .pointer none] 78)) (blk_cell (blk_new wr _) 0) (blk_frozen (blk_new wr _) 0) ⟨by omega, by omega⟩)
          go_wp2_with (go_at_call 28; with_reducible refine Calls.mono QA.out ?_; rintro e w6 ⟨rfl, rfl⟩)
          go_ret
          exact ⟨wr.heap.size, rfl, HB2.out.size, blk_new wr _, below_alloc HB2.out _⟩
      · obtain rfl : k = 0 := by have := HA.out; omega
        obtain rfl : gk = 1 := by have := HA.out; omega
        obtain rfl := HE.out rfl
        clear HE
        go_wp2_with (go_at_call 27; with_reducible refine Calls.mono QR.out ?_; rintro e w5 ⟨rfl, j⟩; have Q5 := Aside0.mk j; clear j)
        go_roundg 0
        case rel => exact ⟨1, rfl, ⟨rfl⟩, ⟨Q5.out⟩, ⟨fun h => by cases h⟩⟩
        · omega
end Go.Proofs.YtoceclgljmdkeaaDoor.QR
