/- A bitmap is copied from a byte's edge to a byte's edge: the walk; both ways in one. -/
import Derived.Test.YtoceclgljmdkeaaDoorA7
namespace Go.Proofs.YtoceclgljmdkeaaDoor.QR
open Go.RowKit Go.Proofs.YtoceclgljmdkeaaDoorW.PrintWords Go.Proofs.YtoceclgljmdkeaaDoorW.PrintLast Go.Proofs.YtoceclgljmdkeaaDoorW.PrintMore
set_option linter.unusedVariables false
set_option linter.unusedSimpArgs false
theorem sets_put {g et : Nat} {us seg : List Value} {o : Nat} {w : World} (h : w.heap[g]? = some (.cells us.toArray et (0, 0))) (hl : o + seg.length ≤ us.length) : (w.setCells g o seg).heap[g]? = some (.cells (put us o seg).toArray et (0, 0)) := by
  obtain ⟨cur', h1, h2, h3⟩ := setCells_row seg o w us.toArray h (by simpa using hl)
  rw [h1]
  have : cur' = (put us o seg).toArray := by
    apply Array.toList_inj.1
    rw [h3]
    rfl
  rw [this]
theorem sets_fr {g o : Nat} {seg : List Value} {w : World} : Fr w (w.setCells g o seg) g g := by
  obtain ⟨h1, h2, h3, h4⟩ := setCells_same g seg o w
  exact ⟨h1, h2, h3, Nat.le_of_eq h4.symm, fun k hk h5 _ => setCells_far seg o k h5⟩
theorem info5 : (Tryd.prog.info? 5).map (·.size) = some 1 := by kernel_rfl
theorem cp_is {W : World} (gd ss qd qs nd cd' nb cs' L et ets : Nat) (us us0 : List Value) (hd : W.heap[gd]? = some (.cells us0.toArray et (0, 0))) (hs : W.heap[ss]? = some (.cells us.toArray ets (0, 0))) (Ls : Nat) (h : OkN us Ls) (h1 : qs + nb ≤ Ls) (h2 : nb ≤ nd) (h3 : qd + nb ≤ us0.length) :
    (Builtin.copy_ #[24, 24] 3 #[.slice (some ⟨gd, qd, none⟩) nd cd', .slice (some ⟨ss, qs, none⟩) nb cs']).run Tryd.prog W = .ok (.int .i64 (nb : Int)) (W.setCells gd qd (segN us qs nb)) := by
  have hl : (segN us qs nb).length = nb := segN_len (by have := h.1; omega)
  have hr := run_copy_cells (P := Tryd.prog) W 24 24 3 5 gd qd nd cd' ⟨ss, qs, none⟩ nb cs' (segN us qs nb) Tryd.underlying24 info5 (by rw [hl]; exact (Nat.min_eq_left h2).symm)
    (fun j u hu => by
      have hj : j < nb := by
        rcases Nat.lt_or_ge j nb with e | e
        · exact e
        · rw [List.getElem?_eq_none (by rw [hl]; exact e)] at hu; cases hu
      rw [segN_get hj] at hu
      rw [show (Addr.add ⟨ss, qs, none⟩ j : Addr) = ⟨ss, qs + j, none⟩ by unfold Addr.add; cases j <;> simp]
      rw [blk_cell hs (qs + j), List.getElem?_toArray]
      exact hu)
    (fun j hj => by rw [blk_cell hd]; rw [hl] at hj; simp; omega) (fun j _ => blk_frozen hd _) (fun u hu => by
      obtain ⟨j, hj, rfl⟩ := List.mem_iff_getElem.1 hu
      have hj2 : j < nb := by rw [hl] at hj; exact hj
      have e := segN_get (us := us) (q := qs) hj2
      rw [List.getElem?_eq_getElem hj, (h.at (show qs + j < Ls by omega)).1] at e
      rw [Option.some.inj e]
      rfl)
  rw [hr, hl]
  rfl
set_option maxHeartbeats 8000000 in
set_option maxRecDepth 100000 in
theorem tfast_is {us us0 : List Value} {Ls L : Nat} (ss ns cs so len gd cd d et ets : Nat) (w : World) (h : OkN us Ls) (hs : w.heap[ss]? = some (.cells us.toArray ets (0, 0))) (hso : so < 100000) (hlen : len < 100000) (hl1 : 1 ≤ len) (hn : so + len ≤ 8 * ns) (hLs : ns ≤ Ls) (hnc : ns ≤ cs)
    (h0 : OkN us0 L) (hd : w.heap[gd]? = some (.cells us0.toArray et (0, 0))) (hdd : d < 100000) (hdn : d + len ≤ 8 * L) (hdc : L ≤ cd) (hL : L < 100000) (hne : ss ≠ gd) (hst : so % 8 = 0 ∧ d % 8 = 0) :
    Calls Tryd.prog 33 #[.int .i8 0, .slice (some ⟨ss, 0, none⟩) ns cs, .int .i64 (so : Int), .int .i64 (len : Int), .slice (some ⟨gd, 0, none⟩) L cd, .int .i64 (d : Int)] w fun e w' => e = .returned (.tuple #[]) ∧ Fr w w' gd gd ∧ ∃ us' : List Value, w'.heap[gd]? = some (.cells us'.toArray et (0, 0)) ∧ KN us0 us' L d len (fun i => btN us (so + i)) := by
  obtain ⟨qs, hqs⟩ : ∃ qs, so = 8 * qs := ⟨so / 8, by omega⟩
  obtain ⟨qd, hqd⟩ : ∃ qd, d = 8 * qd := ⟨d / 8, by omega⟩
  obtain ⟨nb, hnb⟩ : ∃ nb, nb = (len + 7) / 8 - 1 := ⟨_, rfl⟩
  obtain ⟨r, hr⟩ : ∃ r, r = len - 8 * nb := ⟨_, rfl⟩
  obtain ⟨tr, htr⟩ : ∃ tr, tr = 8 - r := ⟨_, rfl⟩
  have hk := kn_fast (us := us) (us0 := us0) h0 h hqd hqs (show len = 8 * nb + r by omega) (by omega) (by omega) hdn (show so + len ≤ 8 * Ls by omega)
  have hsl : (segN us qs nb).length = nb := segN_len (by have := h.1; omega)
  have hpl : qd + (segN us qs nb).length ≤ us0.length := by rw [hsl]; have := h0.1; omega
  have hcp := cp_is gd ss qd qs (L - qd) (cd - qd) nb (cs - qs) L et ets us us0 hd hs Ls h (by omega) (by omega) (by have := h0.1; omega)
  have hw1 := sets_put (w := w) hd hpl
  have hw2 := (setCells_far (segN us qs nb) qd ss hne).trans hs
  have kx := h0.at (show qd + nb < L by omega)
  have ky := h.at (show qs + nb < Ls by omega)
  have k1 := blk_cell hw1 (qd + nb)
  rw [List.getElem?_toArray, put_get hpl, hsl, if_neg (by omega), kx.1] at k1
  have y1 := blk_frozen hw1 (qd + nb)
  have k2 := blk_cell hw2 (qs + nb)
  rw [List.getElem?_toArray, ky.1] at k2
  have hm : 2 ^ r - 1 < 256 := by
    have : 2 ^ r ≤ 2 ^ 8 := Nat.pow_le_pow_right (by omega) (by omega)
    omega
  have eL := last_is ky.2 kx.2 hm
  have eA : bits .and .u8 (byN us0 (qd + nb) : Int) ((255 - (2 ^ r - 1) : Nat) : Int) = ((byN us0 (qd + nb) &&& (255 - (2 ^ r - 1)) : Nat) : Int) := u8_and_nat _ _ kx.2 (by omega)
  have Qk := Aside0.mk (And.intro hk (And.intro hw1 (And.intro hne (blk_lt hd))))
  have FW : Fr w (w.setCells gd qd (segN us qs nb)) gd gd := sets_fr
  have QF := Aside0.mk FW
  clear hk hw1 hw2 hsl hpl FW
  generalize mix8 (byN us (qs + nb)) (byN us0 (qd + nb)) (2 ^ r - 1) = fb at *
  generalize byN us0 (qd + nb) = x at *
  generalize byN us (qs + nb) = y at *
  generalize segN us qs nb = seg at *
  have Qb := Aside0.mk (bfb_is len (by omega))
  rw [show (len + 7) / 8 = nb + 1 by omega] at Qb
  have t1 : (so : Int) % 8 = 0 := by omega
  have t2 : (d : Int) % 8 = 0 := by omega
  have t3 : (so : Int) / 8 = (qs : Int) := by omega
  have t4 : (d : Int) / 8 = (qd : Int) := by omega
  have hl0 : ¬ (len : Int) = 0 := by omega
  have b1 : qs < 100000 := by omega
  have b2' : qd < 100000 := by omega
  have b3' : nb < 100000 := by omega
  have b4 : qs ≤ ns := by omega
  have b5 : (qs : Int) ≤ (ns : Int) := by omega
  have b6 : (ns : Int) ≤ (cs : Int) := by omega
  have b7 : qd ≤ L := by omega
  have b8 : (qd : Int) ≤ (L : Int) := by omega
  have b9 : (L : Int) ≤ (cd : Int) := by omega
  have b10 : ¬ cs - qs = 0 := by omega
  have b11 : ¬ cs = qs := by omega
  have b12 : ¬ cd - qd = 0 := by omega
  have b13 : ¬ cd = qd := by omega
  have d1 : (nb : Int) < ((ns - qs : Nat) : Int) := by omega
  have d2 : nb < ns - qs := by omega
  have d3 : (nb : Int) < ((L - qd : Nat) : Int) := by omega
  have d4 : nb < L - qd := by omega
  have d5 : (nb : Int) ≤ ((cs - qs : Nat) : Int) := by omega
  have d6 : nb ≤ cs - qs := by omega
  have em : (IntKind.u64.wrap ((2 : Int) ^ r) - 1) % 256 = ((2 ^ r - 1 : Nat) : Int) := by
    have hr' : r = 1 ∨ r = 2 ∨ r = 3 ∨ r = 4 ∨ r = 5 ∨ r = 6 ∨ r = 7 ∨ r = 8 := by omega
    rcases hr' with e | e | e | e | e | e | e | e <;> rw [e] <;> decide
  have ex : bits .xor .u8 IntKind.u8.max ((2 ^ r - 1 : Nat) : Int) = ((255 - (2 ^ r - 1) : Nat) : Int) := by
    have hr' : r = 1 ∨ r = 2 ∨ r = 3 ∨ r = 4 ∨ r = 5 ∨ r = 6 ∨ r = 7 ∨ r = 8 := by omega
    rcases hr' with e | e | e | e | e | e | e | e <;> rw [e] <;> decide
  have eB : bits .and .u8 (x : Int) (bits .xor .u8 IntKind.u8.max ((2 ^ r - 1 : Nat) : Int)) = ((x &&& (255 - (2 ^ r - 1)) : Nat) : Int) := by rw [ex]; exact eA
  generalize x &&& (255 - (2 ^ r - 1)) = xa at *
  generalize 2 ^ r - 1 = mk at *
  clear eA ex
  have ts : ((nb : Int) + 1) * 8 - (len : Int) = (tr : Int) := by omega
  have tt : (8 : Int) - (tr : Int) = (r : Int) := by omega
  have l5 : r ≤ 8 := by omega
  have l6 : tr < 8 := by omega
  clear h h0 hs hd hn hLs hdn hqs hqd hnb hst hl1 hr htr
  go_enter Tryd.func33, Tryd.ntmps33
  go_wp2_with (go_at_call 24; with_reducible refine Calls.mono (Qb.out _) ?_; rintro e w1 ⟨rfl, rfl⟩)
  go_end0
  have hh := blk_set (blk_set Qk.out.2.1 (qd + nb) (.int .u8 (xa : Int))) (qd + nb) (.int .u8 (fb : Int))
  simp only [List.setIfInBounds_toArray, List.set_set] at hh
  exact ⟨rfl, (QF.out.set gd (qd + nb) _ (.inl rfl)).set gd (qd + nb) _ (.inl rfl), _, hh, Qk.out.1⟩
set_option maxHeartbeats 8000000 in
set_option maxRecDepth 100000 in
theorem tnone_is (A B : Option Addr) (ns cs so nd cd d : Nat) (w : World) :
    Calls Tryd.prog 33 #[.int .i8 0, .slice A ns cs, .int .i64 (so : Int), .int .i64 0, .slice B nd cd, .int .i64 (d : Int)] w fun e w' => e = .returned (.tuple #[]) ∧ w' = w := by
  go_enter Tryd.func33, Tryd.ntmps33
  go_wp2
  refine bodyPost_ret (v := .tuple #[]) (by simp [results, Tryd.results33, go_sem]) rfl ?_
  exact ⟨rfl, rfl⟩
set_option maxHeartbeats 8000000 in
set_option maxRecDepth 100000 in
/-- CopyBitmap. -/
theorem cb_is {us us0 : List Value} {Ls L : Nat} (ss ns cs so len gd cd d et ets : Nat) (w : World) (h : OkN us Ls) (hs : w.heap[ss]? = some (.cells us.toArray ets (0, 0))) (hso : so < 100000) (hlen : len < 100000) (hl1 : 1 ≤ len) (hn : so + len ≤ 8 * ns) (hLs : ns ≤ Ls) (hnc : ns ≤ cs)
    (h0 : OkN us0 L) (hd : w.heap[gd]? = some (.cells us0.toArray et (0, 0))) (hdd : d < 100000) (hdn : d + len ≤ 8 * L) (hdc : L ≤ cd) (hL : L < 100000) (hne : ss ≠ gd) (hG : Gm w) (hg4 : 4 ≤ gd) :
    Calls Tryd.prog 26 #[.slice (some ⟨ss, 0, none⟩) ns cs, .int .i64 (so : Int), .int .i64 (len : Int), .slice (some ⟨gd, 0, none⟩) L cd, .int .i64 (d : Int)] w fun e w' => e = .returned (.tuple #[]) ∧ Fr w w' gd gd ∧ ∃ us' : List Value, w'.heap[gd]? = some (.cells us'.toArray et (0, 0)) ∧ KN us0 us' L d len (fun i => btN us (so + i)) := by
  have Q : Aside0 (Calls Tryd.prog 33 #[.int .i8 0, .slice (some ⟨ss, 0, none⟩) ns cs, .int .i64 (so : Int), .int .i64 (len : Int), .slice (some ⟨gd, 0, none⟩) L cd, .int .i64 (d : Int)] w fun e w' => e = .returned (.tuple #[]) ∧ Fr w w' gd gd ∧ ∃ us' : List Value, w'.heap[gd]? = some (.cells us'.toArray et (0, 0)) ∧ KN us0 us' L d len (fun i => btN us (so + i))) := by
    by_cases hst : so % 8 = 0 ∧ d % 8 = 0
    · exact ⟨tfast_is ss ns cs so len gd cd d et ets w h hs hso hlen hl1 hn hLs hnc h0 hd hdd hdn hdc hL hne hst⟩
    · exact ⟨tslow_is ss ns cs so len gd cd d et ets w h hs hso hlen hl1 hn hLs hnc h0 hd hdd hdn hdc hL hne hG hg4 hst⟩
  clear h hs hso hlen hl1 hn hLs hnc h0 hd hdd hdn hdc hL hne hG hg4
  go_enter Tryd.func26, Tryd.ntmps26
  go_wp2_with (go_at_call 33; with_reducible refine Calls.mono Q.out ?_; rintro e w1 ⟨rfl, k1, k2⟩; have Q1 := Aside0.mk (And.intro k1 k2); clear k1 k2)
  go_end0
  exact ⟨rfl, Q1.out.1, Q1.out.2⟩
set_option maxHeartbeats 8000000 in
set_option maxRecDepth 100000 in
theorem cb0_is (A B : Option Addr) (ns cs so nd cd d : Nat) (w : World) :
    Calls Tryd.prog 26 #[.slice A ns cs, .int .i64 (so : Int), .int .i64 0, .slice B nd cd, .int .i64 (d : Int)] w fun e w' => e = .returned (.tuple #[]) ∧ w' = w := by
  go_enter Tryd.func26, Tryd.ntmps26
  go_wp2_with (go_at_call 33; with_reducible refine Calls.mono (tnone_is _ _ _ _ _ _ _ _ _) ?_; rintro e w1 ⟨rfl, rfl⟩)
  go_end0
  exact ⟨rfl, rfl⟩
end Go.Proofs.YtoceclgljmdkeaaDoor.QR
/- A row of bytes is filled. -/
namespace Go.Proofs.YtoceclgljmdkeaaDoor.QR
open Go.RowKit Go.Proofs.YtoceclgljmdkeaaDoorW.PrintWords Go.Proofs.YtoceclgljmdkeaaDoorW.PrintLast Go.Proofs.YtoceclgljmdkeaaDoorW.PrintMore
set_option linter.unusedVariables false
set_option linter.unusedSimpArgs false
theorem put_snoc {us seg : List Value} {o : Nat} {x : Value} (h : o + seg.length + 1 ≤ us.length) : (put us o seg).set (o + seg.length) x = put us o (seg ++ [x]) := by
  apply List.ext_getElem?
  intro i
  have hl1 : o + seg.length ≤ us.length := by omega
  have hl2 : o + (seg ++ [x]).length ≤ us.length := by rw [List.length_append, List.length_singleton]; omega
  by_cases e : i = o + seg.length
  · subst e
    rw [List.getElem?_set_self (by rw [put_len hl1]; omega), put_get hl2, List.length_append, List.length_singleton, if_pos (by omega), show o + seg.length - o = seg.length by omega, List.getElem?_append_right (Nat.le_refl _), Nat.sub_self]
    rfl
  · rw [List.getElem?_set_ne (fun h => e h.symm), put_get hl1, put_get hl2, List.length_append, List.length_singleton]
    by_cases h1 : o ≤ i ∧ i < o + seg.length
    · rw [if_pos h1, if_pos (by omega), List.getElem?_append_left (by omega)]
    · rw [if_neg h1, if_neg (by omega)]
theorem put_none (us : List Value) (o : Nat) : put us o [] = us := put_nil us o
set_option maxHeartbeats 8000000 in
set_option maxRecDepth 100000 in
theorem ms_is (gd q n c et b : Nat) (us : List Value) (w : World) (hs : w.heap[gd]? = some (.cells us.toArray et (0, 0))) (hq : q + n ≤ us.length) (hn : n < 100000) :
    Calls Tryd.prog 38 #[.slice (some ⟨gd, q, none⟩) n c, .int .u8 (b : Int)] w fun e w' => e = .returned (.tuple #[]) ∧ w'.heap[gd]? = some (.cells (put us q (List.replicate n (.int .u8 (b : Int)))).toArray et (0, 0)) ∧ Fr w w' gd gd := by
  have Qs := Aside0.mk (And.intro hs hq)
  clear hs hq
  go_enter Tryd.func38, Tryd.ntmps38
  go_wp2
  go_loopg [4] n (fun kq v4 w' => ∃ (i : Nat), v4 = .int .i64 (i : Int) ∧ Aside0 (i + kq = n) ∧ Aside0 (w'.heap[gd]? = some (.cells (put us q (List.replicate i (.int .u8 (b : Int)))).toArray et (0, 0)) ∧ Fr w w' gd gd))
  case atStart => exact ⟨0, rfl, ⟨by omega⟩, ⟨by rw [List.replicate_zero, put_none]; exact Qs.out.1, Fr.refl w gd gd⟩⟩
  case round =>
    obtain ⟨i, rfl, HA, HF⟩ := hrel
    rcases Nat.eq_zero_or_pos gk with h0 | h0
    · obtain rfl : i = n := by have := HA.out; omega
      go_wp2
      go_end0
      exact ⟨rfl, HF.out.1, HF.out.2⟩
    · obtain ⟨k1, rfl⟩ : ∃ k1, gk = k1 + 1 := ⟨gk - 1, by omega⟩
      have hi : (i : Int) < (n : Int) := by have := HA.out; omega
      have hin : i < n := by omega
      have hl : (put us q (List.replicate i (.int .u8 (b : Int)))).length = us.length := put_len (by rw [List.length_replicate]; have := Qs.out; omega)
      obtain ⟨u, hu⟩ : ∃ u, (put us q (List.replicate i (.int .u8 (b : Int))))[q + i]? = some u := ⟨_, List.getElem?_eq_getElem (by rw [hl]; have := Qs.out; omega)⟩
      have k := blk_cell HF.out.1 (q + i)
      rw [List.getElem?_toArray, hu] at k
      have z := blk_frozen HF.out.1 (q + i)
      have hp := put_snoc (us := us) (seg := List.replicate i (.int .u8 (b : Int))) (o := q) (x := .int .u8 (b : Int)) (by rw [List.length_replicate]; have := Qs.out; omega)
      rw [List.length_replicate, ← List.replicate_succ'] at hp
      have Qp := Aside0.mk hp
      clear hu hl hp
      go_wp2
      go_roundg k1
      case rel => exact ⟨i + 1, rfl, ⟨by have := HA.out; omega⟩, ⟨by have hh := blk_set HF.out.1 (q + i) (.int .u8 (b : Int)); rw [List.setIfInBounds_toArray, Qp.out] at hh; exact hh, HF.out.2.set gd (q + i) _ (.inl rfl)⟩⟩
      · omega
set_option maxHeartbeats 8000000 in
set_option maxRecDepth 100000 in
theorem set_is (gd q n c et b : Nat) (us : List Value) (w : World) (hs : w.heap[gd]? = some (.cells us.toArray et (0, 0))) (hq : q + n ≤ us.length) (hn : n < 100000) :
    Calls Tryd.prog 32 #[.slice (some ⟨gd, q, none⟩) n c, .int .u8 (b : Int)] w fun e w' => e = .returned (.tuple #[]) ∧ w'.heap[gd]? = some (.cells (put us q (List.replicate n (.int .u8 (b : Int)))).toArray et (0, 0)) ∧ Fr w w' gd gd := by
  have Q := Aside0.mk (ms_is gd q n c et b us w hs hq hn)
  clear hs hq hn
  go_enter Tryd.func32, Tryd.ntmps32
  go_wp2_with (go_at_call 38; with_reducible refine Calls.mono Q.out ?_; rintro e w1 ⟨rfl, k1, k2⟩; have Q1 := Aside0.mk (And.intro k1 k2); clear k1 k2)
  go_end0
  exact ⟨rfl, Q1.out.1, Q1.out.2⟩
end Go.Proofs.YtoceclgljmdkeaaDoor.QR
/- Bits are set. -/
namespace Go.Proofs.YtoceclgljmdkeaaDoor.QR
open Go.RowKit Go.Proofs.YtoceclgljmdkeaaDoorW.PrintWords Go.Proofs.YtoceclgljmdkeaaDoorW.PrintLast Go.Proofs.YtoceclgljmdkeaaDoorW.PrintMore
set_option linter.unusedVariables false
set_option linter.unusedSimpArgs false
theorem mix8_gen (a b mk i : Nat) (hm : mk < 256) (hi : i < 8) : (mix8 a b mk).testBit i = if mk.testBit i then a.testBit i else b.testBit i := by
  unfold mix8
  rw [show 255 - mk = 2 ^ 8 - (mk + 1) by omega, Nat.testBit_or, Nat.testBit_and, Nat.testBit_and, Nat.testBit_two_pow_sub_succ (show mk < 2 ^ 8 from hm), decide_eq_true hi, Bool.true_and]
  cases mk.testBit i <;> simp
theorem all255 : ∀ i : Fin 8, (255 : Nat).testBit i.1 = true := by decide
theorem trail_bit : ∀ (o i : Fin 8), (256 - 2 ^ o.1 : Nat).testBit i.1 = decide (o.1 ≤ i.1) := by decide +kernel
theorem fill_is {x mk : Nat} (hx : x < 256) (hm : mk < 256) : bits .and .u8 (x : Int) (mk : Int) = ((x &&& mk : Nat) : Int) ∧ bits .or .u8 ((x &&& mk : Nat) : Int) (bits .andNot .u8 255 (mk : Int)) = (mix8 x 255 mk : Int) := by
  refine ⟨u8_and_nat x mk hx hm, ?_⟩
  have h := u8_andNot_nat 255 mk (by omega) hm
  rw [show bits .andNot .u8 255 (mk : Int) = ((255 &&& (255 - mk) : Nat) : Int) from h]
  exact u8_or_nat _ _ (Nat.lt_of_le_of_lt Nat.and_le_left hx) (Nat.lt_of_le_of_lt Nat.and_le_left (by omega))
/-- Within one byte. -/
theorem kn_one {us0 : List Value} {L d len qd o1 o2 : Nat} (h0 : OkN us0 L) (hd : d = 8 * qd + o1) (he : d + len = 8 * qd + o2) (h1 : o1 < 8) (h2 : o2 < 8) (hq : qd < L) :
    KN us0 (us0.set qd (.int .u8 (mix8 (byN us0 qd) 255 (2 ^ o1 - 1 ||| (256 - 2 ^ o2)) : Int))) L d len (fun _ => true) := by
  have hb := (h0.at hq).2
  have hm1 : 2 ^ o1 - 1 < 2 ^ 8 := Nat.lt_of_lt_of_le (Nat.sub_lt (Nat.two_pow_pos _) (by omega)) (Nat.pow_le_pow_right (by omega) (by omega))
  have hm2 : 256 - 2 ^ o2 < 2 ^ 8 := Nat.sub_lt (by omega) (Nat.two_pow_pos _)
  have hm : (2 ^ o1 - 1 ||| (256 - 2 ^ o2)) < 256 := Nat.or_lt_two_pow (n := 8) hm1 hm2
  have k := kn_byte (m := len) (q := qd) (x := mix8 (byN us0 qd) 255 (2 ^ o1 - 1 ||| (256 - 2 ^ o2))) (kn_start h0 d (fun _ => true)) hq (mix8_lt _ hb (by omega)) (by omega) (by omega) (fun i hi hk => by
    rw [mix8_gen _ _ _ _ hm hi, Nat.testBit_or, Nat.testBit_two_pow_sub_one, trail_bit ⟨o2, h2⟩ ⟨i, hi⟩, all255 ⟨i, hi⟩, btN_at us0 qd i hi]
    simp only
    by_cases e : i < o1
    · rw [decide_eq_true e, Bool.true_or, if_pos rfl, if_pos (by omega)]
    · rw [decide_eq_false e, decide_eq_false (by omega), Bool.or_false, if_neg (by simp), if_neg (by omega)])
  rw [Nat.zero_add] at k
  exact k
/-- The first of several bytes. -/
theorem kn_first {us0 : List Value} {L d qd o1 : Nat} (h0 : OkN us0 L) (hd : d = 8 * qd + o1) (h1 : o1 < 8) (hq : qd < L) :
    KN us0 (us0.set qd (.int .u8 (mix8 (byN us0 qd) 255 (2 ^ o1 - 1) : Int))) L d (8 - o1) (fun _ => true) := by
  have hb := (h0.at hq).2
  have k := kn_byte (m := 8 - o1) (q := qd) (x := mix8 (byN us0 qd) 255 (2 ^ o1 - 1)) (kn_start h0 d (fun _ => true)) hq (mix8_lt _ hb (by omega)) (by omega) (by omega) (fun i hi hk => by
    rw [mix8_bit' _ _ _ _ (by omega) hi, all255 ⟨i, hi⟩, btN_at us0 qd i hi]
    by_cases e : i < o1
    · rw [if_pos e, if_pos (by omega)]
    · rw [if_neg e, if_neg (by omega)])
  rw [Nat.zero_add] at k
  exact k
/-- Whole bytes. -/
theorem kn_fill {us0 us : List Value} {L d t q n : Nat} (h : KN us0 us L d t (fun _ => true)) (hp : d + t = 8 * q) (hq : q + n ≤ L) :
    KN us0 (put us q (List.replicate n (.int .u8 255))) L d (t + 8 * n) (fun _ => true) := by
  have hpl : q + (List.replicate n (Value.int .u8 255)).length ≤ us.length := by rw [List.length_replicate]; have := h.1.1; omega
  have hin : ∀ j, j < n → (put us q (List.replicate n (.int .u8 255)))[q + j]? = some (.int .u8 255) := fun j hj => by
    rw [put_get hpl, List.length_replicate, if_pos (by omega), show q + j - q = j by omega, List.getElem?_replicate, if_pos hj]
  have hout : ∀ j, ¬ (q ≤ j ∧ j < q + n) → (put us q (List.replicate n (.int .u8 255)))[j]? = us[j]? := fun j hj => by
    rw [put_get hpl, List.length_replicate, if_neg hj]
  refine kn_step (q := q) (n := n) h (put_len hpl) ⟨by rw [put_len hpl]; exact h.1.1, fun j hj => ?_⟩ hout (by omega) (by omega) (fun i hi hk => ?_)
  · by_cases e : q ≤ j ∧ j < q + n
    · have := hin (j - q) (by omega)
      rw [show q + (j - q) = j by omega] at this
      exact ⟨255, this, by omega⟩
    · rw [hout j e]
      exact h.1.2 j hj
  · rw [if_neg (by omega)]
    unfold btN byN
    rw [show (8 * q + i) / 8 = q + i / 8 by omega, hin (i / 8) (by omega)]
    exact all255 ⟨(8 * q + i) % 8, by omega⟩
/-- The last byte. -/
theorem kn_tail {us0 us : List Value} {L d t q o2 : Nat} (h : KN us0 us L d t (fun _ => true)) (hp : d + t = 8 * q) (h2 : o2 < 8) (hq : q < L) :
    KN us0 (us.set q (.int .u8 (mix8 (byN us q) 255 (256 - 2 ^ o2) : Int))) L d (t + o2) (fun _ => true) := by
  have hb := (h.1.at hq).2
  have hm2 : 256 - 2 ^ o2 < 256 := Nat.sub_lt (by omega) (Nat.two_pow_pos _)
  refine kn_byte (m := o2) h hq (mix8_lt _ hb (by omega)) (by omega) (by omega) (fun i hi hk => ?_)
  rw [mix8_gen _ _ _ _ hm2 hi, trail_bit ⟨o2, h2⟩ ⟨i, hi⟩, all255 ⟨i, hi⟩]
  simp only
  rw [decide_eq_false (by omega), if_neg (by simp), if_neg (by omega)]
end Go.Proofs.YtoceclgljmdkeaaDoor.QR
