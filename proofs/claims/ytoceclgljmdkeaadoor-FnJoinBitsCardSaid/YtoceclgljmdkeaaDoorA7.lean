/- The reader of words: what it holds, step by step. -/
import Derived.Test.YtoceclgljmdkeaaDoorA6
namespace Go.Proofs.YtoceclgljmdkeaaDoor.QR
open Go.RowKit Go.Proofs.YtoceclgljmdkeaaDoorW.PrintWords Go.Proofs.YtoceclgljmdkeaaDoorW.PrintLast Go.Proofs.YtoceclgljmdkeaaDoorW.PrintMore
set_option linter.unusedVariables false
set_option linter.unusedSimpArgs false
/-- While words are read: p bits have been. -/
def RW (w : World) (ss gr Ls et so len p : Nat) (us : List Value) : Prop := ∃ q n c off cur : Nat, w.heap[gr]? = some (.cells (rdC ss q n c off (len / 64 - 1) (len - 64 * (len / 64 - 1)) ((len - 64 * (len / 64 - 1) + 7) / 8) cur) 111 (0, 0)) ∧ w.heap[ss]? = some (.cells us.toArray et (0, 0)) ∧ OkN us Ls ∧ 8 * q + off = so + p ∧ off < 8 ∧ cur < 18446744073709551616 ∧ (∀ i, i < 8 → cur.testBit i = btN us (8 * q + i)) ∧ q + n ≤ Ls ∧ so + len ≤ 8 * (q + n) ∧ n ≤ c ∧ n < 100000 ∧ ss ≠ gr ∧ (128 ≤ len → ∀ i, i < 64 → cur.testBit i = btN us (8 * q + i))
/-- While bytes are read. -/
def RB (w : World) (ss gr Ls et so len p : Nat) (us : List Value) : Prop := ∃ q n c off cur m : Nat, w.heap[gr]? = some (.cells (rdC ss q n c off m (len - p) ((len - p + 7) / 8) cur) 111 (0, 0)) ∧ w.heap[ss]? = some (.cells us.toArray et (0, 0)) ∧ OkN us Ls ∧ 8 * q + off = so + p ∧ off < 8 ∧ cur < 18446744073709551616 ∧ (∀ i, i < 8 → cur.testBit i = btN us (8 * q + i)) ∧ q + n ≤ Ls ∧ so + len ≤ 8 * (q + n) ∧ n ≤ c ∧ n < 100000 ∧ ss ≠ gr
theorem RW.keep {w w' : World} {ss gr Ls et so len p : Nat} {us : List Value} (h : RW w ss gr Ls et so len p us) (h1 : w'.heap[gr]? = w.heap[gr]?) (h2 : w'.heap[ss]? = w.heap[ss]?) : RW w' ss gr Ls et so len p us := by
  obtain ⟨q, n, c, off, cur, a, b, r⟩ := h
  exact ⟨q, n, c, off, cur, h1.trans a, h2.trans b, r⟩
theorem RB.keep {w w' : World} {ss gr Ls et so len p : Nat} {us : List Value} (h : RB w ss gr Ls et so len p us) (h1 : w'.heap[gr]? = w.heap[gr]?) (h2 : w'.heap[ss]? = w.heap[ss]?) : RB w' ss gr Ls et so len p us := by
  obtain ⟨q, n, c, off, cur, m, a, b, r⟩ := h
  exact ⟨q, n, c, off, cur, m, h1.trans a, h2.trans b, r⟩
theorem RW.blocks {w : World} {ss gr Ls et so len p : Nat} {us : List Value} (h : RW w ss gr Ls et so len p us) : gr < w.heap.size ∧ ss < w.heap.size := by
  obtain ⟨q, n, c, off, cur, a, b, r⟩ := h
  exact ⟨blk_lt a, blk_lt b⟩
theorem RB.blocks {w : World} {ss gr Ls et so len p : Nat} {us : List Value} (h : RB w ss gr Ls et so len p us) : gr < w.heap.size ∧ ss < w.heap.size := by
  obtain ⟨q, n, c, off, cur, m, a, b, r⟩ := h
  exact ⟨blk_lt a, blk_lt b⟩
theorem rw_start {us : List Value} {Ls : Nat} (ss n c so len et : Nat) (w : World) (h : OkN us Ls) (hs : w.heap[ss]? = some (.cells us.toArray et (0, 0))) (hso : so < 100000) (hlen : len < 100000) (hl1 : 1 ≤ len) (hn : so + len ≤ 8 * n) (hL : n ≤ Ls) (hnc : n ≤ c) :
    Calls Tryd.prog 39 #[.slice (some ⟨ss, 0, none⟩) n c, .int .i64 (so : Int), .int .i64 (len : Int)] w fun e w' => e = .returned (.pointer (some ⟨w.heap.size, 0, none⟩)) ∧ RW w' ss w.heap.size Ls et so len 0 us ∧ Below w.heap.size w w' := by
  refine (nwr_is ss n c so len et w h hs hso hlen hl1 hn hL hnc).mono ?_
  rintro e w' ⟨cur, rfl, ⟨h1, h2, h3⟩, h4, h5⟩
  refine ⟨rfl, ⟨so / 8, (so % 8 + len + 7) / 8, c - so / 8, so % 8, cur, h4, (h5.block ss (blk_lt hs)).trans hs, h, by omega, by omega, h1, h2, by omega, by omega, by omega, by omega, by have := blk_lt hs; omega, h3⟩, h5⟩
theorem rw_words {us : List Value} {ss gr Ls et so len p : Nat} (w : World) (h : RW w ss gr Ls et so len p us) : Calls Tryd.prog 41 #[.pointer (some ⟨gr, 0, none⟩)] w fun e w' => e = .returned (.int .i64 ((len / 64 - 1 : Nat) : Int)) ∧ w' = w := by
  obtain ⟨q, n, c, off, cur, a, b, r⟩ := h
  exact words_is ss q n c off _ _ _ cur gr w a
theorem rw_step {us : List Value} {ss gr Ls et so len p : Nat} (w : World) (h : RW w ss gr Ls et so len p us) (hp : p + 64 ≤ 64 * (len / 64 - 1)) :
    Calls Tryd.prog 43 #[.pointer (some ⟨gr, 0, none⟩)] w fun e w' => ∃ v : Nat, e = .returned (.int .u64 (v : Int)) ∧ (v < 18446744073709551616 ∧ ∀ i, i < 64 → v.testBit i = btN us (so + p + i)) ∧ RW w' ss gr Ls et so len (p + 64) us ∧ Fr w w' gr gr := by
  obtain ⟨q, n, c, off, cur, a, b, h1, h2, h3, h4, h5, h6, h7, h8, h9, h10, h11⟩ := h
  refine (nw_is ss q n c off _ _ _ cur gr et w a h1 b h10 h3 (by omega) (by omega) h6 h8 h4 (h11 (by omega))).mono ?_
  rintro e w' ⟨v, rfl, ⟨k1, k2⟩, k3, k4⟩
  refine ⟨v, rfl, ⟨k1, fun i hi => by rw [k2 i hi, h2]⟩, ⟨q + 8, n - 8, c - 8, off, _, k3, (k4.far ss (blk_lt b) h10 h10).trans b, h1, by omega, h3, word_lt h1 (by omega), fun i hi => ?_, by omega, by omega, by omega, by omega, h10, fun _ i hi => ?_⟩, k4⟩
  · exact word_bit h1 (by omega) i (by omega)
  · exact word_bit h1 (by omega) i hi
theorem rw_tbytes {us : List Value} {ss gr Ls et so len p : Nat} (w : World) (h : RW w ss gr Ls et so len p us) : Calls Tryd.prog 44 #[.pointer (some ⟨gr, 0, none⟩)] w fun e w' => e = .returned (.int .i64 (((len - 64 * (len / 64 - 1) + 7) / 8 : Nat) : Int)) ∧ w' = w := by
  obtain ⟨q, n, c, off, cur, a, b, r⟩ := h
  exact tbytes_is ss q n c off _ _ _ cur gr w a
theorem rb_of_rw {us : List Value} {ss gr Ls et so len p : Nat} {w : World} (h : RW w ss gr Ls et so len p us) (hp : p = 64 * (len / 64 - 1)) : RB w ss gr Ls et so len p us := by
  obtain ⟨q, n, c, off, cur, a, b, h1, h2, h3, h4, h5, h6, h7, h8, h9, h10, h11⟩ := h
  rw [← hp] at a
  exact ⟨q, n, c, off, cur, _, a, b, h1, h2, h3, h4, h5, h6, h7, h8, h9, h10⟩
theorem rb_step {us : List Value} {ss gr Ls et so len p : Nat} (w : World) (h : RB w ss gr Ls et so len p us) (hp : 8 < len - p) (hl : len < 100000) :
    Calls Tryd.prog 45 #[.pointer (some ⟨gr, 0, none⟩)] w fun e w' => ∃ v : Nat, e = .returned (.tuple #[.int .u8 (v : Int), .int .i64 8]) ∧ (v < 256 ∧ ∀ i, i < 8 → v.testBit i = btN us (so + p + i)) ∧ RB w' ss gr Ls et so len (p + 8) us ∧ Fr w w' gr gr := by
  obtain ⟨q, n, c, off, cur, m, a, b, h1, h2, h3, h4, h5, h6, h7, h8, h9, h10⟩ := h
  refine (ntbm_is ss q n c off m _ _ cur gr et w a h1 b h10 h3 hp (by omega) (by omega) (by omega) (by omega) (by omega) h6 h8 h4 h5).mono ?_
  rintro e w' ⟨v, rfl, ⟨k1, k2⟩, k3, k4⟩
  have hb1 := (h1.at (show q + 1 < Ls by omega)).2
  refine ⟨v, rfl, ⟨k1, fun i hi => by rw [k2 i hi, h2]⟩, ⟨q + 1, n - 1, c - 1, off, _, m, ?_, (k4.far ss (blk_lt b) h10 h10).trans b, h1, by omega, h3, lsb_lt h4 hb1, fun i hi => ?_, by omega, by omega, by omega, by omega, h10⟩, k4⟩
  · rw [show len - (p + 8) = len - p - 8 by omega, show (len - p - 8 + 7) / 8 = (len - p + 7) / 8 - 1 by omega]
    exact k3
  · rw [lsb_bit _ _ _ hi, btN_at us (q + 1) i hi]
theorem rb_last {us : List Value} {ss gr Ls et so len p : Nat} (w : World) (h : RB w ss gr Ls et so len p us) (hp : 1 ≤ len - p) (hp8 : len - p ≤ 8) :
    Calls Tryd.prog 45 #[.pointer (some ⟨gr, 0, none⟩)] w fun e w' => ∃ v : Nat, e = .returned (.tuple #[.int .u8 (v : Int), .int .i64 ((len - p : Nat) : Int)]) ∧ (v < 256 ∧ ∀ i, i < len - p → v.testBit i = btN us (so + p + i)) ∧ Fr w w' gr gr := by
  obtain ⟨q, n, c, off, cur, m, a, b, h1, h2, h3, h4, h5, h6, h7, h8, h9, h10⟩ := h
  refine (ntbl_is ss q n c off m _ _ cur gr et w a h1 b h10 h3 hp hp8 (by omega) h6).mono ?_
  rintro e w' ⟨v, rfl, ⟨k1, k2⟩, k3, k4⟩
  exact ⟨v, rfl, ⟨k1, fun i hi => by rw [k2 i hi, h2]⟩, k4⟩
theorem WrI.keep {w w' : World} {gd gw L et f t n c len : Nat} {us0 us : List Value} {bf : Nat → Bool} (h : WrI w gd gw L et f t n c len us0 us bf) (h1 : w'.heap[gw]? = w.heap[gw]?) (h2 : w'.heap[gd]? = w.heap[gd]?) : WrI w' gd gw L et f t n c len us0 us bf := by
  obtain ⟨q, off, cur, A, ⟨a, hA⟩, b, r⟩ := h
  exact ⟨q, off, cur, A, ⟨h1.trans a, hA⟩, h2.trans b, r⟩
theorem WrI.blocks {w : World} {gd gw L et f t n c len : Nat} {us0 us : List Value} {bf : Nat → Bool} (h : WrI w gd gw L et f t n c len us0 us bf) : gw < w.heap.size ∧ gd < w.heap.size ∧ gd ≠ gw ∧ w.heap[gd]? = some (.cells us.toArray et (0, 0)) ∧ KN us0 us L f t bf := by
  obtain ⟨q, off, cur, A, ⟨a, hA⟩, b, h3, h4, h5, h6, h7, h8, h9, h10, h11⟩ := h
  exact ⟨blk_lt a, blk_lt b, h10, b, h7⟩
theorem WrI.room {w : World} {gd gw L et f t n c len : Nat} {us0 us : List Value} {bf : Nat → Bool} (h : WrI w gd gw L et f t n c len us0 us bf) : ∃ q off, f + t = 8 * q + off ∧ off < 8 ∧ q + n = L ∧ L < 100000 := by
  obtain ⟨q, off, cur, A, ⟨a, hA⟩, b, h3, h4, h5, h6, h7, h8, h9, h10, h11⟩ := h
  exact ⟨q, off, h3, h4, h8, h11⟩
theorem wr_start {us : List Value} {L : Nat} (gd c d len et : Nat) (bf : Nat → Bool) (w : World) (h : OkN us L) (hs : w.heap[gd]? = some (.cells us.toArray et (0, 0))) (hd : d < 100000) (hlen : len < 100000) (hl1 : 1 ≤ len) (hn : d + len ≤ 8 * L) (hnc : L ≤ c) (hL : L < 100000) :
    Calls Tryd.prog 40 #[.slice (some ⟨gd, 0, none⟩) L c, .int .i64 (d : Int), .int .i64 (len : Int)] w fun e w' => e = .returned (.pointer (some ⟨w.heap.size, 0, none⟩)) ∧ WrI w' gd w.heap.size L et d 0 (L - d / 8) (c - d / 8) len us us bf ∧ Below w.heap.size w w' := by
  refine (nww_is gd L c d len et w h hs hd hlen hl1 hn (Nat.le_refl _) hnc).mono ?_
  rintro e w' ⟨cur, rfl, ⟨h1, h2⟩, h4, h5⟩
  exact ⟨rfl, ⟨d / 8, d % 8, cur, _, ⟨h4, fun _ => rfl⟩, (h5.block gd (blk_lt hs)).trans hs, by omega, by omega, h1, h2, kn_start h d bf, by omega, by omega, by have := blk_lt hs; omega, hL⟩, h5⟩
end Go.Proofs.YtoceclgljmdkeaaDoor.QR
/- A bitmap is copied, word by word and byte by byte. -/
namespace Go.Proofs.YtoceclgljmdkeaaDoor.QR
open Go.RowKit Go.Proofs.YtoceclgljmdkeaaDoorW.PrintWords Go.Proofs.YtoceclgljmdkeaaDoorW.PrintLast Go.Proofs.YtoceclgljmdkeaaDoorW.PrintMore
set_option linter.unusedVariables false
set_option linter.unusedSimpArgs false
/-- What holds between the rounds over bytes. -/
def TB (w : World) (ss gr Ls ets so len gd gw L et d p : Nat) (us us0 : List Value) (bf : Nat → Bool) : Prop := (∃ us', w.heap[gd]? = some (.cells us'.toArray et (0, 0)) ∧ KN us0 us' L d p bf ∧ (p < len → ∃ n c, WrI w gd gw L et d p n c len us0 us' bf)) ∧ (p < len → RB w ss gr Ls ets so len p us) ∧ p ≤ len
set_option maxHeartbeats 8000000 in
set_option maxRecDepth 100000 in
theorem tslow_is {us us0 : List Value} {Ls L : Nat} (ss ns cs so len gd cd d et ets : Nat) (w : World) (h : OkN us Ls) (hs : w.heap[ss]? = some (.cells us.toArray ets (0, 0))) (hso : so < 100000) (hlen : len < 100000) (hl1 : 1 ≤ len) (hn : so + len ≤ 8 * ns) (hLs : ns ≤ Ls) (hnc : ns ≤ cs)
    (h0 : OkN us0 L) (hd : w.heap[gd]? = some (.cells us0.toArray et (0, 0))) (hdd : d < 100000) (hdn : d + len ≤ 8 * L) (hdc : L ≤ cd) (hL : L < 100000) (hne : ss ≠ gd) (hG : Gm w) (hg4 : 4 ≤ gd) (hst : ¬ (so % 8 = 0 ∧ d % 8 = 0)) :
    Calls Tryd.prog 33 #[.int .i8 0, .slice (some ⟨ss, 0, none⟩) ns cs, .int .i64 (so : Int), .int .i64 (len : Int), .slice (some ⟨gd, 0, none⟩) L cd, .int .i64 (d : Int)] w fun e w' => e = .returned (.tuple #[]) ∧ Fr w w' gd gd ∧ ∃ us' : List Value, w'.heap[gd]? = some (.cells us'.toArray et (0, 0)) ∧ KN us0 us' L d len (fun i => btN us (so + i)) := by
  obtain ⟨bf, hbf⟩ : ∃ bf : Nat → Bool, bf = fun i => btN us (so + i) := ⟨_, rfl⟩
  rw [← hbf]
  have Qbf := Aside0.mk (fun i => congrFun hbf i)
  clear hbf
  have QR := Aside0.mk (rw_start (us := us) (Ls := Ls) ss ns cs so len ets w h hs hso hlen hl1 hn hLs hnc)
  have QW := Aside0.mk (fun (V : World) (hV : V.heap[gd]? = some (.cells us0.toArray et (0, 0))) => wr_start (us := us0) (L := L) gd cd d len et bf V h0 hV hdd hlen hl1 hdn hdc hL)
  have hl0 : ¬ (len : Int) = 0 := by omega
  have Qn := Aside0.mk (And.intro hl1 (And.intro hdn (And.intro hL (And.intro hne (And.intro hg4 (And.intro (blk_lt hs) (And.intro (blk_lt hd) (And.intro hd hlen))))))))
  have QG := Aside0.mk hG
  have hcase : (((so : Int) % 8 != 0) = true ∧ True) ∨ (((so : Int) % 8 != 0) = false ∧ ((d : Int) % 8 != 0) = true) := by
    by_cases e : so % 8 = 0
    · right
      refine ⟨?_, ?_⟩
      · simp; omega
      · simp; omega
    · left
      refine ⟨?_, trivial⟩
      simp; omega
  clear h hs hn hLs hnc h0 hd hdn hdc hL hne hG hg4 hst hl1
  rcases hcase with ⟨t1, t2⟩ | ⟨t1, t2⟩
  all_goals
    go_enter Tryd.func33, Tryd.ntmps33
    go_wp2_with (first | (go_at_call 39; with_reducible refine Calls.mono QR.out ?_; rintro e w1 ⟨rfl, k1, k2⟩; have Q1 := Aside0.mk (And.intro k1 k2); have QW1 := Aside0.mk (QW.out w1 ((k2.block gd Qn.out.2.2.2.2.2.2.1).trans Qn.out.2.2.2.2.2.2.2.1)); clear k1 k2) | (go_at_call 40; with_reducible refine Calls.mono QW1.out ?_; rintro e w2 ⟨rfl, k1, k2⟩; have Q2 := Aside0.mk (And.intro k1 k2); clear k1 k2) | (go_at_call 41; with_reducible refine Calls.mono (rw_words w2 (Q1.out.1.keep (Q2.out.2.block _ Q1.out.1.blocks.1) (Q2.out.2.block _ Q1.out.1.blocks.2))) ?_; rintro e w3 ⟨rfl, rfl⟩))
    have hB1 := Q1.out.1.blocks
    obtain ⟨gr, hgr⟩ : ∃ gr, gr = w.heap.size := ⟨_, rfl⟩
    obtain ⟨gw, hgw⟩ : ∃ gw, gw = w1.heap.size := ⟨_, rfl⟩
    have R3 := Q1.out.1.keep (Q2.out.2.block _ hB1.1) (Q2.out.2.block _ hB1.2)
    have F3 : Fr w w3 gd gd := (Fr.of_below Q1.out.2).step Q2.out.2
    have G3 : Gm w3 := QG.out.fr F3 Qn.out.2.2.2.2.1 Qn.out.2.2.2.2.1
    have W3 := Q2.out.1
    rw [← hgr] at R3 hB1 ⊢
    rw [← hgw] at W3 hB1 ⊢
    have hn := Qn.out
    have hrw : gr ≠ gw := by omega
    have hwr : gw ≠ gr := by omega
    have hrd : gr ≠ gd := by omega
    have hdr : gd ≠ gr := by omega
    have hsw : ss ≠ gw := by omega
    have hsd : ss ≠ gd := hn.2.2.2.1
    have hr0 : w.heap.size ≤ gr := by omega
    have hw0 : w.heap.size ≤ gw := by have := Q1.out.2.size; omega
    have hr4 : 4 ≤ gr := by have := QG.out.1; omega
    have hw4 : 4 ≤ gw := by have := QG.out.1; omega
    have Qg := Aside0.mk (And.intro hrw (And.intro hwr (And.intro hrd (And.intro hdr (And.intro hsw (And.intro hsd (And.intro hr0 (And.intro hw0 (And.intro hr4 hw4)))))))))
    have QS3 := Aside0.mk (And.intro R3 (And.intro W3 (And.intro F3 G3)))
    clear hgr hgw hn hrw hwr hrd hdr hsw hsd hr0 hw0 hr4 hw4 hB1 R3 W3 F3 G3 Q1 Q2 QW1 QR QW t1 t2
    obtain ⟨M, hM⟩ : ∃ M, M = len / 64 - 1 := ⟨_, rfl⟩
    rw [← hM]
    have QM := Aside0.mk hM
    clear hM
    go_loopg [16] M (fun kq v16 w' => ∃ (k : Nat) (us' : List Value) (n c : Nat), v16 = .int .i64 (k : Int) ∧ Aside0 (k = kq ∧ k ≤ M) ∧ Aside0 (RW w' ss gr Ls ets so len (64 * (M - k)) us ∧ WrI w' gd gw L et d (64 * (M - k)) n c len us0 us' bf) ∧ Aside0 (Fr w w' gd gd ∧ Gm w'))
    case atStart => exact ⟨M, us0, _, _, rfl, ⟨rfl, Nat.le_refl _⟩, ⟨by rw [Nat.sub_self]; exact QS3.out.1, by rw [Nat.sub_self]; exact QS3.out.2.1⟩, ⟨QS3.out.2.2.1, QS3.out.2.2.2⟩⟩
    case round =>
      obtain ⟨k, us', n, c, rfl, HA, HW, HF⟩ := hrel
      clear QS3
      obtain ⟨hrw, hwr, hrd, hdr, hsw, hsd, hr0, hw0, hr4, hw4⟩ := Qg.out
      rcases Nat.eq_zero_or_pos gk with hk0 | hk0
      · obtain rfl : k = 0 := by have := HA.out; omega
        rw [Nat.sub_zero] at HW
        have QT := Aside0.mk (rw_tbytes wr HW.out.1)
        rw [← QM.out] at QT
        obtain ⟨t0, ht0⟩ : ∃ t0, t0 = (len - 64 * M + 7) / 8 := ⟨_, rfl⟩
        rw [← ht0] at QT
        have QT0 := Aside0.mk ht0
        clear ht0
        go_wp2_with (go_at_call 44; with_reducible refine Calls.mono QT.out ?_; rintro e w4 ⟨rfl, rfl⟩)
        have hMl : 64 * M ≤ len := by have := QM.out; omega
        have T0 : TB w4 ss gr Ls ets so len gd gw L et d (64 * M) us us0 bf := ⟨⟨us', HW.out.2.blocks.2.2.2.1, HW.out.2.blocks.2.2.2.2, fun _ => ⟨n, c, HW.out.2⟩⟩, fun _ => rb_of_rw HW.out.1 (by rw [QM.out]), hMl⟩
        have QT1 := Aside0.mk T0
        clear T0 HW QT hMl
        clear hrw hwr hrd hdr hsw hsd hr0 hw0 hr4 hw4
        go_loopg [17] t0 (fun kq v17 w' => ∃ (k p : Nat), v17 = .int .i64 (k : Int) ∧ Aside0 (k = kq ∧ k = (len - p + 7) / 8) ∧ Aside0 (TB w' ss gr Ls ets so len gd gw L et d p us us0 bf) ∧ Aside0 (Fr w w' gd gd ∧ Gm w'))
        case atStart => exact ⟨t0, 64 * M, rfl, ⟨rfl, QT0.out⟩, QT1, HF⟩
        case round =>
        obtain ⟨k, p, rfl, HA, HT, HF⟩ := hrel
        clear QT1
        rcases Nat.eq_zero_or_pos gk with hk0 | hk0
        · obtain rfl : k = 0 := by have := HA.out; omega
          go_wp2
          refine bodyPost_ret (v := .tuple #[]) (by simp [results, Tryd.results33, go_sem]) rfl ?_
          have hp := HT.out.2.2
          obtain ⟨us9, u1, u2, _⟩ := HT.out.1
          rw [show p = len by have := HA.out; omega] at u2
          exact ⟨rfl, HF.out.1, us9, u1, u2⟩
        obtain ⟨k1', rfl⟩ : ∃ k1', gk = k1' + 1 := ⟨gk - 1, by omega⟩
        obtain rfl : k = k1' + 1 := HA.out.1
        have QA := Aside0.mk HA.out.2
        have hkl : k1' < 100000 := by have := HA.out.2; omega
        have hki : (0 : Int) < (k1' : Int) + 1 := by omega
        have hp : p < len := by have := QA.out; omega
        have hRB := HT.out.2.1 hp
        obtain ⟨us5, u1, u2, u3⟩ := HT.out.1
        obtain ⟨n, c, hW⟩ := u3 hp
        have ek : IntKind.i64.wrap ((k1' : Int) + 1 - 1) = (k1' : Int) := by rw [IntWalk.i64_in _ (by omega)]; omega
        obtain ⟨hrw, hwr, hrd, hdr, hsw, hsd, hr0, hw0, hr4, hw4⟩ := Qg.out
        have hn := Qn.out
        rcases Nat.lt_trichotomy (len - p) 8 with h8 | h8 | h8
        · have QS := Aside0.mk (rb_last wr hRB (by omega) (by omega))
          obtain ⟨vv, hvv⟩ : ∃ vv, vv = len - p := ⟨_, rfl⟩
          rw [← hvv] at QS
          have Qvv := Aside0.mk hvv
          clear hvv
          go_wp2_with (first | (go_at_call 45; with_reducible refine Calls.mono QS.out ?_; rintro e w4 ⟨v, rfl, k1, k3⟩; have QP := Aside0.mk (ptbv_is gd gw et d p n c len v vv bf w4 (hW.keep (k3.far gw hW.blocks.1 hwr hwr) (k3.far gd hW.blocks.2.1 hdr hdr)) (by have := Qvv.out; omega) (by have := Qvv.out; omega) (by have := Qvv.out; omega) k1.1 (fun i hi => by rw [Qbf.out, k1.2 i hi]; exact congrArg _ (by omega)) (HF.out.2.fr k3 (by omega) (by omega))); have Q4 := Aside0.mk k3; clear k1 k3) | (go_at_call 46; with_reducible refine Calls.mono QP.out ?_; rintro e w6 ⟨us6, rfl, j0, j1, j2⟩; have Q6 := Aside0.mk (And.intro (And.intro j0 j1) j2); clear j0 j1 j2))
          go_roundg k1'
          case rel => exact ⟨k1', len, by first | rfl | rw [ek], ⟨by omega, by have := QA.out; omega⟩, ⟨⟨us6, Q6.out.1.1, (by have hk := Q6.out.1.2; rw [show p + vv = len by have := Qvv.out; omega] at hk; exact hk), fun hh => absurd hh (by omega)⟩, fun hh => absurd hh (by omega), by omega⟩, ⟨(HF.out.1.glue Q4.out (.inl hr0) (.inl hr0)).glue Q6.out.2 (.inl hw0) (.inr (.inl rfl)), (HF.out.2.fr Q4.out (by omega) (by omega)).fr Q6.out.2 (by omega) (by omega)⟩⟩
          · omega
        · have QS := Aside0.mk (rb_last wr hRB (by omega) (by omega))
          rw [show len - p = 8 by omega] at QS
          go_wp2_with (first | (go_at_call 45; with_reducible refine Calls.mono QS.out ?_; rintro e w4 ⟨v, rfl, k1, k3⟩; have QP := Aside0.mk (ptb_is gd gw et d p n c len v bf w4 (hW.keep (k3.far gw hW.blocks.1 hwr hwr) (k3.far gd hW.blocks.2.1 hdr hdr)) (by omega) k1.1 (fun i hi => by rw [Qbf.out, k1.2 i hi]; exact congrArg _ (by omega))); have Q4 := Aside0.mk k3; clear k1 k3) | (go_at_call 46; with_reducible refine Calls.mono QP.out ?_; rintro e w6 ⟨us6, rfl, j1, j2⟩; have Q6 := Aside0.mk (And.intro j1 j2); clear j1 j2))
          go_roundg k1'
          case rel => exact ⟨k1', len, by first | rfl | rw [ek], ⟨by omega, by have := QA.out; omega⟩, ⟨⟨us6, Q6.out.1.blocks.2.2.2.1, (by have hk := Q6.out.1.blocks.2.2.2.2; rw [show p + 8 = len by omega] at hk; exact hk), fun hh => absurd hh (by omega)⟩, fun hh => absurd hh (by omega), by omega⟩, ⟨(HF.out.1.glue Q4.out (.inl hr0) (.inl hr0)).glue Q6.out.2 (.inl hw0) (.inr (.inl rfl)), (HF.out.2.fr Q4.out (by omega) (by omega)).fr Q6.out.2 (by omega) (by omega)⟩⟩
          · omega
        · have QS := Aside0.mk (rb_step wr hRB (by omega) Qn.out.2.2.2.2.2.2.2.2)
          go_wp2_with (first | (go_at_call 45; with_reducible refine Calls.mono QS.out ?_; rintro e w4 ⟨v, rfl, k1, k2, k3⟩; have QP := Aside0.mk (ptb_is gd gw et d p n c len v bf w4 (hW.keep (k3.far gw hW.blocks.1 hwr hwr) (k3.far gd hW.blocks.2.1 hdr hdr)) (by omega) k1.1 (fun i hi => by rw [Qbf.out, k1.2 i hi]; exact congrArg _ (by omega))); have Q4 := Aside0.mk (And.intro k2 k3); clear k1 k2 k3) | (go_at_call 46; with_reducible refine Calls.mono QP.out ?_; rintro e w6 ⟨us6, rfl, j1, j2⟩; have Q6 := Aside0.mk (And.intro j1 j2); clear j1 j2))
          go_roundg k1'
          case rel => exact ⟨k1', p + 8, by first | rfl | rw [ek], ⟨by omega, by have := QA.out; omega⟩, ⟨⟨us6, Q6.out.1.blocks.2.2.2.1, Q6.out.1.blocks.2.2.2.2, fun _ => ⟨_, _, Q6.out.1⟩⟩, fun _ => Q4.out.1.keep (Q6.out.2.far gr Q4.out.1.blocks.1 hrw hrd) (Q6.out.2.far ss Q4.out.1.blocks.2 hsw hsd), by omega⟩, ⟨(HF.out.1.glue Q4.out.2 (.inl hr0) (.inl hr0)).glue Q6.out.2 (.inl hw0) (.inr (.inl rfl)), (HF.out.2.fr Q4.out.2 (by omega) (by omega)).fr Q6.out.2 (by omega) (by omega)⟩⟩
          · omega
      · obtain ⟨k1', rfl⟩ : ∃ k1', gk = k1' + 1 := ⟨gk - 1, by omega⟩
        obtain rfl : k = k1' + 1 := HA.out.1
        have QA := Aside0.mk HA.out.2
        have hkl : k1' < 100000 := by have := HA.out.2; have := QM.out; omega
        have hki : (0 : Int) < (k1' : Int) + 1 := by omega
        have hpe : 64 * (M - (k1' + 1)) + 64 = 64 * (M - k1') := by have := QA.out; omega
        have hpM : 64 * (M - (k1' + 1)) + 64 ≤ 64 * (len / 64 - 1) := by have := QM.out; omega
        obtain ⟨p, hp⟩ : ∃ p, p = 64 * (M - (k1' + 1)) := ⟨_, rfl⟩
        rw [← hp] at HW hpM hpe
        have Qp := Aside0.mk hp
        obtain ⟨q, off, r1, r2, r3, r4⟩ := HW.out.2.room
        have hn := Qn.out
        have hn16 : 16 ≤ n := by omega
        have QS := Aside0.mk (rw_step wr HW.out.1 hpM)
        have hW := HW.out.2
        have Qpe := Aside0.mk hpe
        clear hp hpe r1 r2 r3 r4
        go_wp2_with (first | (go_at_call 43; with_reducible refine Calls.mono QS.out ?_; rintro e w4 ⟨v, rfl, k1, k2, k3⟩; have QP := Aside0.mk (pnw_is gd gw et d p n c len v bf w4 (hW.keep (k3.far gw hW.blocks.1 hwr hwr) (k3.far gd hW.blocks.2.1 hdr hdr)) hn16 k1.1 (fun i hi => by rw [Qbf.out, k1.2 i hi]; exact congrArg _ (by omega))); have Q4 := Aside0.mk (And.intro k2 k3); clear k1 k2 k3) | (go_at_call 42; with_reducible refine Calls.mono QP.out ?_; rintro e w6 ⟨us6, rfl, j1, j2⟩; have Q6 := Aside0.mk (And.intro j1 j2); clear j1 j2))
        go_roundg k1'
        case rel => exact ⟨k1', us6, _, _, rfl, ⟨rfl, by have := QA.out; omega⟩, ⟨by rw [← Qpe.out]; exact Q4.out.1.keep (Q6.out.2.far gr Q4.out.1.blocks.1 hrw hrd) (Q6.out.2.far ss Q4.out.1.blocks.2 hsw hsd), by rw [← Qpe.out]; exact Q6.out.1⟩, ⟨(HF.out.1.glue Q4.out.2 (.inl hr0) (.inl hr0)).glue Q6.out.2 (.inl hw0) (.inr (.inl rfl)), (HF.out.2.fr Q4.out.2 hr4 hr4).fr Q6.out.2 hw4 (by omega)⟩⟩
        · omega
end Go.Proofs.YtoceclgljmdkeaaDoor.QR
/- A bitmap is copied from a byte's edge to a byte's edge. -/
namespace Go.Proofs.YtoceclgljmdkeaaDoor.QR
open Go.RowKit Go.Proofs.YtoceclgljmdkeaaDoorW.PrintWords Go.Proofs.YtoceclgljmdkeaaDoorW.PrintLast Go.Proofs.YtoceclgljmdkeaaDoorW.PrintMore
set_option linter.unusedVariables false
set_option linter.unusedSimpArgs false
theorem mix8_bit' (a b off i : Nat) (hoff : off ≤ 8) (hi : i < 8) : (mix8 a b (2 ^ off - 1)).testBit i = if i < off then a.testBit i else b.testBit i := by
  unfold mix8
  have hp : 2 ^ off - 1 < 2 ^ 8 := Nat.lt_of_lt_of_le (Nat.sub_lt (Nat.two_pow_pos _) (by omega)) (Nat.pow_le_pow_right (by omega) (by omega))
  rw [show 255 - (2 ^ off - 1) = 2 ^ 8 - ((2 ^ off - 1) + 1) by omega, Nat.testBit_or, Nat.testBit_and, Nat.testBit_and, Nat.testBit_two_pow_sub_succ hp, Nat.testBit_two_pow_sub_one, decide_eq_true hi, Bool.true_and]
  by_cases h : i < off
  · rw [if_pos h, decide_eq_true h]; simp
  · rw [if_neg h, decide_eq_false h]; simp
/-- The bytes from one place on. -/
def segN (us : List Value) (q n : Nat) : List Value := (us.drop q).take n
theorem segN_len {us : List Value} {q n : Nat} (h : q + n ≤ us.length) : (segN us q n).length = n := by unfold segN; rw [List.length_take, List.length_drop]; omega
theorem segN_get {us : List Value} {q n j : Nat} (hj : j < n) : (segN us q n)[j]? = us[q + j]? := by unfold segN; rw [List.getElem?_take, if_pos hj, List.getElem?_drop]
theorem kn_fast {us us0 : List Value} {L Ls d so len qd qs nb r : Nat} (h0 : OkN us0 L) (h : OkN us Ls) (hd : d = 8 * qd) (hso : so = 8 * qs) (hlen : len = 8 * nb + r) (hr1 : 1 ≤ r) (hr8 : r ≤ 8) (hL : d + len ≤ 8 * L) (hLs : so + len ≤ 8 * Ls) :
    KN us0 ((put us0 qd (segN us qs nb)).set (qd + nb) (.int .u8 (mix8 (byN us (qs + nb)) (byN us0 (qd + nb)) (2 ^ r - 1) : Int))) L d len (fun i => btN us (so + i)) := by
  have hsl : (segN us qs nb).length = nb := segN_len (by have := h.1; omega)
  have hpl : qd + (segN us qs nb).length ≤ us0.length := by rw [hsl]; have := h0.1; omega
  have hin : ∀ j, j < nb → (put us0 qd (segN us qs nb))[qd + j]? = us[qs + j]? := fun j hj => by
    rw [put_get hpl, hsl, if_pos (by omega), show qd + j - qd = j by omega, segN_get hj]
  have hout : ∀ j, ¬ (qd ≤ j ∧ j < qd + nb) → (put us0 qd (segN us qs nb))[j]? = us0[j]? := fun j hj => by
    rw [put_get hpl, hsl, if_neg hj]
  have hok : OkN (put us0 qd (segN us qs nb)) L := by
    refine ⟨by rw [put_len hpl]; exact h0.1, fun j hj => ?_⟩
    by_cases e : qd ≤ j ∧ j < qd + nb
    · have := hin (j - qd) (by omega)
      rw [show qd + (j - qd) = j by omega] at this
      rw [this]
      exact h.2 _ (by omega)
    · rw [hout j e]
      exact h0.2 j hj
  have k1 := kn_step (us' := put us0 qd (segN us qs nb)) (q := qd) (n := nb) (m := 8 * nb) (kn_start h0 d (fun i => btN us (so + i))) (put_len hpl) hok hout (by omega) (by omega) (fun i hi hk => by
    rw [if_neg (by omega)]
    unfold btN byN
    rw [show (8 * qd + i) / 8 = qd + i / 8 by omega, hin (i / 8) (by omega), show (so + (8 * qd + i - d)) / 8 = qs + i / 8 by omega, show (8 * qd + i) % 8 = (so + (8 * qd + i - d)) % 8 by omega])
  have hb : (byN us0 (qd + nb)) = byN (put us0 qd (segN us qs nb)) (qd + nb) := by
    unfold byN
    rw [hout _ (by omega)]
  have k2 := kn_byte (m := r) (q := qd + nb) (x := mix8 (byN us (qs + nb)) (byN us0 (qd + nb)) (2 ^ r - 1)) k1 (by omega) (mix8_lt _ (h.at (by omega)).2 (h0.at (by omega)).2) (by omega) (by omega) (fun i hi hk => by
    rw [mix8_bit' _ _ _ _ hr8 hi, if_pos (by omega), if_neg (by omega), ← btN_at us (qs + nb) i hi]
    exact congrArg _ (by omega))
  rw [show 0 + 8 * nb + r = len by omega] at k2
  exact k2
theorem last_is {a b mk : Nat} (ha : a < 256) (hb : b < 256) (hm : mk < 256) : bits .or .u8 ((b &&& (255 - mk) : Nat) : Int) (bits .and .u8 (a : Int) (mk : Int)) = (mix8 a b mk : Int) := by
  rw [u8_and_nat _ _ ha hm]
  unfold mix8
  rw [Nat.or_comm]
  exact u8_or_nat _ _ (Nat.lt_of_le_of_lt Nat.and_le_left hb) (Nat.lt_of_le_of_lt Nat.and_le_left ha)
end Go.Proofs.YtoceclgljmdkeaaDoor.QR
