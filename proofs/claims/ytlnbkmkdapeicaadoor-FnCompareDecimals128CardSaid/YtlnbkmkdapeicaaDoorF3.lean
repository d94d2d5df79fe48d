/- binary.LittleEndian.PutUint32: four bytes are written. -/
import Derived.Test.YtlnbkmkdapeicaaDoorF2
namespace Go.Proofs.YtlnbkmkdapeicaaDoor.QR
open Go.RowKit Go.Proofs.YtlnbkmkdapeicaaDoorW.PrintWords Go.Proofs.YtlnbkmkdapeicaaDoorW.PrintLast Go.Proofs.YtlnbkmkdapeicaaDoorW.PrintMore
set_option linter.unusedVariables false
set_option linter.unusedSimpArgs false
/-- Elements from o on are written over. -/
def put {α : Type} (us : List α) (o : Nat) (seg : List α) : List α := us.take o ++ seg ++ us.drop (o + seg.length)
theorem put_len {α : Type} {us seg : List α} {o : Nat} (h : o + seg.length ≤ us.length) : (put us o seg).length = us.length := by unfold put; simp only [List.length_append, List.length_take, List.length_drop]; omega
theorem put_get {α : Type} {us seg : List α} {o : Nat} (h : o + seg.length ≤ us.length) (i : Nat) : (put us o seg)[i]? = if o ≤ i ∧ i < o + seg.length then seg[i - o]? else us[i]? := by
  unfold put
  by_cases h1 : i < o
  · rw [if_neg (by omega), List.append_assoc, List.getElem?_append_left (by rw [List.length_take]; omega), List.getElem?_take, if_pos h1]
  · by_cases h2 : i < o + seg.length
    · rw [if_pos ⟨by omega, h2⟩, List.getElem?_append_left (by rw [List.length_append, List.length_take]; omega), List.getElem?_append_right (by rw [List.length_take]; omega), List.length_take, Nat.min_eq_left (by omega)]
    · rw [if_neg (by omega), List.getElem?_append_right (by rw [List.length_append, List.length_take]; omega), List.getElem?_drop, List.length_append, List.length_take, Nat.min_eq_left (by omega)]
      congr 1
      omega
theorem put_cons {α : Type} {us : List α} {o : Nat} {x : α} {seg : List α} (h : o + (x :: seg).length ≤ us.length) : put (us.set o x) (o + 1) seg = put us o (x :: seg) := by
  rw [List.length_cons] at h
  apply List.ext_getElem?
  intro i
  rw [put_get (by rw [List.length_set]; omega), put_get (by rw [List.length_cons]; omega), List.length_cons]
  by_cases h1 : i = o
  · subst h1
    rw [if_neg (by omega), if_pos (by omega), List.getElem?_set_self (by omega), Nat.sub_self]
    rfl
  · rw [List.getElem?_set_ne (by omega)]
    by_cases h2 : o + 1 ≤ i ∧ i < o + 1 + seg.length
    · rw [if_pos h2, if_pos (by omega), show i - o = (i - (o + 1)) + 1 by omega]
      rfl
    · rw [if_neg h2, if_neg (by omega)]
theorem put_nil {α : Type} (us : List α) (o : Nat) : put us o [] = us := by simp [put]
theorem byteN_eq (x : Int) : IntKind.u8.wrap x = byteN x 0 ∧ IntKind.u8.wrap (x / 256) = byteN x 1 ∧ IntKind.u8.wrap (x / 65536) = byteN x 2 ∧ IntKind.u8.wrap (x / 16777216) = byteN x 3 ∧ IntKind.u8.wrap (x / 4294967296) = byteN x 4 ∧ IntKind.u8.wrap (x / 1099511627776) = byteN x 5 ∧ IntKind.u8.wrap (x / 281474976710656) = byteN x 6 ∧ IntKind.u8.wrap (x / 72057594037927936) = byteN x 7 := by
  unfold byteN
  simp only [IntKind.wrap, IntKind.bits, IntKind.signed]
  refine ⟨?_, ?_, ?_, ?_, ?_, ?_, ?_, ?_⟩ <;> simp <;> omega
set_option maxHeartbeats 8000000 in
set_option maxRecDepth 100000 in
theorem pu64_is (g o n c : Nat) (et : Nat) (us : List Value) (x : Int) (w : World) (hx : 0 ≤ x ∧ x < 18446744073709551616) (hg : w.heap[g]? = some (.cells us.toArray et (0, 0))) (hn : 8 ≤ n) (ho : o + 8 ≤ us.length) (hb : ∃ y, us[o + 7]? = some (.int .u8 y)) :
    Calls Tryd.prog 37 #[.agg #[], .slice (some ⟨g, o, none⟩) n c, .int .u64 x] w fun e w' => e = .returned (.tuple #[]) ∧ w'.heap[g]? = some (.cells (put us o ((leB 8 x).map (.int .u8))).toArray et (0, 0)) ∧ Fr w w' g g := by
  obtain ⟨y, hy⟩ := hb
  have hsz : w.heap.size ≠ g := by have := blk_lt hg; omega
  obtain ⟨W, hW⟩ : ∃ W, W = w.alloc (.cells #[] 103) := ⟨_, rfl⟩
  have hgW : W.heap[g]? = some (.cells us.toArray et (0, 0)) := by rw [hW]; exact blk_alloc hg _
  have hFW : Fr w W g g := by rw [hW]; exact Fr.of_below (b2 w _)
  have k7 := blk_cell hgW (o + 7)
  rw [List.getElem?_toArray, hy] at k7
  obtain ⟨u0, k0⟩ : ∃ u, W.cell? ⟨g, o, none⟩ = some u := ⟨us[o]'(by omega), (blk_cell hgW o).trans (by rw [List.getElem?_toArray, List.getElem?_eq_getElem])⟩
  obtain ⟨u1, k1⟩ : ∃ u, W.cell? ⟨g, o + 1, none⟩ = some u := ⟨us[o + 1]'(by omega), (blk_cell hgW (o + 1)).trans (by rw [List.getElem?_toArray, List.getElem?_eq_getElem])⟩
  obtain ⟨u2, k2⟩ : ∃ u, W.cell? ⟨g, o + 2, none⟩ = some u := ⟨us[o + 2]'(by omega), (blk_cell hgW (o + 2)).trans (by rw [List.getElem?_toArray, List.getElem?_eq_getElem])⟩
  obtain ⟨u3, k3⟩ : ∃ u, W.cell? ⟨g, o + 3, none⟩ = some u := ⟨us[o + 3]'(by omega), (blk_cell hgW (o + 3)).trans (by rw [List.getElem?_toArray, List.getElem?_eq_getElem])⟩
  obtain ⟨u4, k4⟩ : ∃ u, W.cell? ⟨g, o + 4, none⟩ = some u := ⟨us[o + 4]'(by omega), (blk_cell hgW (o + 4)).trans (by rw [List.getElem?_toArray, List.getElem?_eq_getElem])⟩
  obtain ⟨u5, k5⟩ : ∃ u, W.cell? ⟨g, o + 5, none⟩ = some u := ⟨us[o + 5]'(by omega), (blk_cell hgW (o + 5)).trans (by rw [List.getElem?_toArray, List.getElem?_eq_getElem])⟩
  obtain ⟨u6, k6⟩ : ∃ u, W.cell? ⟨g, o + 6, none⟩ = some u := ⟨us[o + 6]'(by omega), (blk_cell hgW (o + 6)).trans (by rw [List.getElem?_toArray, List.getElem?_eq_getElem])⟩
  have z0 := blk_frozen hgW o
  have z1 := blk_frozen hgW (o + 1)
  have z2 := blk_frozen hgW (o + 2)
  have z3 := blk_frozen hgW (o + 3)
  have z4 := blk_frozen hgW (o + 4)
  have z5 := blk_frozen hgW (o + 5)
  have z6 := blk_frozen hgW (o + 6)
  have z7 := blk_frozen hgW (o + 7)
  have Q := Aside0.mk (And.intro hgW (And.intro hFW ho))
  have e8 : x / 256 % 18446744073709551616 = x / 256 := by omega
  have e16 : x / 65536 % 18446744073709551616 = x / 65536 := by omega
  have e24 : x / 16777216 % 18446744073709551616 = x / 16777216 := by omega
  have e32 : x / 4294967296 % 18446744073709551616 = x / 4294967296 := by omega
  have e40 : x / 1099511627776 % 18446744073709551616 = x / 1099511627776 := by omega
  have e48 : x / 281474976710656 % 18446744073709551616 = x / 281474976710656 := by omega
  have e56 : x / 72057594037927936 % 18446744073709551616 = x / 72057594037927936 := by omega
  obtain ⟨b0, b1, b2', b3', b4, b5, b6, b7⟩ := byteN_eq x
  clear hg hgW hFW ho
  go_enter Tryd.func37, Tryd.ntmps37
  go_upto_region 1 with (fail)
  rw [← hW]
  clear hW
  go_wp2
  go_end0
  obtain ⟨q1, q2, q3⟩ := Q.out
  refine ⟨rfl, ?_, (((((((q2.set g o _ (.inl rfl)).set g (o + 1) _ (.inl rfl)).set g (o + 2) _ (.inl rfl)).set g (o + 3) _ (.inl rfl)).set g (o + 4) _ (.inl rfl)).set g (o + 5) _ (.inl rfl)).set g (o + 6) _ (.inl rfl)).set g (o + 7) _ (.inl rfl)⟩
  have h := blk_set (blk_set (blk_set (blk_set (blk_set (blk_set (blk_set (blk_set q1 o (.int .u8 (byteN x 0))) (o + 1) (.int .u8 (byteN x 1))) (o + 2) (.int .u8 (byteN x 2))) (o + 3) (.int .u8 (byteN x 3))) (o + 4) (.int .u8 (byteN x 4))) (o + 5) (.int .u8 (byteN x 5))) (o + 6) (.int .u8 (byteN x 6))) (o + 7) (.int .u8 (byteN x 7))
  rw [h, show (leB 8 x).map (.int .u8) = [.int .u8 (byteN x 0), .int .u8 (byteN x 1), .int .u8 (byteN x 2), .int .u8 (byteN x 3), .int .u8 (byteN x 4), .int .u8 (byteN x 5), .int .u8 (byteN x 6), (.int .u8 (byteN x 7) : Value)] from rfl]
  rw [← put_cons (by simp; omega), ← put_cons (by simp; omega), ← put_cons (by simp; omega), ← put_cons (by simp; omega), ← put_cons (by simp; omega), ← put_cons (by simp; omega), ← put_cons (by simp; omega), ← put_cons (by simp; omega), put_nil]
  simp
end Go.Proofs.YtlnbkmkdapeicaaDoor.QR
