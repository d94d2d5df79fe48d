/- What impl.SafeInt16 and impl.SafeInt64 return for the eight integer types. -/
import Derived.Test.YtoaibapjnedhlaaGreatSSafe
import Derived.Test.YtoaibapjnedhlaaGreatWMore
import Derived.Test.YtoaibapjnedhlaaGreatProg
import Derived.WalkKit
import Derived.Deep.QuietTactic
import Derived.BigQuiet
import Derived.WideLaws
import Derived.KernelRfl
namespace Go.Proofs.YtoaibapjnedhlaaGreat.QAll
open Go.RowKit Go.Proofs.YtoaibapjnedhlaaGreatW.PrintWords Go.Proofs.YtoaibapjnedhlaaGreatW.PrintLast Go.Proofs.YtoaibapjnedhlaaGreatW.PrintMore
set_option linter.unusedVariables false
theorem k186 (a : Addr) (w : World) : Calls Tryz.prog 186 #[.pointer (some a)] w fun e w' => e = .returned (.int .i64 2) ∧ w = w' := by
  go_enter Tryz.func186, Tryz.ntmps186
  go_wp2
  go_ret
  exact ⟨rfl, rfl⟩
set_option maxRecDepth 100000 in
theorem t20_2 (w : World) : Calls Tryz.prog 20 #[.agg #[.int .i64 2, .int .i64 8, .bool false, .int .i64 0, .int .i64 0, .int .i64 0, .string { data := #[] }, .bool false, .slice none 0 0, .slice none 0 0]] w fun e w' => (∃ a, e = .returned (.iface 117 (.pointer (some a)))) ∧ Below w.heap.size w w' := by
  go_enter Tryz.func20, Tryz.ntmps20
  go_wp2
  go_ret
  exact ⟨⟨_, rfl⟩, by repeat (first | exact Below.refl _ _ | apply below_alloc)⟩
set_option maxRecDepth 100000 in
theorem t11_2 (w : World) : Calls Tryz.prog 11 #[.agg #[.int .i64 2, .int .i64 8, .bool false, .int .i64 0, .int .i64 0, .int .i64 0, .string { data := #[] }, .bool false, .slice none 0 0, .slice none 0 0]] w fun e w' => (∃ a, e = .returned (.iface 117 (.pointer (some a)))) ∧ Below w.heap.size w w' := by
  go_enter Tryz.func11, Tryz.ntmps11
  go_wp2_with (go_at_call 20; refine (t20_2 _).mono ?_; rintro e w' ⟨⟨a, rfl⟩, hb⟩)
  go_ret
  exact ⟨⟨_, rfl⟩, (below_alloc (Below.refl _ _) _).trans (hb.mono (by simp))⟩
theorem k189 (a : Addr) (w : World) : Calls Tryz.prog 189 #[.pointer (some a)] w fun e w' => e = .returned (.int .i64 4) ∧ w = w' := by
  go_enter Tryz.func189, Tryz.ntmps189
  go_wp2
  go_ret
  exact ⟨rfl, rfl⟩
set_option maxRecDepth 100000 in
theorem t20_4 (w : World) : Calls Tryz.prog 20 #[.agg #[.int .i64 2, .int .i64 16, .bool false, .int .i64 0, .int .i64 0, .int .i64 0, .string { data := #[] }, .bool false, .slice none 0 0, .slice none 0 0]] w fun e w' => (∃ a, e = .returned (.iface 119 (.pointer (some a)))) ∧ Below w.heap.size w w' := by
  go_enter Tryz.func20, Tryz.ntmps20
  go_wp2
  go_ret
  exact ⟨⟨_, rfl⟩, by repeat (first | exact Below.refl _ _ | apply below_alloc)⟩
set_option maxRecDepth 100000 in
theorem t11_4 (w : World) : Calls Tryz.prog 11 #[.agg #[.int .i64 2, .int .i64 16, .bool false, .int .i64 0, .int .i64 0, .int .i64 0, .string { data := #[] }, .bool false, .slice none 0 0, .slice none 0 0]] w fun e w' => (∃ a, e = .returned (.iface 119 (.pointer (some a)))) ∧ Below w.heap.size w w' := by
  go_enter Tryz.func11, Tryz.ntmps11
  go_wp2_with (go_at_call 20; refine (t20_4 _).mono ?_; rintro e w' ⟨⟨a, rfl⟩, hb⟩)
  go_ret
  exact ⟨⟨_, rfl⟩, (below_alloc (Below.refl _ _) _).trans (hb.mono (by simp))⟩
theorem k192 (a : Addr) (w : World) : Calls Tryz.prog 192 #[.pointer (some a)] w fun e w' => e = .returned (.int .i64 6) ∧ w = w' := by
  go_enter Tryz.func192, Tryz.ntmps192
  go_wp2
  go_ret
  exact ⟨rfl, rfl⟩
set_option maxRecDepth 100000 in
theorem t20_6 (w : World) : Calls Tryz.prog 20 #[.agg #[.int .i64 2, .int .i64 32, .bool false, .int .i64 0, .int .i64 0, .int .i64 0, .string { data := #[] }, .bool false, .slice none 0 0, .slice none 0 0]] w fun e w' => (∃ a, e = .returned (.iface 121 (.pointer (some a)))) ∧ Below w.heap.size w w' := by
  go_enter Tryz.func20, Tryz.ntmps20
  go_wp2
  go_ret
  exact ⟨⟨_, rfl⟩, by repeat (first | exact Below.refl _ _ | apply below_alloc)⟩
set_option maxRecDepth 100000 in
theorem t11_6 (w : World) : Calls Tryz.prog 11 #[.agg #[.int .i64 2, .int .i64 32, .bool false, .int .i64 0, .int .i64 0, .int .i64 0, .string { data := #[] }, .bool false, .slice none 0 0, .slice none 0 0]] w fun e w' => (∃ a, e = .returned (.iface 121 (.pointer (some a)))) ∧ Below w.heap.size w w' := by
  go_enter Tryz.func11, Tryz.ntmps11
  go_wp2_with (go_at_call 20; refine (t20_6 _).mono ?_; rintro e w' ⟨⟨a, rfl⟩, hb⟩)
  go_ret
  exact ⟨⟨_, rfl⟩, (below_alloc (Below.refl _ _) _).trans (hb.mono (by simp))⟩
theorem k195 (a : Addr) (w : World) : Calls Tryz.prog 195 #[.pointer (some a)] w fun e w' => e = .returned (.int .i64 8) ∧ w = w' := by
  go_enter Tryz.func195, Tryz.ntmps195
  go_wp2
  go_ret
  exact ⟨rfl, rfl⟩
set_option maxRecDepth 100000 in
theorem t20_8 (w : World) : Calls Tryz.prog 20 #[.agg #[.int .i64 2, .int .i64 64, .bool false, .int .i64 0, .int .i64 0, .int .i64 0, .string { data := #[] }, .bool false, .slice none 0 0, .slice none 0 0]] w fun e w' => (∃ a, e = .returned (.iface 123 (.pointer (some a)))) ∧ Below w.heap.size w w' := by
  go_enter Tryz.func20, Tryz.ntmps20
  go_wp2
  go_ret
  exact ⟨⟨_, rfl⟩, by repeat (first | exact Below.refl _ _ | apply below_alloc)⟩
set_option maxRecDepth 100000 in
theorem t11_8 (w : World) : Calls Tryz.prog 11 #[.agg #[.int .i64 2, .int .i64 64, .bool false, .int .i64 0, .int .i64 0, .int .i64 0, .string { data := #[] }, .bool false, .slice none 0 0, .slice none 0 0]] w fun e w' => (∃ a, e = .returned (.iface 123 (.pointer (some a)))) ∧ Below w.heap.size w w' := by
  go_enter Tryz.func11, Tryz.ntmps11
  go_wp2_with (go_at_call 20; refine (t20_8 _).mono ?_; rintro e w' ⟨⟨a, rfl⟩, hb⟩)
  go_ret
  exact ⟨⟨_, rfl⟩, (below_alloc (Below.refl _ _) _).trans (hb.mono (by simp))⟩
theorem k174 (a : Addr) (w : World) : Calls Tryz.prog 174 #[.pointer (some a)] w fun e w' => e = .returned (.int .i64 3) ∧ w = w' := by
  go_enter Tryz.func174, Tryz.ntmps174
  go_wp2
  go_ret
  exact ⟨rfl, rfl⟩
set_option maxRecDepth 100000 in
theorem t20_3 (w : World) : Calls Tryz.prog 20 #[.agg #[.int .i64 2, .int .i64 8, .bool true, .int .i64 0, .int .i64 0, .int .i64 0, .string { data := #[] }, .bool false, .slice none 0 0, .slice none 0 0]] w fun e w' => (∃ a, e = .returned (.iface 109 (.pointer (some a)))) ∧ Below w.heap.size w w' := by
  go_enter Tryz.func20, Tryz.ntmps20
  go_wp2
  go_ret
  exact ⟨⟨_, rfl⟩, by repeat (first | exact Below.refl _ _ | apply below_alloc)⟩
set_option maxRecDepth 100000 in
theorem t11_3 (w : World) : Calls Tryz.prog 11 #[.agg #[.int .i64 2, .int .i64 8, .bool true, .int .i64 0, .int .i64 0, .int .i64 0, .string { data := #[] }, .bool false, .slice none 0 0, .slice none 0 0]] w fun e w' => (∃ a, e = .returned (.iface 109 (.pointer (some a)))) ∧ Below w.heap.size w w' := by
  go_enter Tryz.func11, Tryz.ntmps11
  go_wp2_with (go_at_call 20; refine (t20_3 _).mono ?_; rintro e w' ⟨⟨a, rfl⟩, hb⟩)
  go_ret
  exact ⟨⟨_, rfl⟩, (below_alloc (Below.refl _ _) _).trans (hb.mono (by simp))⟩
theorem k177 (a : Addr) (w : World) : Calls Tryz.prog 177 #[.pointer (some a)] w fun e w' => e = .returned (.int .i64 5) ∧ w = w' := by
  go_enter Tryz.func177, Tryz.ntmps177
  go_wp2
  go_ret
  exact ⟨rfl, rfl⟩
set_option maxRecDepth 100000 in
theorem t20_5 (w : World) : Calls Tryz.prog 20 #[.agg #[.int .i64 2, .int .i64 16, .bool true, .int .i64 0, .int .i64 0, .int .i64 0, .string { data := #[] }, .bool false, .slice none 0 0, .slice none 0 0]] w fun e w' => (∃ a, e = .returned (.iface 111 (.pointer (some a)))) ∧ Below w.heap.size w w' := by
  go_enter Tryz.func20, Tryz.ntmps20
  go_wp2
  go_ret
  exact ⟨⟨_, rfl⟩, by repeat (first | exact Below.refl _ _ | apply below_alloc)⟩
set_option maxRecDepth 100000 in
theorem t11_5 (w : World) : Calls Tryz.prog 11 #[.agg #[.int .i64 2, .int .i64 16, .bool true, .int .i64 0, .int .i64 0, .int .i64 0, .string { data := #[] }, .bool false, .slice none 0 0, .slice none 0 0]] w fun e w' => (∃ a, e = .returned (.iface 111 (.pointer (some a)))) ∧ Below w.heap.size w w' := by
  go_enter Tryz.func11, Tryz.ntmps11
  go_wp2_with (go_at_call 20; refine (t20_5 _).mono ?_; rintro e w' ⟨⟨a, rfl⟩, hb⟩)
  go_ret
  exact ⟨⟨_, rfl⟩, (below_alloc (Below.refl _ _) _).trans (hb.mono (by simp))⟩
theorem k180 (a : Addr) (w : World) : Calls Tryz.prog 180 #[.pointer (some a)] w fun e w' => e = .returned (.int .i64 7) ∧ w = w' := by
  go_enter Tryz.func180, Tryz.ntmps180
  go_wp2
  go_ret
  exact ⟨rfl, rfl⟩
set_option maxRecDepth 100000 in
theorem t20_7 (w : World) : Calls Tryz.prog 20 #[.agg #[.int .i64 2, .int .i64 32, .bool true, .int .i64 0, .int .i64 0, .int .i64 0, .string { data := #[] }, .bool false, .slice none 0 0, .slice none 0 0]] w fun e w' => (∃ a, e = .returned (.iface 113 (.pointer (some a)))) ∧ Below w.heap.size w w' := by
  go_enter Tryz.func20, Tryz.ntmps20
  go_wp2
  go_ret
  exact ⟨⟨_, rfl⟩, by repeat (first | exact Below.refl _ _ | apply below_alloc)⟩
set_option maxRecDepth 100000 in
theorem t11_7 (w : World) : Calls Tryz.prog 11 #[.agg #[.int .i64 2, .int .i64 32, .bool true, .int .i64 0, .int .i64 0, .int .i64 0, .string { data := #[] }, .bool false, .slice none 0 0, .slice none 0 0]] w fun e w' => (∃ a, e = .returned (.iface 113 (.pointer (some a)))) ∧ Below w.heap.size w w' := by
  go_enter Tryz.func11, Tryz.ntmps11
  go_wp2_with (go_at_call 20; refine (t20_7 _).mono ?_; rintro e w' ⟨⟨a, rfl⟩, hb⟩)
  go_ret
  exact ⟨⟨_, rfl⟩, (below_alloc (Below.refl _ _) _).trans (hb.mono (by simp))⟩
theorem k183 (a : Addr) (w : World) : Calls Tryz.prog 183 #[.pointer (some a)] w fun e w' => e = .returned (.int .i64 9) ∧ w = w' := by
  go_enter Tryz.func183, Tryz.ntmps183
  go_wp2
  go_ret
  exact ⟨rfl, rfl⟩
set_option maxRecDepth 100000 in
theorem t20_9 (w : World) : Calls Tryz.prog 20 #[.agg #[.int .i64 2, .int .i64 64, .bool true, .int .i64 0, .int .i64 0, .int .i64 0, .string { data := #[] }, .bool false, .slice none 0 0, .slice none 0 0]] w fun e w' => (∃ a, e = .returned (.iface 115 (.pointer (some a)))) ∧ Below w.heap.size w w' := by
  go_enter Tryz.func20, Tryz.ntmps20
  go_wp2
  go_ret
  exact ⟨⟨_, rfl⟩, by repeat (first | exact Below.refl _ _ | apply below_alloc)⟩
set_option maxRecDepth 100000 in
theorem t11_9 (w : World) : Calls Tryz.prog 11 #[.agg #[.int .i64 2, .int .i64 64, .bool true, .int .i64 0, .int .i64 0, .int .i64 0, .string { data := #[] }, .bool false, .slice none 0 0, .slice none 0 0]] w fun e w' => (∃ a, e = .returned (.iface 115 (.pointer (some a)))) ∧ Below w.heap.size w w' := by
  go_enter Tryz.func11, Tryz.ntmps11
  go_wp2_with (go_at_call 20; refine (t20_9 _).mono ?_; rintro e w' ⟨⟨a, rfl⟩, hb⟩)
  go_ret
  exact ⟨⟨_, rfl⟩, (below_alloc (Below.refl _ _) _).trans (hb.mono (by simp))⟩
set_option maxRecDepth 100000 in
theorem t5_2 (w : World) : Calls Tryz.prog 5 #[.int .i64 8, .bool false] w fun e w' => e = .returned (.tuple #[.int .i16 0, .int .i16 255, .bool true]) ∧ Below w.heap.size w w' := by
  have hm : ∀ (a : Addr) (w : World), (method 348 117 (.pointer (some a)) "ID").run Tryz.prog w = .ok (186, .pointer (some a)) w := fun _ _ => by kernel_rfl
  go_enter Tryz.func5, Tryz.ntmps5
  go_wp2_with (first | (go_at_call 11; refine (t11_2 _).mono ?_; rintro e w' ⟨⟨a, rfl⟩, hb⟩) | (go_at_call 186; refine (k186 _ _).mono ?_; rintro e w' ⟨rfl, rfl⟩) | (go_at_call 12; refine (m12_2 _).mono ?_; rintro e w' ⟨rfl, rfl⟩))
  go_ret3
  exact ⟨rfl, hb⟩
set_option maxRecDepth 100000 in
theorem t5_4 (w : World) : Calls Tryz.prog 5 #[.int .i64 16, .bool false] w fun e w' => e = .returned (.tuple #[.int .i16 0, .int .i16 32767, .bool true]) ∧ Below w.heap.size w w' := by
  have hm : ∀ (a : Addr) (w : World), (method 348 119 (.pointer (some a)) "ID").run Tryz.prog w = .ok (189, .pointer (some a)) w := fun _ _ => by kernel_rfl
  go_enter Tryz.func5, Tryz.ntmps5
  go_wp2_with (first | (go_at_call 11; refine (t11_4 _).mono ?_; rintro e w' ⟨⟨a, rfl⟩, hb⟩) | (go_at_call 189; refine (k189 _ _).mono ?_; rintro e w' ⟨rfl, rfl⟩) | (go_at_call 12; refine (m12_4 _).mono ?_; rintro e w' ⟨rfl, rfl⟩))
  go_ret3
  exact ⟨rfl, hb⟩
set_option maxRecDepth 100000 in
theorem t5_6 (w : World) : Calls Tryz.prog 5 #[.int .i64 32, .bool false] w fun e w' => e = .returned (.tuple #[.int .i16 0, .int .i16 32767, .bool true]) ∧ Below w.heap.size w w' := by
  have hm : ∀ (a : Addr) (w : World), (method 348 121 (.pointer (some a)) "ID").run Tryz.prog w = .ok (192, .pointer (some a)) w := fun _ _ => by kernel_rfl
  go_enter Tryz.func5, Tryz.ntmps5
  go_wp2_with (first | (go_at_call 11; refine (t11_6 _).mono ?_; rintro e w' ⟨⟨a, rfl⟩, hb⟩) | (go_at_call 192; refine (k192 _ _).mono ?_; rintro e w' ⟨rfl, rfl⟩) | (go_at_call 12; refine (m12_6 _).mono ?_; rintro e w' ⟨rfl, rfl⟩))
  go_ret3
  exact ⟨rfl, hb⟩
set_option maxRecDepth 100000 in
theorem t5_8 (w : World) : Calls Tryz.prog 5 #[.int .i64 64, .bool false] w fun e w' => e = .returned (.tuple #[.int .i16 0, .int .i16 32767, .bool true]) ∧ Below w.heap.size w w' := by
  have hm : ∀ (a : Addr) (w : World), (method 348 123 (.pointer (some a)) "ID").run Tryz.prog w = .ok (195, .pointer (some a)) w := fun _ _ => by kernel_rfl
  go_enter Tryz.func5, Tryz.ntmps5
  go_wp2_with (first | (go_at_call 11; refine (t11_8 _).mono ?_; rintro e w' ⟨⟨a, rfl⟩, hb⟩) | (go_at_call 195; refine (k195 _ _).mono ?_; rintro e w' ⟨rfl, rfl⟩) | (go_at_call 12; refine (m12_8 _).mono ?_; rintro e w' ⟨rfl, rfl⟩))
  go_ret3
  exact ⟨rfl, hb⟩
set_option maxRecDepth 100000 in
theorem t5_3 (w : World) : Calls Tryz.prog 5 #[.int .i64 8, .bool true] w fun e w' => e = .returned (.tuple #[.int .i16 (-128), .int .i16 127, .bool true]) ∧ Below w.heap.size w w' := by
  have hm : ∀ (a : Addr) (w : World), (method 348 109 (.pointer (some a)) "ID").run Tryz.prog w = .ok (174, .pointer (some a)) w := fun _ _ => by kernel_rfl
  go_enter Tryz.func5, Tryz.ntmps5
  go_wp2_with (first | (go_at_call 11; refine (t11_3 _).mono ?_; rintro e w' ⟨⟨a, rfl⟩, hb⟩) | (go_at_call 174; refine (k174 _ _).mono ?_; rintro e w' ⟨rfl, rfl⟩) | (go_at_call 12; refine (m12_3 _).mono ?_; rintro e w' ⟨rfl, rfl⟩))
  go_ret3
  exact ⟨rfl, hb⟩
set_option maxRecDepth 100000 in
theorem t5_5 (w : World) : Calls Tryz.prog 5 #[.int .i64 16, .bool true] w fun e w' => e = .returned (.tuple #[.int .i16 (-32768), .int .i16 32767, .bool true]) ∧ Below w.heap.size w w' := by
  have hm : ∀ (a : Addr) (w : World), (method 348 111 (.pointer (some a)) "ID").run Tryz.prog w = .ok (177, .pointer (some a)) w := fun _ _ => by kernel_rfl
  go_enter Tryz.func5, Tryz.ntmps5
  go_wp2_with (first | (go_at_call 11; refine (t11_5 _).mono ?_; rintro e w' ⟨⟨a, rfl⟩, hb⟩) | (go_at_call 177; refine (k177 _ _).mono ?_; rintro e w' ⟨rfl, rfl⟩) | (go_at_call 12; refine (m12_5 _).mono ?_; rintro e w' ⟨rfl, rfl⟩))
  go_ret3
  exact ⟨rfl, hb⟩
set_option maxRecDepth 100000 in
theorem t5_7 (w : World) : Calls Tryz.prog 5 #[.int .i64 32, .bool true] w fun e w' => e = .returned (.tuple #[.int .i16 (-32768), .int .i16 32767, .bool true]) ∧ Below w.heap.size w w' := by
  have hm : ∀ (a : Addr) (w : World), (method 348 113 (.pointer (some a)) "ID").run Tryz.prog w = .ok (180, .pointer (some a)) w := fun _ _ => by kernel_rfl
  go_enter Tryz.func5, Tryz.ntmps5
  go_wp2_with (first | (go_at_call 11; refine (t11_7 _).mono ?_; rintro e w' ⟨⟨a, rfl⟩, hb⟩) | (go_at_call 180; refine (k180 _ _).mono ?_; rintro e w' ⟨rfl, rfl⟩) | (go_at_call 12; refine (m12_7 _).mono ?_; rintro e w' ⟨rfl, rfl⟩))
  go_ret3
  exact ⟨rfl, hb⟩
set_option maxRecDepth 100000 in
theorem t5_9 (w : World) : Calls Tryz.prog 5 #[.int .i64 64, .bool true] w fun e w' => e = .returned (.tuple #[.int .i16 (-32768), .int .i16 32767, .bool true]) ∧ Below w.heap.size w w' := by
  have hm : ∀ (a : Addr) (w : World), (method 348 115 (.pointer (some a)) "ID").run Tryz.prog w = .ok (183, .pointer (some a)) w := fun _ _ => by kernel_rfl
  go_enter Tryz.func5, Tryz.ntmps5
  go_wp2_with (first | (go_at_call 11; refine (t11_9 _).mono ?_; rintro e w' ⟨⟨a, rfl⟩, hb⟩) | (go_at_call 183; refine (k183 _ _).mono ?_; rintro e w' ⟨rfl, rfl⟩) | (go_at_call 12; refine (m12_9 _).mono ?_; rintro e w' ⟨rfl, rfl⟩))
  go_ret3
  exact ⟨rfl, hb⟩
/-- What impl.SafeInt16 returns for the eight integer types. -/
def impl_SafeInt16.f (w : Int) (s : Bool) : Option (Int × Int × Bool) :=
  if w = 8 ∧ s = false then some (0, 255, true) else
  if w = 16 ∧ s = false then some (0, 32767, true) else
  if w = 32 ∧ s = false then some (0, 32767, true) else
  if w = 64 ∧ s = false then some (0, 32767, true) else
  if w = 8 ∧ s = true then some (-128, 127, true) else
  if w = 16 ∧ s = true then some (-32768, 32767, true) else
  if w = 32 ∧ s = true then some (-32768, 32767, true) else
  if w = 64 ∧ s = true then some (-32768, 32767, true) else
  none
theorem impl_SafeInt16.calls (a0 : Int) (a1 : Bool) (r1 : Int) (r2 : Int) (r3 : Bool) (w : World) (h : impl_SafeInt16.f a0 a1 = some (r1, r2, r3)) : Calls Tryz.prog 5 #[.int .i64 a0, .bool a1] w fun e w' => e = .returned (.tuple #[.int .i16 r1, .int .i16 r2, .bool r3]) ∧ Below w.heap.size w w' := by
  unfold impl_SafeInt16.f at h
  by_cases c0 : a0 = 8 ∧ a1 = false
  · rw [if_pos c0] at h
    have h2 := Option.some.inj h
    simp only [Prod.mk.injEq] at h2
    obtain ⟨rfl, rfl, rfl⟩ := h2
    obtain ⟨rfl, rfl⟩ := c0
    exact t5_2 w
  rw [if_neg c0] at h
  by_cases c1 : a0 = 16 ∧ a1 = false
  · rw [if_pos c1] at h
    have h2 := Option.some.inj h
    simp only [Prod.mk.injEq] at h2
    obtain ⟨rfl, rfl, rfl⟩ := h2
    obtain ⟨rfl, rfl⟩ := c1
    exact t5_4 w
  rw [if_neg c1] at h
  by_cases c2 : a0 = 32 ∧ a1 = false
  · rw [if_pos c2] at h
    have h2 := Option.some.inj h
    simp only [Prod.mk.injEq] at h2
    obtain ⟨rfl, rfl, rfl⟩ := h2
    obtain ⟨rfl, rfl⟩ := c2
    exact t5_6 w
  rw [if_neg c2] at h
  by_cases c3 : a0 = 64 ∧ a1 = false
  · rw [if_pos c3] at h
    have h2 := Option.some.inj h
    simp only [Prod.mk.injEq] at h2
    obtain ⟨rfl, rfl, rfl⟩ := h2
    obtain ⟨rfl, rfl⟩ := c3
    exact t5_8 w
  rw [if_neg c3] at h
  by_cases c4 : a0 = 8 ∧ a1 = true
  · rw [if_pos c4] at h
    have h2 := Option.some.inj h
    simp only [Prod.mk.injEq] at h2
    obtain ⟨rfl, rfl, rfl⟩ := h2
    obtain ⟨rfl, rfl⟩ := c4
    exact t5_3 w
  rw [if_neg c4] at h
  by_cases c5 : a0 = 16 ∧ a1 = true
  · rw [if_pos c5] at h
    have h2 := Option.some.inj h
    simp only [Prod.mk.injEq] at h2
    obtain ⟨rfl, rfl, rfl⟩ := h2
    obtain ⟨rfl, rfl⟩ := c5
    exact t5_5 w
  rw [if_neg c5] at h
  by_cases c6 : a0 = 32 ∧ a1 = true
  · rw [if_pos c6] at h
    have h2 := Option.some.inj h
    simp only [Prod.mk.injEq] at h2
    obtain ⟨rfl, rfl, rfl⟩ := h2
    obtain ⟨rfl, rfl⟩ := c6
    exact t5_7 w
  rw [if_neg c6] at h
  by_cases c7 : a0 = 64 ∧ a1 = true
  · rw [if_pos c7] at h
    have h2 := Option.some.inj h
    simp only [Prod.mk.injEq] at h2
    obtain ⟨rfl, rfl, rfl⟩ := h2
    obtain ⟨rfl, rfl⟩ := c7
    exact t5_9 w
  rw [if_neg c7] at h
  cases h
set_option maxRecDepth 100000 in
theorem t10_2 (w : World) : Calls Tryz.prog 10 #[.int .i64 8, .bool false] w fun e w' => e = .returned (.tuple #[.int .i64 0, .int .i64 255, .bool true]) ∧ Below w.heap.size w w' := by
  have hm : ∀ (a : Addr) (w : World), (method 348 117 (.pointer (some a)) "ID").run Tryz.prog w = .ok (186, .pointer (some a)) w := fun _ _ => by kernel_rfl
  go_enter Tryz.func10, Tryz.ntmps10
  go_wp2_with (first | (go_at_call 11; refine (t11_2 _).mono ?_; rintro e w' ⟨⟨a, rfl⟩, hb⟩) | (go_at_call 186; refine (k186 _ _).mono ?_; rintro e w' ⟨rfl, rfl⟩) | (go_at_call 19; refine (m19_2 _).mono ?_; rintro e w' ⟨rfl, rfl⟩))
  go_ret3
  exact ⟨rfl, hb⟩
set_option maxRecDepth 100000 in
theorem t10_4 (w : World) : Calls Tryz.prog 10 #[.int .i64 16, .bool false] w fun e w' => e = .returned (.tuple #[.int .i64 0, .int .i64 65535, .bool true]) ∧ Below w.heap.size w w' := by
  have hm : ∀ (a : Addr) (w : World), (method 348 119 (.pointer (some a)) "ID").run Tryz.prog w = .ok (189, .pointer (some a)) w := fun _ _ => by kernel_rfl
  go_enter Tryz.func10, Tryz.ntmps10
  go_wp2_with (first | (go_at_call 11; refine (t11_4 _).mono ?_; rintro e w' ⟨⟨a, rfl⟩, hb⟩) | (go_at_call 189; refine (k189 _ _).mono ?_; rintro e w' ⟨rfl, rfl⟩) | (go_at_call 19; refine (m19_4 _).mono ?_; rintro e w' ⟨rfl, rfl⟩))
  go_ret3
  exact ⟨rfl, hb⟩
set_option maxRecDepth 100000 in
theorem t10_6 (w : World) : Calls Tryz.prog 10 #[.int .i64 32, .bool false] w fun e w' => e = .returned (.tuple #[.int .i64 0, .int .i64 4294967295, .bool true]) ∧ Below w.heap.size w w' := by
  have hm : ∀ (a : Addr) (w : World), (method 348 121 (.pointer (some a)) "ID").run Tryz.prog w = .ok (192, .pointer (some a)) w := fun _ _ => by kernel_rfl
  go_enter Tryz.func10, Tryz.ntmps10
  go_wp2_with (first | (go_at_call 11; refine (t11_6 _).mono ?_; rintro e w' ⟨⟨a, rfl⟩, hb⟩) | (go_at_call 192; refine (k192 _ _).mono ?_; rintro e w' ⟨rfl, rfl⟩) | (go_at_call 19; refine (m19_6 _).mono ?_; rintro e w' ⟨rfl, rfl⟩))
  go_ret3
  exact ⟨rfl, hb⟩
set_option maxRecDepth 100000 in
theorem t10_8 (w : World) : Calls Tryz.prog 10 #[.int .i64 64, .bool false] w fun e w' => e = .returned (.tuple #[.int .i64 0, .int .i64 9223372036854775807, .bool true]) ∧ Below w.heap.size w w' := by
  have hm : ∀ (a : Addr) (w : World), (method 348 123 (.pointer (some a)) "ID").run Tryz.prog w = .ok (195, .pointer (some a)) w := fun _ _ => by kernel_rfl
  go_enter Tryz.func10, Tryz.ntmps10
  go_wp2_with (first | (go_at_call 11; refine (t11_8 _).mono ?_; rintro e w' ⟨⟨a, rfl⟩, hb⟩) | (go_at_call 195; refine (k195 _ _).mono ?_; rintro e w' ⟨rfl, rfl⟩) | (go_at_call 19; refine (m19_8 _).mono ?_; rintro e w' ⟨rfl, rfl⟩))
  go_ret3
  exact ⟨rfl, hb⟩
set_option maxRecDepth 100000 in
theorem t10_3 (w : World) : Calls Tryz.prog 10 #[.int .i64 8, .bool true] w fun e w' => e = .returned (.tuple #[.int .i64 (-128), .int .i64 127, .bool true]) ∧ Below w.heap.size w w' := by
  have hm : ∀ (a : Addr) (w : World), (method 348 109 (.pointer (some a)) "ID").run Tryz.prog w = .ok (174, .pointer (some a)) w := fun _ _ => by kernel_rfl
  go_enter Tryz.func10, Tryz.ntmps10
  go_wp2_with (first | (go_at_call 11; refine (t11_3 _).mono ?_; rintro e w' ⟨⟨a, rfl⟩, hb⟩) | (go_at_call 174; refine (k174 _ _).mono ?_; rintro e w' ⟨rfl, rfl⟩) | (go_at_call 19; refine (m19_3 _).mono ?_; rintro e w' ⟨rfl, rfl⟩))
  go_ret3
  exact ⟨rfl, hb⟩
set_option maxRecDepth 100000 in
theorem t10_5 (w : World) : Calls Tryz.prog 10 #[.int .i64 16, .bool true] w fun e w' => e = .returned (.tuple #[.int .i64 (-32768), .int .i64 32767, .bool true]) ∧ Below w.heap.size w w' := by
  have hm : ∀ (a : Addr) (w : World), (method 348 111 (.pointer (some a)) "ID").run Tryz.prog w = .ok (177, .pointer (some a)) w := fun _ _ => by kernel_rfl
  go_enter Tryz.func10, Tryz.ntmps10
  go_wp2_with (first | (go_at_call 11; refine (t11_5 _).mono ?_; rintro e w' ⟨⟨a, rfl⟩, hb⟩) | (go_at_call 177; refine (k177 _ _).mono ?_; rintro e w' ⟨rfl, rfl⟩) | (go_at_call 19; refine (m19_5 _).mono ?_; rintro e w' ⟨rfl, rfl⟩))
  go_ret3
  exact ⟨rfl, hb⟩
set_option maxRecDepth 100000 in
theorem t10_7 (w : World) : Calls Tryz.prog 10 #[.int .i64 32, .bool true] w fun e w' => e = .returned (.tuple #[.int .i64 (-2147483648), .int .i64 2147483647, .bool true]) ∧ Below w.heap.size w w' := by
  have hm : ∀ (a : Addr) (w : World), (method 348 113 (.pointer (some a)) "ID").run Tryz.prog w = .ok (180, .pointer (some a)) w := fun _ _ => by kernel_rfl
  go_enter Tryz.func10, Tryz.ntmps10
  go_wp2_with (first | (go_at_call 11; refine (t11_7 _).mono ?_; rintro e w' ⟨⟨a, rfl⟩, hb⟩) | (go_at_call 180; refine (k180 _ _).mono ?_; rintro e w' ⟨rfl, rfl⟩) | (go_at_call 19; refine (m19_7 _).mono ?_; rintro e w' ⟨rfl, rfl⟩))
  go_ret3
  exact ⟨rfl, hb⟩
set_option maxRecDepth 100000 in
theorem t10_9 (w : World) : Calls Tryz.prog 10 #[.int .i64 64, .bool true] w fun e w' => e = .returned (.tuple #[.int .i64 (-9223372036854775808), .int .i64 9223372036854775807, .bool true]) ∧ Below w.heap.size w w' := by
  have hm : ∀ (a : Addr) (w : World), (method 348 115 (.pointer (some a)) "ID").run Tryz.prog w = .ok (183, .pointer (some a)) w := fun _ _ => by kernel_rfl
  go_enter Tryz.func10, Tryz.ntmps10
  go_wp2_with (first | (go_at_call 11; refine (t11_9 _).mono ?_; rintro e w' ⟨⟨a, rfl⟩, hb⟩) | (go_at_call 183; refine (k183 _ _).mono ?_; rintro e w' ⟨rfl, rfl⟩) | (go_at_call 19; refine (m19_9 _).mono ?_; rintro e w' ⟨rfl, rfl⟩))
  go_ret3
  exact ⟨rfl, hb⟩
/-- What impl.SafeInt64 returns for the eight integer types. -/
def impl_SafeInt64.f (w : Int) (s : Bool) : Option (Int × Int × Bool) :=
  if w = 8 ∧ s = false then some (0, 255, true) else
  if w = 16 ∧ s = false then some (0, 65535, true) else
  if w = 32 ∧ s = false then some (0, 4294967295, true) else
  if w = 64 ∧ s = false then some (0, 9223372036854775807, true) else
  if w = 8 ∧ s = true then some (-128, 127, true) else
  if w = 16 ∧ s = true then some (-32768, 32767, true) else
  if w = 32 ∧ s = true then some (-2147483648, 2147483647, true) else
  if w = 64 ∧ s = true then some (-9223372036854775808, 9223372036854775807, true) else
  none
theorem impl_SafeInt64.calls (a0 : Int) (a1 : Bool) (r1 : Int) (r2 : Int) (r3 : Bool) (w : World) (h : impl_SafeInt64.f a0 a1 = some (r1, r2, r3)) : Calls Tryz.prog 10 #[.int .i64 a0, .bool a1] w fun e w' => e = .returned (.tuple #[.int .i64 r1, .int .i64 r2, .bool r3]) ∧ Below w.heap.size w w' := by
  unfold impl_SafeInt64.f at h
  by_cases c0 : a0 = 8 ∧ a1 = false
  · rw [if_pos c0] at h
    have h2 := Option.some.inj h
    simp only [Prod.mk.injEq] at h2
    obtain ⟨rfl, rfl, rfl⟩ := h2
    obtain ⟨rfl, rfl⟩ := c0
    exact t10_2 w
  rw [if_neg c0] at h
  by_cases c1 : a0 = 16 ∧ a1 = false
  · rw [if_pos c1] at h
    have h2 := Option.some.inj h
    simp only [Prod.mk.injEq] at h2
    obtain ⟨rfl, rfl, rfl⟩ := h2
    obtain ⟨rfl, rfl⟩ := c1
    exact t10_4 w
  rw [if_neg c1] at h
  by_cases c2 : a0 = 32 ∧ a1 = false
  · rw [if_pos c2] at h
    have h2 := Option.some.inj h
    simp only [Prod.mk.injEq] at h2
    obtain ⟨rfl, rfl, rfl⟩ := h2
    obtain ⟨rfl, rfl⟩ := c2
    exact t10_6 w
  rw [if_neg c2] at h
  by_cases c3 : a0 = 64 ∧ a1 = false
  · rw [if_pos c3] at h
    have h2 := Option.some.inj h
    simp only [Prod.mk.injEq] at h2
    obtain ⟨rfl, rfl, rfl⟩ := h2
    obtain ⟨rfl, rfl⟩ := c3
    exact t10_8 w
  rw [if_neg c3] at h
  by_cases c4 : a0 = 8 ∧ a1 = true
  · rw [if_pos c4] at h
    have h2 := Option.some.inj h
    simp only [Prod.mk.injEq] at h2
    obtain ⟨rfl, rfl, rfl⟩ := h2
    obtain ⟨rfl, rfl⟩ := c4
    exact t10_3 w
  rw [if_neg c4] at h
  by_cases c5 : a0 = 16 ∧ a1 = true
  · rw [if_pos c5] at h
    have h2 := Option.some.inj h
    simp only [Prod.mk.injEq] at h2
    obtain ⟨rfl, rfl, rfl⟩ := h2
    obtain ⟨rfl, rfl⟩ := c5
    exact t10_5 w
  rw [if_neg c5] at h
  by_cases c6 : a0 = 32 ∧ a1 = true
  · rw [if_pos c6] at h
    have h2 := Option.some.inj h
    simp only [Prod.mk.injEq] at h2
    obtain ⟨rfl, rfl, rfl⟩ := h2
    obtain ⟨rfl, rfl⟩ := c6
    exact t10_7 w
  rw [if_neg c6] at h
  by_cases c7 : a0 = 64 ∧ a1 = true
  · rw [if_pos c7] at h
    have h2 := Option.some.inj h
    simp only [Prod.mk.injEq] at h2
    obtain ⟨rfl, rfl, rfl⟩ := h2
    obtain ⟨rfl, rfl⟩ := c7
    exact t10_9 w
  rw [if_neg c7] at h
  cases h
end Go.Proofs.YtoaibapjnedhlaaGreat.QAll
