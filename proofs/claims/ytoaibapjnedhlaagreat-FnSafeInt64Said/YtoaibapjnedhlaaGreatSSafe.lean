/- The bounds that an integer type of eight has within another one, by the kernels: each function's number. -/
import Derived.Test.YtoaibapjnedhlaaGreatWMore
import Derived.Test.YtoaibapjnedhlaaGreatProg
import Derived.WalkKit
import Derived.Deep.QuietTactic
import Derived.BigQuiet
import Derived.WideLaws
import Derived.KernelRfl
namespace Go.Proofs.YtoaibapjnedhlaaGreat.QAll
open Go.RowKit Go.Proofs.YtoaibapjnedhlaaGreatW.PrintWords Go.Proofs.YtoaibapjnedhlaaGreatW.PrintLast Go.Proofs.YtoaibapjnedhlaaGreatW.PrintMore
set_option linter.unusedVariables false
theorem c74 (w : World) : Calls Tryz.prog 74 #[] w fun e w' => e = .returned (.int .u64 2) ∧ w = w' := by
  go_enter Tryz.func74, Tryz.ntmps74
  go_wp2
  go_ret
  exact ⟨congrArg (fun x => Ending.returned (Value.int .u64 x)) (by decide +kernel), rfl⟩
theorem c75 (w : World) : Calls Tryz.prog 75 #[] w fun e w' => e = .returned (.int .u64 1) ∧ w = w' := by
  go_enter Tryz.func75, Tryz.ntmps75
  go_wp2
  go_ret
  exact ⟨congrArg (fun x => Ending.returned (Value.int .u64 x)) (by decide +kernel), rfl⟩
theorem c76 (w : World) : Calls Tryz.prog 76 #[] w fun e w' => e = .returned (.int .i16 32767) ∧ w = w' := by
  go_enter Tryz.func76, Tryz.ntmps76
  go_wp2_with (first | (go_at_call 74; refine (c74 _).mono ?_; rintro e w' ⟨rfl, rfl⟩))
  go_ret
  exact ⟨congrArg (fun x => Ending.returned (Value.int .i16 x)) (by decide +kernel), rfl⟩
theorem c77 (w : World) : Calls Tryz.prog 77 #[] w fun e w' => e = .returned (.int .u8 255) ∧ w = w' := by
  go_enter Tryz.func77, Tryz.ntmps77
  go_wp2_with (first | (go_at_call 75; refine (c75 _).mono ?_; rintro e w' ⟨rfl, rfl⟩))
  go_ret
  exact ⟨congrArg (fun x => Ending.returned (Value.int .u8 x)) (by decide +kernel), rfl⟩
theorem c40 (w : World) : Calls Tryz.prog 40 #[] w fun e w' => e = .returned (.int .i16 255) ∧ w = w' := by
  go_enter Tryz.func40, Tryz.ntmps40
  go_wp2_with (first | (go_at_call 74; refine (c74 _).mono ?_; rintro e w' ⟨rfl, rfl⟩) | (go_at_call 75; refine (c75 _).mono ?_; rintro e w' ⟨rfl, rfl⟩) | (go_at_call 76; refine (c76 _).mono ?_; rintro e w' ⟨rfl, rfl⟩) | (go_at_call 77; refine (c77 _).mono ?_; rintro e w' ⟨rfl, rfl⟩))
  go_ret
  exact ⟨congrArg (fun x => Ending.returned (Value.int .i16 x)) (by decide +kernel), rfl⟩
theorem c78 (w : World) : Calls Tryz.prog 78 #[] w fun e w' => e = .returned (.int .u64 2) ∧ w = w' := by
  go_enter Tryz.func78, Tryz.ntmps78
  go_wp2
  go_ret
  exact ⟨congrArg (fun x => Ending.returned (Value.int .u64 x)) (by decide +kernel), rfl⟩
theorem c79 (w : World) : Calls Tryz.prog 79 #[] w fun e w' => e = .returned (.int .u16 65535) ∧ w = w' := by
  go_enter Tryz.func79, Tryz.ntmps79
  go_wp2_with (first | (go_at_call 78; refine (c78 _).mono ?_; rintro e w' ⟨rfl, rfl⟩))
  go_ret
  exact ⟨congrArg (fun x => Ending.returned (Value.int .u16 x)) (by decide +kernel), rfl⟩
theorem c41 (w : World) : Calls Tryz.prog 41 #[] w fun e w' => e = .returned (.int .i16 32767) ∧ w = w' := by
  go_enter Tryz.func41, Tryz.ntmps41
  go_wp2_with (first | (go_at_call 74; refine (c74 _).mono ?_; rintro e w' ⟨rfl, rfl⟩) | (go_at_call 76; refine (c76 _).mono ?_; rintro e w' ⟨rfl, rfl⟩) | (go_at_call 78; refine (c78 _).mono ?_; rintro e w' ⟨rfl, rfl⟩) | (go_at_call 79; refine (c79 _).mono ?_; rintro e w' ⟨rfl, rfl⟩))
  go_ret
  exact ⟨congrArg (fun x => Ending.returned (Value.int .i16 x)) (by decide +kernel), rfl⟩
theorem c80 (w : World) : Calls Tryz.prog 80 #[] w fun e w' => e = .returned (.int .u64 4) ∧ w = w' := by
  go_enter Tryz.func80, Tryz.ntmps80
  go_wp2
  go_ret
  exact ⟨congrArg (fun x => Ending.returned (Value.int .u64 x)) (by decide +kernel), rfl⟩
theorem c81 (w : World) : Calls Tryz.prog 81 #[] w fun e w' => e = .returned (.int .u32 4294967295) ∧ w = w' := by
  go_enter Tryz.func81, Tryz.ntmps81
  go_wp2_with (first | (go_at_call 80; refine (c80 _).mono ?_; rintro e w' ⟨rfl, rfl⟩))
  go_ret
  exact ⟨congrArg (fun x => Ending.returned (Value.int .u32 x)) (by decide +kernel), rfl⟩
theorem c42 (w : World) : Calls Tryz.prog 42 #[] w fun e w' => e = .returned (.int .i16 32767) ∧ w = w' := by
  go_enter Tryz.func42, Tryz.ntmps42
  go_wp2_with (first | (go_at_call 74; refine (c74 _).mono ?_; rintro e w' ⟨rfl, rfl⟩) | (go_at_call 76; refine (c76 _).mono ?_; rintro e w' ⟨rfl, rfl⟩) | (go_at_call 80; refine (c80 _).mono ?_; rintro e w' ⟨rfl, rfl⟩) | (go_at_call 81; refine (c81 _).mono ?_; rintro e w' ⟨rfl, rfl⟩))
  go_ret
  exact ⟨congrArg (fun x => Ending.returned (Value.int .i16 x)) (by decide +kernel), rfl⟩
theorem c82 (w : World) : Calls Tryz.prog 82 #[] w fun e w' => e = .returned (.int .u64 8) ∧ w = w' := by
  go_enter Tryz.func82, Tryz.ntmps82
  go_wp2
  go_ret
  exact ⟨congrArg (fun x => Ending.returned (Value.int .u64 x)) (by decide +kernel), rfl⟩
theorem c83 (w : World) : Calls Tryz.prog 83 #[] w fun e w' => e = .returned (.int .u64 18446744073709551615) ∧ w = w' := by
  go_enter Tryz.func83, Tryz.ntmps83
  go_wp2_with (first | (go_at_call 82; refine (c82 _).mono ?_; rintro e w' ⟨rfl, rfl⟩))
  go_ret
  exact ⟨congrArg (fun x => Ending.returned (Value.int .u64 x)) (by decide +kernel), rfl⟩
theorem c43 (w : World) : Calls Tryz.prog 43 #[] w fun e w' => e = .returned (.int .i16 32767) ∧ w = w' := by
  go_enter Tryz.func43, Tryz.ntmps43
  go_wp2_with (first | (go_at_call 74; refine (c74 _).mono ?_; rintro e w' ⟨rfl, rfl⟩) | (go_at_call 76; refine (c76 _).mono ?_; rintro e w' ⟨rfl, rfl⟩) | (go_at_call 82; refine (c82 _).mono ?_; rintro e w' ⟨rfl, rfl⟩) | (go_at_call 83; refine (c83 _).mono ?_; rintro e w' ⟨rfl, rfl⟩))
  go_ret
  exact ⟨congrArg (fun x => Ending.returned (Value.int .i16 x)) (by decide +kernel), rfl⟩
theorem c84 (w : World) : Calls Tryz.prog 84 #[] w fun e w' => e = .returned (.int .u64 1) ∧ w = w' := by
  go_enter Tryz.func84, Tryz.ntmps84
  go_wp2
  go_ret
  exact ⟨congrArg (fun x => Ending.returned (Value.int .u64 x)) (by decide +kernel), rfl⟩
theorem c85 (w : World) : Calls Tryz.prog 85 #[] w fun e w' => e = .returned (.int .i8 (-128)) ∧ w = w' := by
  go_enter Tryz.func85, Tryz.ntmps85
  go_wp2_with (first | (go_at_call 84; refine (c84 _).mono ?_; rintro e w' ⟨rfl, rfl⟩))
  go_ret
  exact ⟨congrArg (fun x => Ending.returned (Value.int .i8 x)) (by decide +kernel), rfl⟩
theorem c86 (w : World) : Calls Tryz.prog 86 #[] w fun e w' => e = .returned (.int .i16 (-32768)) ∧ w = w' := by
  go_enter Tryz.func86, Tryz.ntmps86
  go_wp2_with (first | (go_at_call 74; refine (c74 _).mono ?_; rintro e w' ⟨rfl, rfl⟩))
  go_ret
  exact ⟨congrArg (fun x => Ending.returned (Value.int .i16 x)) (by decide +kernel), rfl⟩
theorem c44 (w : World) : Calls Tryz.prog 44 #[] w fun e w' => e = .returned (.int .i16 (-128)) ∧ w = w' := by
  go_enter Tryz.func44, Tryz.ntmps44
  go_wp2_with (first | (go_at_call 74; refine (c74 _).mono ?_; rintro e w' ⟨rfl, rfl⟩) | (go_at_call 84; refine (c84 _).mono ?_; rintro e w' ⟨rfl, rfl⟩) | (go_at_call 85; refine (c85 _).mono ?_; rintro e w' ⟨rfl, rfl⟩) | (go_at_call 86; refine (c86 _).mono ?_; rintro e w' ⟨rfl, rfl⟩))
  go_ret
  exact ⟨congrArg (fun x => Ending.returned (Value.int .i16 x)) (by decide +kernel), rfl⟩
theorem c87 (w : World) : Calls Tryz.prog 87 #[] w fun e w' => e = .returned (.int .i8 127) ∧ w = w' := by
  go_enter Tryz.func87, Tryz.ntmps87
  go_wp2_with (first | (go_at_call 84; refine (c84 _).mono ?_; rintro e w' ⟨rfl, rfl⟩))
  go_ret
  exact ⟨congrArg (fun x => Ending.returned (Value.int .i8 x)) (by decide +kernel), rfl⟩
theorem c45 (w : World) : Calls Tryz.prog 45 #[] w fun e w' => e = .returned (.int .i16 127) ∧ w = w' := by
  go_enter Tryz.func45, Tryz.ntmps45
  go_wp2_with (first | (go_at_call 74; refine (c74 _).mono ?_; rintro e w' ⟨rfl, rfl⟩) | (go_at_call 76; refine (c76 _).mono ?_; rintro e w' ⟨rfl, rfl⟩) | (go_at_call 84; refine (c84 _).mono ?_; rintro e w' ⟨rfl, rfl⟩) | (go_at_call 87; refine (c87 _).mono ?_; rintro e w' ⟨rfl, rfl⟩))
  go_ret
  exact ⟨congrArg (fun x => Ending.returned (Value.int .i16 x)) (by decide +kernel), rfl⟩
theorem c46 (w : World) : Calls Tryz.prog 46 #[] w fun e w' => e = .returned (.int .i16 (-32768)) ∧ w = w' := by
  go_enter Tryz.func46, Tryz.ntmps46
  go_wp2_with (first | (go_at_call 74; refine (c74 _).mono ?_; rintro e w' ⟨rfl, rfl⟩) | (go_at_call 86; refine (c86 _).mono ?_; rintro e w' ⟨rfl, rfl⟩))
  go_ret
  exact ⟨congrArg (fun x => Ending.returned (Value.int .i16 x)) (by decide +kernel), rfl⟩
theorem c47 (w : World) : Calls Tryz.prog 47 #[] w fun e w' => e = .returned (.int .i16 32767) ∧ w = w' := by
  go_enter Tryz.func47, Tryz.ntmps47
  go_wp2_with (first | (go_at_call 74; refine (c74 _).mono ?_; rintro e w' ⟨rfl, rfl⟩) | (go_at_call 76; refine (c76 _).mono ?_; rintro e w' ⟨rfl, rfl⟩))
  go_ret
  exact ⟨congrArg (fun x => Ending.returned (Value.int .i16 x)) (by decide +kernel), rfl⟩
theorem c88 (w : World) : Calls Tryz.prog 88 #[] w fun e w' => e = .returned (.int .u64 4) ∧ w = w' := by
  go_enter Tryz.func88, Tryz.ntmps88
  go_wp2
  go_ret
  exact ⟨congrArg (fun x => Ending.returned (Value.int .u64 x)) (by decide +kernel), rfl⟩
theorem c89 (w : World) : Calls Tryz.prog 89 #[] w fun e w' => e = .returned (.int .i32 (-2147483648)) ∧ w = w' := by
  go_enter Tryz.func89, Tryz.ntmps89
  go_wp2_with (first | (go_at_call 88; refine (c88 _).mono ?_; rintro e w' ⟨rfl, rfl⟩))
  go_ret
  exact ⟨congrArg (fun x => Ending.returned (Value.int .i32 x)) (by decide +kernel), rfl⟩
theorem c48 (w : World) : Calls Tryz.prog 48 #[] w fun e w' => e = .returned (.int .i16 (-32768)) ∧ w = w' := by
  go_enter Tryz.func48, Tryz.ntmps48
  go_wp2_with (first | (go_at_call 74; refine (c74 _).mono ?_; rintro e w' ⟨rfl, rfl⟩) | (go_at_call 86; refine (c86 _).mono ?_; rintro e w' ⟨rfl, rfl⟩) | (go_at_call 88; refine (c88 _).mono ?_; rintro e w' ⟨rfl, rfl⟩) | (go_at_call 89; refine (c89 _).mono ?_; rintro e w' ⟨rfl, rfl⟩))
  go_ret
  exact ⟨congrArg (fun x => Ending.returned (Value.int .i16 x)) (by decide +kernel), rfl⟩
theorem c90 (w : World) : Calls Tryz.prog 90 #[] w fun e w' => e = .returned (.int .i32 2147483647) ∧ w = w' := by
  go_enter Tryz.func90, Tryz.ntmps90
  go_wp2_with (first | (go_at_call 88; refine (c88 _).mono ?_; rintro e w' ⟨rfl, rfl⟩))
  go_ret
  exact ⟨congrArg (fun x => Ending.returned (Value.int .i32 x)) (by decide +kernel), rfl⟩
theorem c49 (w : World) : Calls Tryz.prog 49 #[] w fun e w' => e = .returned (.int .i16 32767) ∧ w = w' := by
  go_enter Tryz.func49, Tryz.ntmps49
  go_wp2_with (first | (go_at_call 74; refine (c74 _).mono ?_; rintro e w' ⟨rfl, rfl⟩) | (go_at_call 76; refine (c76 _).mono ?_; rintro e w' ⟨rfl, rfl⟩) | (go_at_call 88; refine (c88 _).mono ?_; rintro e w' ⟨rfl, rfl⟩) | (go_at_call 90; refine (c90 _).mono ?_; rintro e w' ⟨rfl, rfl⟩))
  go_ret
  exact ⟨congrArg (fun x => Ending.returned (Value.int .i16 x)) (by decide +kernel), rfl⟩
theorem c91 (w : World) : Calls Tryz.prog 91 #[] w fun e w' => e = .returned (.int .u64 8) ∧ w = w' := by
  go_enter Tryz.func91, Tryz.ntmps91
  go_wp2
  go_ret
  exact ⟨congrArg (fun x => Ending.returned (Value.int .u64 x)) (by decide +kernel), rfl⟩
theorem c92 (w : World) : Calls Tryz.prog 92 #[] w fun e w' => e = .returned (.int .i64 (-9223372036854775808)) ∧ w = w' := by
  go_enter Tryz.func92, Tryz.ntmps92
  go_wp2_with (first | (go_at_call 91; refine (c91 _).mono ?_; rintro e w' ⟨rfl, rfl⟩))
  go_ret
  exact ⟨congrArg (fun x => Ending.returned (Value.int .i64 x)) (by decide +kernel), rfl⟩
theorem c50 (w : World) : Calls Tryz.prog 50 #[] w fun e w' => e = .returned (.int .i16 (-32768)) ∧ w = w' := by
  go_enter Tryz.func50, Tryz.ntmps50
  go_wp2_with (first | (go_at_call 74; refine (c74 _).mono ?_; rintro e w' ⟨rfl, rfl⟩) | (go_at_call 86; refine (c86 _).mono ?_; rintro e w' ⟨rfl, rfl⟩) | (go_at_call 91; refine (c91 _).mono ?_; rintro e w' ⟨rfl, rfl⟩) | (go_at_call 92; refine (c92 _).mono ?_; rintro e w' ⟨rfl, rfl⟩))
  go_ret
  exact ⟨congrArg (fun x => Ending.returned (Value.int .i16 x)) (by decide +kernel), rfl⟩
theorem c93 (w : World) : Calls Tryz.prog 93 #[] w fun e w' => e = .returned (.int .i64 9223372036854775807) ∧ w = w' := by
  go_enter Tryz.func93, Tryz.ntmps93
  go_wp2_with (first | (go_at_call 91; refine (c91 _).mono ?_; rintro e w' ⟨rfl, rfl⟩))
  go_ret
  exact ⟨congrArg (fun x => Ending.returned (Value.int .i64 x)) (by decide +kernel), rfl⟩
theorem c51 (w : World) : Calls Tryz.prog 51 #[] w fun e w' => e = .returned (.int .i16 32767) ∧ w = w' := by
  go_enter Tryz.func51, Tryz.ntmps51
  go_wp2_with (first | (go_at_call 74; refine (c74 _).mono ?_; rintro e w' ⟨rfl, rfl⟩) | (go_at_call 76; refine (c76 _).mono ?_; rintro e w' ⟨rfl, rfl⟩) | (go_at_call 91; refine (c91 _).mono ?_; rintro e w' ⟨rfl, rfl⟩) | (go_at_call 93; refine (c93 _).mono ?_; rintro e w' ⟨rfl, rfl⟩))
  go_ret
  exact ⟨congrArg (fun x => Ending.returned (Value.int .i16 x)) (by decide +kernel), rfl⟩
theorem c56 (w : World) : Calls Tryz.prog 56 #[] w fun e w' => e = .returned (.int .i64 255) ∧ w = w' := by
  go_enter Tryz.func56, Tryz.ntmps56
  go_wp2_with (first | (go_at_call 75; refine (c75 _).mono ?_; rintro e w' ⟨rfl, rfl⟩) | (go_at_call 77; refine (c77 _).mono ?_; rintro e w' ⟨rfl, rfl⟩) | (go_at_call 91; refine (c91 _).mono ?_; rintro e w' ⟨rfl, rfl⟩) | (go_at_call 93; refine (c93 _).mono ?_; rintro e w' ⟨rfl, rfl⟩))
  go_ret
  exact ⟨congrArg (fun x => Ending.returned (Value.int .i64 x)) (by decide +kernel), rfl⟩
theorem c57 (w : World) : Calls Tryz.prog 57 #[] w fun e w' => e = .returned (.int .i64 65535) ∧ w = w' := by
  go_enter Tryz.func57, Tryz.ntmps57
  go_wp2_with (first | (go_at_call 78; refine (c78 _).mono ?_; rintro e w' ⟨rfl, rfl⟩) | (go_at_call 79; refine (c79 _).mono ?_; rintro e w' ⟨rfl, rfl⟩) | (go_at_call 91; refine (c91 _).mono ?_; rintro e w' ⟨rfl, rfl⟩) | (go_at_call 93; refine (c93 _).mono ?_; rintro e w' ⟨rfl, rfl⟩))
  go_ret
  exact ⟨congrArg (fun x => Ending.returned (Value.int .i64 x)) (by decide +kernel), rfl⟩
theorem c58 (w : World) : Calls Tryz.prog 58 #[] w fun e w' => e = .returned (.int .i64 4294967295) ∧ w = w' := by
  go_enter Tryz.func58, Tryz.ntmps58
  go_wp2_with (first | (go_at_call 80; refine (c80 _).mono ?_; rintro e w' ⟨rfl, rfl⟩) | (go_at_call 81; refine (c81 _).mono ?_; rintro e w' ⟨rfl, rfl⟩) | (go_at_call 91; refine (c91 _).mono ?_; rintro e w' ⟨rfl, rfl⟩) | (go_at_call 93; refine (c93 _).mono ?_; rintro e w' ⟨rfl, rfl⟩))
  go_ret
  exact ⟨congrArg (fun x => Ending.returned (Value.int .i64 x)) (by decide +kernel), rfl⟩
theorem c59 (w : World) : Calls Tryz.prog 59 #[] w fun e w' => e = .returned (.int .i64 9223372036854775807) ∧ w = w' := by
  go_enter Tryz.func59, Tryz.ntmps59
  go_wp2_with (first | (go_at_call 82; refine (c82 _).mono ?_; rintro e w' ⟨rfl, rfl⟩) | (go_at_call 83; refine (c83 _).mono ?_; rintro e w' ⟨rfl, rfl⟩) | (go_at_call 91; refine (c91 _).mono ?_; rintro e w' ⟨rfl, rfl⟩) | (go_at_call 93; refine (c93 _).mono ?_; rintro e w' ⟨rfl, rfl⟩))
  go_ret
  exact ⟨congrArg (fun x => Ending.returned (Value.int .i64 x)) (by decide +kernel), rfl⟩
theorem c60 (w : World) : Calls Tryz.prog 60 #[] w fun e w' => e = .returned (.int .i64 (-128)) ∧ w = w' := by
  go_enter Tryz.func60, Tryz.ntmps60
  go_wp2_with (first | (go_at_call 84; refine (c84 _).mono ?_; rintro e w' ⟨rfl, rfl⟩) | (go_at_call 85; refine (c85 _).mono ?_; rintro e w' ⟨rfl, rfl⟩) | (go_at_call 91; refine (c91 _).mono ?_; rintro e w' ⟨rfl, rfl⟩) | (go_at_call 92; refine (c92 _).mono ?_; rintro e w' ⟨rfl, rfl⟩))
  go_ret
  exact ⟨congrArg (fun x => Ending.returned (Value.int .i64 x)) (by decide +kernel), rfl⟩
theorem c61 (w : World) : Calls Tryz.prog 61 #[] w fun e w' => e = .returned (.int .i64 127) ∧ w = w' := by
  go_enter Tryz.func61, Tryz.ntmps61
  go_wp2_with (first | (go_at_call 84; refine (c84 _).mono ?_; rintro e w' ⟨rfl, rfl⟩) | (go_at_call 87; refine (c87 _).mono ?_; rintro e w' ⟨rfl, rfl⟩) | (go_at_call 91; refine (c91 _).mono ?_; rintro e w' ⟨rfl, rfl⟩) | (go_at_call 93; refine (c93 _).mono ?_; rintro e w' ⟨rfl, rfl⟩))
  go_ret
  exact ⟨congrArg (fun x => Ending.returned (Value.int .i64 x)) (by decide +kernel), rfl⟩
theorem c62 (w : World) : Calls Tryz.prog 62 #[] w fun e w' => e = .returned (.int .i64 (-32768)) ∧ w = w' := by
  go_enter Tryz.func62, Tryz.ntmps62
  go_wp2_with (first | (go_at_call 74; refine (c74 _).mono ?_; rintro e w' ⟨rfl, rfl⟩) | (go_at_call 86; refine (c86 _).mono ?_; rintro e w' ⟨rfl, rfl⟩) | (go_at_call 91; refine (c91 _).mono ?_; rintro e w' ⟨rfl, rfl⟩) | (go_at_call 92; refine (c92 _).mono ?_; rintro e w' ⟨rfl, rfl⟩))
  go_ret
  exact ⟨congrArg (fun x => Ending.returned (Value.int .i64 x)) (by decide +kernel), rfl⟩
theorem c63 (w : World) : Calls Tryz.prog 63 #[] w fun e w' => e = .returned (.int .i64 32767) ∧ w = w' := by
  go_enter Tryz.func63, Tryz.ntmps63
  go_wp2_with (first | (go_at_call 74; refine (c74 _).mono ?_; rintro e w' ⟨rfl, rfl⟩) | (go_at_call 76; refine (c76 _).mono ?_; rintro e w' ⟨rfl, rfl⟩) | (go_at_call 91; refine (c91 _).mono ?_; rintro e w' ⟨rfl, rfl⟩) | (go_at_call 93; refine (c93 _).mono ?_; rintro e w' ⟨rfl, rfl⟩))
  go_ret
  exact ⟨congrArg (fun x => Ending.returned (Value.int .i64 x)) (by decide +kernel), rfl⟩
theorem c64 (w : World) : Calls Tryz.prog 64 #[] w fun e w' => e = .returned (.int .i64 (-2147483648)) ∧ w = w' := by
  go_enter Tryz.func64, Tryz.ntmps64
  go_wp2_with (first | (go_at_call 88; refine (c88 _).mono ?_; rintro e w' ⟨rfl, rfl⟩) | (go_at_call 89; refine (c89 _).mono ?_; rintro e w' ⟨rfl, rfl⟩) | (go_at_call 91; refine (c91 _).mono ?_; rintro e w' ⟨rfl, rfl⟩) | (go_at_call 92; refine (c92 _).mono ?_; rintro e w' ⟨rfl, rfl⟩))
  go_ret
  exact ⟨congrArg (fun x => Ending.returned (Value.int .i64 x)) (by decide +kernel), rfl⟩
theorem c65 (w : World) : Calls Tryz.prog 65 #[] w fun e w' => e = .returned (.int .i64 2147483647) ∧ w = w' := by
  go_enter Tryz.func65, Tryz.ntmps65
  go_wp2_with (first | (go_at_call 88; refine (c88 _).mono ?_; rintro e w' ⟨rfl, rfl⟩) | (go_at_call 90; refine (c90 _).mono ?_; rintro e w' ⟨rfl, rfl⟩) | (go_at_call 91; refine (c91 _).mono ?_; rintro e w' ⟨rfl, rfl⟩) | (go_at_call 93; refine (c93 _).mono ?_; rintro e w' ⟨rfl, rfl⟩))
  go_ret
  exact ⟨congrArg (fun x => Ending.returned (Value.int .i64 x)) (by decide +kernel), rfl⟩
theorem c66 (w : World) : Calls Tryz.prog 66 #[] w fun e w' => e = .returned (.int .i64 (-9223372036854775808)) ∧ w = w' := by
  go_enter Tryz.func66, Tryz.ntmps66
  go_wp2_with (first | (go_at_call 91; refine (c91 _).mono ?_; rintro e w' ⟨rfl, rfl⟩) | (go_at_call 92; refine (c92 _).mono ?_; rintro e w' ⟨rfl, rfl⟩))
  go_ret
  exact ⟨congrArg (fun x => Ending.returned (Value.int .i64 x)) (by decide +kernel), rfl⟩
theorem c67 (w : World) : Calls Tryz.prog 67 #[] w fun e w' => e = .returned (.int .i64 9223372036854775807) ∧ w = w' := by
  go_enter Tryz.func67, Tryz.ntmps67
  go_wp2_with (first | (go_at_call 91; refine (c91 _).mono ?_; rintro e w' ⟨rfl, rfl⟩) | (go_at_call 93; refine (c93 _).mono ?_; rintro e w' ⟨rfl, rfl⟩))
  go_ret
  exact ⟨congrArg (fun x => Ending.returned (Value.int .i64 x)) (by decide +kernel), rfl⟩
theorem m23_2 (w : World) : Calls Tryz.prog 23 #[.int .i64 2] w fun e w' => e = .returned (.tuple #[.int .i16 0, .int .i16 255]) ∧ w = w' := by
  go_enter Tryz.func23, Tryz.ntmps23
  go_wp2_with (first | (go_at_call 40; refine (c40 _).mono ?_; rintro e w' ⟨rfl, rfl⟩) | (go_at_call 41; refine (c41 _).mono ?_; rintro e w' ⟨rfl, rfl⟩) | (go_at_call 42; refine (c42 _).mono ?_; rintro e w' ⟨rfl, rfl⟩) | (go_at_call 43; refine (c43 _).mono ?_; rintro e w' ⟨rfl, rfl⟩) | (go_at_call 44; refine (c44 _).mono ?_; rintro e w' ⟨rfl, rfl⟩) | (go_at_call 45; refine (c45 _).mono ?_; rintro e w' ⟨rfl, rfl⟩) | (go_at_call 46; refine (c46 _).mono ?_; rintro e w' ⟨rfl, rfl⟩) | (go_at_call 47; refine (c47 _).mono ?_; rintro e w' ⟨rfl, rfl⟩) | (go_at_call 48; refine (c48 _).mono ?_; rintro e w' ⟨rfl, rfl⟩) | (go_at_call 49; refine (c49 _).mono ?_; rintro e w' ⟨rfl, rfl⟩) | (go_at_call 50; refine (c50 _).mono ?_; rintro e w' ⟨rfl, rfl⟩) | (go_at_call 51; refine (c51 _).mono ?_; rintro e w' ⟨rfl, rfl⟩))
  go_ret2
  exact ⟨rfl, rfl⟩
theorem m12_2 (w : World) : Calls Tryz.prog 12 #[.int .i64 2] w fun e w' => e = .returned (.tuple #[.int .i16 0, .int .i16 255]) ∧ w = w' := by
  go_enter Tryz.func12, Tryz.ntmps12
  go_wp2_with (go_at_call 23; refine (m23_2 _).mono ?_; rintro e w' ⟨rfl, rfl⟩)
  go_ret2
  exact ⟨rfl, rfl⟩
theorem m23_4 (w : World) : Calls Tryz.prog 23 #[.int .i64 4] w fun e w' => e = .returned (.tuple #[.int .i16 0, .int .i16 32767]) ∧ w = w' := by
  go_enter Tryz.func23, Tryz.ntmps23
  go_wp2_with (first | (go_at_call 40; refine (c40 _).mono ?_; rintro e w' ⟨rfl, rfl⟩) | (go_at_call 41; refine (c41 _).mono ?_; rintro e w' ⟨rfl, rfl⟩) | (go_at_call 42; refine (c42 _).mono ?_; rintro e w' ⟨rfl, rfl⟩) | (go_at_call 43; refine (c43 _).mono ?_; rintro e w' ⟨rfl, rfl⟩) | (go_at_call 44; refine (c44 _).mono ?_; rintro e w' ⟨rfl, rfl⟩) | (go_at_call 45; refine (c45 _).mono ?_; rintro e w' ⟨rfl, rfl⟩) | (go_at_call 46; refine (c46 _).mono ?_; rintro e w' ⟨rfl, rfl⟩) | (go_at_call 47; refine (c47 _).mono ?_; rintro e w' ⟨rfl, rfl⟩) | (go_at_call 48; refine (c48 _).mono ?_; rintro e w' ⟨rfl, rfl⟩) | (go_at_call 49; refine (c49 _).mono ?_; rintro e w' ⟨rfl, rfl⟩) | (go_at_call 50; refine (c50 _).mono ?_; rintro e w' ⟨rfl, rfl⟩) | (go_at_call 51; refine (c51 _).mono ?_; rintro e w' ⟨rfl, rfl⟩))
  go_ret2
  exact ⟨rfl, rfl⟩
theorem m12_4 (w : World) : Calls Tryz.prog 12 #[.int .i64 4] w fun e w' => e = .returned (.tuple #[.int .i16 0, .int .i16 32767]) ∧ w = w' := by
  go_enter Tryz.func12, Tryz.ntmps12
  go_wp2_with (go_at_call 23; refine (m23_4 _).mono ?_; rintro e w' ⟨rfl, rfl⟩)
  go_ret2
  exact ⟨rfl, rfl⟩
theorem m23_6 (w : World) : Calls Tryz.prog 23 #[.int .i64 6] w fun e w' => e = .returned (.tuple #[.int .i16 0, .int .i16 32767]) ∧ w = w' := by
  go_enter Tryz.func23, Tryz.ntmps23
  go_wp2_with (first | (go_at_call 40; refine (c40 _).mono ?_; rintro e w' ⟨rfl, rfl⟩) | (go_at_call 41; refine (c41 _).mono ?_; rintro e w' ⟨rfl, rfl⟩) | (go_at_call 42; refine (c42 _).mono ?_; rintro e w' ⟨rfl, rfl⟩) | (go_at_call 43; refine (c43 _).mono ?_; rintro e w' ⟨rfl, rfl⟩) | (go_at_call 44; refine (c44 _).mono ?_; rintro e w' ⟨rfl, rfl⟩) | (go_at_call 45; refine (c45 _).mono ?_; rintro e w' ⟨rfl, rfl⟩) | (go_at_call 46; refine (c46 _).mono ?_; rintro e w' ⟨rfl, rfl⟩) | (go_at_call 47; refine (c47 _).mono ?_; rintro e w' ⟨rfl, rfl⟩) | (go_at_call 48; refine (c48 _).mono ?_; rintro e w' ⟨rfl, rfl⟩) | (go_at_call 49; refine (c49 _).mono ?_; rintro e w' ⟨rfl, rfl⟩) | (go_at_call 50; refine (c50 _).mono ?_; rintro e w' ⟨rfl, rfl⟩) | (go_at_call 51; refine (c51 _).mono ?_; rintro e w' ⟨rfl, rfl⟩))
  go_ret2
  exact ⟨rfl, rfl⟩
theorem m12_6 (w : World) : Calls Tryz.prog 12 #[.int .i64 6] w fun e w' => e = .returned (.tuple #[.int .i16 0, .int .i16 32767]) ∧ w = w' := by
  go_enter Tryz.func12, Tryz.ntmps12
  go_wp2_with (go_at_call 23; refine (m23_6 _).mono ?_; rintro e w' ⟨rfl, rfl⟩)
  go_ret2
  exact ⟨rfl, rfl⟩
theorem m23_8 (w : World) : Calls Tryz.prog 23 #[.int .i64 8] w fun e w' => e = .returned (.tuple #[.int .i16 0, .int .i16 32767]) ∧ w = w' := by
  go_enter Tryz.func23, Tryz.ntmps23
  go_wp2_with (first | (go_at_call 40; refine (c40 _).mono ?_; rintro e w' ⟨rfl, rfl⟩) | (go_at_call 41; refine (c41 _).mono ?_; rintro e w' ⟨rfl, rfl⟩) | (go_at_call 42; refine (c42 _).mono ?_; rintro e w' ⟨rfl, rfl⟩) | (go_at_call 43; refine (c43 _).mono ?_; rintro e w' ⟨rfl, rfl⟩) | (go_at_call 44; refine (c44 _).mono ?_; rintro e w' ⟨rfl, rfl⟩) | (go_at_call 45; refine (c45 _).mono ?_; rintro e w' ⟨rfl, rfl⟩) | (go_at_call 46; refine (c46 _).mono ?_; rintro e w' ⟨rfl, rfl⟩) | (go_at_call 47; refine (c47 _).mono ?_; rintro e w' ⟨rfl, rfl⟩) | (go_at_call 48; refine (c48 _).mono ?_; rintro e w' ⟨rfl, rfl⟩) | (go_at_call 49; refine (c49 _).mono ?_; rintro e w' ⟨rfl, rfl⟩) | (go_at_call 50; refine (c50 _).mono ?_; rintro e w' ⟨rfl, rfl⟩) | (go_at_call 51; refine (c51 _).mono ?_; rintro e w' ⟨rfl, rfl⟩))
  go_ret2
  exact ⟨rfl, rfl⟩
theorem m12_8 (w : World) : Calls Tryz.prog 12 #[.int .i64 8] w fun e w' => e = .returned (.tuple #[.int .i16 0, .int .i16 32767]) ∧ w = w' := by
  go_enter Tryz.func12, Tryz.ntmps12
  go_wp2_with (go_at_call 23; refine (m23_8 _).mono ?_; rintro e w' ⟨rfl, rfl⟩)
  go_ret2
  exact ⟨rfl, rfl⟩
theorem m23_3 (w : World) : Calls Tryz.prog 23 #[.int .i64 3] w fun e w' => e = .returned (.tuple #[.int .i16 (-128), .int .i16 127]) ∧ w = w' := by
  go_enter Tryz.func23, Tryz.ntmps23
  go_wp2_with (first | (go_at_call 40; refine (c40 _).mono ?_; rintro e w' ⟨rfl, rfl⟩) | (go_at_call 41; refine (c41 _).mono ?_; rintro e w' ⟨rfl, rfl⟩) | (go_at_call 42; refine (c42 _).mono ?_; rintro e w' ⟨rfl, rfl⟩) | (go_at_call 43; refine (c43 _).mono ?_; rintro e w' ⟨rfl, rfl⟩) | (go_at_call 44; refine (c44 _).mono ?_; rintro e w' ⟨rfl, rfl⟩) | (go_at_call 45; refine (c45 _).mono ?_; rintro e w' ⟨rfl, rfl⟩) | (go_at_call 46; refine (c46 _).mono ?_; rintro e w' ⟨rfl, rfl⟩) | (go_at_call 47; refine (c47 _).mono ?_; rintro e w' ⟨rfl, rfl⟩) | (go_at_call 48; refine (c48 _).mono ?_; rintro e w' ⟨rfl, rfl⟩) | (go_at_call 49; refine (c49 _).mono ?_; rintro e w' ⟨rfl, rfl⟩) | (go_at_call 50; refine (c50 _).mono ?_; rintro e w' ⟨rfl, rfl⟩) | (go_at_call 51; refine (c51 _).mono ?_; rintro e w' ⟨rfl, rfl⟩))
  go_ret2
  exact ⟨rfl, rfl⟩
theorem m12_3 (w : World) : Calls Tryz.prog 12 #[.int .i64 3] w fun e w' => e = .returned (.tuple #[.int .i16 (-128), .int .i16 127]) ∧ w = w' := by
  go_enter Tryz.func12, Tryz.ntmps12
  go_wp2_with (go_at_call 23; refine (m23_3 _).mono ?_; rintro e w' ⟨rfl, rfl⟩)
  go_ret2
  exact ⟨rfl, rfl⟩
theorem m23_5 (w : World) : Calls Tryz.prog 23 #[.int .i64 5] w fun e w' => e = .returned (.tuple #[.int .i16 (-32768), .int .i16 32767]) ∧ w = w' := by
  go_enter Tryz.func23, Tryz.ntmps23
  go_wp2_with (first | (go_at_call 40; refine (c40 _).mono ?_; rintro e w' ⟨rfl, rfl⟩) | (go_at_call 41; refine (c41 _).mono ?_; rintro e w' ⟨rfl, rfl⟩) | (go_at_call 42; refine (c42 _).mono ?_; rintro e w' ⟨rfl, rfl⟩) | (go_at_call 43; refine (c43 _).mono ?_; rintro e w' ⟨rfl, rfl⟩) | (go_at_call 44; refine (c44 _).mono ?_; rintro e w' ⟨rfl, rfl⟩) | (go_at_call 45; refine (c45 _).mono ?_; rintro e w' ⟨rfl, rfl⟩) | (go_at_call 46; refine (c46 _).mono ?_; rintro e w' ⟨rfl, rfl⟩) | (go_at_call 47; refine (c47 _).mono ?_; rintro e w' ⟨rfl, rfl⟩) | (go_at_call 48; refine (c48 _).mono ?_; rintro e w' ⟨rfl, rfl⟩) | (go_at_call 49; refine (c49 _).mono ?_; rintro e w' ⟨rfl, rfl⟩) | (go_at_call 50; refine (c50 _).mono ?_; rintro e w' ⟨rfl, rfl⟩) | (go_at_call 51; refine (c51 _).mono ?_; rintro e w' ⟨rfl, rfl⟩))
  go_ret2
  exact ⟨rfl, rfl⟩
theorem m12_5 (w : World) : Calls Tryz.prog 12 #[.int .i64 5] w fun e w' => e = .returned (.tuple #[.int .i16 (-32768), .int .i16 32767]) ∧ w = w' := by
  go_enter Tryz.func12, Tryz.ntmps12
  go_wp2_with (go_at_call 23; refine (m23_5 _).mono ?_; rintro e w' ⟨rfl, rfl⟩)
  go_ret2
  exact ⟨rfl, rfl⟩
theorem m23_7 (w : World) : Calls Tryz.prog 23 #[.int .i64 7] w fun e w' => e = .returned (.tuple #[.int .i16 (-32768), .int .i16 32767]) ∧ w = w' := by
  go_enter Tryz.func23, Tryz.ntmps23
  go_wp2_with (first | (go_at_call 40; refine (c40 _).mono ?_; rintro e w' ⟨rfl, rfl⟩) | (go_at_call 41; refine (c41 _).mono ?_; rintro e w' ⟨rfl, rfl⟩) | (go_at_call 42; refine (c42 _).mono ?_; rintro e w' ⟨rfl, rfl⟩) | (go_at_call 43; refine (c43 _).mono ?_; rintro e w' ⟨rfl, rfl⟩) | (go_at_call 44; refine (c44 _).mono ?_; rintro e w' ⟨rfl, rfl⟩) | (go_at_call 45; refine (c45 _).mono ?_; rintro e w' ⟨rfl, rfl⟩) | (go_at_call 46; refine (c46 _).mono ?_; rintro e w' ⟨rfl, rfl⟩) | (go_at_call 47; refine (c47 _).mono ?_; rintro e w' ⟨rfl, rfl⟩) | (go_at_call 48; refine (c48 _).mono ?_; rintro e w' ⟨rfl, rfl⟩) | (go_at_call 49; refine (c49 _).mono ?_; rintro e w' ⟨rfl, rfl⟩) | (go_at_call 50; refine (c50 _).mono ?_; rintro e w' ⟨rfl, rfl⟩) | (go_at_call 51; refine (c51 _).mono ?_; rintro e w' ⟨rfl, rfl⟩))
  go_ret2
  exact ⟨rfl, rfl⟩
theorem m12_7 (w : World) : Calls Tryz.prog 12 #[.int .i64 7] w fun e w' => e = .returned (.tuple #[.int .i16 (-32768), .int .i16 32767]) ∧ w = w' := by
  go_enter Tryz.func12, Tryz.ntmps12
  go_wp2_with (go_at_call 23; refine (m23_7 _).mono ?_; rintro e w' ⟨rfl, rfl⟩)
  go_ret2
  exact ⟨rfl, rfl⟩
theorem m23_9 (w : World) : Calls Tryz.prog 23 #[.int .i64 9] w fun e w' => e = .returned (.tuple #[.int .i16 (-32768), .int .i16 32767]) ∧ w = w' := by
  go_enter Tryz.func23, Tryz.ntmps23
  go_wp2_with (first | (go_at_call 40; refine (c40 _).mono ?_; rintro e w' ⟨rfl, rfl⟩) | (go_at_call 41; refine (c41 _).mono ?_; rintro e w' ⟨rfl, rfl⟩) | (go_at_call 42; refine (c42 _).mono ?_; rintro e w' ⟨rfl, rfl⟩) | (go_at_call 43; refine (c43 _).mono ?_; rintro e w' ⟨rfl, rfl⟩) | (go_at_call 44; refine (c44 _).mono ?_; rintro e w' ⟨rfl, rfl⟩) | (go_at_call 45; refine (c45 _).mono ?_; rintro e w' ⟨rfl, rfl⟩) | (go_at_call 46; refine (c46 _).mono ?_; rintro e w' ⟨rfl, rfl⟩) | (go_at_call 47; refine (c47 _).mono ?_; rintro e w' ⟨rfl, rfl⟩) | (go_at_call 48; refine (c48 _).mono ?_; rintro e w' ⟨rfl, rfl⟩) | (go_at_call 49; refine (c49 _).mono ?_; rintro e w' ⟨rfl, rfl⟩) | (go_at_call 50; refine (c50 _).mono ?_; rintro e w' ⟨rfl, rfl⟩) | (go_at_call 51; refine (c51 _).mono ?_; rintro e w' ⟨rfl, rfl⟩))
  go_ret2
  exact ⟨rfl, rfl⟩
theorem m12_9 (w : World) : Calls Tryz.prog 12 #[.int .i64 9] w fun e w' => e = .returned (.tuple #[.int .i16 (-32768), .int .i16 32767]) ∧ w = w' := by
  go_enter Tryz.func12, Tryz.ntmps12
  go_wp2_with (go_at_call 23; refine (m23_9 _).mono ?_; rintro e w' ⟨rfl, rfl⟩)
  go_ret2
  exact ⟨rfl, rfl⟩
theorem m28_2 (w : World) : Calls Tryz.prog 28 #[.int .i64 2] w fun e w' => e = .returned (.tuple #[.int .i64 0, .int .i64 255]) ∧ w = w' := by
  go_enter Tryz.func28, Tryz.ntmps28
  go_wp2_with (first | (go_at_call 56; refine (c56 _).mono ?_; rintro e w' ⟨rfl, rfl⟩) | (go_at_call 57; refine (c57 _).mono ?_; rintro e w' ⟨rfl, rfl⟩) | (go_at_call 58; refine (c58 _).mono ?_; rintro e w' ⟨rfl, rfl⟩) | (go_at_call 59; refine (c59 _).mono ?_; rintro e w' ⟨rfl, rfl⟩) | (go_at_call 60; refine (c60 _).mono ?_; rintro e w' ⟨rfl, rfl⟩) | (go_at_call 61; refine (c61 _).mono ?_; rintro e w' ⟨rfl, rfl⟩) | (go_at_call 62; refine (c62 _).mono ?_; rintro e w' ⟨rfl, rfl⟩) | (go_at_call 63; refine (c63 _).mono ?_; rintro e w' ⟨rfl, rfl⟩) | (go_at_call 64; refine (c64 _).mono ?_; rintro e w' ⟨rfl, rfl⟩) | (go_at_call 65; refine (c65 _).mono ?_; rintro e w' ⟨rfl, rfl⟩) | (go_at_call 66; refine (c66 _).mono ?_; rintro e w' ⟨rfl, rfl⟩) | (go_at_call 67; refine (c67 _).mono ?_; rintro e w' ⟨rfl, rfl⟩))
  go_ret2
  exact ⟨rfl, rfl⟩
theorem m19_2 (w : World) : Calls Tryz.prog 19 #[.int .i64 2] w fun e w' => e = .returned (.tuple #[.int .i64 0, .int .i64 255]) ∧ w = w' := by
  go_enter Tryz.func19, Tryz.ntmps19
  go_wp2_with (go_at_call 28; refine (m28_2 _).mono ?_; rintro e w' ⟨rfl, rfl⟩)
  go_ret2
  exact ⟨rfl, rfl⟩
theorem m28_4 (w : World) : Calls Tryz.prog 28 #[.int .i64 4] w fun e w' => e = .returned (.tuple #[.int .i64 0, .int .i64 65535]) ∧ w = w' := by
  go_enter Tryz.func28, Tryz.ntmps28
  go_wp2_with (first | (go_at_call 56; refine (c56 _).mono ?_; rintro e w' ⟨rfl, rfl⟩) | (go_at_call 57; refine (c57 _).mono ?_; rintro e w' ⟨rfl, rfl⟩) | (go_at_call 58; refine (c58 _).mono ?_; rintro e w' ⟨rfl, rfl⟩) | (go_at_call 59; refine (c59 _).mono ?_; rintro e w' ⟨rfl, rfl⟩) | (go_at_call 60; refine (c60 _).mono ?_; rintro e w' ⟨rfl, rfl⟩) | (go_at_call 61; refine (c61 _).mono ?_; rintro e w' ⟨rfl, rfl⟩) | (go_at_call 62; refine (c62 _).mono ?_; rintro e w' ⟨rfl, rfl⟩) | (go_at_call 63; refine (c63 _).mono ?_; rintro e w' ⟨rfl, rfl⟩) | (go_at_call 64; refine (c64 _).mono ?_; rintro e w' ⟨rfl, rfl⟩) | (go_at_call 65; refine (c65 _).mono ?_; rintro e w' ⟨rfl, rfl⟩) | (go_at_call 66; refine (c66 _).mono ?_; rintro e w' ⟨rfl, rfl⟩) | (go_at_call 67; refine (c67 _).mono ?_; rintro e w' ⟨rfl, rfl⟩))
  go_ret2
  exact ⟨rfl, rfl⟩
theorem m19_4 (w : World) : Calls Tryz.prog 19 #[.int .i64 4] w fun e w' => e = .returned (.tuple #[.int .i64 0, .int .i64 65535]) ∧ w = w' := by
  go_enter Tryz.func19, Tryz.ntmps19
  go_wp2_with (go_at_call 28; refine (m28_4 _).mono ?_; rintro e w' ⟨rfl, rfl⟩)
  go_ret2
  exact ⟨rfl, rfl⟩
theorem m28_6 (w : World) : Calls Tryz.prog 28 #[.int .i64 6] w fun e w' => e = .returned (.tuple #[.int .i64 0, .int .i64 4294967295]) ∧ w = w' := by
  go_enter Tryz.func28, Tryz.ntmps28
  go_wp2_with (first | (go_at_call 56; refine (c56 _).mono ?_; rintro e w' ⟨rfl, rfl⟩) | (go_at_call 57; refine (c57 _).mono ?_; rintro e w' ⟨rfl, rfl⟩) | (go_at_call 58; refine (c58 _).mono ?_; rintro e w' ⟨rfl, rfl⟩) | (go_at_call 59; refine (c59 _).mono ?_; rintro e w' ⟨rfl, rfl⟩) | (go_at_call 60; refine (c60 _).mono ?_; rintro e w' ⟨rfl, rfl⟩) | (go_at_call 61; refine (c61 _).mono ?_; rintro e w' ⟨rfl, rfl⟩) | (go_at_call 62; refine (c62 _).mono ?_; rintro e w' ⟨rfl, rfl⟩) | (go_at_call 63; refine (c63 _).mono ?_; rintro e w' ⟨rfl, rfl⟩) | (go_at_call 64; refine (c64 _).mono ?_; rintro e w' ⟨rfl, rfl⟩) | (go_at_call 65; refine (c65 _).mono ?_; rintro e w' ⟨rfl, rfl⟩) | (go_at_call 66; refine (c66 _).mono ?_; rintro e w' ⟨rfl, rfl⟩) | (go_at_call 67; refine (c67 _).mono ?_; rintro e w' ⟨rfl, rfl⟩))
  go_ret2
  exact ⟨rfl, rfl⟩
theorem m19_6 (w : World) : Calls Tryz.prog 19 #[.int .i64 6] w fun e w' => e = .returned (.tuple #[.int .i64 0, .int .i64 4294967295]) ∧ w = w' := by
  go_enter Tryz.func19, Tryz.ntmps19
  go_wp2_with (go_at_call 28; refine (m28_6 _).mono ?_; rintro e w' ⟨rfl, rfl⟩)
  go_ret2
  exact ⟨rfl, rfl⟩
theorem m28_8 (w : World) : Calls Tryz.prog 28 #[.int .i64 8] w fun e w' => e = .returned (.tuple #[.int .i64 0, .int .i64 9223372036854775807]) ∧ w = w' := by
  go_enter Tryz.func28, Tryz.ntmps28
  go_wp2_with (first | (go_at_call 56; refine (c56 _).mono ?_; rintro e w' ⟨rfl, rfl⟩) | (go_at_call 57; refine (c57 _).mono ?_; rintro e w' ⟨rfl, rfl⟩) | (go_at_call 58; refine (c58 _).mono ?_; rintro e w' ⟨rfl, rfl⟩) | (go_at_call 59; refine (c59 _).mono ?_; rintro e w' ⟨rfl, rfl⟩) | (go_at_call 60; refine (c60 _).mono ?_; rintro e w' ⟨rfl, rfl⟩) | (go_at_call 61; refine (c61 _).mono ?_; rintro e w' ⟨rfl, rfl⟩) | (go_at_call 62; refine (c62 _).mono ?_; rintro e w' ⟨rfl, rfl⟩) | (go_at_call 63; refine (c63 _).mono ?_; rintro e w' ⟨rfl, rfl⟩) | (go_at_call 64; refine (c64 _).mono ?_; rintro e w' ⟨rfl, rfl⟩) | (go_at_call 65; refine (c65 _).mono ?_; rintro e w' ⟨rfl, rfl⟩) | (go_at_call 66; refine (c66 _).mono ?_; rintro e w' ⟨rfl, rfl⟩) | (go_at_call 67; refine (c67 _).mono ?_; rintro e w' ⟨rfl, rfl⟩))
  go_ret2
  exact ⟨rfl, rfl⟩
theorem m19_8 (w : World) : Calls Tryz.prog 19 #[.int .i64 8] w fun e w' => e = .returned (.tuple #[.int .i64 0, .int .i64 9223372036854775807]) ∧ w = w' := by
  go_enter Tryz.func19, Tryz.ntmps19
  go_wp2_with (go_at_call 28; refine (m28_8 _).mono ?_; rintro e w' ⟨rfl, rfl⟩)
  go_ret2
  exact ⟨rfl, rfl⟩
theorem m28_3 (w : World) : Calls Tryz.prog 28 #[.int .i64 3] w fun e w' => e = .returned (.tuple #[.int .i64 (-128), .int .i64 127]) ∧ w = w' := by
  go_enter Tryz.func28, Tryz.ntmps28
  go_wp2_with (first | (go_at_call 56; refine (c56 _).mono ?_; rintro e w' ⟨rfl, rfl⟩) | (go_at_call 57; refine (c57 _).mono ?_; rintro e w' ⟨rfl, rfl⟩) | (go_at_call 58; refine (c58 _).mono ?_; rintro e w' ⟨rfl, rfl⟩) | (go_at_call 59; refine (c59 _).mono ?_; rintro e w' ⟨rfl, rfl⟩) | (go_at_call 60; refine (c60 _).mono ?_; rintro e w' ⟨rfl, rfl⟩) | (go_at_call 61; refine (c61 _).mono ?_; rintro e w' ⟨rfl, rfl⟩) | (go_at_call 62; refine (c62 _).mono ?_; rintro e w' ⟨rfl, rfl⟩) | (go_at_call 63; refine (c63 _).mono ?_; rintro e w' ⟨rfl, rfl⟩) | (go_at_call 64; refine (c64 _).mono ?_; rintro e w' ⟨rfl, rfl⟩) | (go_at_call 65; refine (c65 _).mono ?_; rintro e w' ⟨rfl, rfl⟩) | (go_at_call 66; refine (c66 _).mono ?_; rintro e w' ⟨rfl, rfl⟩) | (go_at_call 67; refine (c67 _).mono ?_; rintro e w' ⟨rfl, rfl⟩))
  go_ret2
  exact ⟨rfl, rfl⟩
theorem m19_3 (w : World) : Calls Tryz.prog 19 #[.int .i64 3] w fun e w' => e = .returned (.tuple #[.int .i64 (-128), .int .i64 127]) ∧ w = w' := by
  go_enter Tryz.func19, Tryz.ntmps19
  go_wp2_with (go_at_call 28; refine (m28_3 _).mono ?_; rintro e w' ⟨rfl, rfl⟩)
  go_ret2
  exact ⟨rfl, rfl⟩
theorem m28_5 (w : World) : Calls Tryz.prog 28 #[.int .i64 5] w fun e w' => e = .returned (.tuple #[.int .i64 (-32768), .int .i64 32767]) ∧ w = w' := by
  go_enter Tryz.func28, Tryz.ntmps28
  go_wp2_with (first | (go_at_call 56; refine (c56 _).mono ?_; rintro e w' ⟨rfl, rfl⟩) | (go_at_call 57; refine (c57 _).mono ?_; rintro e w' ⟨rfl, rfl⟩) | (go_at_call 58; refine (c58 _).mono ?_; rintro e w' ⟨rfl, rfl⟩) | (go_at_call 59; refine (c59 _).mono ?_; rintro e w' ⟨rfl, rfl⟩) | (go_at_call 60; refine (c60 _).mono ?_; rintro e w' ⟨rfl, rfl⟩) | (go_at_call 61; refine (c61 _).mono ?_; rintro e w' ⟨rfl, rfl⟩) | (go_at_call 62; refine (c62 _).mono ?_; rintro e w' ⟨rfl, rfl⟩) | (go_at_call 63; refine (c63 _).mono ?_; rintro e w' ⟨rfl, rfl⟩) | (go_at_call 64; refine (c64 _).mono ?_; rintro e w' ⟨rfl, rfl⟩) | (go_at_call 65; refine (c65 _).mono ?_; rintro e w' ⟨rfl, rfl⟩) | (go_at_call 66; refine (c66 _).mono ?_; rintro e w' ⟨rfl, rfl⟩) | (go_at_call 67; refine (c67 _).mono ?_; rintro e w' ⟨rfl, rfl⟩))
  go_ret2
  exact ⟨rfl, rfl⟩
theorem m19_5 (w : World) : Calls Tryz.prog 19 #[.int .i64 5] w fun e w' => e = .returned (.tuple #[.int .i64 (-32768), .int .i64 32767]) ∧ w = w' := by
  go_enter Tryz.func19, Tryz.ntmps19
  go_wp2_with (go_at_call 28; refine (m28_5 _).mono ?_; rintro e w' ⟨rfl, rfl⟩)
  go_ret2
  exact ⟨rfl, rfl⟩
theorem m28_7 (w : World) : Calls Tryz.prog 28 #[.int .i64 7] w fun e w' => e = .returned (.tuple #[.int .i64 (-2147483648), .int .i64 2147483647]) ∧ w = w' := by
  go_enter Tryz.func28, Tryz.ntmps28
  go_wp2_with (first | (go_at_call 56; refine (c56 _).mono ?_; rintro e w' ⟨rfl, rfl⟩) | (go_at_call 57; refine (c57 _).mono ?_; rintro e w' ⟨rfl, rfl⟩) | (go_at_call 58; refine (c58 _).mono ?_; rintro e w' ⟨rfl, rfl⟩) | (go_at_call 59; refine (c59 _).mono ?_; rintro e w' ⟨rfl, rfl⟩) | (go_at_call 60; refine (c60 _).mono ?_; rintro e w' ⟨rfl, rfl⟩) | (go_at_call 61; refine (c61 _).mono ?_; rintro e w' ⟨rfl, rfl⟩) | (go_at_call 62; refine (c62 _).mono ?_; rintro e w' ⟨rfl, rfl⟩) | (go_at_call 63; refine (c63 _).mono ?_; rintro e w' ⟨rfl, rfl⟩) | (go_at_call 64; refine (c64 _).mono ?_; rintro e w' ⟨rfl, rfl⟩) | (go_at_call 65; refine (c65 _).mono ?_; rintro e w' ⟨rfl, rfl⟩) | (go_at_call 66; refine (c66 _).mono ?_; rintro e w' ⟨rfl, rfl⟩) | (go_at_call 67; refine (c67 _).mono ?_; rintro e w' ⟨rfl, rfl⟩))
  go_ret2
  exact ⟨rfl, rfl⟩
theorem m19_7 (w : World) : Calls Tryz.prog 19 #[.int .i64 7] w fun e w' => e = .returned (.tuple #[.int .i64 (-2147483648), .int .i64 2147483647]) ∧ w = w' := by
  go_enter Tryz.func19, Tryz.ntmps19
  go_wp2_with (go_at_call 28; refine (m28_7 _).mono ?_; rintro e w' ⟨rfl, rfl⟩)
  go_ret2
  exact ⟨rfl, rfl⟩
theorem m28_9 (w : World) : Calls Tryz.prog 28 #[.int .i64 9] w fun e w' => e = .returned (.tuple #[.int .i64 (-9223372036854775808), .int .i64 9223372036854775807]) ∧ w = w' := by
  go_enter Tryz.func28, Tryz.ntmps28
  go_wp2_with (first | (go_at_call 56; refine (c56 _).mono ?_; rintro e w' ⟨rfl, rfl⟩) | (go_at_call 57; refine (c57 _).mono ?_; rintro e w' ⟨rfl, rfl⟩) | (go_at_call 58; refine (c58 _).mono ?_; rintro e w' ⟨rfl, rfl⟩) | (go_at_call 59; refine (c59 _).mono ?_; rintro e w' ⟨rfl, rfl⟩) | (go_at_call 60; refine (c60 _).mono ?_; rintro e w' ⟨rfl, rfl⟩) | (go_at_call 61; refine (c61 _).mono ?_; rintro e w' ⟨rfl, rfl⟩) | (go_at_call 62; refine (c62 _).mono ?_; rintro e w' ⟨rfl, rfl⟩) | (go_at_call 63; refine (c63 _).mono ?_; rintro e w' ⟨rfl, rfl⟩) | (go_at_call 64; refine (c64 _).mono ?_; rintro e w' ⟨rfl, rfl⟩) | (go_at_call 65; refine (c65 _).mono ?_; rintro e w' ⟨rfl, rfl⟩) | (go_at_call 66; refine (c66 _).mono ?_; rintro e w' ⟨rfl, rfl⟩) | (go_at_call 67; refine (c67 _).mono ?_; rintro e w' ⟨rfl, rfl⟩))
  go_ret2
  exact ⟨rfl, rfl⟩
theorem m19_9 (w : World) : Calls Tryz.prog 19 #[.int .i64 9] w fun e w' => e = .returned (.tuple #[.int .i64 (-9223372036854775808), .int .i64 9223372036854775807]) ∧ w = w' := by
  go_enter Tryz.func19, Tryz.ntmps19
  go_wp2_with (go_at_call 28; refine (m28_9 _).mono ?_; rintro e w' ⟨rfl, rfl⟩)
  go_ret2
  exact ⟨rfl, rfl⟩
end Go.Proofs.YtoaibapjnedhlaaGreat.QAll
