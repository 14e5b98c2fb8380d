/-
  Contracts of the library's rotations and of the thin package's calls of them: each returns the number rotated, for every number and every count, and leaves the world as it was.
  Conditions: the arguments are of their kinds.
-/
import Derived.Test.YtiheaeccnofelaaChecked
import Derived.Test.YtiheaeccnofelaaWords
import Derived.WalkKit
import Derived.WalkLawsBesides
namespace Go.Proofs.Ytiheaeccnofelaa
open Go.RowKit Pl





theorem bitsRot32 (x k : Int) (w : World) (h0 : 0 ≤ x) (h1 : x ≤ 4294967295) :
    Calls Try.prog 38 #[.int .u32 x, .int .i64 k] w fun e w' => e = .returned (.int .u32 (rotI32 x k)) ∧ w = w' := by
  have hr := cnt_raw32 k
  go_enter Try.func38, Try.ntmps38
  go_wp2
  go_ret
  exact ⟨congrArg (fun z => Ending.returned (Value.int IntKind.u32 z)) (rot_flat32 x k h0 h1), rfl⟩

theorem implRot32 (x k : Int) (w : World) (h0 : 0 ≤ x) (h1 : x ≤ 4294967295) :
    Calls Try.prog 20 #[.int .u32 x, .int .i64 k] w fun e w' => e = .returned (.int .u32 (rotI32 x k)) ∧ w = w' := by
  go_enter Try.func20, Try.ntmps20
  go_wp2_with fail
  refine (bitsRot32 x k _ h0 h1).mono ?_
  rintro e w' ⟨rfl, rfl⟩
  go_wp2_with fail
  go_ret
  exact ⟨rfl, rfl⟩

theorem bitsRot64 (x k : Int) (w : World) (h0 : 0 ≤ x) (h1 : x ≤ 18446744073709551615) :
    Calls Try.prog 37 #[.int .u64 x, .int .i64 k] w fun e w' => e = .returned (.int .u64 (rotI64 x k)) ∧ w = w' := by
  have hr := cnt_raw64 k
  go_enter Try.func37, Try.ntmps37
  go_wp2
  go_ret
  exact ⟨congrArg (fun z => Ending.returned (Value.int IntKind.u64 z)) (rot_flat64 x k h0 h1), rfl⟩

theorem implRot64 (x k : Int) (w : World) (h0 : 0 ≤ x) (h1 : x ≤ 18446744073709551615) :
    Calls Try.prog 19 #[.int .u64 x, .int .i64 k] w fun e w' => e = .returned (.int .u64 (rotI64 x k)) ∧ w = w' := by
  go_enter Try.func19, Try.ntmps19
  go_wp2_with fail
  refine (bitsRot64 x k _ h0 h1).mono ?_
  rintro e w' ⟨rfl, rfl⟩
  go_wp2_with fail
  go_ret
  exact ⟨rfl, rfl⟩

theorem bitsRot (x k : Int) (w : World) (h0 : 0 ≤ x) (h1 : x ≤ 18446744073709551615) :
    Calls Try.prog 33 #[.int .u64 x, .int .i64 k] w fun e w' => e = .returned (.int .u64 (rotI64 x k)) ∧ w = w' := by
  go_enter Try.func33, Try.ntmps33
  go_wp2_with fail
  refine (bitsRot64 x k _ h0 h1).mono ?_
  rintro e w' ⟨rfl, rfl⟩
  go_wp2_with fail
  go_ret
  exact ⟨rfl, rfl⟩

theorem implRot (x k : Int) (w : World) (h0 : 0 ≤ x) (h1 : x ≤ 18446744073709551615) :
    Calls Try.prog 14 #[.int .u64 x, .int .i64 k] w fun e w' => e = .returned (.int .u64 (rotI64 x k)) ∧ w = w' := by
  go_enter Try.func14, Try.ntmps14
  go_wp2_with fail
  refine (bitsRot x k _ h0 h1).mono ?_
  rintro e w' ⟨rfl, rfl⟩
  go_wp2_with fail
  go_ret
  exact ⟨rfl, rfl⟩
end Go.Proofs.Ytiheaeccnofelaa
