/-
  Contracts of the library's rotations and of the thin package's calls of them: each returns the number rotated, for every number and every count, and leaves the world as it was.
  Conditions: the arguments are of their kinds.
-/
import Derived.Test.YthkegogjboiilaaChecked
import Derived.Test.YthkegogjboiilaaWords
import Derived.WalkKit
import Derived.WalkLawsBesides
namespace Go.Proofs.Ythkegogjboiilaa
open Go.RowKit Pl





theorem bitsRot32 (x k : Int) (w : World) (h0 : 0 ≤ x) (h1 : x ≤ 4294967295) :
    Calls Try.prog 27 #[.int .u32 x, .int .i64 k] w fun e w' => e = .returned (.int .u32 (rotI32 x k)) ∧ w = w' := by
  have hr := cnt_raw32 k
  go_enter Try.func27, Try.ntmps27
  go_wp2
  go_ret
  exact ⟨congrArg (fun z => Ending.returned (Value.int IntKind.u32 z)) (rot_flat32 x k h0 h1), rfl⟩

theorem implRot32 (x k : Int) (w : World) (h0 : 0 ≤ x) (h1 : x ≤ 4294967295) :
    Calls Try.prog 15 #[.int .u32 x, .int .i64 k] w fun e w' => e = .returned (.int .u32 (rotI32 x k)) ∧ w = w' := by
  go_enter Try.func15, Try.ntmps15
  go_wp2_with fail
  refine (bitsRot32 x k _ h0 h1).mono ?_
  rintro e w' ⟨rfl, rfl⟩
  go_wp2_with fail
  go_ret
  exact ⟨rfl, rfl⟩

theorem bitsRot64 (x k : Int) (w : World) (h0 : 0 ≤ x) (h1 : x ≤ 18446744073709551615) :
    Calls Try.prog 30 #[.int .u64 x, .int .i64 k] w fun e w' => e = .returned (.int .u64 (rotI64 x k)) ∧ w = w' := by
  have hr := cnt_raw64 k
  go_enter Try.func30, Try.ntmps30
  go_wp2
  go_ret
  exact ⟨congrArg (fun z => Ending.returned (Value.int IntKind.u64 z)) (rot_flat64 x k h0 h1), rfl⟩

theorem implRot64 (x k : Int) (w : World) (h0 : 0 ≤ x) (h1 : x ≤ 18446744073709551615) :
    Calls Try.prog 18 #[.int .u64 x, .int .i64 k] w fun e w' => e = .returned (.int .u64 (rotI64 x k)) ∧ w = w' := by
  go_enter Try.func18, Try.ntmps18
  go_wp2_with fail
  refine (bitsRot64 x k _ h0 h1).mono ?_
  rintro e w' ⟨rfl, rfl⟩
  go_wp2_with fail
  go_ret
  exact ⟨rfl, rfl⟩
end Go.Proofs.Ythkegogjboiilaa
