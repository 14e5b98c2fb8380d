/-
  Contracts of the library's rotations and of the thin package's calls of them: each returns the number rotated, for every number and every count, and leaves the world as it was.
  Conditions: the arguments are of their kinds.
-/
import Derived.Test.YtoebgoepaolpcaaChecked
import Derived.Test.YtoebgoepaolpcaaWords
import Derived.WalkKit
import Derived.WalkLawsBesides
namespace Go.Proofs.Ytoebgoepaolpcaa
open Go.RowKit Pl

theorem bitsRot8 (x k : Int) (w : World) (h0 : 0 ≤ x) (h1 : x ≤ 255) :
    Calls Try.prog 14 #[.int .u8 x, .int .i64 k] w fun e w' => e = .returned (.int .u8 (rotI8 x k)) ∧ w = w' := by
  have hr := cnt_raw8 k
  go_enter Try.func14, Try.ntmps14
  go_wp2
  go_ret
  exact ⟨congrArg (fun z => Ending.returned (Value.int IntKind.u8 z)) (rot_flat8 x k h0 h1), rfl⟩

theorem implRot8 (x k : Int) (w : World) (h0 : 0 ≤ x) (h1 : x ≤ 255) :
    Calls Try.prog 10 #[.int .u8 x, .int .i64 k] w fun e w' => e = .returned (.int .u8 (rotI8 x k)) ∧ w = w' := by
  go_enter Try.func10, Try.ntmps10
  go_wp2_with fail
  refine (bitsRot8 x k _ h0 h1).mono ?_
  rintro e w' ⟨rfl, rfl⟩
  go_wp2_with fail
  go_ret
  exact ⟨rfl, rfl⟩

theorem bitsRot16 (x k : Int) (w : World) (h0 : 0 ≤ x) (h1 : x ≤ 65535) :
    Calls Try.prog 11 #[.int .u16 x, .int .i64 k] w fun e w' => e = .returned (.int .u16 (rotI16 x k)) ∧ w = w' := by
  have hr := cnt_raw16 k
  go_enter Try.func11, Try.ntmps11
  go_wp2
  go_ret
  exact ⟨congrArg (fun z => Ending.returned (Value.int IntKind.u16 z)) (rot_flat16 x k h0 h1), rfl⟩

theorem implRot16 (x k : Int) (w : World) (h0 : 0 ≤ x) (h1 : x ≤ 65535) :
    Calls Try.prog 7 #[.int .u16 x, .int .i64 k] w fun e w' => e = .returned (.int .u16 (rotI16 x k)) ∧ w = w' := by
  go_enter Try.func7, Try.ntmps7
  go_wp2_with fail
  refine (bitsRot16 x k _ h0 h1).mono ?_
  rintro e w' ⟨rfl, rfl⟩
  go_wp2_with fail
  go_ret
  exact ⟨rfl, rfl⟩

theorem bitsRot32 (x k : Int) (w : World) (h0 : 0 ≤ x) (h1 : x ≤ 4294967295) :
    Calls Try.prog 12 #[.int .u32 x, .int .i64 k] w fun e w' => e = .returned (.int .u32 (rotI32 x k)) ∧ w = w' := by
  have hr := cnt_raw32 k
  go_enter Try.func12, Try.ntmps12
  go_wp2
  go_ret
  exact ⟨congrArg (fun z => Ending.returned (Value.int IntKind.u32 z)) (rot_flat32 x k h0 h1), rfl⟩

theorem implRot32 (x k : Int) (w : World) (h0 : 0 ≤ x) (h1 : x ≤ 4294967295) :
    Calls Try.prog 8 #[.int .u32 x, .int .i64 k] w fun e w' => e = .returned (.int .u32 (rotI32 x k)) ∧ w = w' := by
  go_enter Try.func8, Try.ntmps8
  go_wp2_with fail
  refine (bitsRot32 x k _ h0 h1).mono ?_
  rintro e w' ⟨rfl, rfl⟩
  go_wp2_with fail
  go_ret
  exact ⟨rfl, rfl⟩

theorem bitsRot64 (x k : Int) (w : World) (h0 : 0 ≤ x) (h1 : x ≤ 18446744073709551615) :
    Calls Try.prog 13 #[.int .u64 x, .int .i64 k] w fun e w' => e = .returned (.int .u64 (rotI64 x k)) ∧ w = w' := by
  have hr := cnt_raw64 k
  go_enter Try.func13, Try.ntmps13
  go_wp2
  go_ret
  exact ⟨congrArg (fun z => Ending.returned (Value.int IntKind.u64 z)) (rot_flat64 x k h0 h1), rfl⟩

theorem implRot64 (x k : Int) (w : World) (h0 : 0 ≤ x) (h1 : x ≤ 18446744073709551615) :
    Calls Try.prog 9 #[.int .u64 x, .int .i64 k] w fun e w' => e = .returned (.int .u64 (rotI64 x k)) ∧ w = w' := by
  go_enter Try.func9, Try.ntmps9
  go_wp2_with fail
  refine (bitsRot64 x k _ h0 h1).mono ?_
  rintro e w' ⟨rfl, rfl⟩
  go_wp2_with fail
  go_ret
  exact ⟨rfl, rfl⟩
end Go.Proofs.Ytoebgoepaolpcaa
