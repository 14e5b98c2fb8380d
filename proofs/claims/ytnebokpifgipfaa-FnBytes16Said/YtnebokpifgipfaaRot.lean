/-
  Contracts of the library's rotations and of the thin package's calls of them: each returns the number rotated, for every number and every count, and leaves the world as it was.
  Conditions: the arguments are of their kinds.
-/
import Derived.Test.YtnebokpifgipfaaChecked
import Derived.Test.YtnebokpifgipfaaWords
import Derived.WalkKit
import Derived.WalkLawsBesides
namespace Go.Proofs.Ytnebokpifgipfaa
open Go.RowKit Pl

theorem bitsRot8 (x k : Int) (w : World) (h0 : 0 ≤ x) (h1 : x ≤ 255) :
    Calls Try.prog 32 #[.int .u8 x, .int .i64 k] w fun e w' => e = .returned (.int .u8 (rotI8 x k)) ∧ w = w' := by
  have hr := cnt_raw8 k
  go_enter Try.func32, Try.ntmps32
  go_wp2
  go_ret
  exact ⟨congrArg (fun z => Ending.returned (Value.int IntKind.u8 z)) (rot_flat8 x k h0 h1), rfl⟩

theorem implRot8 (x k : Int) (w : World) (h0 : 0 ≤ x) (h1 : x ≤ 255) :
    Calls Try.prog 20 #[.int .u8 x, .int .i64 k] w fun e w' => e = .returned (.int .u8 (rotI8 x k)) ∧ w = w' := by
  go_enter Try.func20, Try.ntmps20
  go_wp2_with fail
  refine (bitsRot8 x k _ h0 h1).mono ?_
  rintro e w' ⟨rfl, rfl⟩
  go_wp2_with fail
  go_ret
  exact ⟨rfl, rfl⟩

theorem bitsRot16 (x k : Int) (w : World) (h0 : 0 ≤ x) (h1 : x ≤ 65535) :
    Calls Try.prog 30 #[.int .u16 x, .int .i64 k] w fun e w' => e = .returned (.int .u16 (rotI16 x k)) ∧ w = w' := by
  have hr := cnt_raw16 k
  go_enter Try.func30, Try.ntmps30
  go_wp2
  go_ret
  exact ⟨congrArg (fun z => Ending.returned (Value.int IntKind.u16 z)) (rot_flat16 x k h0 h1), rfl⟩

theorem implRot16 (x k : Int) (w : World) (h0 : 0 ≤ x) (h1 : x ≤ 65535) :
    Calls Try.prog 18 #[.int .u16 x, .int .i64 k] w fun e w' => e = .returned (.int .u16 (rotI16 x k)) ∧ w = w' := by
  go_enter Try.func18, Try.ntmps18
  go_wp2_with fail
  refine (bitsRot16 x k _ h0 h1).mono ?_
  rintro e w' ⟨rfl, rfl⟩
  go_wp2_with fail
  go_ret
  exact ⟨rfl, rfl⟩




end Go.Proofs.Ytnebokpifgipfaa
