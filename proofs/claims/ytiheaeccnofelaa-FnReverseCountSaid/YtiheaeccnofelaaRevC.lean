/-
  Contracts of the library's reversals of bits and of bytes, and of the thin package's calls of them.
  Conditions: the arguments are of their kinds.
-/
import Derived.Test.YtiheaeccnofelaaChecked
import Derived.Test.YtiheaeccnofelaaWords
import Derived.Test.YtiheaeccnofelaaRevI
import Derived.WalkKit
import Derived.WalkLawsBesides
import Derived.Deep.QuietTactic
import Derived.BigQuiet
namespace Go.Proofs.Ytiheaeccnofelaa
open Go.RowKit Pl




theorem bitsBytes32 (x : Int) (w : World) (h0 : 0 ≤ x) (h1 : x ≤ 4294967295) :
    Calls Try.prog 41 #[.int .u32 x] w fun e w' => e = .returned (.int .u32 (rbI32 x)) ∧ w = w' := by
  have r0 := sw_raw32_8 (x) h0 h1
  obtain ⟨p0, q0⟩ := rng_sw32_8 (x)
  have rl := hl_raw32 (swI32_8 x) p0 q0
  go_enter Try.func41, Try.ntmps41
  go_wp2
  go_ret
  exact ⟨congrArg (fun z => Ending.returned (Value.int IntKind.u32 z)) (rb_all32 x), rfl⟩

theorem bitsRev32 (x : Int) (w : World) (h0 : 0 ≤ x) (h1 : x ≤ 4294967295) :
    Calls Try.prog 44 #[.int .u32 x] w fun e w' => e = .returned (.int .u32 (revI32 x)) ∧ w = w' := by
  have r0 := sw_raw32_1 x h0 h1
  obtain ⟨p0, q0⟩ := rng_sw32_1 x
  have r1 := sw_raw32_2 (swI32_1 x) p0 q0
  obtain ⟨p1, q1⟩ := rng_sw32_2 (swI32_1 x)
  have r2 := sw_raw32_4 (swI32_2 (swI32_1 x)) p1 q1
  obtain ⟨p2, q2⟩ := rng_sw32_4 (swI32_2 (swI32_1 x))
  go_enter Try.func44, Try.ntmps44
  go_wp2_with fail
  refine (bitsBytes32 _ _ p2 q2).mono ?_
  rintro e w' ⟨rfl, rfl⟩
  go_wp2_with fail
  go_ret
  exact ⟨congrArg (fun z => Ending.returned (Value.int IntKind.u32 z)) (rv_all32 x), rfl⟩

theorem bitsBytes64 (x : Int) (w : World) (h0 : 0 ≤ x) (h1 : x ≤ 18446744073709551615) :
    Calls Try.prog 40 #[.int .u64 x] w fun e w' => e = .returned (.int .u64 (rbI64 x)) ∧ w = w' := by
  have r0 := sw_raw64_8 (x) h0 h1
  obtain ⟨p0, q0⟩ := rng_sw64_8 (x)
  have r1 := sw_raw64_16 (swI64_8 x) p0 q0
  obtain ⟨p1, q1⟩ := rng_sw64_16 (swI64_8 x)
  have rl := hl_raw64 (swI64_16 (swI64_8 x)) p1 q1
  go_enter Try.func40, Try.ntmps40
  go_wp2
  go_ret
  exact ⟨congrArg (fun z => Ending.returned (Value.int IntKind.u64 z)) (rb_all64 x), rfl⟩

theorem bitsRev64 (x : Int) (w : World) (h0 : 0 ≤ x) (h1 : x ≤ 18446744073709551615) :
    Calls Try.prog 43 #[.int .u64 x] w fun e w' => e = .returned (.int .u64 (revI64 x)) ∧ w = w' := by
  have r0 := sw_raw64_1 x h0 h1
  obtain ⟨p0, q0⟩ := rng_sw64_1 x
  have r1 := sw_raw64_2 (swI64_1 x) p0 q0
  obtain ⟨p1, q1⟩ := rng_sw64_2 (swI64_1 x)
  have r2 := sw_raw64_4 (swI64_2 (swI64_1 x)) p1 q1
  obtain ⟨p2, q2⟩ := rng_sw64_4 (swI64_2 (swI64_1 x))
  go_enter Try.func43, Try.ntmps43
  go_wp2_with fail
  refine (bitsBytes64 _ _ p2 q2).mono ?_
  rintro e w' ⟨rfl, rfl⟩
  go_wp2_with fail
  go_ret
  exact ⟨congrArg (fun z => Ending.returned (Value.int IntKind.u64 z)) (rv_all64 x), rfl⟩

theorem bitsRev (x : Int) (w : World) (h0 : 0 ≤ x) (h1 : x ≤ 18446744073709551615) :
    Calls Try.prog 36 #[.int .u64 x] w fun e w' => e = .returned (.int .u64 (revI64 x)) ∧ w = w' := by
  go_enter Try.func36, Try.ntmps36
  go_wp2_with fail
  refine (bitsRev64 x _ h0 h1).mono ?_
  rintro e w' ⟨rfl, rfl⟩
  go_wp2_with fail
  go_ret
  exact ⟨rfl, rfl⟩

theorem bitsBytes (x : Int) (w : World) (h0 : 0 ≤ x) (h1 : x ≤ 18446744073709551615) :
    Calls Try.prog 39 #[.int .u64 x] w fun e w' => e = .returned (.int .u64 (rbI64 x)) ∧ w = w' := by
  go_enter Try.func39, Try.ntmps39
  go_wp2_with fail
  refine (bitsBytes64 x _ h0 h1).mono ?_
  rintro e w' ⟨rfl, rfl⟩
  go_wp2_with fail
  go_ret
  exact ⟨rfl, rfl⟩




theorem implRev32 (x : Int) (w : World) (h0 : 0 ≤ x) (h1 : x ≤ 4294967295) :
    Calls Try.prog 26 #[.int .u32 x] w fun e w' => e = .returned (.int .u32 (revI32 x)) ∧ w = w' := by
  go_enter Try.func26, Try.ntmps26
  go_wp2_with fail
  refine (bitsRev32 x _ h0 h1).mono ?_
  rintro e w' ⟨rfl, rfl⟩
  go_wp2_with fail
  go_ret
  exact ⟨rfl, rfl⟩

theorem implBytes32 (x : Int) (w : World) (h0 : 0 ≤ x) (h1 : x ≤ 4294967295) :
    Calls Try.prog 23 #[.int .u32 x] w fun e w' => e = .returned (.int .u32 (rbI32 x)) ∧ w = w' := by
  go_enter Try.func23, Try.ntmps23
  go_wp2_with fail
  refine (bitsBytes32 x _ h0 h1).mono ?_
  rintro e w' ⟨rfl, rfl⟩
  go_wp2_with fail
  go_ret
  exact ⟨rfl, rfl⟩

theorem implRev64 (x : Int) (w : World) (h0 : 0 ≤ x) (h1 : x ≤ 18446744073709551615) :
    Calls Try.prog 25 #[.int .u64 x] w fun e w' => e = .returned (.int .u64 (revI64 x)) ∧ w = w' := by
  go_enter Try.func25, Try.ntmps25
  go_wp2_with fail
  refine (bitsRev64 x _ h0 h1).mono ?_
  rintro e w' ⟨rfl, rfl⟩
  go_wp2_with fail
  go_ret
  exact ⟨rfl, rfl⟩

theorem implBytes64 (x : Int) (w : World) (h0 : 0 ≤ x) (h1 : x ≤ 18446744073709551615) :
    Calls Try.prog 22 #[.int .u64 x] w fun e w' => e = .returned (.int .u64 (rbI64 x)) ∧ w = w' := by
  go_enter Try.func22, Try.ntmps22
  go_wp2_with fail
  refine (bitsBytes64 x _ h0 h1).mono ?_
  rintro e w' ⟨rfl, rfl⟩
  go_wp2_with fail
  go_ret
  exact ⟨rfl, rfl⟩

theorem implRev (x : Int) (w : World) (h0 : 0 ≤ x) (h1 : x ≤ 18446744073709551615) :
    Calls Try.prog 18 #[.int .u64 x] w fun e w' => e = .returned (.int .u64 (revI64 x)) ∧ w = w' := by
  go_enter Try.func18, Try.ntmps18
  go_wp2_with fail
  refine (bitsRev x _ h0 h1).mono ?_
  rintro e w' ⟨rfl, rfl⟩
  go_wp2_with fail
  go_ret
  exact ⟨rfl, rfl⟩

theorem implBytes (x : Int) (w : World) (h0 : 0 ≤ x) (h1 : x ≤ 18446744073709551615) :
    Calls Try.prog 21 #[.int .u64 x] w fun e w' => e = .returned (.int .u64 (rbI64 x)) ∧ w = w' := by
  go_enter Try.func21, Try.ntmps21
  go_wp2_with fail
  refine (bitsBytes x _ h0 h1).mono ?_
  rintro e w' ⟨rfl, rfl⟩
  go_wp2_with fail
  go_ret
  exact ⟨rfl, rfl⟩

end Go.Proofs.Ytiheaeccnofelaa
