/-
  Contracts of the library's reversals of bits and of bytes, and of the thin package's calls of them.
  Conditions: the arguments are of their kinds.
-/
import Derived.Test.YthkegogjboiilaaChecked
import Derived.Test.YthkegogjboiilaaWords
import Derived.Test.YthkegogjboiilaaRevI
import Derived.WalkKit
import Derived.WalkLawsBesides
import Derived.Deep.QuietTactic
import Derived.BigQuiet
namespace Go.Proofs.Ythkegogjboiilaa
open Go.RowKit Pl




theorem bitsBytes32 (x : Int) (w : World) (h0 : 0 ≤ x) (h1 : x ≤ 4294967295) :
    Calls Try.prog 29 #[.int .u32 x] w fun e w' => e = .returned (.int .u32 (rbI32 x)) ∧ w = w' := by
  have r0 := sw_raw32_8 (x) h0 h1
  obtain ⟨p0, q0⟩ := rng_sw32_8 (x)
  have rl := hl_raw32 (swI32_8 x) p0 q0
  go_enter Try.func29, Try.ntmps29
  go_wp2
  go_ret
  exact ⟨congrArg (fun z => Ending.returned (Value.int IntKind.u32 z)) (rb_all32 x), rfl⟩

theorem bitsRev32 (x : Int) (w : World) (h0 : 0 ≤ x) (h1 : x ≤ 4294967295) :
    Calls Try.prog 33 #[.int .u32 x] w fun e w' => e = .returned (.int .u32 (revI32 x)) ∧ w = w' := by
  have r0 := sw_raw32_1 x h0 h1
  obtain ⟨p0, q0⟩ := rng_sw32_1 x
  have r1 := sw_raw32_2 (swI32_1 x) p0 q0
  obtain ⟨p1, q1⟩ := rng_sw32_2 (swI32_1 x)
  have r2 := sw_raw32_4 (swI32_2 (swI32_1 x)) p1 q1
  obtain ⟨p2, q2⟩ := rng_sw32_4 (swI32_2 (swI32_1 x))
  go_enter Try.func33, Try.ntmps33
  go_wp2_with fail
  refine (bitsBytes32 _ _ p2 q2).mono ?_
  rintro e w' ⟨rfl, rfl⟩
  go_wp2_with fail
  go_ret
  exact ⟨congrArg (fun z => Ending.returned (Value.int IntKind.u32 z)) (rv_all32 x), rfl⟩

theorem bitsBytes64 (x : Int) (w : World) (h0 : 0 ≤ x) (h1 : x ≤ 18446744073709551615) :
    Calls Try.prog 31 #[.int .u64 x] w fun e w' => e = .returned (.int .u64 (rbI64 x)) ∧ w = w' := by
  have r0 := sw_raw64_8 (x) h0 h1
  obtain ⟨p0, q0⟩ := rng_sw64_8 (x)
  have r1 := sw_raw64_16 (swI64_8 x) p0 q0
  obtain ⟨p1, q1⟩ := rng_sw64_16 (swI64_8 x)
  have rl := hl_raw64 (swI64_16 (swI64_8 x)) p1 q1
  go_enter Try.func31, Try.ntmps31
  go_wp2
  go_ret
  exact ⟨congrArg (fun z => Ending.returned (Value.int IntKind.u64 z)) (rb_all64 x), rfl⟩

theorem bitsRev64 (x : Int) (w : World) (h0 : 0 ≤ x) (h1 : x ≤ 18446744073709551615) :
    Calls Try.prog 34 #[.int .u64 x] w fun e w' => e = .returned (.int .u64 (revI64 x)) ∧ w = w' := by
  have r0 := sw_raw64_1 x h0 h1
  obtain ⟨p0, q0⟩ := rng_sw64_1 x
  have r1 := sw_raw64_2 (swI64_1 x) p0 q0
  obtain ⟨p1, q1⟩ := rng_sw64_2 (swI64_1 x)
  have r2 := sw_raw64_4 (swI64_2 (swI64_1 x)) p1 q1
  obtain ⟨p2, q2⟩ := rng_sw64_4 (swI64_2 (swI64_1 x))
  go_enter Try.func34, Try.ntmps34
  go_wp2_with fail
  refine (bitsBytes64 _ _ p2 q2).mono ?_
  rintro e w' ⟨rfl, rfl⟩
  go_wp2_with fail
  go_ret
  exact ⟨congrArg (fun z => Ending.returned (Value.int IntKind.u64 z)) (rv_all64 x), rfl⟩






theorem implRev32 (x : Int) (w : World) (h0 : 0 ≤ x) (h1 : x ≤ 4294967295) :
    Calls Try.prog 21 #[.int .u32 x] w fun e w' => e = .returned (.int .u32 (revI32 x)) ∧ w = w' := by
  go_enter Try.func21, Try.ntmps21
  go_wp2_with fail
  refine (bitsRev32 x _ h0 h1).mono ?_
  rintro e w' ⟨rfl, rfl⟩
  go_wp2_with fail
  go_ret
  exact ⟨rfl, rfl⟩

theorem implBytes32 (x : Int) (w : World) (h0 : 0 ≤ x) (h1 : x ≤ 4294967295) :
    Calls Try.prog 17 #[.int .u32 x] w fun e w' => e = .returned (.int .u32 (rbI32 x)) ∧ w = w' := by
  go_enter Try.func17, Try.ntmps17
  go_wp2_with fail
  refine (bitsBytes32 x _ h0 h1).mono ?_
  rintro e w' ⟨rfl, rfl⟩
  go_wp2_with fail
  go_ret
  exact ⟨rfl, rfl⟩

theorem implRev64 (x : Int) (w : World) (h0 : 0 ≤ x) (h1 : x ≤ 18446744073709551615) :
    Calls Try.prog 22 #[.int .u64 x] w fun e w' => e = .returned (.int .u64 (revI64 x)) ∧ w = w' := by
  go_enter Try.func22, Try.ntmps22
  go_wp2_with fail
  refine (bitsRev64 x _ h0 h1).mono ?_
  rintro e w' ⟨rfl, rfl⟩
  go_wp2_with fail
  go_ret
  exact ⟨rfl, rfl⟩

theorem implBytes64 (x : Int) (w : World) (h0 : 0 ≤ x) (h1 : x ≤ 18446744073709551615) :
    Calls Try.prog 19 #[.int .u64 x] w fun e w' => e = .returned (.int .u64 (rbI64 x)) ∧ w = w' := by
  go_enter Try.func19, Try.ntmps19
  go_wp2_with fail
  refine (bitsBytes64 x _ h0 h1).mono ?_
  rintro e w' ⟨rfl, rfl⟩
  go_wp2_with fail
  go_ret
  exact ⟨rfl, rfl⟩



end Go.Proofs.Ythkegogjboiilaa
