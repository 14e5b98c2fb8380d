/-
  Contracts of the library's reversals of bits and of bytes, and of the thin package's calls of them.
  Conditions: the arguments are of their kinds.
-/
import Derived.Test.YtnebokpifgipfaaChecked
import Derived.Test.YtnebokpifgipfaaWords
import Derived.Test.YtnebokpifgipfaaRevI
import Derived.WalkKit
import Derived.WalkLawsBesides
import Derived.Deep.QuietTactic
import Derived.BigQuiet
namespace Go.Proofs.Ytnebokpifgipfaa
open Go.RowKit Pl

theorem bitsRev8 (x : Int) (w : World) (h0 : 0 ≤ x) (h1 : x ≤ 255) :
    Calls Try.prog 28 #[.int .u8 x] w fun e w' => e = .returned (.int .u8 (revI8 x)) ∧ w = w' := by
  have e := rev8_at x h0 h1
  go_enter Try.func28, Try.ntmps28
  go_wp2
  go_ret
  exact ⟨rfl, rfl⟩

theorem low16r (x : Int) (h0 : 0 ≤ x) (h1 : x ≤ 65535) : bits .and .u16 x 255 = x % 256 := by
  rw [u16_and x 255 h0 (by omega) (by decide) (by decide), show (255 : Int).toNat = 2 ^ 8 - 1 from rfl, Nat.and_two_pow_sub_one_eq_mod]
  omega
theorem bitsRev16 (x : Int) (w : World) (h0 : 0 ≤ x) (h1 : x ≤ 65535) :
    Calls Try.prog 31 #[.int .u16 x] w fun e w' => e = .returned (.int .u16 (revI16 x)) ∧ ∃ n, w' = w.drewN n := by
  have g0 : 0 ≤ x / 256 := by omega
  have g1 : x / 256 ≤ 255 := by omega
  have q0 : 0 ≤ x % 256 := by omega
  have q1 : x % 256 ≤ 255 := by omega
  have e := low16r x h0 h1
  have e1 := rev8_at (x / 256) g0 g1
  have e2 := rev8_at (x % 256) q0 q1
  obtain ⟨l1, l2⟩ := rng_rev8 (x / 256)
  obtain ⟨l3, l4⟩ := rng_rev8 (x % 256)
  go_enter Try.func31, Try.ntmps31
  go_wp2
  go_quiet (fail)
  go_wp2
  go_ret
  exact ⟨congrArg (fun z => Ending.returned (Value.int IntKind.u16 z)) (rev16_raw x h0 h1), _, rfl⟩

theorem bitsBytes16 (x : Int) (w : World) (_h0 : 0 ≤ x) (_h1 : x ≤ 65535) :
    Calls Try.prog 29 #[.int .u16 x] w fun e w' => e = .returned (.int .u16 (rbI16 x)) ∧ w = w' := by
  go_enter Try.func29, Try.ntmps29
  go_wp2
  go_ret
  exact ⟨rfl, rfl⟩







theorem implRev8 (x : Int) (w : World) (h0 : 0 ≤ x) (h1 : x ≤ 255) :
    Calls Try.prog 16 #[.int .u8 x] w fun e w' => e = .returned (.int .u8 (revI8 x)) ∧ w = w' := by
  go_enter Try.func16, Try.ntmps16
  go_wp2_with fail
  refine (bitsRev8 x _ h0 h1).mono ?_
  rintro e w' ⟨rfl, rfl⟩
  go_wp2_with fail
  go_ret
  exact ⟨rfl, rfl⟩

theorem implRev16 (x : Int) (w : World) (h0 : 0 ≤ x) (h1 : x ≤ 65535) :
    Calls Try.prog 19 #[.int .u16 x] w fun e w' => e = .returned (.int .u16 (revI16 x)) ∧ ∃ n, w' = w.drewN n := by
  go_enter Try.func19, Try.ntmps19
  go_wp2_with fail
  refine (bitsRev16 x _ h0 h1).mono ?_
  rintro e w' ⟨rfl, n, rfl⟩
  go_wp2_with fail
  go_ret
  exact ⟨rfl, n, rfl⟩

theorem implBytes16 (x : Int) (w : World) (h0 : 0 ≤ x) (h1 : x ≤ 65535) :
    Calls Try.prog 17 #[.int .u16 x] w fun e w' => e = .returned (.int .u16 (rbI16 x)) ∧ w = w' := by
  go_enter Try.func17, Try.ntmps17
  go_wp2_with fail
  refine (bitsBytes16 x _ h0 h1).mono ?_
  rintro e w' ⟨rfl, rfl⟩
  go_wp2_with fail
  go_ret
  exact ⟨rfl, rfl⟩







end Go.Proofs.Ytnebokpifgipfaa
