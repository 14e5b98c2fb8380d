/-
  The walk of the law 'FnUnion8': it returns true for every two numbers.
  Conditions: the arguments are of their kinds.
-/
import Derived.Test.YtnebokpifgipfaaLenC
import Derived.Test.YtnebokpifgipfaaTzL
import Derived.Lib.Hide
import Derived.ProofKit
namespace Go.Proofs.Ytnebokpifgipfaa.fnUnion8
open Go.RowKit Pl
set_option linter.unusedVariables false

theorem walk (a0 : Int) (a1 : Int) (w0 : (Lit.int .u8 a0).wf = true) (w1 : (Lit.int .u8 a1).wf = true) (w : World) :
    Calls Try.prog 4 #[.int .u8 a0, .int .u8 a1] w fun e w' => e = .returned (.bool true) ∧ Grown w w' := by
  obtain ⟨b0, c0⟩ := bnd8 a0 w0
  obtain ⟨b1, c1⟩ := bnd8 a1 w1
  clear w0 w1
  obtain ⟨p0, q0⟩ := rng_or8 a0 a1
  have z1 := bitLen_zero
  have z2 : Lib.trailingZeros8 0 = 8 := tz8_zero
  have HL := Lib.hid (unionI8 a0 a1 b0 c0 b1 c1)
  have HT := Lib.hid (tzI8 a0 a1 b0 c0 b1 c1)
  by_cases hl : Lib.bitLen (a0).toNat < Lib.bitLen (a1).toNat
  · have r1 : Lib.bitLen (bits .or .u8 a0 a1).toNat = Lib.bitLen (a1).toNat := by have := HL.out; omega
    by_cases ht : Lib.trailingZeros8 (a1).toNat < Lib.trailingZeros8 (a0).toNat
    · have r2 : Lib.trailingZeros8 (bits .or .u8 a0 a1).toNat = Lib.trailingZeros8 (a1).toNat := by have := HT.out; omega
      go_enter Try.func4, Try.ntmps4
      go_wp2_with fail
      with_reducible refine (implLen8 _ _ p0 q0).mono ?_
      rintro e w' ⟨rfl, rfl⟩
      go_wp2_with fail
      with_reducible refine (implLen8 _ _ b0 c0).mono ?_
      rintro e w' ⟨rfl, rfl⟩
      go_wp2_with fail
      with_reducible refine (implLen8 _ _ b1 c1).mono ?_
      rintro e w' ⟨rfl, rfl⟩
      go_wp2_with fail
      with_reducible refine (implTrail8 _ _ p0 q0).mono ?_
      rintro e w' ⟨rfl, rfl⟩
      go_wp2_with fail
      with_reducible refine (implTrail8 _ _ b0 c0).mono ?_
      rintro e w' ⟨rfl, rfl⟩
      go_wp2_with fail
      with_reducible refine (implTrail8 _ _ b1 c1).mono ?_
      rintro e w' ⟨rfl, rfl⟩
      go_wp2_with fail
      with_reducible refine (implLen8 _ _ (by decide) (by decide)).mono ?_
      rintro e w' ⟨rfl, rfl⟩
      go_wp2_with fail
      with_reducible refine (implTrail8 _ _ (by decide) (by decide)).mono ?_
      rintro e w' ⟨rfl, rfl⟩
      go_wp2_with fail
      go_ret
      exact ⟨rfl, Grown.refl _⟩
    · have r2 : Lib.trailingZeros8 (bits .or .u8 a0 a1).toNat = Lib.trailingZeros8 (a0).toNat := by have := HT.out; omega
      go_enter Try.func4, Try.ntmps4
      go_wp2_with fail
      with_reducible refine (implLen8 _ _ p0 q0).mono ?_
      rintro e w' ⟨rfl, rfl⟩
      go_wp2_with fail
      with_reducible refine (implLen8 _ _ b0 c0).mono ?_
      rintro e w' ⟨rfl, rfl⟩
      go_wp2_with fail
      with_reducible refine (implLen8 _ _ b1 c1).mono ?_
      rintro e w' ⟨rfl, rfl⟩
      go_wp2_with fail
      with_reducible refine (implTrail8 _ _ p0 q0).mono ?_
      rintro e w' ⟨rfl, rfl⟩
      go_wp2_with fail
      with_reducible refine (implTrail8 _ _ b0 c0).mono ?_
      rintro e w' ⟨rfl, rfl⟩
      go_wp2_with fail
      with_reducible refine (implTrail8 _ _ b1 c1).mono ?_
      rintro e w' ⟨rfl, rfl⟩
      go_wp2_with fail
      with_reducible refine (implLen8 _ _ (by decide) (by decide)).mono ?_
      rintro e w' ⟨rfl, rfl⟩
      go_wp2_with fail
      with_reducible refine (implTrail8 _ _ (by decide) (by decide)).mono ?_
      rintro e w' ⟨rfl, rfl⟩
      go_wp2_with fail
      go_ret
      exact ⟨rfl, Grown.refl _⟩
  · have r1 : Lib.bitLen (bits .or .u8 a0 a1).toNat = Lib.bitLen (a0).toNat := by have := HL.out; omega
    by_cases ht : Lib.trailingZeros8 (a1).toNat < Lib.trailingZeros8 (a0).toNat
    · have r2 : Lib.trailingZeros8 (bits .or .u8 a0 a1).toNat = Lib.trailingZeros8 (a1).toNat := by have := HT.out; omega
      go_enter Try.func4, Try.ntmps4
      go_wp2_with fail
      with_reducible refine (implLen8 _ _ p0 q0).mono ?_
      rintro e w' ⟨rfl, rfl⟩
      go_wp2_with fail
      with_reducible refine (implLen8 _ _ b0 c0).mono ?_
      rintro e w' ⟨rfl, rfl⟩
      go_wp2_with fail
      with_reducible refine (implLen8 _ _ b1 c1).mono ?_
      rintro e w' ⟨rfl, rfl⟩
      go_wp2_with fail
      with_reducible refine (implTrail8 _ _ p0 q0).mono ?_
      rintro e w' ⟨rfl, rfl⟩
      go_wp2_with fail
      with_reducible refine (implTrail8 _ _ b0 c0).mono ?_
      rintro e w' ⟨rfl, rfl⟩
      go_wp2_with fail
      with_reducible refine (implTrail8 _ _ b1 c1).mono ?_
      rintro e w' ⟨rfl, rfl⟩
      go_wp2_with fail
      with_reducible refine (implLen8 _ _ (by decide) (by decide)).mono ?_
      rintro e w' ⟨rfl, rfl⟩
      go_wp2_with fail
      with_reducible refine (implTrail8 _ _ (by decide) (by decide)).mono ?_
      rintro e w' ⟨rfl, rfl⟩
      go_wp2_with fail
      go_ret
      exact ⟨rfl, Grown.refl _⟩
    · have r2 : Lib.trailingZeros8 (bits .or .u8 a0 a1).toNat = Lib.trailingZeros8 (a0).toNat := by have := HT.out; omega
      go_enter Try.func4, Try.ntmps4
      go_wp2_with fail
      with_reducible refine (implLen8 _ _ p0 q0).mono ?_
      rintro e w' ⟨rfl, rfl⟩
      go_wp2_with fail
      with_reducible refine (implLen8 _ _ b0 c0).mono ?_
      rintro e w' ⟨rfl, rfl⟩
      go_wp2_with fail
      with_reducible refine (implLen8 _ _ b1 c1).mono ?_
      rintro e w' ⟨rfl, rfl⟩
      go_wp2_with fail
      with_reducible refine (implTrail8 _ _ p0 q0).mono ?_
      rintro e w' ⟨rfl, rfl⟩
      go_wp2_with fail
      with_reducible refine (implTrail8 _ _ b0 c0).mono ?_
      rintro e w' ⟨rfl, rfl⟩
      go_wp2_with fail
      with_reducible refine (implTrail8 _ _ b1 c1).mono ?_
      rintro e w' ⟨rfl, rfl⟩
      go_wp2_with fail
      with_reducible refine (implLen8 _ _ (by decide) (by decide)).mono ?_
      rintro e w' ⟨rfl, rfl⟩
      go_wp2_with fail
      with_reducible refine (implTrail8 _ _ (by decide) (by decide)).mono ?_
      rintro e w' ⟨rfl, rfl⟩
      go_wp2_with fail
      go_ret
      exact ⟨rfl, Grown.refl _⟩
end Go.Proofs.Ytnebokpifgipfaa.fnUnion8
