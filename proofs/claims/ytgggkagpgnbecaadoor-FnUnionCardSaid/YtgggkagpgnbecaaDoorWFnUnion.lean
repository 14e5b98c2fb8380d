/-
  The walk of the law 'FnUnion': it returns true for every two numbers.
  Conditions: the arguments are of their kinds; the library's table holds what its text lays.
-/
import Derived.Test.YtgggkagpgnbecaaDoorLenC
import Derived.Test.YtgggkagpgnbecaaDoorTzC
import Derived.Test.YtgggkagpgnbecaaDoorTzL
import Derived.Test.YtgggkagpgnbecaaDoorWid
import Derived.Lib.Hide
import Derived.ProofKit
namespace Go.Proofs.YtgggkagpgnbecaaDoor.fnUnion
open Go.RowKit Pl
set_option linter.unusedVariables false

theorem walk (a0 : Int) (a1 : Int) (w0 : (Lit.int .u64 a0).wf = true) (w1 : (Lit.int .u64 a1).wf = true) (w : World) (hT : TabAt 0 Lib.deBruijn64tab w) :
    Calls Tryd.prog 3 #[.int .u64 a0, .int .u64 a1] w fun e w' => e = .returned (.bool true) ∧ Grown w w' := by
  obtain ⟨b0, c0⟩ := bnd64 a0 w0
  obtain ⟨b1, c1⟩ := bnd64 a1 w1
  clear w0 w1
  obtain ⟨p0, q0⟩ := rng_or64 a0 a1
  have z1 := bitLen_zero
  have z2 : Lib.ctz 64 0 = 64 := ctz_zero64
  have HL := Lib.hid (unionI64 a0 a1 b0 c0 b1 c1)
  have HT := Lib.hid (tzI64 a0 a1 b0 c0 b1 c1)
  by_cases hl : Lib.bitLen (a0).toNat < Lib.bitLen (a1).toNat
  · have r1 : Lib.bitLen (bits .or .u64 a0 a1).toNat = Lib.bitLen (a1).toNat := by have := HL.out; omega
    by_cases ht : Lib.ctz 64 (a1).toNat < Lib.ctz 64 (a0).toNat
    · have r2 : Lib.ctz 64 (bits .or .u64 a0 a1).toNat = Lib.ctz 64 (a1).toNat := by have := HT.out; omega
      go_enter Tryd.func3, Tryd.ntmps3
      go_wp2_with fail
      with_reducible refine (implLen _ _ p0 q0).mono ?_
      rintro e w' ⟨rfl, rfl⟩
      go_wp2_with fail
      with_reducible refine (implLen _ _ b0 c0).mono ?_
      rintro e w' ⟨rfl, rfl⟩
      go_wp2_with fail
      with_reducible refine (implLen _ _ b1 c1).mono ?_
      rintro e w' ⟨rfl, rfl⟩
      go_wp2_with fail
      with_reducible refine (implTrail _ _ p0 q0 hT).mono ?_
      rintro e w' ⟨rfl, rfl⟩
      go_wp2_with fail
      with_reducible refine (implTrail _ _ b0 c0 hT).mono ?_
      rintro e w' ⟨rfl, rfl⟩
      go_wp2_with fail
      with_reducible refine (implTrail _ _ b1 c1 hT).mono ?_
      rintro e w' ⟨rfl, rfl⟩
      go_wp2_with fail
      with_reducible refine (implLen _ _ (by decide) (by decide)).mono ?_
      rintro e w' ⟨rfl, rfl⟩
      go_wp2_with fail
      with_reducible refine (implTrail _ _ (by decide) (by decide) hT).mono ?_
      rintro e w' ⟨rfl, rfl⟩
      go_wp2_with fail
      with_reducible refine (specWidth _).mono ?_
      rintro e w' ⟨rfl, rfl⟩
      go_wp2_with fail
      go_ret
      exact ⟨rfl, Grown.refl _⟩
    · have r2 : Lib.ctz 64 (bits .or .u64 a0 a1).toNat = Lib.ctz 64 (a0).toNat := by have := HT.out; omega
      go_enter Tryd.func3, Tryd.ntmps3
      go_wp2_with fail
      with_reducible refine (implLen _ _ p0 q0).mono ?_
      rintro e w' ⟨rfl, rfl⟩
      go_wp2_with fail
      with_reducible refine (implLen _ _ b0 c0).mono ?_
      rintro e w' ⟨rfl, rfl⟩
      go_wp2_with fail
      with_reducible refine (implLen _ _ b1 c1).mono ?_
      rintro e w' ⟨rfl, rfl⟩
      go_wp2_with fail
      with_reducible refine (implTrail _ _ p0 q0 hT).mono ?_
      rintro e w' ⟨rfl, rfl⟩
      go_wp2_with fail
      with_reducible refine (implTrail _ _ b0 c0 hT).mono ?_
      rintro e w' ⟨rfl, rfl⟩
      go_wp2_with fail
      with_reducible refine (implTrail _ _ b1 c1 hT).mono ?_
      rintro e w' ⟨rfl, rfl⟩
      go_wp2_with fail
      with_reducible refine (implLen _ _ (by decide) (by decide)).mono ?_
      rintro e w' ⟨rfl, rfl⟩
      go_wp2_with fail
      with_reducible refine (implTrail _ _ (by decide) (by decide) hT).mono ?_
      rintro e w' ⟨rfl, rfl⟩
      go_wp2_with fail
      with_reducible refine (specWidth _).mono ?_
      rintro e w' ⟨rfl, rfl⟩
      go_wp2_with fail
      go_ret
      exact ⟨rfl, Grown.refl _⟩
  · have r1 : Lib.bitLen (bits .or .u64 a0 a1).toNat = Lib.bitLen (a0).toNat := by have := HL.out; omega
    by_cases ht : Lib.ctz 64 (a1).toNat < Lib.ctz 64 (a0).toNat
    · have r2 : Lib.ctz 64 (bits .or .u64 a0 a1).toNat = Lib.ctz 64 (a1).toNat := by have := HT.out; omega
      go_enter Tryd.func3, Tryd.ntmps3
      go_wp2_with fail
      with_reducible refine (implLen _ _ p0 q0).mono ?_
      rintro e w' ⟨rfl, rfl⟩
      go_wp2_with fail
      with_reducible refine (implLen _ _ b0 c0).mono ?_
      rintro e w' ⟨rfl, rfl⟩
      go_wp2_with fail
      with_reducible refine (implLen _ _ b1 c1).mono ?_
      rintro e w' ⟨rfl, rfl⟩
      go_wp2_with fail
      with_reducible refine (implTrail _ _ p0 q0 hT).mono ?_
      rintro e w' ⟨rfl, rfl⟩
      go_wp2_with fail
      with_reducible refine (implTrail _ _ b0 c0 hT).mono ?_
      rintro e w' ⟨rfl, rfl⟩
      go_wp2_with fail
      with_reducible refine (implTrail _ _ b1 c1 hT).mono ?_
      rintro e w' ⟨rfl, rfl⟩
      go_wp2_with fail
      with_reducible refine (implLen _ _ (by decide) (by decide)).mono ?_
      rintro e w' ⟨rfl, rfl⟩
      go_wp2_with fail
      with_reducible refine (implTrail _ _ (by decide) (by decide) hT).mono ?_
      rintro e w' ⟨rfl, rfl⟩
      go_wp2_with fail
      with_reducible refine (specWidth _).mono ?_
      rintro e w' ⟨rfl, rfl⟩
      go_wp2_with fail
      go_ret
      exact ⟨rfl, Grown.refl _⟩
    · have r2 : Lib.ctz 64 (bits .or .u64 a0 a1).toNat = Lib.ctz 64 (a0).toNat := by have := HT.out; omega
      go_enter Tryd.func3, Tryd.ntmps3
      go_wp2_with fail
      with_reducible refine (implLen _ _ p0 q0).mono ?_
      rintro e w' ⟨rfl, rfl⟩
      go_wp2_with fail
      with_reducible refine (implLen _ _ b0 c0).mono ?_
      rintro e w' ⟨rfl, rfl⟩
      go_wp2_with fail
      with_reducible refine (implLen _ _ b1 c1).mono ?_
      rintro e w' ⟨rfl, rfl⟩
      go_wp2_with fail
      with_reducible refine (implTrail _ _ p0 q0 hT).mono ?_
      rintro e w' ⟨rfl, rfl⟩
      go_wp2_with fail
      with_reducible refine (implTrail _ _ b0 c0 hT).mono ?_
      rintro e w' ⟨rfl, rfl⟩
      go_wp2_with fail
      with_reducible refine (implTrail _ _ b1 c1 hT).mono ?_
      rintro e w' ⟨rfl, rfl⟩
      go_wp2_with fail
      with_reducible refine (implLen _ _ (by decide) (by decide)).mono ?_
      rintro e w' ⟨rfl, rfl⟩
      go_wp2_with fail
      with_reducible refine (implTrail _ _ (by decide) (by decide) hT).mono ?_
      rintro e w' ⟨rfl, rfl⟩
      go_wp2_with fail
      with_reducible refine (specWidth _).mono ?_
      rintro e w' ⟨rfl, rfl⟩
      go_wp2_with fail
      go_ret
      exact ⟨rfl, Grown.refl _⟩
end Go.Proofs.YtgggkagpgnbecaaDoor.fnUnion
