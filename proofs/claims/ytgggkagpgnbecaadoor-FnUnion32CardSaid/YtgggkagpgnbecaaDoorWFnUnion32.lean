/-
  The walk of the law 'FnUnion32': it returns true for every two numbers.
  Conditions: the arguments are of their kinds; the library's table holds what its text lays.
-/
import Derived.Test.YtgggkagpgnbecaaDoorLenC
import Derived.Test.YtgggkagpgnbecaaDoorTzC
import Derived.Test.YtgggkagpgnbecaaDoorTzL
import Derived.Lib.Hide
import Derived.ProofKit
namespace Go.Proofs.YtgggkagpgnbecaaDoor.fnUnion32
open Go.RowKit Pl
set_option linter.unusedVariables false

theorem walk (a0 : Int) (a1 : Int) (w0 : (Lit.int .u32 a0).wf = true) (w1 : (Lit.int .u32 a1).wf = true) (w : World) (hT : TabAt 1 Lib.deBruijn32tab w) :
    Calls Tryd.prog 6 #[.int .u32 a0, .int .u32 a1] w fun e w' => e = .returned (.bool true) ∧ Grown w w' := by
  obtain ⟨b0, c0⟩ := bnd32 a0 w0
  obtain ⟨b1, c1⟩ := bnd32 a1 w1
  clear w0 w1
  obtain ⟨p0, q0⟩ := rng_or32 a0 a1
  have z1 := bitLen_zero
  have z2 : Lib.ctz 32 0 = 32 := ctz_zero32
  have HL := Lib.hid (unionI32 a0 a1 b0 c0 b1 c1)
  have HT := Lib.hid (tzI32 a0 a1 b0 c0 b1 c1)
  by_cases hl : Lib.bitLen (a0).toNat < Lib.bitLen (a1).toNat
  · have r1 : Lib.bitLen (bits .or .u32 a0 a1).toNat = Lib.bitLen (a1).toNat := by have := HL.out; omega
    by_cases ht : Lib.ctz 32 (a1).toNat < Lib.ctz 32 (a0).toNat
    · have r2 : Lib.ctz 32 (bits .or .u32 a0 a1).toNat = Lib.ctz 32 (a1).toNat := by have := HT.out; omega
      go_enter Tryd.func6, Tryd.ntmps6
      go_wp2_with fail
      with_reducible refine (implLen32 _ _ p0 q0).mono ?_
      rintro e w' ⟨rfl, rfl⟩
      go_wp2_with fail
      with_reducible refine (implLen32 _ _ b0 c0).mono ?_
      rintro e w' ⟨rfl, rfl⟩
      go_wp2_with fail
      with_reducible refine (implLen32 _ _ b1 c1).mono ?_
      rintro e w' ⟨rfl, rfl⟩
      go_wp2_with fail
      with_reducible refine (implTrail32 _ _ p0 q0 hT).mono ?_
      rintro e w' ⟨rfl, rfl⟩
      go_wp2_with fail
      with_reducible refine (implTrail32 _ _ b0 c0 hT).mono ?_
      rintro e w' ⟨rfl, rfl⟩
      go_wp2_with fail
      with_reducible refine (implTrail32 _ _ b1 c1 hT).mono ?_
      rintro e w' ⟨rfl, rfl⟩
      go_wp2_with fail
      with_reducible refine (implLen32 _ _ (by decide) (by decide)).mono ?_
      rintro e w' ⟨rfl, rfl⟩
      go_wp2_with fail
      with_reducible refine (implTrail32 _ _ (by decide) (by decide) hT).mono ?_
      rintro e w' ⟨rfl, rfl⟩
      go_wp2_with fail
      go_ret
      exact ⟨rfl, Grown.refl _⟩
    · have r2 : Lib.ctz 32 (bits .or .u32 a0 a1).toNat = Lib.ctz 32 (a0).toNat := by have := HT.out; omega
      go_enter Tryd.func6, Tryd.ntmps6
      go_wp2_with fail
      with_reducible refine (implLen32 _ _ p0 q0).mono ?_
      rintro e w' ⟨rfl, rfl⟩
      go_wp2_with fail
      with_reducible refine (implLen32 _ _ b0 c0).mono ?_
      rintro e w' ⟨rfl, rfl⟩
      go_wp2_with fail
      with_reducible refine (implLen32 _ _ b1 c1).mono ?_
      rintro e w' ⟨rfl, rfl⟩
      go_wp2_with fail
      with_reducible refine (implTrail32 _ _ p0 q0 hT).mono ?_
      rintro e w' ⟨rfl, rfl⟩
      go_wp2_with fail
      with_reducible refine (implTrail32 _ _ b0 c0 hT).mono ?_
      rintro e w' ⟨rfl, rfl⟩
      go_wp2_with fail
      with_reducible refine (implTrail32 _ _ b1 c1 hT).mono ?_
      rintro e w' ⟨rfl, rfl⟩
      go_wp2_with fail
      with_reducible refine (implLen32 _ _ (by decide) (by decide)).mono ?_
      rintro e w' ⟨rfl, rfl⟩
      go_wp2_with fail
      with_reducible refine (implTrail32 _ _ (by decide) (by decide) hT).mono ?_
      rintro e w' ⟨rfl, rfl⟩
      go_wp2_with fail
      go_ret
      exact ⟨rfl, Grown.refl _⟩
  · have r1 : Lib.bitLen (bits .or .u32 a0 a1).toNat = Lib.bitLen (a0).toNat := by have := HL.out; omega
    by_cases ht : Lib.ctz 32 (a1).toNat < Lib.ctz 32 (a0).toNat
    · have r2 : Lib.ctz 32 (bits .or .u32 a0 a1).toNat = Lib.ctz 32 (a1).toNat := by have := HT.out; omega
      go_enter Tryd.func6, Tryd.ntmps6
      go_wp2_with fail
      with_reducible refine (implLen32 _ _ p0 q0).mono ?_
      rintro e w' ⟨rfl, rfl⟩
      go_wp2_with fail
      with_reducible refine (implLen32 _ _ b0 c0).mono ?_
      rintro e w' ⟨rfl, rfl⟩
      go_wp2_with fail
      with_reducible refine (implLen32 _ _ b1 c1).mono ?_
      rintro e w' ⟨rfl, rfl⟩
      go_wp2_with fail
      with_reducible refine (implTrail32 _ _ p0 q0 hT).mono ?_
      rintro e w' ⟨rfl, rfl⟩
      go_wp2_with fail
      with_reducible refine (implTrail32 _ _ b0 c0 hT).mono ?_
      rintro e w' ⟨rfl, rfl⟩
      go_wp2_with fail
      with_reducible refine (implTrail32 _ _ b1 c1 hT).mono ?_
      rintro e w' ⟨rfl, rfl⟩
      go_wp2_with fail
      with_reducible refine (implLen32 _ _ (by decide) (by decide)).mono ?_
      rintro e w' ⟨rfl, rfl⟩
      go_wp2_with fail
      with_reducible refine (implTrail32 _ _ (by decide) (by decide) hT).mono ?_
      rintro e w' ⟨rfl, rfl⟩
      go_wp2_with fail
      go_ret
      exact ⟨rfl, Grown.refl _⟩
    · have r2 : Lib.ctz 32 (bits .or .u32 a0 a1).toNat = Lib.ctz 32 (a0).toNat := by have := HT.out; omega
      go_enter Tryd.func6, Tryd.ntmps6
      go_wp2_with fail
      with_reducible refine (implLen32 _ _ p0 q0).mono ?_
      rintro e w' ⟨rfl, rfl⟩
      go_wp2_with fail
      with_reducible refine (implLen32 _ _ b0 c0).mono ?_
      rintro e w' ⟨rfl, rfl⟩
      go_wp2_with fail
      with_reducible refine (implLen32 _ _ b1 c1).mono ?_
      rintro e w' ⟨rfl, rfl⟩
      go_wp2_with fail
      with_reducible refine (implTrail32 _ _ p0 q0 hT).mono ?_
      rintro e w' ⟨rfl, rfl⟩
      go_wp2_with fail
      with_reducible refine (implTrail32 _ _ b0 c0 hT).mono ?_
      rintro e w' ⟨rfl, rfl⟩
      go_wp2_with fail
      with_reducible refine (implTrail32 _ _ b1 c1 hT).mono ?_
      rintro e w' ⟨rfl, rfl⟩
      go_wp2_with fail
      with_reducible refine (implLen32 _ _ (by decide) (by decide)).mono ?_
      rintro e w' ⟨rfl, rfl⟩
      go_wp2_with fail
      with_reducible refine (implTrail32 _ _ (by decide) (by decide) hT).mono ?_
      rintro e w' ⟨rfl, rfl⟩
      go_wp2_with fail
      go_ret
      exact ⟨rfl, Grown.refl _⟩
end Go.Proofs.YtgggkagpgnbecaaDoor.fnUnion32
