/-
  The walk of the law 'FnUintTrailingZeros': it returns true for every number.
  Conditions: the argument is of its kind; the library's table holds what its text lays.
-/
import Derived.Test.YtgggkagpgnbecaaDoorTzC
import Derived.Test.YtgggkagpgnbecaaDoorWid
import Derived.ProofKit
namespace Go.Proofs.YtgggkagpgnbecaaDoor.fnUintTrailingZeros
open Go.RowKit Pl

theorem walk (a0 : Int) (w0 : (Lit.int .u64 a0).wf = true) (w : World) (hT : TabAt 0 Lib.deBruijn64tab w) :
    Calls Tryd.prog 8 #[.int .u64 a0] w fun e w' => e = .returned (.bool true) ∧ Grown w w' := by
  obtain ⟨b0, c0⟩ := bnd64 a0 w0
  clear w0
  have z2 : Lib.ctz 64 0 = 64 := ctz_zero64
  go_enter Tryd.func8, Tryd.ntmps8
  go_wp2_with fail
  with_reducible refine (specWidth _).mono ?_
  rintro e w' ⟨rfl, rfl⟩
  go_wp2_with fail
  with_reducible refine (implTrail _ _ b0 c0 hT).mono ?_
  rintro e w' ⟨rfl, rfl⟩
  go_wp2_with fail
  with_reducible refine (implTrail64 _ _ b0 c0 hT).mono ?_
  rintro e w' ⟨rfl, rfl⟩
  go_wp2_with fail
  with_reducible refine (implTrail _ _ (by decide) (by decide) hT).mono ?_
  rintro e w' ⟨rfl, rfl⟩
  go_wp2_with fail
  with_reducible refine (specWidth _).mono ?_
  rintro e w' ⟨rfl, rfl⟩
  go_wp2_with fail
  go_ret
  exact ⟨rfl, Grown.refl _⟩
end Go.Proofs.YtgggkagpgnbecaaDoor.fnUintTrailingZeros
