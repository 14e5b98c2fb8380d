/-
  The walk of the law 'FnBytes32': it returns true for every number.
  Conditions: the arguments are of their kinds.
-/
import Derived.Test.YthkegogjboiilaaRot
import Derived.Test.YthkegogjboiilaaRevC
import Derived.Test.YthkegogjboiilaaByL
import Derived.ProofKit
namespace Go.Proofs.Ythkegogjboiilaa.fnBytes32
open Go.RowKit Pl
set_option linter.unusedVariables false

theorem grown_drewN (w : World) (n : Nat) : Grown w (w.drewN n) := Grown.refl w

theorem walk (a0 : Int) (w0 : (Lit.int .u32 a0).wf = true) (w : World) :
    Calls Try.prog 5 #[.int .u32 a0] w fun e w' => e = .returned (.bool true) ∧ Grown w w' := by
  obtain ⟨b0, c0⟩ := bnd32 a0 w0
  clear w0
  have r1 := bytes32 a0
  have r2 := rb32_one
  go_enter Try.func5, Try.ntmps5
  go_wp2_with fail
  with_reducible refine (implBytes32 _ _ b0 c0).mono ?_
  rintro e w' ⟨rfl, rfl⟩
  go_wp2_with fail
  with_reducible refine (implRot32 _ _ _ b0 c0).mono ?_
  rintro e w' ⟨rfl, rfl⟩
  go_wp2_with fail
  with_reducible refine (implRot32 _ _ _ b0 c0).mono ?_
  rintro e w' ⟨rfl, rfl⟩
  go_wp2_with fail
  with_reducible refine (implBytes32 _ _ (by decide) (by decide)).mono ?_
  rintro e w' ⟨rfl, rfl⟩
  go_wp2_with fail
  go_ret
  exact ⟨rfl, Grown.refl _⟩
end Go.Proofs.Ythkegogjboiilaa.fnBytes32
