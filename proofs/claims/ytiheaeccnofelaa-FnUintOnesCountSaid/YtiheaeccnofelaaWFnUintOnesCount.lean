/-
  The walk of the law 'FnUintOnesCount': it returns true for every input.
  Conditions: the arguments are of their kinds.
-/
import Derived.Test.YtiheaeccnofelaaWid
import Derived.Test.YtiheaeccnofelaaPopC
import Derived.Test.YtiheaeccnofelaaUiL
import Derived.ProofKit
namespace Go.Proofs.Ytiheaeccnofelaa.fnUintOnesCount
open Go.RowKit Pl
set_option linter.unusedVariables false

theorem grown_drewN (w : World) (n : Nat) : Grown w (w.drewN n) := Grown.refl w

theorem walk (a0 : Int) (w0 : (Lit.int .u64 a0).wf = true) (w : World) :
    Calls Try.prog 12 #[.int .u64 a0] w fun e w' => e = .returned (.bool true) ∧ Grown w w' := by
  obtain ⟨b0, c0⟩ := bnd64 a0 w0
  clear w0
  have r2 := pop_one
  go_enter Try.func12, Try.ntmps12
  go_wp2_with fail
  with_reducible refine (specWidth _).mono ?_
  rintro e w' ⟨rfl, rfl⟩
  go_wp2_with fail
  with_reducible refine (implOnes _ _ b0 c0).mono ?_
  rintro e w' ⟨rfl, rfl⟩
  go_wp2_with fail
  with_reducible refine (implOnes64 _ _ b0 c0).mono ?_
  rintro e w' ⟨rfl, rfl⟩
  go_wp2_with fail
  with_reducible refine (implOnes _ _ (by decide) (by decide)).mono ?_
  rintro e w' ⟨rfl, rfl⟩
  go_wp2_with fail
  go_ret
  exact ⟨rfl, Grown.refl _⟩
end Go.Proofs.Ytiheaeccnofelaa.fnUintOnesCount
