/-
  The walk of the law 'FnUintRotateLeft': it returns true for every input.
  Conditions: the arguments are of their kinds.
-/
import Derived.Test.YtiheaeccnofelaaWid
import Derived.Test.YtiheaeccnofelaaRot
import Derived.Test.YtiheaeccnofelaaRrL
import Derived.ProofKit
namespace Go.Proofs.Ytiheaeccnofelaa.fnUintRotateLeft
open Go.RowKit Pl
set_option linter.unusedVariables false

theorem grown_drewN (w : World) (n : Nat) : Grown w (w.drewN n) := Grown.refl w

theorem walk (a0 : Int) (a1 : Int) (w0 : (Lit.int .u64 a0).wf = true) (w1 : (Lit.int .i64 a1).wf = true) (w : World) :
    Calls Try.prog 6 #[.int .u64 a0, .int .i64 a1] w fun e w' => e = .returned (.bool true) ∧ Grown w w' := by
  obtain ⟨b0, c0⟩ := bnd64 a0 w0
  clear w0 w1
  obtain ⟨p0, q0⟩ := rng_rot64 a0 a1
  have r2 := rot1_64
  go_enter Try.func6, Try.ntmps6
  go_wp2_with fail
  with_reducible refine (specWidth _).mono ?_
  rintro e w' ⟨rfl, rfl⟩
  go_wp2_with fail
  with_reducible refine (implRot _ _ _ b0 c0).mono ?_
  rintro e w' ⟨rfl, rfl⟩
  go_wp2_with fail
  with_reducible refine (implRot64 _ _ _ b0 c0).mono ?_
  rintro e w' ⟨rfl, rfl⟩
  go_wp2_with fail
  with_reducible refine (implRot _ _ _ (by decide) (by decide)).mono ?_
  rintro e w' ⟨rfl, rfl⟩
  go_wp2_with fail
  go_ret
  exact ⟨rfl, Grown.refl _⟩
end Go.Proofs.Ytiheaeccnofelaa.fnUintRotateLeft
