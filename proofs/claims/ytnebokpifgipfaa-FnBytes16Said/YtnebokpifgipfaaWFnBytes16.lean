/-
  The walk of the law 'FnBytes16': it returns true for every number.
  Conditions: the arguments are of their kinds.
-/
import Derived.Test.YtnebokpifgipfaaRot
import Derived.Test.YtnebokpifgipfaaRevC
import Derived.Test.YtnebokpifgipfaaByL
import Derived.ProofKit
namespace Go.Proofs.Ytnebokpifgipfaa.fnBytes16
open Go.RowKit Pl
set_option linter.unusedVariables false

theorem grown_drewN (w : World) (n : Nat) : Grown w (w.drewN n) := Grown.refl w

theorem walk (a0 : Int) (w0 : (Lit.int .u16 a0).wf = true) (w : World) :
    Calls Try.prog 6 #[.int .u16 a0] w fun e w' => e = .returned (.bool true) ∧ Grown w w' := by
  obtain ⟨b0, c0⟩ := bnd16 a0 w0
  clear w0
  have r1 := rb16_rot a0 b0 c0
  have r2 := rb16_one
  go_enter Try.func6, Try.ntmps6
  go_wp2_with fail
  with_reducible refine (implBytes16 _ _ b0 c0).mono ?_
  rintro e w' ⟨rfl, rfl⟩
  go_wp2_with fail
  with_reducible refine (implRot16 _ _ _ b0 c0).mono ?_
  rintro e w' ⟨rfl, rfl⟩
  go_wp2_with fail
  with_reducible refine (implBytes16 _ _ (by decide) (by decide)).mono ?_
  rintro e w' ⟨rfl, rfl⟩
  go_wp2_with fail
  go_ret
  exact ⟨rfl, Grown.refl _⟩
end Go.Proofs.Ytnebokpifgipfaa.fnBytes16
