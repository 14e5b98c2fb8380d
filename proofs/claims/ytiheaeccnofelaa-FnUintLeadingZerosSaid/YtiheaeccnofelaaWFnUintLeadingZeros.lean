/-
  The walk of the law 'FnUintLeadingZeros': it returns true for every input.
  Conditions: the arguments are of their kinds.
-/
import Derived.Test.YtiheaeccnofelaaWid
import Derived.Test.YtiheaeccnofelaaLenC
import Derived.Test.YtiheaeccnofelaaUiL
import Derived.ProofKit
namespace Go.Proofs.Ytiheaeccnofelaa.fnUintLeadingZeros
open Go.RowKit Pl
set_option linter.unusedVariables false

theorem grown_drewN (w : World) (n : Nat) : Grown w (w.drewN n) := Grown.refl w

theorem walk (a0 : Int) (w0 : (Lit.int .u64 a0).wf = true) (w : World) :
    Calls Try.prog 11 #[.int .u64 a0] w fun e w' => e = .returned (.bool true) ∧ Grown w w' := by
  obtain ⟨b0, c0⟩ := bnd64 a0 w0
  clear w0
  have r2 := len_zero
  go_enter Try.func11, Try.ntmps11
  go_wp2_with fail
  with_reducible refine (specWidth _).mono ?_
  rintro e w' ⟨rfl, rfl⟩
  go_wp2_with fail
  with_reducible refine (implLead _ _ b0 c0).mono ?_
  rintro e w' ⟨rfl, rfl⟩
  go_wp2_with fail
  with_reducible refine (implLead64 _ _ b0 c0).mono ?_
  rintro e w' ⟨rfl, rfl⟩
  go_wp2_with fail
  with_reducible refine (implLead _ _ (by decide) (by decide)).mono ?_
  rintro e w' ⟨rfl, rfl⟩
  go_wp2_with fail
  with_reducible refine (specWidth _).mono ?_
  rintro e w' ⟨rfl, rfl⟩
  go_wp2_with fail
  go_ret
  exact ⟨rfl, Grown.refl _⟩
end Go.Proofs.Ytiheaeccnofelaa.fnUintLeadingZeros
