/-
  The walk of the law 'FnBytes64': it returns true for every number.
  Conditions: the arguments are of their kinds.
-/
import Derived.Test.YthkegogjboiilaaRot
import Derived.Test.YthkegogjboiilaaRevC
import Derived.Test.YthkegogjboiilaaByL
import Derived.ProofKit
namespace Go.Proofs.Ythkegogjboiilaa.fnBytes64
open Go.RowKit Pl
set_option linter.unusedVariables false

theorem grown_drewN (w : World) (n : Nat) : Grown w (w.drewN n) := Grown.refl w

theorem walk (a0 : Int) (w0 : (Lit.int .u64 a0).wf = true) (w : World) :
    Calls Try.prog 6 #[.int .u64 a0] w fun e w' => e = .returned (.bool true) ∧ Grown w w' := by
  obtain ⟨b0, c0⟩ := bnd64 a0 w0
  clear w0
  obtain ⟨p0, q0⟩ := rng_rot64 a0 32
  have s1 := ex16_raw (rotI64 a0 32) p0 q0
  obtain ⟨p1, q1⟩ := rng_ex16 (rotI64 a0 32)
  have s2 := ex8_raw (ex16I (rotI64 a0 32)) p1 q1
  have r1 := bytes64 a0
  have r2 := rb64_one
  go_enter Try.func6, Try.ntmps6
  go_wp2_with fail
  with_reducible refine (implRot64 _ _ _ b0 c0).mono ?_
  rintro e w' ⟨rfl, rfl⟩
  go_wp2_with fail
  with_reducible refine (implBytes64 _ _ b0 c0).mono ?_
  rintro e w' ⟨rfl, rfl⟩
  go_wp2_with fail
  with_reducible refine (implBytes64 _ _ (by decide) (by decide)).mono ?_
  rintro e w' ⟨rfl, rfl⟩
  go_wp2_with fail
  go_ret
  exact ⟨rfl, Grown.refl _⟩
end Go.Proofs.Ythkegogjboiilaa.fnBytes64
