/-
  The walk of the law 'FnRotateBits32': it returns true for every two numbers and every count.
  Conditions: the arguments are of their kinds.
-/
import Derived.Test.YthkegogjboiilaaRot
import Derived.Test.YthkegogjboiilaaPopC
import Derived.Test.YthkegogjboiilaaRbL
import Derived.ProofKit
namespace Go.Proofs.Ythkegogjboiilaa.fnRotateBits32
open Go.RowKit Pl
set_option linter.unusedVariables false

theorem grown_drewN (w : World) (n : Nat) : Grown w (w.drewN n) := Grown.refl w

theorem walk (a0 : Int) (a1 : Int) (a2 : Int) (w0 : (Lit.int .u32 a0).wf = true) (w1 : (Lit.int .u32 a1).wf = true) (w2 : (Lit.int .i64 a2).wf = true) (w : World) :
    Calls Try.prog 4 #[.int .u32 a0, .int .u32 a1, .int .i64 a2] w fun e w' => e = .returned (.bool true) ∧ Grown w w' := by
  obtain ⟨b0, c0⟩ := bnd32 a0 w0
  obtain ⟨b1, c1⟩ := bnd32 a1 w1
  clear w0 w1 w2
  obtain ⟨p2, q2⟩ := rng_rot32 a0 a2
  obtain ⟨p3, q3⟩ := rng_xor32 a0 a1
  obtain ⟨p4, q4⟩ := rng_and32 a0 a1
  obtain ⟨p5, q5⟩ := rng_not32 a0
  have r1 := rb_ones32 a0 a2 b0 c0
  have r2 := rb_xor32 a0 a1 a2
  have r3 := rb_and32 a0 a1 a2
  have r4 := rb_not32 a0 a2
  go_enter Try.func4, Try.ntmps4
  go_wp2_with fail
  with_reducible refine (implRot32 _ _ _ b0 c0).mono ?_
  rintro e w' ⟨rfl, rfl⟩
  go_wp2_with fail
  with_reducible refine (implRot32 _ _ _ b1 c1).mono ?_
  rintro e w' ⟨rfl, rfl⟩
  go_wp2_with fail
  with_reducible refine (implOnes32 _ _ p2 q2).mono ?_
  rintro e w' ⟨rfl, n1, rfl⟩
  go_wp2_with fail
  with_reducible refine (implOnes32 _ _ b0 c0).mono ?_
  rintro e w' ⟨rfl, n2, rfl⟩
  go_wp2_with fail
  with_reducible refine (implRot32 _ _ _ p3 q3).mono ?_
  rintro e w' ⟨rfl, rfl⟩
  go_wp2_with fail
  with_reducible refine (implRot32 _ _ _ p4 q4).mono ?_
  rintro e w' ⟨rfl, rfl⟩
  go_wp2_with fail
  with_reducible refine (implRot32 _ _ _ p5 q5).mono ?_
  rintro e w' ⟨rfl, rfl⟩
  go_wp2_with fail
  go_ret
  exact ⟨rfl, grown_drewN _ _⟩
end Go.Proofs.Ythkegogjboiilaa.fnRotateBits32
