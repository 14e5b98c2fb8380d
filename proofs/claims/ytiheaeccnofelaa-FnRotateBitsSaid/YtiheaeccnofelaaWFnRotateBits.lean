/-
  The walk of the law 'FnRotateBits': it returns true for every two numbers and every count.
  Conditions: the arguments are of their kinds.
-/
import Derived.Test.YtiheaeccnofelaaRot
import Derived.Test.YtiheaeccnofelaaPopC
import Derived.Test.YtiheaeccnofelaaRbL
import Derived.ProofKit
namespace Go.Proofs.Ytiheaeccnofelaa.fnRotateBits
open Go.RowKit Pl
set_option linter.unusedVariables false

theorem grown_drewN (w : World) (n : Nat) : Grown w (w.drewN n) := Grown.refl w

theorem walk (a0 : Int) (a1 : Int) (a2 : Int) (w0 : (Lit.int .u64 a0).wf = true) (w1 : (Lit.int .u64 a1).wf = true) (w2 : (Lit.int .i64 a2).wf = true) (w : World) :
    Calls Try.prog 3 #[.int .u64 a0, .int .u64 a1, .int .i64 a2] w fun e w' => e = .returned (.bool true) ∧ Grown w w' := by
  obtain ⟨b0, c0⟩ := bnd64 a0 w0
  obtain ⟨b1, c1⟩ := bnd64 a1 w1
  clear w0 w1 w2
  obtain ⟨p2, q2⟩ := rng_rot64 a0 a2
  obtain ⟨p3, q3⟩ := rng_xor64 a0 a1
  obtain ⟨p4, q4⟩ := rng_and64 a0 a1
  obtain ⟨p5, q5⟩ := rng_not64 a0
  have r1 := rb_ones64 a0 a2 b0 c0
  have r2 := rb_xor64 a0 a1 a2
  have r3 := rb_and64 a0 a1 a2
  have r4 := rb_not64 a0 a2
  go_enter Try.func3, Try.ntmps3
  go_wp2_with fail
  with_reducible refine (implRot _ _ _ b0 c0).mono ?_
  rintro e w' ⟨rfl, rfl⟩
  go_wp2_with fail
  with_reducible refine (implRot _ _ _ b1 c1).mono ?_
  rintro e w' ⟨rfl, rfl⟩
  go_wp2_with fail
  with_reducible refine (implOnes _ _ p2 q2).mono ?_
  rintro e w' ⟨rfl, rfl⟩
  go_wp2_with fail
  with_reducible refine (implOnes _ _ b0 c0).mono ?_
  rintro e w' ⟨rfl, rfl⟩
  go_wp2_with fail
  with_reducible refine (implRot _ _ _ p3 q3).mono ?_
  rintro e w' ⟨rfl, rfl⟩
  go_wp2_with fail
  with_reducible refine (implRot _ _ _ p4 q4).mono ?_
  rintro e w' ⟨rfl, rfl⟩
  go_wp2_with fail
  with_reducible refine (implRot _ _ _ p5 q5).mono ?_
  rintro e w' ⟨rfl, rfl⟩
  go_wp2_with fail
  go_ret
  exact ⟨rfl, Grown.refl _⟩
end Go.Proofs.Ytiheaeccnofelaa.fnRotateBits
