/-
  The walk of the law 'FnReverseCount32': it returns true for every number.
  Conditions: the argument is of its kind.
-/
import Derived.Test.YthkegogjboiilaaLenC
import Derived.Test.YthkegogjboiilaaRevC
import Derived.Test.YthkegogjboiilaaRcL
import Derived.Lib.Hide
import Derived.ProofKit
namespace Go.Proofs.Ythkegogjboiilaa.fnReverseCount32
open Go.RowKit Pl
set_option linter.unusedVariables false

theorem grown_drewN (w : World) (n : Nat) : Grown w (w.drewN n) := Grown.refl w

theorem walk (a0 : Int) (w0 : (Lit.int .u32 a0).wf = true) (w : World) :
    Calls Try.prog 10 #[.int .u32 a0] w fun e w' => e = .returned (.bool true) ∧ Grown w w' := by
  obtain ⟨b0, c0⟩ := bnd32 a0 w0
  clear w0
  obtain ⟨p0, q0⟩ := rng_not32 a0
  obtain ⟨p1, q1⟩ := rng_rev32 a0
  have p2 : 0 ≤ (revI32 a0 + 1) % 4294967296 := by omega
  have q2 : (revI32 a0 + 1) % 4294967296 ≤ 4294967295 := by omega
  have l := Lib.bitLen_le (notI32 a0).toNat 32 (by decide) (by omega)
  obtain ⟨c, hc⟩ : ∃ c : Nat, 32 - (Lib.bitLen (notI32 a0).toNat : Int) = (c : Int) := ⟨32 - Lib.bitLen (notI32 a0).toNat, by omega⟩
  have hcl : c ≤ 32 := by omega
  have HC := Lib.hid hc
  clear l hc
  by_cases hlt : c < 32
  · have r := rc_some32 a0 c HC.out hlt
    go_enter Try.func10, Try.ntmps10
    go_wp2_with fail
    with_reducible refine (implLead32 _ _ p0 q0).mono ?_
    rintro e w' ⟨rfl, rfl⟩
    rw [HC.out]
    go_wp2_with fail
    go_quiet (fail)
    go_wp2_with fail
    with_reducible refine (implRev32 _ _ b0 c0).mono ?_
    rintro e w' ⟨rfl, rfl⟩
    go_wp2_with fail
    with_reducible refine (implRev32 _ _ p2 q2).mono ?_
    rintro e w' ⟨rfl, rfl⟩
    go_wp2_with fail
    go_ret
    exact ⟨rfl, grown_drewN _ _⟩
  · obtain rfl : c = 32 := by omega
    have r := rc_none32 a0 HC.out
    go_enter Try.func10, Try.ntmps10
    go_wp2_with fail
    with_reducible refine (implLead32 _ _ p0 q0).mono ?_
    rintro e w' ⟨rfl, rfl⟩
    rw [HC.out]
    go_wp2_with fail
    with_reducible refine (implRev32 _ _ b0 c0).mono ?_
    rintro e w' ⟨rfl, rfl⟩
    go_wp2_with fail
    with_reducible refine (implRev32 _ _ p2 q2).mono ?_
    rintro e w' ⟨rfl, rfl⟩
    go_wp2_with fail
    go_ret
    exact ⟨rfl, Grown.refl _⟩
end Go.Proofs.Ythkegogjboiilaa.fnReverseCount32
