/-
  The walk of the law 'FnReverseCount8': it returns true for every number.
  Conditions: the argument is of its kind.
-/
import Derived.Test.YtnebokpifgipfaaLenC
import Derived.Test.YtnebokpifgipfaaRevC
import Derived.Test.YtnebokpifgipfaaRcL
import Derived.Lib.Hide
import Derived.ProofKit
namespace Go.Proofs.Ytnebokpifgipfaa.fnReverseCount8
open Go.RowKit Pl
set_option linter.unusedVariables false

theorem grown_drewN (w : World) (n : Nat) : Grown w (w.drewN n) := Grown.refl w

theorem walk (a0 : Int) (w0 : (Lit.int .u8 a0).wf = true) (w : World) :
    Calls Try.prog 5 #[.int .u8 a0] w fun e w' => e = .returned (.bool true) ∧ Grown w w' := by
  obtain ⟨b0, c0⟩ := bnd8 a0 w0
  clear w0
  obtain ⟨p0, q0⟩ := rng_not8 a0
  obtain ⟨p1, q1⟩ := rng_rev8 a0
  have p2 : 0 ≤ (revI8 a0 + 1) % 256 := by omega
  have q2 : (revI8 a0 + 1) % 256 ≤ 255 := by omega
  have l := Lib.bitLen_le (notI8 a0).toNat 8 (by decide) (by omega)
  obtain ⟨c, hc⟩ : ∃ c : Nat, 8 - (Lib.bitLen (notI8 a0).toNat : Int) = (c : Int) := ⟨8 - Lib.bitLen (notI8 a0).toNat, by omega⟩
  have hcl : c ≤ 8 := by omega
  have HC := Lib.hid hc
  clear l hc
  by_cases hlt : c < 8
  · have r := rc_some8 a0 c HC.out hlt
    go_enter Try.func5, Try.ntmps5
    go_wp2_with fail
    with_reducible refine (implLead8 _ _ p0 q0).mono ?_
    rintro e w' ⟨rfl, rfl⟩
    rw [HC.out]
    go_wp2_with fail
    go_quiet (fail)
    go_wp2_with fail
    with_reducible refine (implRev8 _ _ b0 c0).mono ?_
    rintro e w' ⟨rfl, rfl⟩
    go_wp2_with fail
    with_reducible refine (implRev8 _ _ p2 q2).mono ?_
    rintro e w' ⟨rfl, rfl⟩
    go_wp2_with fail
    go_ret
    exact ⟨rfl, grown_drewN _ _⟩
  · obtain rfl : c = 8 := by omega
    have r := rc_none8 a0 HC.out
    go_enter Try.func5, Try.ntmps5
    go_wp2_with fail
    with_reducible refine (implLead8 _ _ p0 q0).mono ?_
    rintro e w' ⟨rfl, rfl⟩
    rw [HC.out]
    go_wp2_with fail
    with_reducible refine (implRev8 _ _ b0 c0).mono ?_
    rintro e w' ⟨rfl, rfl⟩
    go_wp2_with fail
    with_reducible refine (implRev8 _ _ p2 q2).mono ?_
    rintro e w' ⟨rfl, rfl⟩
    go_wp2_with fail
    go_ret
    exact ⟨rfl, Grown.refl _⟩
end Go.Proofs.Ytnebokpifgipfaa.fnReverseCount8
