/-
  The walk of the law 'FnReverseCount16': it returns true for every number.
  Conditions: the argument is of its kind.
-/
import Derived.Test.YtnebokpifgipfaaLenC
import Derived.Test.YtnebokpifgipfaaRevC
import Derived.Test.YtnebokpifgipfaaRcL
import Derived.Lib.Hide
import Derived.ProofKit
namespace Go.Proofs.Ytnebokpifgipfaa.fnReverseCount16
open Go.RowKit Pl
set_option linter.unusedVariables false

theorem grown_drewN (w : World) (n : Nat) : Grown w (w.drewN n) := Grown.refl w

theorem walk (a0 : Int) (w0 : (Lit.int .u16 a0).wf = true) (w : World) :
    Calls Try.prog 11 #[.int .u16 a0] w fun e w' => e = .returned (.bool true) ∧ Grown w w' := by
  obtain ⟨b0, c0⟩ := bnd16 a0 w0
  clear w0
  obtain ⟨p0, q0⟩ := rng_not16 a0
  obtain ⟨p1, q1⟩ := rng_rev16 a0
  obtain ⟨p2, q2⟩ := rng_wrap16 (revI16 a0 + 1)
  have l := Lib.bitLen_le (notI16 a0).toNat 16 (by decide) (by omega)
  obtain ⟨c, hc⟩ : ∃ c : Nat, 16 - (Lib.bitLen (notI16 a0).toNat : Int) = (c : Int) := ⟨16 - Lib.bitLen (notI16 a0).toNat, by omega⟩
  have hcl : c ≤ 16 := by omega
  have HC := Lib.hid hc
  clear l hc
  by_cases hlt : c < 16
  · have r := rc_some16 a0 c HC.out hlt
    go_enter Try.func11, Try.ntmps11
    go_wp2_with fail
    with_reducible refine (implLead16 _ _ p0 q0).mono ?_
    rintro e w' ⟨rfl, rfl⟩
    rw [HC.out]
    go_wp2_with fail
    go_quiet (fail)
    go_wp2_with fail
    with_reducible refine (implRev16 _ _ b0 c0).mono ?_
    rintro e w' ⟨rfl, n1, rfl⟩
    go_wp2_with fail
    with_reducible refine (implRev16 _ _ p2 q2).mono ?_
    rintro e w' ⟨rfl, n2, rfl⟩
    go_wp2_with fail
    go_ret
    exact ⟨rfl, grown_drewN _ _⟩
  · obtain rfl : c = 16 := by omega
    have r := rc_none16 a0 HC.out
    go_enter Try.func11, Try.ntmps11
    go_wp2_with fail
    with_reducible refine (implLead16 _ _ p0 q0).mono ?_
    rintro e w' ⟨rfl, rfl⟩
    rw [HC.out]
    go_wp2_with fail
    with_reducible refine (implRev16 _ _ b0 c0).mono ?_
    rintro e w' ⟨rfl, n1, rfl⟩
    go_wp2_with fail
    with_reducible refine (implRev16 _ _ p2 q2).mono ?_
    rintro e w' ⟨rfl, n2, rfl⟩
    go_wp2_with fail
    go_ret
    exact ⟨rfl, grown_drewN _ _⟩
end Go.Proofs.Ytnebokpifgipfaa.fnReverseCount16
