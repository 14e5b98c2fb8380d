/-
  The walk of the law 'FnReverseCount': it returns true for every number.
  Conditions: the argument is of its kind.
-/
import Derived.Test.YtiheaeccnofelaaLenC
import Derived.Test.YtiheaeccnofelaaRevC
import Derived.Test.YtiheaeccnofelaaRcL
import Derived.Test.YtiheaeccnofelaaWid
import Derived.Lib.Hide
import Derived.ProofKit
namespace Go.Proofs.Ytiheaeccnofelaa.fnReverseCount
open Go.RowKit Pl
set_option linter.unusedVariables false

theorem grown_drewN (w : World) (n : Nat) : Grown w (w.drewN n) := Grown.refl w

theorem walk (a0 : Int) (w0 : (Lit.int .u64 a0).wf = true) (w : World) :
    Calls Try.prog 4 #[.int .u64 a0] w fun e w' => e = .returned (.bool true) ∧ Grown w w' := by
  obtain ⟨b0, c0⟩ := bnd64 a0 w0
  clear w0
  obtain ⟨p0, q0⟩ := rng_not64 a0
  obtain ⟨p1, q1⟩ := rng_rev64 a0
  obtain ⟨p2, q2⟩ := rng_wrap64 (revI64 a0 + 1)
  have l := Lib.bitLen_le (notI64 a0).toNat 64 (by decide) (by omega)
  obtain ⟨c, hc⟩ : ∃ c : Nat, 64 - (Lib.bitLen (notI64 a0).toNat : Int) = (c : Int) := ⟨64 - Lib.bitLen (notI64 a0).toNat, by omega⟩
  have hcl : c ≤ 64 := by omega
  have HC := Lib.hid hc
  clear l hc
  by_cases hlt : c < 64
  · have r := rc_some64 a0 c HC.out hlt
    go_enter Try.func4, Try.ntmps4
    go_wp2_with fail
    with_reducible refine (implLead _ _ p0 q0).mono ?_
    rintro e w' ⟨rfl, rfl⟩
    rw [HC.out]
    go_wp2_with fail
    with_reducible refine (specWidth _).mono ?_
    rintro e w' ⟨rfl, rfl⟩
    go_wp2_with fail
    go_quiet ((go_at_call 17; exact Calls.quiet_of_same ((specWidth _).mono (fun _ _ h => ⟨h.1, h.2.symm⟩))))
    go_wp2_with fail
    with_reducible refine (implRev _ _ b0 c0).mono ?_
    rintro e w' ⟨rfl, rfl⟩
    go_wp2_with fail
    with_reducible refine (implRev _ _ p2 q2).mono ?_
    rintro e w' ⟨rfl, rfl⟩
    go_wp2_with fail
    go_ret
    exact ⟨rfl, grown_drewN _ _⟩
  · obtain rfl : c = 64 := by omega
    have r := rc_none64 a0 HC.out
    go_enter Try.func4, Try.ntmps4
    go_wp2_with fail
    with_reducible refine (implLead _ _ p0 q0).mono ?_
    rintro e w' ⟨rfl, rfl⟩
    rw [HC.out]
    go_wp2_with fail
    with_reducible refine (specWidth _).mono ?_
    rintro e w' ⟨rfl, rfl⟩
    go_wp2_with fail
    with_reducible refine (implRev _ _ b0 c0).mono ?_
    rintro e w' ⟨rfl, rfl⟩
    go_wp2_with fail
    with_reducible refine (implRev _ _ p2 q2).mono ?_
    rintro e w' ⟨rfl, rfl⟩
    go_wp2_with fail
    go_ret
    exact ⟨rfl, Grown.refl _⟩
end Go.Proofs.Ytiheaeccnofelaa.fnReverseCount
