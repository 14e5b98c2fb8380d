/-
  The walk of the law 'FnPrefix': it returns true for every three numbers.
  Conditions: the arguments are of their kinds.
-/
import Derived.Test.YtiheaeccnofelaaLenC
import Derived.Test.YtiheaeccnofelaaLenL
import Derived.ProofKit
namespace Go.Proofs.Ytiheaeccnofelaa.fnPrefix
open Go.RowKit Pl
set_option linter.unusedVariables false

theorem grown_drewN (w : World) (n : Nat) : Grown w (w.drewN n) := Grown.refl w

theorem walk (a0 : Int) (a1 : Int) (a2 : Int) (w0 : (Lit.int .u64 a0).wf = true) (w1 : (Lit.int .u64 a1).wf = true) (w2 : (Lit.int .u64 a2).wf = true) (w : World) :
    Calls Try.prog 8 #[.int .u64 a0, .int .u64 a1, .int .u64 a2] w fun e w' => e = .returned (.bool true) ∧ Grown w w' := by
  obtain ⟨b0, c0⟩ := bnd64 a0 w0
  obtain ⟨b1, c1⟩ := bnd64 a1 w1
  obtain ⟨b2, c2⟩ := bnd64 a2 w2
  clear w0 w1 w2
  obtain ⟨p0, q0⟩ := rng_xor64 a0 a1
  obtain ⟨p1, q1⟩ := rng_xor64 a1 a2
  obtain ⟨p2, q2⟩ := rng_xor64 a0 a2
  have L := Lib.hid (trioI64 a0 a1 a2 b0 c0 b1 c1 b2 c2)
  have z1 := bitLen_one
  go_enter Try.func8, Try.ntmps8
  go_wp2_with fail
  with_reducible refine (implLen _ _ p0 q0).mono ?_
  rintro e w' ⟨rfl, rfl⟩
  go_wp2_with fail
  with_reducible refine (implLen _ _ p1 q1).mono ?_
  rintro e w' ⟨rfl, rfl⟩
  go_wp2_with fail
  with_reducible refine (implLen _ _ p2 q2).mono ?_
  rintro e w' ⟨rfl, rfl⟩
  have L := L.out
  obtain ⟨L1, L2, L3⟩ := L
  clear p0 q0 p1 q1 p2 q2
  generalize Lib.bitLen (bits .xor .u64 a0 a1).toNat = A at *
  generalize Lib.bitLen (bits .xor .u64 a1 a2).toNat = B at *
  generalize Lib.bitLen (bits .xor .u64 a0 a2).toNat = C at *
  rcases Nat.lt_trichotomy A B with h | h | h
  · obtain rfl : C = B := by omega
    have t1 : ((A : Int) == (C : Int)) = false := beq_eq_false_iff_ne.2 (by omega)
    clear L1 L2 L3
    go_wp2_with fail
    with_reducible refine (implLen _ _ (by decide) (by decide)).mono ?_
    rintro e w' ⟨rfl, rfl⟩
    go_wp2_with fail
    go_ret
    exact ⟨rfl, Grown.refl _⟩
  · subst h
    have t1 : C ≤ A := by omega
    clear L1 L2 L3
    go_wp2_with fail
    with_reducible refine (implLen _ _ (by decide) (by decide)).mono ?_
    rintro e w' ⟨rfl, rfl⟩
    go_wp2_with fail
    go_ret
    exact ⟨rfl, Grown.refl _⟩
  · obtain rfl : C = A := by omega
    have t1 : ((C : Int) == (B : Int)) = false := beq_eq_false_iff_ne.2 (by omega)
    clear L1 L2 L3
    go_wp2_with fail
    with_reducible refine (implLen _ _ (by decide) (by decide)).mono ?_
    rintro e w' ⟨rfl, rfl⟩
    go_wp2_with fail
    go_ret
    exact ⟨rfl, Grown.refl _⟩
end Go.Proofs.Ytiheaeccnofelaa.fnPrefix
