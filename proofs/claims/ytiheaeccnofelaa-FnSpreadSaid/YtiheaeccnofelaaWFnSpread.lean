/-
  The walk of the law 'FnSpread': it returns true for every number and every two counts.
  Conditions: the arguments are of their kinds.
-/
import Derived.Test.YtiheaeccnofelaaRot
import Derived.Test.YtiheaeccnofelaaSpr
import Derived.Test.YtiheaeccnofelaaWid
import Derived.LoopTactic
import Derived.ProofKit
namespace Go.Proofs.Ytiheaeccnofelaa.fnSpread
open Go.RowKit Pl
set_option linter.unusedVariables false

theorem walk (a0 : Int) (a1 : Int) (a2 : Int) (w0 : (Lit.int .u64 a0).wf = true) (w1 : (Lit.int .i64 a1).wf = true) (w2 : (Lit.int .i64 a2).wf = true) (w : World) :
    Calls Try.prog 5 #[.int .u64 a0, .int .i64 a1, .int .i64 a2] w fun e w' => e = .returned (.bool true) ∧ Grown w w' := by
  obtain ⟨hb0, hb1⟩ := bnd64 a0 w0
  clear w0 w1 w2
  go_enter Try.func5, Try.ntmps5
  go_wp2_with fail
  go_loop [7, 8] (fun y i => ∃ n : Nat, n ≤ 64 ∧ i = .int .i64 n ∧ y = .int .u64 (spI64 a0 a1 a2 n)) (fun _ i => 64 - (intOf i).toNat)
  case atStart => exact ⟨0, by omega, rfl, by rw [sp_zero64 _ _ _ hb0 hb1]⟩
  case round =>
    obtain ⟨n, hn, rfl, rfl⟩ := hrel
    have hr := rng_sp64 a0 a1 a2 n
    by_cases hlt : n < 64
    · go_wp2_with fail
      with_reducible refine (specWidth _).mono ?_
      rintro e w' ⟨rfl, rfl⟩
      go_wp2_with fail
      with_reducible refine (implRot _ _ _ hr.1 hr.2).mono ?_
      rintro e w' ⟨rfl, rfl⟩
      go_wp2_with fail
      with_reducible refine (implRot _ _ _ hr.1 hr.2).mono ?_
      rintro e w' ⟨rfl, rfl⟩
      go_wp2_with fail
      go_round
      case rel => exact ⟨n + 1, by omega, by go_num, by rw [← sp_step64]⟩
      case measure => simp [intOf]; omega
    · obtain rfl : n = 64 := by omega
      have hl := sp_last64 a0 a1 a2 hb0 hb1
      rw [hl]
      clear hl hr
      have h1 : (a0 == a0) = true := by simp
      have h2 := rot_one64
      go_wp2_with fail
      with_reducible refine (specWidth _).mono ?_
      rintro e w' ⟨rfl, rfl⟩
      go_wp2_with fail
      with_reducible refine (implRot _ _ _ (by omega) (by omega)).mono ?_
      rintro e w' ⟨rfl, rfl⟩
      go_wp2_with fail
      go_ret
      exact ⟨rfl, Grown.refl _⟩
end Go.Proofs.Ytiheaeccnofelaa.fnSpread
