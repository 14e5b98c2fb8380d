/-
  Contract of the reference's width: the number of bits of a uint is 64 in the model.
  Conditions: none.
-/
import Derived.Test.YtiheaeccnofelaaChecked
import Derived.WalkKit
import Derived.WalkLawsBesides
namespace Go.Proofs.Ytiheaeccnofelaa
open Go.RowKit

theorem specWidth (w : World) :
    Calls Try.prog 17 #[] w fun e w' => e = .returned (.int .i64 64) ∧ w = w' := by
  go_enter Try.func17, Try.ntmps17
  go_wp2
  go_ret
  exact ⟨rfl, rfl⟩
end Go.Proofs.Ytiheaeccnofelaa
