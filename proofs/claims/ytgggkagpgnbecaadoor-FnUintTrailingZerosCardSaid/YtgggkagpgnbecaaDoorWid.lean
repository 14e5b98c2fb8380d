/-
  Contract of the reference's width: the number of bits of a uint is 64 in the model.
  Conditions: none.
-/
import Derived.Test.YtgggkagpgnbecaaDoorChecked
import Derived.WalkKit
import Derived.WalkLawsBesides
namespace Go.Proofs.YtgggkagpgnbecaaDoor
open Go.RowKit

theorem specWidth (w : World) :
    Calls Tryd.prog 11 #[] w fun e w' => e = .returned (.int .i64 64) ∧ w = w' := by
  go_enter Tryd.func11, Tryd.ntmps11
  go_wp2
  go_ret
  exact ⟨rfl, rfl⟩
end Go.Proofs.YtgggkagpgnbecaaDoor
