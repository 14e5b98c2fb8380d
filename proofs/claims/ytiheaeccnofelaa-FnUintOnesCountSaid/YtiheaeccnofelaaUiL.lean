/-
  Closed facts on small numbers.
  Conditions: as stated in each theorem.
-/
import Derived.Lib.BitFns
import Derived.Test.YtiheaeccnofelaaRevI
namespace Go.Proofs.Ytiheaeccnofelaa.Pl

theorem rev_one : 1 < revI64 1 := by decide +kernel
theorem pop_one : Lib.popAux 64 1 = 1 := by decide
theorem len_one : Lib.bitLen 1 = 1 := by decide
theorem len_zero : Lib.bitLen 0 = 0 := by decide

end Go.Proofs.Ytiheaeccnofelaa.Pl
