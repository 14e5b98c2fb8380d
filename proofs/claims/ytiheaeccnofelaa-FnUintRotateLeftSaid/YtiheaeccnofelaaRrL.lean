/-
  A number rotated to the left and then turned round is it turned round and then rotated to the right.
  Conditions: as stated in each theorem.
-/
import Derived.Test.YtiheaeccnofelaaRevI
namespace Go.Proofs.Ytiheaeccnofelaa.Pl

theorem rotZ_mod {w : Nat} (x : BitVec w) (j k : Int) (h : j % (w : Int) = k % (w : Int)) : rotZ x j = rotZ x k := by unfold rotZ; rw [h]
theorem rr8 (x k : Int) : rotI8 (revI8 x) (RowKit.wrap64 (-k)) = revI8 (rotI8 x k) := by
  unfold rotI8 revI8
  rw [ofInt_toNat, ofInt_toNat, rev_rot]
  congr 2
  apply rotZ_mod
  unfold RowKit.wrap64
  omega
theorem rot1_8 : rotI8 1 0 = 1 := by
  unfold rotI8
  rw [rotZ_zero]
  exact in8 1 (by decide) (by decide)
theorem rr16 (x k : Int) : rotI16 (revI16 x) (RowKit.wrap64 (-k)) = revI16 (rotI16 x k) := by
  unfold rotI16 revI16
  rw [ofInt_toNat, ofInt_toNat, rev_rot]
  congr 2
  apply rotZ_mod
  unfold RowKit.wrap64
  omega
theorem rot1_16 : rotI16 1 0 = 1 := by
  unfold rotI16
  rw [rotZ_zero]
  exact in16 1 (by decide) (by decide)
theorem rr32 (x k : Int) : rotI32 (revI32 x) (RowKit.wrap64 (-k)) = revI32 (rotI32 x k) := by
  unfold rotI32 revI32
  rw [ofInt_toNat, ofInt_toNat, rev_rot]
  congr 2
  apply rotZ_mod
  unfold RowKit.wrap64
  omega
theorem rot1_32 : rotI32 1 0 = 1 := by
  unfold rotI32
  rw [rotZ_zero]
  exact in32 1 (by decide) (by decide)
theorem rr64 (x k : Int) : rotI64 (revI64 x) (RowKit.wrap64 (-k)) = revI64 (rotI64 x k) := by
  unfold rotI64 revI64
  rw [ofInt_toNat, ofInt_toNat, rev_rot]
  congr 2
  apply rotZ_mod
  unfold RowKit.wrap64
  omega
theorem rot1_64 : rotI64 1 0 = 1 := by
  unfold rotI64
  rw [rotZ_zero]
  exact in64 1 (by decide) (by decide)

end Go.Proofs.Ytiheaeccnofelaa.Pl
