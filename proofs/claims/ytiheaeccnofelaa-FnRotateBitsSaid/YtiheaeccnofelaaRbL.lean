/-
  A rotation keeps how many ones a number has, and goes with what is done bit by bit.
  Conditions: as stated in each theorem.
-/
import Derived.Test.YtiheaeccnofelaaPop
import Derived.Test.YtiheaeccnofelaaNot
namespace Go.Proofs.Ytiheaeccnofelaa.Pl

theorem rb_ones8 (x k : Int) (h0 : 0 ≤ x) (h1 : x ≤ 255) : Lib.popAux 8 (rotI8 x k).toNat = Lib.popAux 8 x.toNat := by
  have e := pc_rotZ (BitVec.ofInt 8 x) k
  rw [pc_popAux, pc_popAux] at e
  have e1 : (rotI8 x k).toNat = (rotZ (BitVec.ofInt 8 x) k).toNat := by unfold rotI8; omega
  have e2 : x.toNat = (BitVec.ofInt 8 x).toNat := by have := in8 x h0 (by omega); omega
  rw [e1, e2, e]
theorem rb_xor8 (x y k : Int) : rotI8 (bits .xor .u8 x y) k = bits .xor .u8 (rotI8 x k) (rotI8 y k) := by
  rw [xor8, xor8, ofInt_rot8, ofInt_rot8]
  unfold rotI8
  rw [ofInt_toNat, rotZ_xor]
theorem rb_and8 (x y k : Int) : rotI8 (bits .and .u8 x y) k = bits .and .u8 (rotI8 x k) (rotI8 y k) := by
  rw [and8, and8, ofInt_rot8, ofInt_rot8]
  unfold rotI8
  rw [ofInt_toNat, rotZ_and]
theorem rb_not8 (x k : Int) : rotI8 (notI8 x) k = notI8 (rotI8 x k) := by
  rw [not8 (rotI8 x k), ofInt_rot8]
  unfold rotI8
  rw [ofInt_not8, rotZ_not]
theorem rb_ones16 (x k : Int) (h0 : 0 ≤ x) (h1 : x ≤ 65535) : Lib.popAux 16 (rotI16 x k).toNat = Lib.popAux 16 x.toNat := by
  have e := pc_rotZ (BitVec.ofInt 16 x) k
  rw [pc_popAux, pc_popAux] at e
  have e1 : (rotI16 x k).toNat = (rotZ (BitVec.ofInt 16 x) k).toNat := by unfold rotI16; omega
  have e2 : x.toNat = (BitVec.ofInt 16 x).toNat := by have := in16 x h0 (by omega); omega
  rw [e1, e2, e]
theorem rb_xor16 (x y k : Int) : rotI16 (bits .xor .u16 x y) k = bits .xor .u16 (rotI16 x k) (rotI16 y k) := by
  rw [xor16, xor16, ofInt_rot16, ofInt_rot16]
  unfold rotI16
  rw [ofInt_toNat, rotZ_xor]
theorem rb_and16 (x y k : Int) : rotI16 (bits .and .u16 x y) k = bits .and .u16 (rotI16 x k) (rotI16 y k) := by
  rw [and16, and16, ofInt_rot16, ofInt_rot16]
  unfold rotI16
  rw [ofInt_toNat, rotZ_and]
theorem rb_not16 (x k : Int) : rotI16 (notI16 x) k = notI16 (rotI16 x k) := by
  rw [not16 (rotI16 x k), ofInt_rot16]
  unfold rotI16
  rw [ofInt_not16, rotZ_not]
theorem rb_ones32 (x k : Int) (h0 : 0 ≤ x) (h1 : x ≤ 4294967295) : Lib.popAux 32 (rotI32 x k).toNat = Lib.popAux 32 x.toNat := by
  have e := pc_rotZ (BitVec.ofInt 32 x) k
  rw [pc_popAux, pc_popAux] at e
  have e1 : (rotI32 x k).toNat = (rotZ (BitVec.ofInt 32 x) k).toNat := by unfold rotI32; omega
  have e2 : x.toNat = (BitVec.ofInt 32 x).toNat := by have := in32 x h0 (by omega); omega
  rw [e1, e2, e]
theorem rb_xor32 (x y k : Int) : rotI32 (bits .xor .u32 x y) k = bits .xor .u32 (rotI32 x k) (rotI32 y k) := by
  rw [xor32, xor32, ofInt_rot32, ofInt_rot32]
  unfold rotI32
  rw [ofInt_toNat, rotZ_xor]
theorem rb_and32 (x y k : Int) : rotI32 (bits .and .u32 x y) k = bits .and .u32 (rotI32 x k) (rotI32 y k) := by
  rw [and32, and32, ofInt_rot32, ofInt_rot32]
  unfold rotI32
  rw [ofInt_toNat, rotZ_and]
theorem rb_not32 (x k : Int) : rotI32 (notI32 x) k = notI32 (rotI32 x k) := by
  rw [not32 (rotI32 x k), ofInt_rot32]
  unfold rotI32
  rw [ofInt_not32, rotZ_not]
theorem rb_ones64 (x k : Int) (h0 : 0 ≤ x) (h1 : x ≤ 18446744073709551615) : Lib.popAux 64 (rotI64 x k).toNat = Lib.popAux 64 x.toNat := by
  have e := pc_rotZ (BitVec.ofInt 64 x) k
  rw [pc_popAux, pc_popAux] at e
  have e1 : (rotI64 x k).toNat = (rotZ (BitVec.ofInt 64 x) k).toNat := by unfold rotI64; omega
  have e2 : x.toNat = (BitVec.ofInt 64 x).toNat := by have := in64 x h0 (by omega); omega
  rw [e1, e2, e]
theorem rb_xor64 (x y k : Int) : rotI64 (bits .xor .u64 x y) k = bits .xor .u64 (rotI64 x k) (rotI64 y k) := by
  rw [xor64, xor64, ofInt_rot64, ofInt_rot64]
  unfold rotI64
  rw [ofInt_toNat, rotZ_xor]
theorem rb_and64 (x y k : Int) : rotI64 (bits .and .u64 x y) k = bits .and .u64 (rotI64 x k) (rotI64 y k) := by
  rw [and64, and64, ofInt_rot64, ofInt_rot64]
  unfold rotI64
  rw [ofInt_toNat, rotZ_and]
theorem rb_not64 (x k : Int) : rotI64 (notI64 x) k = notI64 (rotI64 x k) := by
  rw [not64 (rotI64 x k), ofInt_rot64]
  unfold rotI64
  rw [ofInt_not64, rotZ_not]

end Go.Proofs.Ytiheaeccnofelaa.Pl
