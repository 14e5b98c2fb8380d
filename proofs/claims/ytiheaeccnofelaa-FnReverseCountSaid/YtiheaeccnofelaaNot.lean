/-
  The complement of a number, as an operation on bit vectors.
  Conditions: as stated in each theorem.
-/
import Derived.Laws.Unary
import Derived.Test.YtiheaeccnofelaaWords
namespace Go.Proofs.Ytiheaeccnofelaa.Pl

/-- The complement of a number of 8 bits. -/
def notI8 (x : Int) : Int := bits .xor .u8 IntKind.u8.max x
@[go_sem high] theorem unary_not8 (x : Int) : Op.unary .xor (.int .u8 x) = pure (.int .u8 (notI8 x)) := rfl
theorem not8 (x : Int) : notI8 x = ((~~~(BitVec.ofInt 8 x)).toNat : Int) := by
  unfold notI8
  rw [xor8, show BitVec.ofInt 8 IntKind.u8.max = BitVec.allOnes 8 by decide, BitVec.allOnes_xor]
theorem rng_not8 (x : Int) : 0 ≤ notI8 x ∧ notI8 x ≤ 255 := by rw [not8]; exact lt8 _
theorem ofInt_not8 (x : Int) : BitVec.ofInt 8 (notI8 x) = ~~~(BitVec.ofInt 8 x) := by rw [not8]; exact ofInt_toNat _
/-- The complement of a number of 16 bits. -/
def notI16 (x : Int) : Int := bits .xor .u16 IntKind.u16.max x
@[go_sem high] theorem unary_not16 (x : Int) : Op.unary .xor (.int .u16 x) = pure (.int .u16 (notI16 x)) := rfl
theorem not16 (x : Int) : notI16 x = ((~~~(BitVec.ofInt 16 x)).toNat : Int) := by
  unfold notI16
  rw [xor16, show BitVec.ofInt 16 IntKind.u16.max = BitVec.allOnes 16 by decide, BitVec.allOnes_xor]
theorem rng_not16 (x : Int) : 0 ≤ notI16 x ∧ notI16 x ≤ 65535 := by rw [not16]; exact lt16 _
theorem ofInt_not16 (x : Int) : BitVec.ofInt 16 (notI16 x) = ~~~(BitVec.ofInt 16 x) := by rw [not16]; exact ofInt_toNat _
/-- The complement of a number of 32 bits. -/
def notI32 (x : Int) : Int := bits .xor .u32 IntKind.u32.max x
@[go_sem high] theorem unary_not32 (x : Int) : Op.unary .xor (.int .u32 x) = pure (.int .u32 (notI32 x)) := rfl
theorem not32 (x : Int) : notI32 x = ((~~~(BitVec.ofInt 32 x)).toNat : Int) := by
  unfold notI32
  rw [xor32, show BitVec.ofInt 32 IntKind.u32.max = BitVec.allOnes 32 by decide, BitVec.allOnes_xor]
theorem rng_not32 (x : Int) : 0 ≤ notI32 x ∧ notI32 x ≤ 4294967295 := by rw [not32]; exact lt32 _
theorem ofInt_not32 (x : Int) : BitVec.ofInt 32 (notI32 x) = ~~~(BitVec.ofInt 32 x) := by rw [not32]; exact ofInt_toNat _
/-- The complement of a number of 64 bits. -/
def notI64 (x : Int) : Int := bits .xor .u64 IntKind.u64.max x
@[go_sem high] theorem unary_not64 (x : Int) : Op.unary .xor (.int .u64 x) = pure (.int .u64 (notI64 x)) := rfl
theorem not64 (x : Int) : notI64 x = ((~~~(BitVec.ofInt 64 x)).toNat : Int) := by
  unfold notI64
  rw [xor64, show BitVec.ofInt 64 IntKind.u64.max = BitVec.allOnes 64 by decide, BitVec.allOnes_xor]
theorem rng_not64 (x : Int) : 0 ≤ notI64 x ∧ notI64 x ≤ 18446744073709551615 := by rw [not64]; exact lt64 _
theorem ofInt_not64 (x : Int) : BitVec.ofInt 64 (notI64 x) = ~~~(BitVec.ofInt 64 x) := by rw [not64]; exact ofInt_toNat _

end Go.Proofs.Ytiheaeccnofelaa.Pl
