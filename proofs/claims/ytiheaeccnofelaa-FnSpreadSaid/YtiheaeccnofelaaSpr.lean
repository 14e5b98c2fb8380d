/-
  One round of the law 'spread', as the model computes it, and all rounds together: the number is itself again.
  Conditions: the number is of its kind.
-/
import Derived.Test.YtiheaeccnofelaaWords
namespace Go.Proofs.Ytiheaeccnofelaa.Pl

def spI8 (x j k : Int) (n : Nat) : Int := ((spreadN j k n (BitVec.ofInt 8 x)).toNat : Int)
theorem rng_sp8 (x j k : Int) (n : Nat) : 0 ≤ spI8 x j k n ∧ spI8 x j k n ≤ 255 := lt8 _
theorem sp_zero8 (x j k : Int) (h0 : 0 ≤ x) (h1 : x ≤ 255) : spI8 x j k 0 = x := in8 x h0 (by omega)
theorem sp_step8 (x j k : Int) (n : Nat) : bits .xor .u8 (bits .xor .u8 (spI8 x j k n) (rotI8 (spI8 x j k n) j)) (rotI8 (spI8 x j k n) k) = spI8 x j k (n + 1) := by
  rw [xor8 (spI8 x j k n), xor8, ofInt_toNat, ofInt_rot8, ofInt_rot8]
  unfold spI8
  rw [ofInt_toNat]
  rfl
theorem sp_last8 (x j k : Int) (h0 : 0 ≤ x) (h1 : x ≤ 255) : spI8 x j k 8 = x := by
  have h := spread_back (m := 3) j k (BitVec.ofInt 8 x)
  unfold spI8
  have h2 : spreadN j k 8 (BitVec.ofInt 8 x) = BitVec.ofInt 8 x := h
  rw [h2]
  exact in8 x h0 (by omega)
theorem rot_one8 : (rotI8 1 0 == 1) = true := by
  have e : rotI8 1 0 = 1 := by
    unfold rotI8
    rw [rotZ_zero]
    exact in8 1 (by decide) (by decide)
  rw [e]; rfl

def spI16 (x j k : Int) (n : Nat) : Int := ((spreadN j k n (BitVec.ofInt 16 x)).toNat : Int)
theorem rng_sp16 (x j k : Int) (n : Nat) : 0 ≤ spI16 x j k n ∧ spI16 x j k n ≤ 65535 := lt16 _
theorem sp_zero16 (x j k : Int) (h0 : 0 ≤ x) (h1 : x ≤ 65535) : spI16 x j k 0 = x := in16 x h0 (by omega)
theorem sp_step16 (x j k : Int) (n : Nat) : bits .xor .u16 (bits .xor .u16 (spI16 x j k n) (rotI16 (spI16 x j k n) j)) (rotI16 (spI16 x j k n) k) = spI16 x j k (n + 1) := by
  rw [xor16 (spI16 x j k n), xor16, ofInt_toNat, ofInt_rot16, ofInt_rot16]
  unfold spI16
  rw [ofInt_toNat]
  rfl
theorem sp_last16 (x j k : Int) (h0 : 0 ≤ x) (h1 : x ≤ 65535) : spI16 x j k 16 = x := by
  have h := spread_back (m := 4) j k (BitVec.ofInt 16 x)
  unfold spI16
  have h2 : spreadN j k 16 (BitVec.ofInt 16 x) = BitVec.ofInt 16 x := h
  rw [h2]
  exact in16 x h0 (by omega)
theorem rot_one16 : (rotI16 1 0 == 1) = true := by
  have e : rotI16 1 0 = 1 := by
    unfold rotI16
    rw [rotZ_zero]
    exact in16 1 (by decide) (by decide)
  rw [e]; rfl

def spI32 (x j k : Int) (n : Nat) : Int := ((spreadN j k n (BitVec.ofInt 32 x)).toNat : Int)
theorem rng_sp32 (x j k : Int) (n : Nat) : 0 ≤ spI32 x j k n ∧ spI32 x j k n ≤ 4294967295 := lt32 _
theorem sp_zero32 (x j k : Int) (h0 : 0 ≤ x) (h1 : x ≤ 4294967295) : spI32 x j k 0 = x := in32 x h0 (by omega)
theorem sp_step32 (x j k : Int) (n : Nat) : bits .xor .u32 (bits .xor .u32 (spI32 x j k n) (rotI32 (spI32 x j k n) j)) (rotI32 (spI32 x j k n) k) = spI32 x j k (n + 1) := by
  rw [xor32 (spI32 x j k n), xor32, ofInt_toNat, ofInt_rot32, ofInt_rot32]
  unfold spI32
  rw [ofInt_toNat]
  rfl
theorem sp_last32 (x j k : Int) (h0 : 0 ≤ x) (h1 : x ≤ 4294967295) : spI32 x j k 32 = x := by
  have h := spread_back (m := 5) j k (BitVec.ofInt 32 x)
  unfold spI32
  have h2 : spreadN j k 32 (BitVec.ofInt 32 x) = BitVec.ofInt 32 x := h
  rw [h2]
  exact in32 x h0 (by omega)
theorem rot_one32 : (rotI32 1 0 == 1) = true := by
  have e : rotI32 1 0 = 1 := by
    unfold rotI32
    rw [rotZ_zero]
    exact in32 1 (by decide) (by decide)
  rw [e]; rfl

def spI64 (x j k : Int) (n : Nat) : Int := ((spreadN j k n (BitVec.ofInt 64 x)).toNat : Int)
theorem rng_sp64 (x j k : Int) (n : Nat) : 0 ≤ spI64 x j k n ∧ spI64 x j k n ≤ 18446744073709551615 := lt64 _
theorem sp_zero64 (x j k : Int) (h0 : 0 ≤ x) (h1 : x ≤ 18446744073709551615) : spI64 x j k 0 = x := in64 x h0 (by omega)
theorem sp_step64 (x j k : Int) (n : Nat) : bits .xor .u64 (bits .xor .u64 (spI64 x j k n) (rotI64 (spI64 x j k n) j)) (rotI64 (spI64 x j k n) k) = spI64 x j k (n + 1) := by
  rw [xor64 (spI64 x j k n), xor64, ofInt_toNat, ofInt_rot64, ofInt_rot64]
  unfold spI64
  rw [ofInt_toNat]
  rfl
theorem sp_last64 (x j k : Int) (h0 : 0 ≤ x) (h1 : x ≤ 18446744073709551615) : spI64 x j k 64 = x := by
  have h := spread_back (m := 6) j k (BitVec.ofInt 64 x)
  unfold spI64
  have h2 : spreadN j k 64 (BitVec.ofInt 64 x) = BitVec.ofInt 64 x := h
  rw [h2]
  exact in64 x h0 (by omega)
theorem rot_one64 : (rotI64 1 0 == 1) = true := by
  have e : rotI64 1 0 = 1 := by
    unfold rotI64
    rw [rotZ_zero]
    exact in64 1 (by decide) (by decide)
  rw [e]; rfl
end Go.Proofs.Ytiheaeccnofelaa.Pl
