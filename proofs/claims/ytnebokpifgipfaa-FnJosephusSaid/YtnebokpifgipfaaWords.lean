/-
  The model's operations on unsigned integers, as operations on bit vectors of 8, 16, 32 and 64 bits.
  Conditions: as stated in each theorem.
-/
import Derived.Laws.BitsAllLaws
import Derived.Test.YtnebokpifgipfaaPlain
import Derived.RowKit
namespace Go.Proofs.Ytnebokpifgipfaa.Pl

theorem wrap_unsigned (k : IntKind) (hs : k.signed = false) (n : Int) : k.wrap n = n % (2 : Int) ^ k.bits := by
  simp [IntKind.wrap, hs]

theorem toNat_bound {n : Nat} (v : BitVec n) : (0 : Int) ≤ (v.toNat : Int) ∧ (v.toNat : Int) < (2 : Int) ^ n := by
  have h := v.isLt
  refine ⟨Int.natCast_nonneg _, ?_⟩
  have h2 : ((v.toNat : Nat) : Int) < ((2 ^ n : Nat) : Int) := Int.ofNat_lt.2 h
  simpa using h2

theorem wrap_toNat (k : IntKind) (hs : k.signed = false) (v : BitVec k.bits) : k.wrap (v.toNat : Int) = (v.toNat : Int) := by
  rw [wrap_unsigned k hs]
  have := toNat_bound v
  exact Int.emod_eq_of_lt this.1 this.2

theorem ofInt_toNat {n : Nat} (v : BitVec n) : BitVec.ofInt n (v.toNat : Int) = v := by
  rw [BitVec.ofInt_natCast, BitVec.ofNat_toNat]; simp

theorem toNat_ofInt_cast (n : Nat) (x : Int) : (((BitVec.ofInt n x).toNat : Nat) : Int) = x % (2 : Int) ^ n := by
  rw [BitVec.toNat_ofInt]
  have h : (0 : Int) < (2 : Int) ^ n := Int.pow_pos (by decide)
  have e : ((2 ^ n : Nat) : Int) = (2 : Int) ^ n := by simp
  rw [e, Int.toNat_of_nonneg (Int.emod_nonneg _ (Int.ne_of_gt h))]

theorem toNat_ofInt_in (n : Nat) (x : Int) (h0 : 0 ≤ x) (h1 : x < (2 : Int) ^ n) : (((BitVec.ofInt n x).toNat : Nat) : Int) = x := by
  rw [toNat_ofInt_cast, Int.emod_eq_of_lt h0 h1]

theorem wrap_ofInt (k : IntKind) (hs : k.signed = false) (x : Int) : k.wrap x = ((BitVec.ofInt k.bits x).toNat : Int) := by
  rw [wrap_unsigned k hs, toNat_ofInt_cast]

theorem ofInt_mul_pow (n : Nat) (x : Int) (a : Nat) : BitVec.ofInt n (x * 2 ^ a) = BitVec.ofInt n x <<< a := by
  rw [BitVec.ofInt_mul, BitVec.shiftLeft_eq_mul_twoPow]
  congr 1
  apply BitVec.eq_of_toNat_eq
  have : ((2 : Int) ^ a) = ((2 ^ a : Nat) : Int) := by simp
  rw [this, BitVec.ofInt_natCast, BitVec.toNat_ofNat, BitVec.toNat_twoPow]

theorem shr_gen (n : Nat) (x : Int) (b : Nat) (h0 : 0 ≤ x) (h1 : x < (2 : Int) ^ n) : x / 2 ^ b = (((BitVec.ofInt n x >>> b).toNat : Nat) : Int) := by
  rw [BitVec.toNat_ushiftRight, Nat.shiftRight_eq_div_pow, Int.natCast_ediv, toNat_ofInt_in n x h0 h1]
  simp

section
theorem and8 (x y : Int) : bits .and .u8 x y = ((BitVec.ofInt 8 x &&& BitVec.ofInt 8 y).toNat : Int) := wrap_toNat .u8 rfl (BitVec.ofInt 8 x &&& BitVec.ofInt 8 y)
theorem or8 (x y : Int) : bits .or .u8 x y = ((BitVec.ofInt 8 x ||| BitVec.ofInt 8 y).toNat : Int) := wrap_toNat .u8 rfl (BitVec.ofInt 8 x ||| BitVec.ofInt 8 y)
theorem xor8 (x y : Int) : bits .xor .u8 x y = ((BitVec.ofInt 8 x ^^^ BitVec.ofInt 8 y).toNat : Int) := wrap_toNat .u8 rfl (BitVec.ofInt 8 x ^^^ BitVec.ofInt 8 y)
theorem wrap8 (x : Int) : IntKind.u8.wrap x = ((BitVec.ofInt 8 x).toNat : Int) := wrap_ofInt .u8 rfl x
theorem shl8 (x : Int) (a : Nat) : IntKind.u8.wrap (x * 2 ^ a) = ((BitVec.ofInt 8 x <<< a).toNat : Int) := by rw [wrap8, ofInt_mul_pow]
theorem shr8 (x : Int) (a : Nat) (h0 : 0 ≤ x) (h1 : x < 256) : x / 2 ^ a = ((BitVec.ofInt 8 x >>> a).toNat : Int) := shr_gen 8 x a h0 (by simpa using h1)
theorem in8 (x : Int) (h0 : 0 ≤ x) (h1 : x < 256) : ((BitVec.ofInt 8 x).toNat : Int) = x := toNat_ofInt_in 8 x h0 (by simpa using h1)
theorem lt8 (v : BitVec 8) : 0 ≤ (v.toNat : Int) ∧ (v.toNat : Int) ≤ 255 := by have := v.isLt; omega
theorem rng_and8 (x y : Int) : 0 ≤ bits .and .u8 x y ∧ bits .and .u8 x y ≤ 255 := by rw [and8]; exact lt8 _
theorem rng_or8 (x y : Int) : 0 ≤ bits .or .u8 x y ∧ bits .or .u8 x y ≤ 255 := by rw [or8]; exact lt8 _
theorem rng_xor8 (x y : Int) : 0 ≤ bits .xor .u8 x y ∧ bits .xor .u8 x y ≤ 255 := by rw [xor8]; exact lt8 _
theorem bnd8 (x : Int) (h : (Lit.int .u8 x).wf = true) : 0 ≤ x ∧ x ≤ 255 := by simpa [Lit.wf, IntKind.min, IntKind.max, IntKind.signed, IntKind.bits] using h
/-- Rotation of a number of 8 bits. -/
def rotI8 (x k : Int) : Int := ((rotZ (BitVec.ofInt 8 x) k).toNat : Int)
theorem rng_rot8 (x k : Int) : 0 ≤ rotI8 x k ∧ rotI8 x k ≤ 255 := lt8 _
theorem ofInt_rot8 (x k : Int) : BitVec.ofInt 8 (rotI8 x k) = rotZ (BitVec.ofInt 8 x) k := ofInt_toNat _
/-- What the library's text computes for a rotation, the count s being k's lowest bits. -/
theorem rot_raw8 (x k : Int) (h0 : 0 ≤ x) (h1 : x ≤ 255) :
    bits .or .u8 (IntKind.u8.wrap (x * 2 ^ (k % 8).toNat)) (x / 2 ^ (8 - k % 8).toNat) = rotI8 x k := by
  rw [shl8, shr8 x _ h0 (by omega), or8, ofInt_toNat, ofInt_toNat]
  unfold rotI8 rotZ BitVec.rotateLeft BitVec.rotateLeftAux
  have e1 : ((k % ((8 : Nat) : Int)).toNat % 8) = (k % 8).toNat := by omega
  have e2 : (8 - k % 8).toNat = 8 - (k % 8).toNat := by omega
  rw [e1, e2]
theorem rot_flat8 (x k : Int) (h0 : 0 ≤ x) (h1 : x ≤ 255) :
    bits .or .u8 (x * 2 ^ (k % 8).toNat % 256) (x / 2 ^ (8 - k % 8).toNat) = rotI8 x k := by
  have e := rot_raw8 x k h0 h1
  rw [IntKind.wrap_u8'] at e
  exact e
/-- The count: the lowest bits of k. -/
theorem cnt_raw8 (k : Int) : bits .and .u64 (IntKind.u64.wrap k) 7 = k % 8 := by
  rw [wrap_unsigned .u64 rfl]
  show IntKind.u64.wrap _ = _
  rw [wrap_toNat .u64 rfl]
  show (((BitVec.ofInt 64 (k % 2 ^ 64) &&& BitVec.ofInt 64 7).toNat : Nat) : Int) = k % 8
  rw [BitVec.toNat_and, show (BitVec.ofInt 64 7).toNat = 2 ^ 3 - 1 from rfl, Nat.and_two_pow_sub_one_eq_mod, Int.natCast_emod, toNat_ofInt_cast]
  omega
end

section
theorem and16 (x y : Int) : bits .and .u16 x y = ((BitVec.ofInt 16 x &&& BitVec.ofInt 16 y).toNat : Int) := wrap_toNat .u16 rfl (BitVec.ofInt 16 x &&& BitVec.ofInt 16 y)
theorem or16 (x y : Int) : bits .or .u16 x y = ((BitVec.ofInt 16 x ||| BitVec.ofInt 16 y).toNat : Int) := wrap_toNat .u16 rfl (BitVec.ofInt 16 x ||| BitVec.ofInt 16 y)
theorem xor16 (x y : Int) : bits .xor .u16 x y = ((BitVec.ofInt 16 x ^^^ BitVec.ofInt 16 y).toNat : Int) := wrap_toNat .u16 rfl (BitVec.ofInt 16 x ^^^ BitVec.ofInt 16 y)
theorem wrap16 (x : Int) : IntKind.u16.wrap x = ((BitVec.ofInt 16 x).toNat : Int) := wrap_ofInt .u16 rfl x
theorem shl16 (x : Int) (a : Nat) : IntKind.u16.wrap (x * 2 ^ a) = ((BitVec.ofInt 16 x <<< a).toNat : Int) := by rw [wrap16, ofInt_mul_pow]
theorem shr16 (x : Int) (a : Nat) (h0 : 0 ≤ x) (h1 : x < 65536) : x / 2 ^ a = ((BitVec.ofInt 16 x >>> a).toNat : Int) := shr_gen 16 x a h0 (by simpa using h1)
theorem in16 (x : Int) (h0 : 0 ≤ x) (h1 : x < 65536) : ((BitVec.ofInt 16 x).toNat : Int) = x := toNat_ofInt_in 16 x h0 (by simpa using h1)
theorem lt16 (v : BitVec 16) : 0 ≤ (v.toNat : Int) ∧ (v.toNat : Int) ≤ 65535 := by have := v.isLt; omega
theorem rng_and16 (x y : Int) : 0 ≤ bits .and .u16 x y ∧ bits .and .u16 x y ≤ 65535 := by rw [and16]; exact lt16 _
theorem rng_or16 (x y : Int) : 0 ≤ bits .or .u16 x y ∧ bits .or .u16 x y ≤ 65535 := by rw [or16]; exact lt16 _
theorem rng_xor16 (x y : Int) : 0 ≤ bits .xor .u16 x y ∧ bits .xor .u16 x y ≤ 65535 := by rw [xor16]; exact lt16 _
theorem bnd16 (x : Int) (h : (Lit.int .u16 x).wf = true) : 0 ≤ x ∧ x ≤ 65535 := by simpa [Lit.wf, IntKind.min, IntKind.max, IntKind.signed, IntKind.bits] using h
/-- Rotation of a number of 16 bits. -/
def rotI16 (x k : Int) : Int := ((rotZ (BitVec.ofInt 16 x) k).toNat : Int)
theorem rng_rot16 (x k : Int) : 0 ≤ rotI16 x k ∧ rotI16 x k ≤ 65535 := lt16 _
theorem ofInt_rot16 (x k : Int) : BitVec.ofInt 16 (rotI16 x k) = rotZ (BitVec.ofInt 16 x) k := ofInt_toNat _
/-- What the library's text computes for a rotation, the count s being k's lowest bits. -/
theorem rot_raw16 (x k : Int) (h0 : 0 ≤ x) (h1 : x ≤ 65535) :
    bits .or .u16 (IntKind.u16.wrap (x * 2 ^ (k % 16).toNat)) (x / 2 ^ (16 - k % 16).toNat) = rotI16 x k := by
  rw [shl16, shr16 x _ h0 (by omega), or16, ofInt_toNat, ofInt_toNat]
  unfold rotI16 rotZ BitVec.rotateLeft BitVec.rotateLeftAux
  have e1 : ((k % ((16 : Nat) : Int)).toNat % 16) = (k % 16).toNat := by omega
  have e2 : (16 - k % 16).toNat = 16 - (k % 16).toNat := by omega
  rw [e1, e2]
theorem rot_flat16 (x k : Int) (h0 : 0 ≤ x) (h1 : x ≤ 65535) :
    bits .or .u16 (IntKind.u16.wrap (x * 2 ^ (k % 16).toNat)) (x / 2 ^ (16 - k % 16).toNat) = rotI16 x k := by
  have e := rot_raw16 x k h0 h1
  have _t := e
  exact e
/-- The count: the lowest bits of k. -/
theorem cnt_raw16 (k : Int) : bits .and .u64 (IntKind.u64.wrap k) 15 = k % 16 := by
  rw [wrap_unsigned .u64 rfl]
  show IntKind.u64.wrap _ = _
  rw [wrap_toNat .u64 rfl]
  show (((BitVec.ofInt 64 (k % 2 ^ 64) &&& BitVec.ofInt 64 15).toNat : Nat) : Int) = k % 16
  rw [BitVec.toNat_and, show (BitVec.ofInt 64 15).toNat = 2 ^ 4 - 1 from rfl, Nat.and_two_pow_sub_one_eq_mod, Int.natCast_emod, toNat_ofInt_cast]
  omega
end

section
theorem and32 (x y : Int) : bits .and .u32 x y = ((BitVec.ofInt 32 x &&& BitVec.ofInt 32 y).toNat : Int) := wrap_toNat .u32 rfl (BitVec.ofInt 32 x &&& BitVec.ofInt 32 y)
theorem or32 (x y : Int) : bits .or .u32 x y = ((BitVec.ofInt 32 x ||| BitVec.ofInt 32 y).toNat : Int) := wrap_toNat .u32 rfl (BitVec.ofInt 32 x ||| BitVec.ofInt 32 y)
theorem xor32 (x y : Int) : bits .xor .u32 x y = ((BitVec.ofInt 32 x ^^^ BitVec.ofInt 32 y).toNat : Int) := wrap_toNat .u32 rfl (BitVec.ofInt 32 x ^^^ BitVec.ofInt 32 y)
theorem wrap32 (x : Int) : IntKind.u32.wrap x = ((BitVec.ofInt 32 x).toNat : Int) := wrap_ofInt .u32 rfl x
theorem shl32 (x : Int) (a : Nat) : IntKind.u32.wrap (x * 2 ^ a) = ((BitVec.ofInt 32 x <<< a).toNat : Int) := by rw [wrap32, ofInt_mul_pow]
theorem shr32 (x : Int) (a : Nat) (h0 : 0 ≤ x) (h1 : x < 4294967296) : x / 2 ^ a = ((BitVec.ofInt 32 x >>> a).toNat : Int) := shr_gen 32 x a h0 (by simpa using h1)
theorem in32 (x : Int) (h0 : 0 ≤ x) (h1 : x < 4294967296) : ((BitVec.ofInt 32 x).toNat : Int) = x := toNat_ofInt_in 32 x h0 (by simpa using h1)
theorem lt32 (v : BitVec 32) : 0 ≤ (v.toNat : Int) ∧ (v.toNat : Int) ≤ 4294967295 := by have := v.isLt; omega
theorem rng_and32 (x y : Int) : 0 ≤ bits .and .u32 x y ∧ bits .and .u32 x y ≤ 4294967295 := by rw [and32]; exact lt32 _
theorem rng_or32 (x y : Int) : 0 ≤ bits .or .u32 x y ∧ bits .or .u32 x y ≤ 4294967295 := by rw [or32]; exact lt32 _
theorem rng_xor32 (x y : Int) : 0 ≤ bits .xor .u32 x y ∧ bits .xor .u32 x y ≤ 4294967295 := by rw [xor32]; exact lt32 _
theorem bnd32 (x : Int) (h : (Lit.int .u32 x).wf = true) : 0 ≤ x ∧ x ≤ 4294967295 := by simpa [Lit.wf, IntKind.min, IntKind.max, IntKind.signed, IntKind.bits] using h
/-- Rotation of a number of 32 bits. -/
def rotI32 (x k : Int) : Int := ((rotZ (BitVec.ofInt 32 x) k).toNat : Int)
theorem rng_rot32 (x k : Int) : 0 ≤ rotI32 x k ∧ rotI32 x k ≤ 4294967295 := lt32 _
theorem ofInt_rot32 (x k : Int) : BitVec.ofInt 32 (rotI32 x k) = rotZ (BitVec.ofInt 32 x) k := ofInt_toNat _
/-- What the library's text computes for a rotation, the count s being k's lowest bits. -/
theorem rot_raw32 (x k : Int) (h0 : 0 ≤ x) (h1 : x ≤ 4294967295) :
    bits .or .u32 (IntKind.u32.wrap (x * 2 ^ (k % 32).toNat)) (x / 2 ^ (32 - k % 32).toNat) = rotI32 x k := by
  rw [shl32, shr32 x _ h0 (by omega), or32, ofInt_toNat, ofInt_toNat]
  unfold rotI32 rotZ BitVec.rotateLeft BitVec.rotateLeftAux
  have e1 : ((k % ((32 : Nat) : Int)).toNat % 32) = (k % 32).toNat := by omega
  have e2 : (32 - k % 32).toNat = 32 - (k % 32).toNat := by omega
  rw [e1, e2]
theorem rot_flat32 (x k : Int) (h0 : 0 ≤ x) (h1 : x ≤ 4294967295) :
    bits .or .u32 (x * 2 ^ (k % 32).toNat % 4294967296) (x / 2 ^ (32 - k % 32).toNat) = rotI32 x k := by
  have e := rot_raw32 x k h0 h1
  rw [IntKind.wrap_u32'] at e
  exact e
/-- The count: the lowest bits of k. -/
theorem cnt_raw32 (k : Int) : bits .and .u64 (IntKind.u64.wrap k) 31 = k % 32 := by
  rw [wrap_unsigned .u64 rfl]
  show IntKind.u64.wrap _ = _
  rw [wrap_toNat .u64 rfl]
  show (((BitVec.ofInt 64 (k % 2 ^ 64) &&& BitVec.ofInt 64 31).toNat : Nat) : Int) = k % 32
  rw [BitVec.toNat_and, show (BitVec.ofInt 64 31).toNat = 2 ^ 5 - 1 from rfl, Nat.and_two_pow_sub_one_eq_mod, Int.natCast_emod, toNat_ofInt_cast]
  omega
end

section
theorem and64 (x y : Int) : bits .and .u64 x y = ((BitVec.ofInt 64 x &&& BitVec.ofInt 64 y).toNat : Int) := wrap_toNat .u64 rfl (BitVec.ofInt 64 x &&& BitVec.ofInt 64 y)
theorem or64 (x y : Int) : bits .or .u64 x y = ((BitVec.ofInt 64 x ||| BitVec.ofInt 64 y).toNat : Int) := wrap_toNat .u64 rfl (BitVec.ofInt 64 x ||| BitVec.ofInt 64 y)
theorem xor64 (x y : Int) : bits .xor .u64 x y = ((BitVec.ofInt 64 x ^^^ BitVec.ofInt 64 y).toNat : Int) := wrap_toNat .u64 rfl (BitVec.ofInt 64 x ^^^ BitVec.ofInt 64 y)
theorem wrap64 (x : Int) : IntKind.u64.wrap x = ((BitVec.ofInt 64 x).toNat : Int) := wrap_ofInt .u64 rfl x
theorem shl64 (x : Int) (a : Nat) : IntKind.u64.wrap (x * 2 ^ a) = ((BitVec.ofInt 64 x <<< a).toNat : Int) := by rw [wrap64, ofInt_mul_pow]
theorem shr64 (x : Int) (a : Nat) (h0 : 0 ≤ x) (h1 : x < 18446744073709551616) : x / 2 ^ a = ((BitVec.ofInt 64 x >>> a).toNat : Int) := shr_gen 64 x a h0 (by simpa using h1)
theorem in64 (x : Int) (h0 : 0 ≤ x) (h1 : x < 18446744073709551616) : ((BitVec.ofInt 64 x).toNat : Int) = x := toNat_ofInt_in 64 x h0 (by simpa using h1)
theorem lt64 (v : BitVec 64) : 0 ≤ (v.toNat : Int) ∧ (v.toNat : Int) ≤ 18446744073709551615 := by have := v.isLt; omega
theorem rng_and64 (x y : Int) : 0 ≤ bits .and .u64 x y ∧ bits .and .u64 x y ≤ 18446744073709551615 := by rw [and64]; exact lt64 _
theorem rng_or64 (x y : Int) : 0 ≤ bits .or .u64 x y ∧ bits .or .u64 x y ≤ 18446744073709551615 := by rw [or64]; exact lt64 _
theorem rng_xor64 (x y : Int) : 0 ≤ bits .xor .u64 x y ∧ bits .xor .u64 x y ≤ 18446744073709551615 := by rw [xor64]; exact lt64 _
theorem bnd64 (x : Int) (h : (Lit.int .u64 x).wf = true) : 0 ≤ x ∧ x ≤ 18446744073709551615 := by simpa [Lit.wf, IntKind.min, IntKind.max, IntKind.signed, IntKind.bits] using h
/-- Rotation of a number of 64 bits. -/
def rotI64 (x k : Int) : Int := ((rotZ (BitVec.ofInt 64 x) k).toNat : Int)
theorem rng_rot64 (x k : Int) : 0 ≤ rotI64 x k ∧ rotI64 x k ≤ 18446744073709551615 := lt64 _
theorem ofInt_rot64 (x k : Int) : BitVec.ofInt 64 (rotI64 x k) = rotZ (BitVec.ofInt 64 x) k := ofInt_toNat _
/-- What the library's text computes for a rotation, the count s being k's lowest bits. -/
theorem rot_raw64 (x k : Int) (h0 : 0 ≤ x) (h1 : x ≤ 18446744073709551615) :
    bits .or .u64 (IntKind.u64.wrap (x * 2 ^ (k % 64).toNat)) (x / 2 ^ (64 - k % 64).toNat) = rotI64 x k := by
  rw [shl64, shr64 x _ h0 (by omega), or64, ofInt_toNat, ofInt_toNat]
  unfold rotI64 rotZ BitVec.rotateLeft BitVec.rotateLeftAux
  have e1 : ((k % ((64 : Nat) : Int)).toNat % 64) = (k % 64).toNat := by omega
  have e2 : (64 - k % 64).toNat = 64 - (k % 64).toNat := by omega
  rw [e1, e2]
theorem rot_flat64 (x k : Int) (h0 : 0 ≤ x) (h1 : x ≤ 18446744073709551615) :
    bits .or .u64 (IntKind.u64.wrap (x * 2 ^ (k % 64).toNat)) (x / 2 ^ (64 - k % 64).toNat) = rotI64 x k := by
  have e := rot_raw64 x k h0 h1
  have _t := e
  exact e
/-- The count: the lowest bits of k. -/
theorem cnt_raw64 (k : Int) : bits .and .u64 (IntKind.u64.wrap k) 63 = k % 64 := by
  rw [wrap_unsigned .u64 rfl]
  show IntKind.u64.wrap _ = _
  rw [wrap_toNat .u64 rfl]
  show (((BitVec.ofInt 64 (k % 2 ^ 64) &&& BitVec.ofInt 64 63).toNat : Nat) : Int) = k % 64
  rw [BitVec.toNat_and, show (BitVec.ofInt 64 63).toNat = 2 ^ 6 - 1 from rfl, Nat.and_two_pow_sub_one_eq_mod, Int.natCast_emod, toNat_ofInt_cast]
  omega
end
end Go.Proofs.Ytnebokpifgipfaa.Pl
