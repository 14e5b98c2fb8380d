/-
  The library's exchanges of bits and bytes, as the model computes them, are the number with its bits, or its bytes, in opposite order.
  Conditions: the numbers are of their kinds.
-/
import Derived.Lib.Tables
import Derived.Test.YtiheaeccnofelaaRev
namespace Go.Proofs.Ytiheaeccnofelaa.Pl

def revI8 (x : Int) : Int := ((BitVec.ofInt 8 x).reverse.toNat : Int)
theorem rng_rev8 (x : Int) : 0 ≤ revI8 x ∧ revI8 x ≤ 255 := lt8 _
theorem ofInt_rev8 (x : Int) : BitVec.ofInt 8 (revI8 x) = (BitVec.ofInt 8 x).reverse := ofInt_toNat _

def revI16 (x : Int) : Int := ((BitVec.ofInt 16 x).reverse.toNat : Int)
theorem rng_rev16 (x : Int) : 0 ≤ revI16 x ∧ revI16 x ≤ 65535 := lt16 _
theorem ofInt_rev16 (x : Int) : BitVec.ofInt 16 (revI16 x) = (BitVec.ofInt 16 x).reverse := ofInt_toNat _

def revI32 (x : Int) : Int := ((BitVec.ofInt 32 x).reverse.toNat : Int)
theorem rng_rev32 (x : Int) : 0 ≤ revI32 x ∧ revI32 x ≤ 4294967295 := lt32 _
theorem ofInt_rev32 (x : Int) : BitVec.ofInt 32 (revI32 x) = (BitVec.ofInt 32 x).reverse := ofInt_toNat _

def revI64 (x : Int) : Int := ((BitVec.ofInt 64 x).reverse.toNat : Int)
theorem rng_rev64 (x : Int) : 0 ≤ revI64 x ∧ revI64 x ≤ 18446744073709551615 := lt64 _
theorem ofInt_rev64 (x : Int) : BitVec.ofInt 64 (revI64 x) = (BitVec.ofInt 64 x).reverse := ofInt_toNat _

theorem rev8_tab : ∀ n : Fin 256, Lib.rev8 (n.val : Int) = (((BitVec.ofNat 8 n.val).reverse.toNat : Nat) : Int) := by decide +kernel
theorem rev8_at (b : Int) (h0 : 0 ≤ b) (h1 : b ≤ 255) : Lib.rev8 b = revI8 b := by
  have e := rev8_tab ⟨b.toNat, by omega⟩
  simp only [Int.toNat_of_nonneg h0] at e
  rw [e]
  unfold revI8
  obtain ⟨B, rfl⟩ := Int.eq_ofNat_of_zero_le h0
  rw [BitVec.ofInt_natCast, Int.toNat_natCast]

theorem rev16_raw (x : Int) (h0 : 0 ≤ x) (h1 : x ≤ 65535) : bits .or .u16 (revI8 (x / 256)) (revI8 (x % 256) * 256) = revI16 x := by
  have a1 : BitVec.ofInt 16 (revI8 (x / 256)) = (BitVec.ofInt 8 (x / 256)).reverse.setWidth 16 := by
    unfold revI8
    apply BitVec.eq_of_toNat_eq
    rw [BitVec.ofInt_natCast, BitVec.toNat_ofNat, BitVec.toNat_setWidth]
  have a2 : BitVec.ofInt 16 (revI8 (x % 256) * 256) = (BitVec.ofInt 8 (x % 256)).reverse.setWidth 16 <<< 8 := by
    have := ofInt_mul_pow 16 (revI8 (x % 256)) 8
    rw [show ((2 : Int) ^ 8) = 256 from rfl] at this
    rw [this]
    congr 1
    unfold revI8
    apply BitVec.eq_of_toNat_eq
    rw [BitVec.ofInt_natCast, BitVec.toNat_ofNat, BitVec.toNat_setWidth]
  obtain ⟨X, rfl⟩ := Int.eq_ofNat_of_zero_le h0
  have b1 : ∀ i, i < 8 → (BitVec.ofInt 8 ((X : Int) / 256)).getLsbD i = (BitVec.ofInt 16 (X : Int)).getLsbD (8 + i) := by
    intro i hi
    rw [show ((X : Int) / 256) = ((X / 256 : Nat) : Int) by omega, BitVec.ofInt_natCast, BitVec.ofInt_natCast, BitVec.getLsbD_ofNat, BitVec.getLsbD_ofNat, show X / 256 = X / 2 ^ 8 from rfl, Nat.testBit_div_two_pow, Nat.add_comm i 8]
    have c1 : 8 + i < 16 := by omega
    simp [hi, c1]
  have b2 : ∀ i, i < 8 → (BitVec.ofInt 8 ((X : Int) % 256)).getLsbD i = (BitVec.ofInt 16 (X : Int)).getLsbD i := by
    intro i hi
    rw [show ((X : Int) % 256) = ((X % 256 : Nat) : Int) by omega, BitVec.ofInt_natCast, BitVec.ofInt_natCast, BitVec.getLsbD_ofNat, BitVec.getLsbD_ofNat, show X % 256 = X % 2 ^ 8 from rfl, Nat.testBit_mod_two_pow]
    have c1 : i < 16 := by omega
    simp [hi, c1]
  rw [or16, a1, a2]
  unfold revI16
  congr 2
  refine bv_ext fun i hi => ?_
  rw [BitVec.getLsbD_or, BitVec.getLsbD_shiftLeft, BitVec.getLsbD_setWidth, BitVec.getLsbD_setWidth, rev_bit _ _ hi]
  by_cases h : i < 8
  · rw [rev_bit _ _ h, b1 _ (by omega), show 8 + (8 - 1 - i) = 16 - 1 - i by omega]
    simp [hi, h]
  · have f : (BitVec.ofInt 8 ((X : Int) / 256)).reverse.getLsbD i = false := BitVec.getLsbD_of_ge _ _ (by omega)
    have g : i - 8 < 16 := by omega
    rw [f, rev_bit _ (i - 8) (by omega), b2 _ (by omega), show 8 - 1 - (i - 8) = 16 - 1 - i by omega]
    simp [hi, h, g]

def rbI16 (x : Int) : Int := bits .or .u16 (x / 256) (IntKind.u16.wrap (x * 256))
theorem rng_rb16 (x : Int) : 0 ≤ rbI16 x ∧ rbI16 x ≤ 65535 := rng_or16 _ _
theorem rb16_rot (x : Int) (h0 : 0 ≤ x) (h1 : x ≤ 65535) : rbI16 x = rotI16 x 8 := by
  rw [← rot_raw16 x 8 h0 h1]
  unfold rbI16
  rw [or16, or16, BitVec.or_comm]
  rfl

theorem sw_step32 (s : Nat) (p : Int) (hp : p = 2 ^ s) (m x : Int) (h0 : 0 ≤ x) (h1 : x ≤ 4294967295) :
    bits .or .u32 (bits .and .u32 (x / p) m) (IntKind.u32.wrap (bits .and .u32 x m * p)) = ((swp s (BitVec.ofInt 32 m) (BitVec.ofInt 32 x)).toNat : Int) := by
  subst hp
  rw [shr32 x s h0 (by omega), and32 (BitVec.toNat _ : Int), ofInt_toNat, and32 x, shl32, or32, ofInt_toNat, ofInt_toNat, ofInt_toNat]
  rfl
theorem hl_step32 (x : Int) (h0 : 0 ≤ x) (h1 : x ≤ 4294967295) :
    bits .or .u32 (x / 65536) (IntKind.u32.wrap (x * 65536)) = ((BitVec.ofInt 32 x >>> 16 ||| BitVec.ofInt 32 x <<< 16).toNat : Int) := by
  have e : (65536 : Int) = 2 ^ 16 := by decide
  rw [e, shr32 x 16 h0 (by omega), shl32, or32, ofInt_toNat, ofInt_toNat]
def swI32_1 (x : Int) : Int := ((swp 1 0x55555555#32 (BitVec.ofInt 32 x)).toNat : Int)
theorem rng_sw32_1 (x : Int) : 0 ≤ swI32_1 x ∧ swI32_1 x ≤ 4294967295 := lt32 _
theorem ofInt_sw32_1 (x : Int) : BitVec.ofInt 32 (swI32_1 x) = swp 1 0x55555555#32 (BitVec.ofInt 32 x) := ofInt_toNat _
theorem sw_raw32_1 (x : Int) (h0 : 0 ≤ x) (h1 : x ≤ 4294967295) : bits .or .u32 (bits .and .u32 (x / 2) 1431655765) (bits .and .u32 x 1431655765 * 2 % 4294967296) = swI32_1 x := by
  have e := sw_step32 1 2 (by decide) 1431655765 x h0 h1
  rw [IntKind.wrap_u32'] at e
  exact e
def swI32_2 (x : Int) : Int := ((swp 2 0x33333333#32 (BitVec.ofInt 32 x)).toNat : Int)
theorem rng_sw32_2 (x : Int) : 0 ≤ swI32_2 x ∧ swI32_2 x ≤ 4294967295 := lt32 _
theorem ofInt_sw32_2 (x : Int) : BitVec.ofInt 32 (swI32_2 x) = swp 2 0x33333333#32 (BitVec.ofInt 32 x) := ofInt_toNat _
theorem sw_raw32_2 (x : Int) (h0 : 0 ≤ x) (h1 : x ≤ 4294967295) : bits .or .u32 (bits .and .u32 (x / 4) 858993459) (bits .and .u32 x 858993459 * 4 % 4294967296) = swI32_2 x := by
  have e := sw_step32 2 4 (by decide) 858993459 x h0 h1
  rw [IntKind.wrap_u32'] at e
  exact e
def swI32_4 (x : Int) : Int := ((swp 4 0x0f0f0f0f#32 (BitVec.ofInt 32 x)).toNat : Int)
theorem rng_sw32_4 (x : Int) : 0 ≤ swI32_4 x ∧ swI32_4 x ≤ 4294967295 := lt32 _
theorem ofInt_sw32_4 (x : Int) : BitVec.ofInt 32 (swI32_4 x) = swp 4 0x0f0f0f0f#32 (BitVec.ofInt 32 x) := ofInt_toNat _
theorem sw_raw32_4 (x : Int) (h0 : 0 ≤ x) (h1 : x ≤ 4294967295) : bits .or .u32 (bits .and .u32 (x / 16) 252645135) (bits .and .u32 x 252645135 * 16 % 4294967296) = swI32_4 x := by
  have e := sw_step32 4 16 (by decide) 252645135 x h0 h1
  rw [IntKind.wrap_u32'] at e
  exact e
def swI32_8 (x : Int) : Int := ((swp 8 0x00ff00ff#32 (BitVec.ofInt 32 x)).toNat : Int)
theorem rng_sw32_8 (x : Int) : 0 ≤ swI32_8 x ∧ swI32_8 x ≤ 4294967295 := lt32 _
theorem ofInt_sw32_8 (x : Int) : BitVec.ofInt 32 (swI32_8 x) = swp 8 0x00ff00ff#32 (BitVec.ofInt 32 x) := ofInt_toNat _
theorem sw_raw32_8 (x : Int) (h0 : 0 ≤ x) (h1 : x ≤ 4294967295) : bits .or .u32 (bits .and .u32 (x / 256) 16711935) (bits .and .u32 x 16711935 * 256 % 4294967296) = swI32_8 x := by
  have e := sw_step32 8 256 (by decide) 16711935 x h0 h1
  rw [IntKind.wrap_u32'] at e
  exact e
def hlI32 (x : Int) : Int := ((BitVec.ofInt 32 x >>> 16 ||| BitVec.ofInt 32 x <<< 16).toNat : Int)
theorem hl_raw32 (x : Int) (h0 : 0 ≤ x) (h1 : x ≤ 4294967295) : bits .or .u32 (x / 65536) (x * 65536 % 4294967296) = hlI32 x := by
  have e := hl_step32 x h0 h1
  rw [IntKind.wrap_u32'] at e
  exact e
def rbI32 (x : Int) : Int := ((rb32 (BitVec.ofInt 32 x)).toNat : Int)
theorem rng_rb32 (x : Int) : 0 ≤ rbI32 x ∧ rbI32 x ≤ 4294967295 := lt32 _
theorem ofInt_rb32 (x : Int) : BitVec.ofInt 32 (rbI32 x) = rb32 (BitVec.ofInt 32 x) := ofInt_toNat _
theorem rb_all32 (x : Int) : hlI32 (swI32_8 x) = rbI32 x := by
  unfold hlI32 rbI32
  rw [ofInt_sw32_8]
  rfl
theorem rv_all32 (x : Int) : rbI32 (swI32_4 (swI32_2 (swI32_1 x))) = revI32 x := by
  unfold rbI32 revI32
  rw [ofInt_sw32_4, ofInt_sw32_2, ofInt_sw32_1, ← rv32_eq]
  rfl

theorem sw_step64 (s : Nat) (p : Int) (hp : p = 2 ^ s) (m x : Int) (h0 : 0 ≤ x) (h1 : x ≤ 18446744073709551615) :
    bits .or .u64 (bits .and .u64 (x / p) m) (IntKind.u64.wrap (bits .and .u64 x m * p)) = ((swp s (BitVec.ofInt 64 m) (BitVec.ofInt 64 x)).toNat : Int) := by
  subst hp
  rw [shr64 x s h0 (by omega), and64 (BitVec.toNat _ : Int), ofInt_toNat, and64 x, shl64, or64, ofInt_toNat, ofInt_toNat, ofInt_toNat]
  rfl
theorem hl_step64 (x : Int) (h0 : 0 ≤ x) (h1 : x ≤ 18446744073709551615) :
    bits .or .u64 (x / 4294967296) (IntKind.u64.wrap (x * 4294967296)) = ((BitVec.ofInt 64 x >>> 32 ||| BitVec.ofInt 64 x <<< 32).toNat : Int) := by
  have e : (4294967296 : Int) = 2 ^ 32 := by decide
  rw [e, shr64 x 32 h0 (by omega), shl64, or64, ofInt_toNat, ofInt_toNat]
def swI64_1 (x : Int) : Int := ((swp 1 0x5555555555555555#64 (BitVec.ofInt 64 x)).toNat : Int)
theorem rng_sw64_1 (x : Int) : 0 ≤ swI64_1 x ∧ swI64_1 x ≤ 18446744073709551615 := lt64 _
theorem ofInt_sw64_1 (x : Int) : BitVec.ofInt 64 (swI64_1 x) = swp 1 0x5555555555555555#64 (BitVec.ofInt 64 x) := ofInt_toNat _
theorem sw_raw64_1 (x : Int) (h0 : 0 ≤ x) (h1 : x ≤ 18446744073709551615) : bits .or .u64 (bits .and .u64 (x / 2) 6148914691236517205) (IntKind.u64.wrap (bits .and .u64 x 6148914691236517205 * 2)) = swI64_1 x := by
  have e := sw_step64 1 2 (by decide) 6148914691236517205 x h0 h1
  have _t := e
  exact e
def swI64_2 (x : Int) : Int := ((swp 2 0x3333333333333333#64 (BitVec.ofInt 64 x)).toNat : Int)
theorem rng_sw64_2 (x : Int) : 0 ≤ swI64_2 x ∧ swI64_2 x ≤ 18446744073709551615 := lt64 _
theorem ofInt_sw64_2 (x : Int) : BitVec.ofInt 64 (swI64_2 x) = swp 2 0x3333333333333333#64 (BitVec.ofInt 64 x) := ofInt_toNat _
theorem sw_raw64_2 (x : Int) (h0 : 0 ≤ x) (h1 : x ≤ 18446744073709551615) : bits .or .u64 (bits .and .u64 (x / 4) 3689348814741910323) (IntKind.u64.wrap (bits .and .u64 x 3689348814741910323 * 4)) = swI64_2 x := by
  have e := sw_step64 2 4 (by decide) 3689348814741910323 x h0 h1
  have _t := e
  exact e
def swI64_4 (x : Int) : Int := ((swp 4 0x0f0f0f0f0f0f0f0f#64 (BitVec.ofInt 64 x)).toNat : Int)
theorem rng_sw64_4 (x : Int) : 0 ≤ swI64_4 x ∧ swI64_4 x ≤ 18446744073709551615 := lt64 _
theorem ofInt_sw64_4 (x : Int) : BitVec.ofInt 64 (swI64_4 x) = swp 4 0x0f0f0f0f0f0f0f0f#64 (BitVec.ofInt 64 x) := ofInt_toNat _
theorem sw_raw64_4 (x : Int) (h0 : 0 ≤ x) (h1 : x ≤ 18446744073709551615) : bits .or .u64 (bits .and .u64 (x / 16) 1085102592571150095) (IntKind.u64.wrap (bits .and .u64 x 1085102592571150095 * 16)) = swI64_4 x := by
  have e := sw_step64 4 16 (by decide) 1085102592571150095 x h0 h1
  have _t := e
  exact e
def swI64_8 (x : Int) : Int := ((swp 8 0x00ff00ff00ff00ff#64 (BitVec.ofInt 64 x)).toNat : Int)
theorem rng_sw64_8 (x : Int) : 0 ≤ swI64_8 x ∧ swI64_8 x ≤ 18446744073709551615 := lt64 _
theorem ofInt_sw64_8 (x : Int) : BitVec.ofInt 64 (swI64_8 x) = swp 8 0x00ff00ff00ff00ff#64 (BitVec.ofInt 64 x) := ofInt_toNat _
theorem sw_raw64_8 (x : Int) (h0 : 0 ≤ x) (h1 : x ≤ 18446744073709551615) : bits .or .u64 (bits .and .u64 (x / 256) 71777214294589695) (IntKind.u64.wrap (bits .and .u64 x 71777214294589695 * 256)) = swI64_8 x := by
  have e := sw_step64 8 256 (by decide) 71777214294589695 x h0 h1
  have _t := e
  exact e
def swI64_16 (x : Int) : Int := ((swp 16 0x0000ffff0000ffff#64 (BitVec.ofInt 64 x)).toNat : Int)
theorem rng_sw64_16 (x : Int) : 0 ≤ swI64_16 x ∧ swI64_16 x ≤ 18446744073709551615 := lt64 _
theorem ofInt_sw64_16 (x : Int) : BitVec.ofInt 64 (swI64_16 x) = swp 16 0x0000ffff0000ffff#64 (BitVec.ofInt 64 x) := ofInt_toNat _
theorem sw_raw64_16 (x : Int) (h0 : 0 ≤ x) (h1 : x ≤ 18446744073709551615) : bits .or .u64 (bits .and .u64 (x / 65536) 281470681808895) (IntKind.u64.wrap (bits .and .u64 x 281470681808895 * 65536)) = swI64_16 x := by
  have e := sw_step64 16 65536 (by decide) 281470681808895 x h0 h1
  have _t := e
  exact e
def hlI64 (x : Int) : Int := ((BitVec.ofInt 64 x >>> 32 ||| BitVec.ofInt 64 x <<< 32).toNat : Int)
theorem hl_raw64 (x : Int) (h0 : 0 ≤ x) (h1 : x ≤ 18446744073709551615) : bits .or .u64 (x / 4294967296) (IntKind.u64.wrap (x * 4294967296)) = hlI64 x := by
  have e := hl_step64 x h0 h1
  have _t := e
  exact e
def rbI64 (x : Int) : Int := ((rb64 (BitVec.ofInt 64 x)).toNat : Int)
theorem rng_rb64 (x : Int) : 0 ≤ rbI64 x ∧ rbI64 x ≤ 18446744073709551615 := lt64 _
theorem ofInt_rb64 (x : Int) : BitVec.ofInt 64 (rbI64 x) = rb64 (BitVec.ofInt 64 x) := ofInt_toNat _
theorem rb_all64 (x : Int) : hlI64 (swI64_16 (swI64_8 x)) = rbI64 x := by
  unfold hlI64 rbI64
  rw [ofInt_sw64_16, ofInt_sw64_8]
  rfl
theorem rv_all64 (x : Int) : rbI64 (swI64_4 (swI64_2 (swI64_1 x))) = revI64 x := by
  unfold rbI64 revI64
  rw [ofInt_sw64_4, ofInt_sw64_2, ofInt_sw64_1, ← rv64_eq]
  rfl

end Go.Proofs.Ytiheaeccnofelaa.Pl
