/-
  Counting up with the bits in opposite order, in plain Lean.
  Conditions: as stated in each theorem.
-/
import Derived.Test.YtiheaeccnofelaaRevI
import Derived.Test.YtiheaeccnofelaaNot
import Derived.Test.YtiheaeccnofelaaLenL
namespace Go.Proofs.Ytiheaeccnofelaa.Pl

/-- What 'the ones ahead' says of the bits. -/
theorem ahead_bits {w : Nat} (hw : w ≤ 64) (x : BitVec w) (c : Nat) (hc : Lib.bitLen (~~~x).toNat + c = w) :
    (∀ i, i < c → x.getLsbD (w - 1 - i) = true) ∧ (c < w → x.getLsbD (w - 1 - c) = false) := by
  have hlt := (~~~x).isLt
  have h64 : (~~~x).toNat < 18446744073709551616 := Nat.lt_of_lt_of_le hlt (Nat.pow_le_pow_right (n := 2) (by decide) hw)
  have hB := bitLen_lt (~~~x).toNat h64
  have hiff := bitLen_iff (~~~x).toNat
  have hnot : ∀ i, i < w → x.getLsbD i = !((~~~x).toNat.testBit i) := by
    intro i hi
    have := BitVec.getLsbD_not (x := x) (i := i)
    have e : (~~~x).toNat.testBit i = (~~~x).getLsbD i := rfl
    rw [e, this]; simp [hi]
  generalize (~~~x).toNat = m at *
  constructor
  · intro i hi
    rw [hnot _ (by omega)]
    have : m < 2 ^ (w - 1 - i) := (hiff _ h64).1 (by omega)
    rw [Nat.testBit_lt_two_pow this]; rfl
  · intro hcw
    rw [hnot _ (by omega)]
    have h1 : ¬ m < 2 ^ (w - 1 - c) := by
      intro h
      have := (hiff _ h64).2 h
      omega
    have h2 : m < 2 ^ (w - 1 - c + 1) := (hiff _ h64).1 (by omega)
    have h3 : m / 2 ^ (w - 1 - c) = 1 := by
      rw [Nat.pow_succ] at h2
      have hp : 0 < 2 ^ (w - 1 - c) := Nat.two_pow_pos _
      apply Nat.le_antisymm
      · exact Nat.le_of_lt_succ (Nat.div_lt_of_lt_mul h2)
      · exact (Nat.le_div_iff_mul_le hp).2 (by omega)
    rw [Nat.testBit_eq_decide_div_mod_eq, h3]; rfl

theorem rng_wrap8 (x : Int) : 0 ≤ IntKind.u8.wrap x ∧ IntKind.u8.wrap x ≤ 255 := by rw [wrap8]; exact lt8 _
theorem up8 (x : Int) : revI8 (IntKind.u8.wrap (revI8 x + 1)) = (((BitVec.ofInt 8 x).reverse + 1#8).reverse.toNat : Int) := by
  unfold revI8
  rw [wrap8, ofInt_toNat, BitVec.ofInt_add, ofInt_toNat]
  rfl
theorem rc_some8 (x : Int) (c : Nat) (hc : 8 - (Lib.bitLen (notI8 x).toNat : Int) = (c : Int)) (hlt : c < 8) :
    revI8 ((revI8 x + 1) % 256) = bits .or .u8 (x * 2 ^ c % 256 / 2 ^ c) (2 ^ (7 - c) % 256) := by
  rw [← IntKind.wrap_u8', ← IntKind.wrap_u8', ← IntKind.wrap_u8']
  rw [up8]
  have hn : (notI8 x).toNat = (~~~(BitVec.ofInt 8 x)).toNat := by rw [not8]; omega
  rw [hn] at hc
  have hb := ahead_bits (by decide) (BitVec.ofInt 8 x) c (by omega)
  rw [rev_succ (BitVec.ofInt 8 x) c hlt hb.1 (hb.2 hlt)]
  have e1 : ((2 : Int) ^ (7 - c)) = 1 * 2 ^ (7 - c) := by rw [Int.one_mul]
  rw [shl8, e1, shl8]
  have hr := lt8 (BitVec.ofInt 8 x <<< c)
  rw [shr8 _ c hr.1 (by omega), ofInt_toNat, or8, ofInt_toNat, ofInt_toNat]
  rfl
theorem rc_none8 (x : Int) (hc : 8 - (Lib.bitLen (notI8 x).toNat : Int) = (8 : Int)) : revI8 ((revI8 x + 1) % 256) = 0 := by
  rw [← IntKind.wrap_u8']
  rw [up8]
  have hn : (notI8 x).toNat = (~~~(BitVec.ofInt 8 x)).toNat := by rw [not8]; omega
  rw [hn] at hc
  have hb := ahead_bits (by decide) (BitVec.ofInt 8 x) 8 (by omega)
  rw [rev_last (BitVec.ofInt 8 x) (fun i hi => by
    have := hb.1 (8 - 1 - i) (by omega)
    rw [show 8 - 1 - (8 - 1 - i) = i by omega] at this
    exact this)]
  rfl
theorem rng_wrap16 (x : Int) : 0 ≤ IntKind.u16.wrap x ∧ IntKind.u16.wrap x ≤ 65535 := by rw [wrap16]; exact lt16 _
theorem up16 (x : Int) : revI16 (IntKind.u16.wrap (revI16 x + 1)) = (((BitVec.ofInt 16 x).reverse + 1#16).reverse.toNat : Int) := by
  unfold revI16
  rw [wrap16, ofInt_toNat, BitVec.ofInt_add, ofInt_toNat]
  rfl
theorem rc_some16 (x : Int) (c : Nat) (hc : 16 - (Lib.bitLen (notI16 x).toNat : Int) = (c : Int)) (hlt : c < 16) :
    revI16 (IntKind.u16.wrap (revI16 x + 1)) = bits .or .u16 (IntKind.u16.wrap (x * 2 ^ c) / 2 ^ c) (IntKind.u16.wrap (2 ^ (15 - c))) := by
  rw [up16]
  have hn : (notI16 x).toNat = (~~~(BitVec.ofInt 16 x)).toNat := by rw [not16]; omega
  rw [hn] at hc
  have hb := ahead_bits (by decide) (BitVec.ofInt 16 x) c (by omega)
  rw [rev_succ (BitVec.ofInt 16 x) c hlt hb.1 (hb.2 hlt)]
  have e1 : ((2 : Int) ^ (15 - c)) = 1 * 2 ^ (15 - c) := by rw [Int.one_mul]
  rw [shl16, e1, shl16]
  have hr := lt16 (BitVec.ofInt 16 x <<< c)
  rw [shr16 _ c hr.1 (by omega), ofInt_toNat, or16, ofInt_toNat, ofInt_toNat]
  rfl
theorem rc_none16 (x : Int) (hc : 16 - (Lib.bitLen (notI16 x).toNat : Int) = (16 : Int)) : revI16 (IntKind.u16.wrap (revI16 x + 1)) = 0 := by
  rw [up16]
  have hn : (notI16 x).toNat = (~~~(BitVec.ofInt 16 x)).toNat := by rw [not16]; omega
  rw [hn] at hc
  have hb := ahead_bits (by decide) (BitVec.ofInt 16 x) 16 (by omega)
  rw [rev_last (BitVec.ofInt 16 x) (fun i hi => by
    have := hb.1 (16 - 1 - i) (by omega)
    rw [show 16 - 1 - (16 - 1 - i) = i by omega] at this
    exact this)]
  rfl
theorem rng_wrap32 (x : Int) : 0 ≤ IntKind.u32.wrap x ∧ IntKind.u32.wrap x ≤ 4294967295 := by rw [wrap32]; exact lt32 _
theorem up32 (x : Int) : revI32 (IntKind.u32.wrap (revI32 x + 1)) = (((BitVec.ofInt 32 x).reverse + 1#32).reverse.toNat : Int) := by
  unfold revI32
  rw [wrap32, ofInt_toNat, BitVec.ofInt_add, ofInt_toNat]
  rfl
theorem rc_some32 (x : Int) (c : Nat) (hc : 32 - (Lib.bitLen (notI32 x).toNat : Int) = (c : Int)) (hlt : c < 32) :
    revI32 ((revI32 x + 1) % 4294967296) = bits .or .u32 (x * 2 ^ c % 4294967296 / 2 ^ c) (2 ^ (31 - c) % 4294967296) := by
  rw [← IntKind.wrap_u32', ← IntKind.wrap_u32', ← IntKind.wrap_u32']
  rw [up32]
  have hn : (notI32 x).toNat = (~~~(BitVec.ofInt 32 x)).toNat := by rw [not32]; omega
  rw [hn] at hc
  have hb := ahead_bits (by decide) (BitVec.ofInt 32 x) c (by omega)
  rw [rev_succ (BitVec.ofInt 32 x) c hlt hb.1 (hb.2 hlt)]
  have e1 : ((2 : Int) ^ (31 - c)) = 1 * 2 ^ (31 - c) := by rw [Int.one_mul]
  rw [shl32, e1, shl32]
  have hr := lt32 (BitVec.ofInt 32 x <<< c)
  rw [shr32 _ c hr.1 (by omega), ofInt_toNat, or32, ofInt_toNat, ofInt_toNat]
  rfl
theorem rc_none32 (x : Int) (hc : 32 - (Lib.bitLen (notI32 x).toNat : Int) = (32 : Int)) : revI32 ((revI32 x + 1) % 4294967296) = 0 := by
  rw [← IntKind.wrap_u32']
  rw [up32]
  have hn : (notI32 x).toNat = (~~~(BitVec.ofInt 32 x)).toNat := by rw [not32]; omega
  rw [hn] at hc
  have hb := ahead_bits (by decide) (BitVec.ofInt 32 x) 32 (by omega)
  rw [rev_last (BitVec.ofInt 32 x) (fun i hi => by
    have := hb.1 (32 - 1 - i) (by omega)
    rw [show 32 - 1 - (32 - 1 - i) = i by omega] at this
    exact this)]
  rfl
theorem rng_wrap64 (x : Int) : 0 ≤ IntKind.u64.wrap x ∧ IntKind.u64.wrap x ≤ 18446744073709551615 := by rw [wrap64]; exact lt64 _
theorem up64 (x : Int) : revI64 (IntKind.u64.wrap (revI64 x + 1)) = (((BitVec.ofInt 64 x).reverse + 1#64).reverse.toNat : Int) := by
  unfold revI64
  rw [wrap64, ofInt_toNat, BitVec.ofInt_add, ofInt_toNat]
  rfl
theorem rc_some64 (x : Int) (c : Nat) (hc : 64 - (Lib.bitLen (notI64 x).toNat : Int) = (c : Int)) (hlt : c < 64) :
    revI64 (IntKind.u64.wrap (revI64 x + 1)) = bits .or .u64 (IntKind.u64.wrap (x * 2 ^ c) / 2 ^ c) (IntKind.u64.wrap (2 ^ (63 - c))) := by
  rw [up64]
  have hn : (notI64 x).toNat = (~~~(BitVec.ofInt 64 x)).toNat := by rw [not64]; omega
  rw [hn] at hc
  have hb := ahead_bits (by decide) (BitVec.ofInt 64 x) c (by omega)
  rw [rev_succ (BitVec.ofInt 64 x) c hlt hb.1 (hb.2 hlt)]
  have e1 : ((2 : Int) ^ (63 - c)) = 1 * 2 ^ (63 - c) := by rw [Int.one_mul]
  rw [shl64, e1, shl64]
  have hr := lt64 (BitVec.ofInt 64 x <<< c)
  rw [shr64 _ c hr.1 (by omega), ofInt_toNat, or64, ofInt_toNat, ofInt_toNat]
  rfl
theorem rc_none64 (x : Int) (hc : 64 - (Lib.bitLen (notI64 x).toNat : Int) = (64 : Int)) : revI64 (IntKind.u64.wrap (revI64 x + 1)) = 0 := by
  rw [up64]
  have hn : (notI64 x).toNat = (~~~(BitVec.ofInt 64 x)).toNat := by rw [not64]; omega
  rw [hn] at hc
  have hb := ahead_bits (by decide) (BitVec.ofInt 64 x) 64 (by omega)
  rw [rev_last (BitVec.ofInt 64 x) (fun i hi => by
    have := hb.1 (64 - 1 - i) (by omega)
    rw [show 64 - 1 - (64 - 1 - i) = i by omega] at this
    exact this)]
  rfl

end Go.Proofs.Ytiheaeccnofelaa.Pl
