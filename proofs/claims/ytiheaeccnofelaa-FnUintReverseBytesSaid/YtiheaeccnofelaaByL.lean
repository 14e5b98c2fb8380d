/-
  The bytes of a number in opposite order, by rotations and masks.
  Conditions: as stated in each theorem.
-/
import Derived.Test.YtiheaeccnofelaaRevI
namespace Go.Proofs.Ytiheaeccnofelaa.Pl

theorem bytes32_idx : ∀ i : Fin 32, ((0x00ff00ff#32).getLsbD i.val = true ∧ (0xff00ff00#32).getLsbD i.val = false ∧ (((i.val : Int) - 8) % 32).toNat = i.val ^^^ 24) ∨ ((0x00ff00ff#32).getLsbD i.val = false ∧ (0xff00ff00#32).getLsbD i.val = true ∧ (((i.val : Int) - 24) % 32).toNat = i.val ^^^ 24) := by decide +kernel
theorem bytes32 (x : Int) : rbI32 x = bits .or .u32 (bits .and .u32 (rotI32 x 8) 16711935) (bits .and .u32 (rotI32 x 24) 4278255360) := by
  rw [and32, and32, or32, ofInt_toNat, ofInt_toNat, ofInt_rot32, ofInt_rot32]
  unfold rbI32
  rw [show BitVec.ofInt 32 16711935 = 0x00ff00ff#32 from rfl, show BitVec.ofInt 32 4278255360 = 0xff00ff00#32 from rfl]
  congr 2
  refine bv_ext fun i hi => ?_
  rw [rb32_bit _ _ hi, BitVec.getLsbD_or, BitVec.getLsbD_and, BitVec.getLsbD_and, getLsbD_rotZ _ _ _ hi, getLsbD_rotZ _ _ _ hi]
  rcases bytes32_idx ⟨i, hi⟩ with ⟨a, b, c⟩ | ⟨a, b, c⟩
  · simp only at a b c
    rw [a, b, show ((32 : Nat) : Int) = 32 from rfl, c]; simp
  · simp only at a b c
    rw [a, b, show ((32 : Nat) : Int) = 32 from rfl, c]; simp
theorem rb32_one : rbI32 1 = 16777216 := by decide +kernel
theorem rb64_one : rbI64 1 = 72057594037927936 := by decide +kernel
theorem rb16_one : rbI16 1 = 256 := by decide +kernel

/-- One exchange, written the other way round. -/
def exc (s : Nat) (M m x : BitVec 64) : BitVec 64 := (x <<< s &&& M) ||| (x >>> s &&& m)
theorem exc_bit (s : Nat) (M m x : BitVec 64) (i : Nat) (hi : i < 64)
    (hm : (m.getLsbD i = true ∧ M.getLsbD i = false ∧ i ^^^ s = s + i) ∨ (m.getLsbD i = false ∧ M.getLsbD i = true ∧ i ^^^ s = i - s ∧ s ≤ i)) :
    (exc s M m x).getLsbD i = x.getLsbD (i ^^^ s) := by
  unfold exc
  rw [BitVec.getLsbD_or, BitVec.getLsbD_and, BitVec.getLsbD_and, BitVec.getLsbD_ushiftRight, BitVec.getLsbD_shiftLeft]
  rcases hm with ⟨a, b, c⟩ | ⟨a, b, c, d⟩
  · rw [a, b, c]; simp
  · rw [a, b, c]
    have e : ¬ i < s := by omega
    simp [hi, e]
theorem ex16_idx : ∀ i : Fin 64, ((0x0000ffff0000ffff#64).getLsbD i.val = true ∧ (0xffff0000ffff0000#64).getLsbD i.val = false ∧ i.val ^^^ 16 = 16 + i.val) ∨ ((0x0000ffff0000ffff#64).getLsbD i.val = false ∧ (0xffff0000ffff0000#64).getLsbD i.val = true ∧ i.val ^^^ 16 = i.val - 16 ∧ 16 ≤ i.val) := by decide +kernel
theorem ex8_idx : ∀ i : Fin 64, ((0x00ff00ff00ff00ff#64).getLsbD i.val = true ∧ (0xff00ff00ff00ff00#64).getLsbD i.val = false ∧ i.val ^^^ 8 = 8 + i.val) ∨ ((0x00ff00ff00ff00ff#64).getLsbD i.val = false ∧ (0xff00ff00ff00ff00#64).getLsbD i.val = true ∧ i.val ^^^ 8 = i.val - 8 ∧ 8 ≤ i.val) := by decide +kernel
theorem rot32_idx : ∀ i : Fin 64, (((i.val : Int) - 32) % 64).toNat = i.val ^^^ 32 := by decide +kernel
def ex16I (x : Int) : Int := ((exc 16 0xffff0000ffff0000#64 0x0000ffff0000ffff#64 (BitVec.ofInt 64 x)).toNat : Int)
def ex8I (x : Int) : Int := ((exc 8 0xff00ff00ff00ff00#64 0x00ff00ff00ff00ff#64 (BitVec.ofInt 64 x)).toNat : Int)
theorem rng_ex16 (x : Int) : 0 ≤ ex16I x ∧ ex16I x ≤ 18446744073709551615 := lt64 _
theorem rng_ex8 (x : Int) : 0 ≤ ex8I x ∧ ex8I x ≤ 18446744073709551615 := lt64 _
theorem ex_step (s : Nat) (p : Int) (hp : p = 2 ^ s) (M m x : Int) (h0 : 0 ≤ x) (h1 : x ≤ 18446744073709551615) :
    bits .or .u64 (bits .and .u64 (IntKind.u64.wrap (x * p)) M) (bits .and .u64 (x / p) m) = ((exc s (BitVec.ofInt 64 M) (BitVec.ofInt 64 m) (BitVec.ofInt 64 x)).toNat : Int) := by
  subst hp
  rw [shl64, shr64 x s h0 (by omega), and64, and64, or64, ofInt_toNat, ofInt_toNat, ofInt_toNat, ofInt_toNat]
  rfl
theorem ex16_raw (x : Int) (h0 : 0 ≤ x) (h1 : x ≤ 18446744073709551615) : bits .or .u64 (bits .and .u64 (IntKind.u64.wrap (x * 65536)) 18446462603027742720) (bits .and .u64 (x / 65536) 281470681808895) = ex16I x :=
  ex_step 16 65536 (by decide) 18446462603027742720 281470681808895 x h0 h1
theorem ex8_raw (x : Int) (h0 : 0 ≤ x) (h1 : x ≤ 18446744073709551615) : bits .or .u64 (bits .and .u64 (IntKind.u64.wrap (x * 256)) 18374966859414961920) (bits .and .u64 (x / 256) 71777214294589695) = ex8I x :=
  ex_step 8 256 (by decide) 18374966859414961920 71777214294589695 x h0 h1
theorem bytes64 (x : Int) : rbI64 x = ex8I (ex16I (rotI64 x 32)) := by
  unfold rbI64 ex8I ex16I
  rw [ofInt_toNat, ofInt_rot64]
  congr 2
  refine bv_ext fun i hi => ?_
  have h1 := xl64 i 8 hi (by decide)
  have h2 := xl64 _ 16 h1 (by decide)
  rw [rb64_bit _ _ hi, exc_bit _ _ _ _ _ hi (ex8_idx ⟨i, hi⟩), exc_bit _ _ _ _ _ h1 (ex16_idx ⟨i ^^^ 8, h1⟩), getLsbD_rotZ _ _ _ h2]
  congr 1
  have e := rot32_idx ⟨i ^^^ 8 ^^^ 16, h2⟩
  simp only at e
  rw [show ((64 : Nat) : Int) = 64 from rfl, e, Nat.xor_assoc, Nat.xor_assoc, show (8 ^^^ (16 ^^^ 32) : Nat) = 56 from rfl]

end Go.Proofs.Ytiheaeccnofelaa.Pl
