/-
  How many bits a number needs: bounds by powers of two; of what two numbers have together, and of what they differ in.
  Conditions: as stated in each theorem.
-/
import Derived.Lib.BitFns
import Derived.Test.YtnebokpifgipfaaWords
namespace Go.Proofs.Ytnebokpifgipfaa.Pl

open Go.Lib (bitLen bitLenAux)

theorem bitLenAux_lt : ∀ (f x : Nat), x < 2 ^ f → x < 2 ^ bitLenAux f x
  | 0, x, h => by simpa [bitLenAux] using h
  | f + 1, x, h => by
    simp only [bitLenAux]
    split
    · rename_i h0; subst h0; simp
    · have ih := bitLenAux_lt f (x / 2) (by rw [Nat.pow_succ] at h; omega)
      rw [Nat.add_comm 1, Nat.pow_succ]
      omega

theorem bitLen_lt (x : Nat) (h : x < 18446744073709551616) : x < 2 ^ bitLen x := bitLenAux_lt 64 x h

theorem bitLen_iff (x k : Nat) (h : x < 18446744073709551616) : bitLen x ≤ k ↔ x < 2 ^ k := by
  constructor
  · intro hk
    exact Nat.lt_of_lt_of_le (bitLen_lt x h) (Nat.pow_le_pow_right (by decide) hk)
  · exact Lib.bitLenAux_le 64 x k

theorem bitLen_or (x y : Nat) (hx : x < 18446744073709551616) (hy : y < 18446744073709551616) : bitLen (x ||| y) = max (bitLen x) (bitLen y) := by
  have hxy : x ||| y < 18446744073709551616 := Nat.or_lt_two_pow (n := 64) hx hy
  apply Nat.le_antisymm
  · rw [bitLen_iff _ _ hxy]
    exact Nat.or_lt_two_pow ((bitLen_iff _ _ hx).1 (Nat.le_max_left _ _)) ((bitLen_iff _ _ hy).1 (Nat.le_max_right _ _))
  · apply Nat.max_le.2
    constructor
    · rw [bitLen_iff _ _ hx]
      exact Nat.lt_of_le_of_lt Nat.left_le_or (bitLen_lt _ hxy)
    · rw [bitLen_iff _ _ hy]
      exact Nat.lt_of_le_of_lt Nat.right_le_or (bitLen_lt _ hxy)

theorem bitLen_xor (x y : Nat) (hx : x < 18446744073709551616) (hy : y < 18446744073709551616) : bitLen (x ^^^ y) ≤ max (bitLen x) (bitLen y) := by
  have hxy : x ^^^ y < 18446744073709551616 := Nat.xor_lt_two_pow (n := 64) hx hy
  rw [bitLen_iff _ _ hxy]
  exact Nat.xor_lt_two_pow ((bitLen_iff _ _ hx).1 (Nat.le_max_left _ _)) ((bitLen_iff _ _ hy).1 (Nat.le_max_right _ _))

/-- Of three numbers: each length of what two differ in is at most the greater one of the others. -/
theorem trio3 (x y z : Nat) (hx : x < 18446744073709551616) (hy : y < 18446744073709551616) (hz : z < 18446744073709551616) :
    bitLen (x ^^^ z) ≤ max (bitLen (x ^^^ y)) (bitLen (y ^^^ z)) ∧ bitLen (x ^^^ y) ≤ max (bitLen (x ^^^ z)) (bitLen (y ^^^ z)) ∧ bitLen (y ^^^ z) ≤ max (bitLen (x ^^^ y)) (bitLen (x ^^^ z)) := by
  have h1 : x ^^^ y < 18446744073709551616 := Nat.xor_lt_two_pow (n := 64) hx hy
  have h2 : y ^^^ z < 18446744073709551616 := Nat.xor_lt_two_pow (n := 64) hy hz
  have h3 : x ^^^ z < 18446744073709551616 := Nat.xor_lt_two_pow (n := 64) hx hz
  refine ⟨?_, ?_, ?_⟩
  · have e : (x ^^^ y) ^^^ (y ^^^ z) = x ^^^ z := by rw [Nat.xor_assoc, ← Nat.xor_assoc y y z, Nat.xor_self, Nat.zero_xor]
    rw [← e]; exact bitLen_xor _ _ h1 h2
  · have e : (x ^^^ z) ^^^ (y ^^^ z) = x ^^^ y := by rw [Nat.xor_comm y z, Nat.xor_assoc, ← Nat.xor_assoc z z y, Nat.xor_self, Nat.zero_xor]
    rw [← e]; exact bitLen_xor _ _ h3 h2
  · have e : (x ^^^ y) ^^^ (x ^^^ z) = y ^^^ z := by rw [Nat.xor_comm x y, Nat.xor_assoc, ← Nat.xor_assoc x x z, Nat.xor_self, Nat.zero_xor]
    rw [← e]; exact bitLen_xor _ _ h1 h3

theorem bitLen_one : bitLen 1 = 1 := by decide
theorem bitLen_zero : bitLen 0 = 0 := by decide
theorem trioI32 (x y z : Int) (h0 : 0 ≤ x) (h1 : x ≤ 4294967295) (h2 : 0 ≤ y) (h3 : y ≤ 4294967295) (h4 : 0 ≤ z) (h5 : z ≤ 4294967295) :
    bitLen (bits .xor .u32 x z).toNat ≤ max (bitLen (bits .xor .u32 x y).toNat) (bitLen (bits .xor .u32 y z).toNat) ∧ bitLen (bits .xor .u32 x y).toNat ≤ max (bitLen (bits .xor .u32 x z).toNat) (bitLen (bits .xor .u32 y z).toNat) ∧ bitLen (bits .xor .u32 y z).toNat ≤ max (bitLen (bits .xor .u32 x y).toNat) (bitLen (bits .xor .u32 x z).toNat) := by
  rw [u32_xor x z h0 (by omega) h4 (by omega), u32_xor x y h0 (by omega) h2 (by omega), u32_xor y z h2 (by omega) h4 (by omega)]
  simp only [Int.toNat_natCast]
  exact trio3 x.toNat y.toNat z.toNat (by omega) (by omega) (by omega)
theorem trioI64 (x y z : Int) (h0 : 0 ≤ x) (h1 : x ≤ 18446744073709551615) (h2 : 0 ≤ y) (h3 : y ≤ 18446744073709551615) (h4 : 0 ≤ z) (h5 : z ≤ 18446744073709551615) :
    bitLen (bits .xor .u64 x z).toNat ≤ max (bitLen (bits .xor .u64 x y).toNat) (bitLen (bits .xor .u64 y z).toNat) ∧ bitLen (bits .xor .u64 x y).toNat ≤ max (bitLen (bits .xor .u64 x z).toNat) (bitLen (bits .xor .u64 y z).toNat) ∧ bitLen (bits .xor .u64 y z).toNat ≤ max (bitLen (bits .xor .u64 x y).toNat) (bitLen (bits .xor .u64 x z).toNat) := by
  rw [u64_xor x z h0 (by omega) h4 (by omega), u64_xor x y h0 (by omega) h2 (by omega), u64_xor y z h2 (by omega) h4 (by omega)]
  simp only [Int.toNat_natCast]
  exact trio3 x.toNat y.toNat z.toNat (by omega) (by omega) (by omega)
theorem unionI8 (x y : Int) (h0 : 0 ≤ x) (h1 : x ≤ 255) (h2 : 0 ≤ y) (h3 : y ≤ 255) : bitLen (bits .or .u8 x y).toNat = max (bitLen x.toNat) (bitLen y.toNat) := by
  rw [u8_or x y h0 (by omega) h2 (by omega), Int.toNat_natCast]
  exact bitLen_or x.toNat y.toNat (by omega) (by omega)
theorem unionI16 (x y : Int) (h0 : 0 ≤ x) (h1 : x ≤ 65535) (h2 : 0 ≤ y) (h3 : y ≤ 65535) : bitLen (bits .or .u16 x y).toNat = max (bitLen x.toNat) (bitLen y.toNat) := by
  rw [u16_or x y h0 (by omega) h2 (by omega), Int.toNat_natCast]
  exact bitLen_or x.toNat y.toNat (by omega) (by omega)
theorem unionI32 (x y : Int) (h0 : 0 ≤ x) (h1 : x ≤ 4294967295) (h2 : 0 ≤ y) (h3 : y ≤ 4294967295) : bitLen (bits .or .u32 x y).toNat = max (bitLen x.toNat) (bitLen y.toNat) := by
  rw [u32_or x y h0 (by omega) h2 (by omega), Int.toNat_natCast]
  exact bitLen_or x.toNat y.toNat (by omega) (by omega)
theorem unionI64 (x y : Int) (h0 : 0 ≤ x) (h1 : x ≤ 18446744073709551615) (h2 : 0 ≤ y) (h3 : y ≤ 18446744073709551615) : bitLen (bits .or .u64 x y).toNat = max (bitLen x.toNat) (bitLen y.toNat) := by
  rw [u64_or x y h0 (by omega) h2 (by omega), Int.toNat_natCast]
  exact bitLen_or x.toNat y.toNat (by omega) (by omega)

end Go.Proofs.Ytnebokpifgipfaa.Pl
