/-
  How many zeros a number has behind: by remainders; of what two numbers have together.
  Conditions: as stated in each theorem.
-/
import Derived.Lib.TrailingZeros
import Derived.Test.YtgggkagpgnbecaaDoorLenL
namespace Go.Proofs.YtgggkagpgnbecaaDoor.Pl

open Go.Lib (ctz ctzFrom)

theorem ctzFrom_iff (f x k : Nat) (h0 : 0 < x) (h : x < 2 ^ f) : k ≤ ctzFrom f x ↔ x % 2 ^ k = 0 := by
  obtain ⟨m, hm, _⟩ := Lib.ctzFrom_spec f x h0 h
  generalize ctzFrom f x = c at *
  subst hm
  constructor
  · intro hk
    obtain ⟨d, rfl⟩ : ∃ d, c = k + d := ⟨c - k, by omega⟩
    rw [Nat.pow_add, Nat.mul_assoc, Nat.mul_mod_right]
  · intro hk
    apply Nat.le_of_not_lt
    intro hlt
    obtain ⟨d, rfl⟩ : ∃ d, k = c + (d + 1) := ⟨k - c - 1, by omega⟩
    have h1 : 2 ^ (c + (d + 1)) ∣ 2 ^ c * (2 * m + 1) := Nat.dvd_of_mod_eq_zero hk
    rw [Nat.pow_add] at h1
    have h2 : 2 ^ (d + 1) ∣ 2 * m + 1 := Nat.dvd_of_mul_dvd_mul_left (Nat.two_pow_pos c) h1
    have h3 : 2 ∣ 2 * m + 1 := Nat.dvd_trans (by rw [Nat.pow_succ]; exact Nat.dvd_mul_left 2 _) h2
    omega

theorem ctz_le (n x : Nat) (h : x < 2 ^ n) : ctz n x ≤ n := by
  unfold ctz
  split
  · exact Nat.le_refl _
  · rename_i h0
    obtain ⟨_, _, hk⟩ := Lib.ctzFrom_spec n x (by omega) h
    omega

theorem ctz_iff (n x k : Nat) (h : x < 2 ^ n) (hk : k ≤ n) : k ≤ ctz n x ↔ x % 2 ^ k = 0 := by
  unfold ctz
  split
  · rename_i h0; subst h0; simp [hk]
  · rename_i h0
    exact ctzFrom_iff n x k (by omega) h

theorem ctz_or (n x y : Nat) (hx : x < 2 ^ n) (hy : y < 2 ^ n) : ctz n (x ||| y) = min (ctz n x) (ctz n y) := by
  have hxy : x ||| y < 2 ^ n := Nat.or_lt_two_pow hx hy
  have key : ∀ k, k ≤ n → (k ≤ ctz n (x ||| y) ↔ k ≤ ctz n x ∧ k ≤ ctz n y) := by
    intro k hk
    rw [ctz_iff n _ k hxy hk, ctz_iff n x k hx hk, ctz_iff n y k hy hk, Nat.or_mod_two_pow, Nat.or_eq_zero_iff]
  have l1 := ctz_le n (x ||| y) hxy
  have l2 := ctz_le n x hx
  have l3 := ctz_le n y hy
  have a := (key (ctz n (x ||| y)) l1).1 (Nat.le_refl _)
  have b := (key (min (ctz n x) (ctz n y)) (by omega)).2 ⟨Nat.min_le_left _ _, Nat.min_le_right _ _⟩
  omega

theorem tz8_ctz : ∀ n : Fin 256, Lib.trailingZeros8 n.val = ctz 8 n.val := by decide +kernel
theorem tz8_or (x y : Nat) (hx : x < 256) (hy : y < 256) : Lib.trailingZeros8 (x ||| y) = min (Lib.trailingZeros8 x) (Lib.trailingZeros8 y) := by
  have hxy : x ||| y < 256 := Nat.or_lt_two_pow (n := 8) hx hy
  have a := tz8_ctz ⟨x ||| y, hxy⟩
  have b := tz8_ctz ⟨x, hx⟩
  have c := tz8_ctz ⟨y, hy⟩
  simp only at a b c
  rw [a, b, c]
  exact ctz_or 8 x y hx hy
theorem tz8_zero : Lib.trailingZeros8 0 = 8 := by decide
theorem len8_zero : Lib.bitLen 0 = 0 := by decide
theorem tzI8 (x y : Int) (h0 : 0 ≤ x) (h1 : x ≤ 255) (h2 : 0 ≤ y) (h3 : y ≤ 255) : Lib.trailingZeros8 (bits .or .u8 x y).toNat = min (Lib.trailingZeros8 x.toNat) (Lib.trailingZeros8 y.toNat) := by
  rw [u8_or x y h0 (by omega) h2 (by omega), Int.toNat_natCast]
  exact tz8_or x.toNat y.toNat (by omega) (by omega)
theorem tzI16 (x y : Int) (h0 : 0 ≤ x) (h1 : x ≤ 65535) (h2 : 0 ≤ y) (h3 : y ≤ 65535) : ctz 16 (bits .or .u16 x y).toNat = min (ctz 16 x.toNat) (ctz 16 y.toNat) := by
  rw [u16_or x y h0 (by omega) h2 (by omega), Int.toNat_natCast]
  exact ctz_or 16 x.toNat y.toNat (by omega) (by omega)
theorem ctz_zero16 : ctz 16 0 = 16 := rfl
theorem ctz_rng16 (x : Int) (h0 : 0 ≤ x) (h1 : x ≤ 65535) : ctz 16 x.toNat ≤ 16 := ctz_le 16 x.toNat (by omega)
theorem tzI32 (x y : Int) (h0 : 0 ≤ x) (h1 : x ≤ 4294967295) (h2 : 0 ≤ y) (h3 : y ≤ 4294967295) : ctz 32 (bits .or .u32 x y).toNat = min (ctz 32 x.toNat) (ctz 32 y.toNat) := by
  rw [u32_or x y h0 (by omega) h2 (by omega), Int.toNat_natCast]
  exact ctz_or 32 x.toNat y.toNat (by omega) (by omega)
theorem ctz_zero32 : ctz 32 0 = 32 := rfl
theorem ctz_rng32 (x : Int) (h0 : 0 ≤ x) (h1 : x ≤ 4294967295) : ctz 32 x.toNat ≤ 32 := ctz_le 32 x.toNat (by omega)
theorem tzI64 (x y : Int) (h0 : 0 ≤ x) (h1 : x ≤ 18446744073709551615) (h2 : 0 ≤ y) (h3 : y ≤ 18446744073709551615) : ctz 64 (bits .or .u64 x y).toNat = min (ctz 64 x.toNat) (ctz 64 y.toNat) := by
  rw [u64_or x y h0 (by omega) h2 (by omega), Int.toNat_natCast]
  exact ctz_or 64 x.toNat y.toNat (by omega) (by omega)
theorem ctz_zero64 : ctz 64 0 = 64 := rfl
theorem ctz_rng64 (x : Int) (h0 : 0 ≤ x) (h1 : x ≤ 18446744073709551615) : ctz 64 x.toNat ≤ 64 := ctz_le 64 x.toNat (by omega)

end Go.Proofs.YtgggkagpgnbecaaDoor.Pl
