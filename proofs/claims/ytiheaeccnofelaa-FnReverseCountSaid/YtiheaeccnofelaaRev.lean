/-
  Plain facts on numbers with their bits, or their bytes, in opposite order: the library's exchanges of halves, pairs and single bits; rotation and reversal; counting up with the bits in opposite order.
  Conditions: as stated in each theorem.
-/
import Derived.Test.YtiheaeccnofelaaWords
namespace Go.Proofs.Ytiheaeccnofelaa.Pl

theorem rev_bit {w : Nat} (x : BitVec w) (i : Nat) (hi : i < w) : x.reverse.getLsbD i = x.getLsbD (w - 1 - i) := by
  rw [BitVec.getLsbD_reverse, BitVec.getMsbD_eq_getLsbD]
  simp [hi]

theorem rev_rot {w : Nat} (x : BitVec w) (k : Int) : (rotZ x k).reverse = rotZ x.reverse (-k) := by
  refine bv_ext fun i hi => ?_
  have hw : (0 : Int) < w := by omega
  rw [rev_bit _ _ hi, getLsbD_rotZ _ _ _ (by omega), getLsbD_rotZ _ _ _ hi, rev_bit _ _ (rotZ_idx i (-k) hi)]
  have h0 := Int.emod_nonneg ((i : Int) - -k) (Int.ne_of_gt hw)
  have h1 := Int.emod_lt_of_pos ((i : Int) - -k) hw
  have hq := Int.emod_add_mul_ediv ((i : Int) - -k) (w : Int)
  generalize ((i : Int) - -k) % (w : Int) = r at *
  generalize ((i : Int) - -k) / (w : Int) = q at *
  have e : (((w - 1 - i : Nat) : Int) - k) % (w : Int) = w - 1 - r := by
    have e1 : ((w - 1 - i : Nat) : Int) - k = (w - 1 - r) + (w : Int) * (-q) := by
      rw [Int.mul_neg]; omega
    rw [e1, Int.add_mul_emod_self_left, Int.emod_eq_of_lt (by omega) (by omega)]
  rw [e]
  congr 1; omega

/-- One exchange: what the mask takes goes up by s, the rest comes down. -/
def swp {w : Nat} (s : Nat) (m x : BitVec w) : BitVec w := (x >>> s &&& m) ||| ((x &&& m) <<< s)

theorem swp_bit {w : Nat} (s : Nat) (m x : BitVec w) (i : Nat) (hi : i < w)
    (hm : (m.getLsbD i = true ∧ i ^^^ s = s + i ∧ (i < s ∨ m.getLsbD (i - s) = false)) ∨ (m.getLsbD i = false ∧ i ^^^ s = i - s ∧ s ≤ i ∧ m.getLsbD (i - s) = true)) :
    (swp s m x).getLsbD i = x.getLsbD (i ^^^ s) := by
  unfold swp
  rw [BitVec.getLsbD_or, BitVec.getLsbD_and, BitVec.getLsbD_ushiftRight, BitVec.getLsbD_shiftLeft, BitVec.getLsbD_and]
  rcases hm with ⟨a, b, c⟩ | ⟨a, b, c, d⟩
  · rw [a, b]
    rcases c with c | c
    · simp [c]
    · simp [c]
  · rw [a, b, d]
    have e : ¬ i < s := by omega
    simp [hi, e]

theorem mask64_1 : ∀ i : Fin 64, ((0x5555555555555555#64).getLsbD i.val = true ∧ i.val ^^^ 1 = 1 + i.val ∧ (i.val < 1 ∨ (0x5555555555555555#64).getLsbD (i.val - 1) = false)) ∨ ((0x5555555555555555#64).getLsbD i.val = false ∧ i.val ^^^ 1 = i.val - 1 ∧ 1 ≤ i.val ∧ (0x5555555555555555#64).getLsbD (i.val - 1) = true) := by decide +kernel
theorem sw64_1 (x : BitVec 64) (i : Nat) (hi : i < 64) : (swp 1 0x5555555555555555#64 x).getLsbD i = x.getLsbD (i ^^^ 1) := swp_bit 1 _ x i hi (mask64_1 ⟨i, hi⟩)
theorem mask64_2 : ∀ i : Fin 64, ((0x3333333333333333#64).getLsbD i.val = true ∧ i.val ^^^ 2 = 2 + i.val ∧ (i.val < 2 ∨ (0x3333333333333333#64).getLsbD (i.val - 2) = false)) ∨ ((0x3333333333333333#64).getLsbD i.val = false ∧ i.val ^^^ 2 = i.val - 2 ∧ 2 ≤ i.val ∧ (0x3333333333333333#64).getLsbD (i.val - 2) = true) := by decide +kernel
theorem sw64_2 (x : BitVec 64) (i : Nat) (hi : i < 64) : (swp 2 0x3333333333333333#64 x).getLsbD i = x.getLsbD (i ^^^ 2) := swp_bit 2 _ x i hi (mask64_2 ⟨i, hi⟩)
theorem mask64_4 : ∀ i : Fin 64, ((0x0f0f0f0f0f0f0f0f#64).getLsbD i.val = true ∧ i.val ^^^ 4 = 4 + i.val ∧ (i.val < 4 ∨ (0x0f0f0f0f0f0f0f0f#64).getLsbD (i.val - 4) = false)) ∨ ((0x0f0f0f0f0f0f0f0f#64).getLsbD i.val = false ∧ i.val ^^^ 4 = i.val - 4 ∧ 4 ≤ i.val ∧ (0x0f0f0f0f0f0f0f0f#64).getLsbD (i.val - 4) = true) := by decide +kernel
theorem sw64_4 (x : BitVec 64) (i : Nat) (hi : i < 64) : (swp 4 0x0f0f0f0f0f0f0f0f#64 x).getLsbD i = x.getLsbD (i ^^^ 4) := swp_bit 4 _ x i hi (mask64_4 ⟨i, hi⟩)
theorem mask64_8 : ∀ i : Fin 64, ((0x00ff00ff00ff00ff#64).getLsbD i.val = true ∧ i.val ^^^ 8 = 8 + i.val ∧ (i.val < 8 ∨ (0x00ff00ff00ff00ff#64).getLsbD (i.val - 8) = false)) ∨ ((0x00ff00ff00ff00ff#64).getLsbD i.val = false ∧ i.val ^^^ 8 = i.val - 8 ∧ 8 ≤ i.val ∧ (0x00ff00ff00ff00ff#64).getLsbD (i.val - 8) = true) := by decide +kernel
theorem sw64_8 (x : BitVec 64) (i : Nat) (hi : i < 64) : (swp 8 0x00ff00ff00ff00ff#64 x).getLsbD i = x.getLsbD (i ^^^ 8) := swp_bit 8 _ x i hi (mask64_8 ⟨i, hi⟩)
theorem mask64_16 : ∀ i : Fin 64, ((0x0000ffff0000ffff#64).getLsbD i.val = true ∧ i.val ^^^ 16 = 16 + i.val ∧ (i.val < 16 ∨ (0x0000ffff0000ffff#64).getLsbD (i.val - 16) = false)) ∨ ((0x0000ffff0000ffff#64).getLsbD i.val = false ∧ i.val ^^^ 16 = i.val - 16 ∧ 16 ≤ i.val ∧ (0x0000ffff0000ffff#64).getLsbD (i.val - 16) = true) := by decide +kernel
theorem sw64_16 (x : BitVec 64) (i : Nat) (hi : i < 64) : (swp 16 0x0000ffff0000ffff#64 x).getLsbD i = x.getLsbD (i ^^^ 16) := swp_bit 16 _ x i hi (mask64_16 ⟨i, hi⟩)
theorem mask32_1 : ∀ i : Fin 32, ((0x55555555#32).getLsbD i.val = true ∧ i.val ^^^ 1 = 1 + i.val ∧ (i.val < 1 ∨ (0x55555555#32).getLsbD (i.val - 1) = false)) ∨ ((0x55555555#32).getLsbD i.val = false ∧ i.val ^^^ 1 = i.val - 1 ∧ 1 ≤ i.val ∧ (0x55555555#32).getLsbD (i.val - 1) = true) := by decide +kernel
theorem sw32_1 (x : BitVec 32) (i : Nat) (hi : i < 32) : (swp 1 0x55555555#32 x).getLsbD i = x.getLsbD (i ^^^ 1) := swp_bit 1 _ x i hi (mask32_1 ⟨i, hi⟩)
theorem mask32_2 : ∀ i : Fin 32, ((0x33333333#32).getLsbD i.val = true ∧ i.val ^^^ 2 = 2 + i.val ∧ (i.val < 2 ∨ (0x33333333#32).getLsbD (i.val - 2) = false)) ∨ ((0x33333333#32).getLsbD i.val = false ∧ i.val ^^^ 2 = i.val - 2 ∧ 2 ≤ i.val ∧ (0x33333333#32).getLsbD (i.val - 2) = true) := by decide +kernel
theorem sw32_2 (x : BitVec 32) (i : Nat) (hi : i < 32) : (swp 2 0x33333333#32 x).getLsbD i = x.getLsbD (i ^^^ 2) := swp_bit 2 _ x i hi (mask32_2 ⟨i, hi⟩)
theorem mask32_4 : ∀ i : Fin 32, ((0x0f0f0f0f#32).getLsbD i.val = true ∧ i.val ^^^ 4 = 4 + i.val ∧ (i.val < 4 ∨ (0x0f0f0f0f#32).getLsbD (i.val - 4) = false)) ∨ ((0x0f0f0f0f#32).getLsbD i.val = false ∧ i.val ^^^ 4 = i.val - 4 ∧ 4 ≤ i.val ∧ (0x0f0f0f0f#32).getLsbD (i.val - 4) = true) := by decide +kernel
theorem sw32_4 (x : BitVec 32) (i : Nat) (hi : i < 32) : (swp 4 0x0f0f0f0f#32 x).getLsbD i = x.getLsbD (i ^^^ 4) := swp_bit 4 _ x i hi (mask32_4 ⟨i, hi⟩)
theorem mask32_8 : ∀ i : Fin 32, ((0x00ff00ff#32).getLsbD i.val = true ∧ i.val ^^^ 8 = 8 + i.val ∧ (i.val < 8 ∨ (0x00ff00ff#32).getLsbD (i.val - 8) = false)) ∨ ((0x00ff00ff#32).getLsbD i.val = false ∧ i.val ^^^ 8 = i.val - 8 ∧ 8 ≤ i.val ∧ (0x00ff00ff#32).getLsbD (i.val - 8) = true) := by decide +kernel
theorem sw32_8 (x : BitVec 32) (i : Nat) (hi : i < 32) : (swp 8 0x00ff00ff#32 x).getLsbD i = x.getLsbD (i ^^^ 8) := swp_bit 8 _ x i hi (mask32_8 ⟨i, hi⟩)
theorem xl64 (i s : Nat) (hi : i < 64) (hs : s < 64) : i ^^^ s < 64 := Nat.xor_lt_two_pow (n := 6) hi hs
theorem xl32 (i s : Nat) (hi : i < 32) (hs : s < 32) : i ^^^ s < 32 := Nat.xor_lt_two_pow (n := 5) hi hs

/-- The last exchange, of both halves. -/
theorem half64 : ∀ i : Fin 64, (i.val < 32 ∧ i.val ^^^ 32 = 32 + i.val) ∨ (32 ≤ i.val ∧ i.val ^^^ 32 = i.val - 32) := by decide +kernel
theorem half32 : ∀ i : Fin 32, (i.val < 16 ∧ i.val ^^^ 16 = 16 + i.val) ∨ (16 ≤ i.val ∧ i.val ^^^ 16 = i.val - 16) := by decide +kernel

theorem halves64 (x : BitVec 64) (i : Nat) (hi : i < 64) : (x >>> 32 ||| x <<< 32).getLsbD i = x.getLsbD (i ^^^ 32) := by
  rw [BitVec.getLsbD_or, BitVec.getLsbD_ushiftRight, BitVec.getLsbD_shiftLeft]
  rcases half64 ⟨i, hi⟩ with ⟨a, b⟩ | ⟨a, b⟩
  · simp only at a b; rw [b]; simp [a]
  · simp only at a b; rw [b]
    have e : ¬ i < 32 := by omega
    have f : x.getLsbD (32 + i) = false := BitVec.getLsbD_of_ge x _ (by omega)
    simp [hi, e, f]

theorem halves32 (x : BitVec 32) (i : Nat) (hi : i < 32) : (x >>> 16 ||| x <<< 16).getLsbD i = x.getLsbD (i ^^^ 16) := by
  rw [BitVec.getLsbD_or, BitVec.getLsbD_ushiftRight, BitVec.getLsbD_shiftLeft]
  rcases half32 ⟨i, hi⟩ with ⟨a, b⟩ | ⟨a, b⟩
  · simp only at a b; rw [b]; simp [a]
  · simp only at a b; rw [b]
    have e : ¬ i < 16 := by omega
    have f : x.getLsbD (16 + i) = false := BitVec.getLsbD_of_ge x _ (by omega)
    simp [hi, e, f]

/-- The bytes in opposite order, as the library's text makes them. -/
def rb64 (x : BitVec 64) : BitVec 64 :=
  let y := swp 16 0x0000ffff0000ffff#64 (swp 8 0x00ff00ff00ff00ff#64 x)
  y >>> 32 ||| y <<< 32
def rb32 (x : BitVec 32) : BitVec 32 :=
  let y := swp 8 0x00ff00ff#32 x
  y >>> 16 ||| y <<< 16

theorem rb64_bit (x : BitVec 64) (i : Nat) (hi : i < 64) : (rb64 x).getLsbD i = x.getLsbD (i ^^^ 56) := by
  have h1 := xl64 i 32 hi (by decide)
  have h2 := xl64 _ 16 h1 (by decide)
  unfold rb64
  rw [halves64 _ _ hi, sw64_16 _ _ h1, sw64_8 _ _ h2, Nat.xor_assoc, Nat.xor_assoc, show (32 ^^^ (16 ^^^ 8) : Nat) = 56 from rfl]

theorem rb32_bit (x : BitVec 32) (i : Nat) (hi : i < 32) : (rb32 x).getLsbD i = x.getLsbD (i ^^^ 24) := by
  have h1 := xl32 i 16 hi (by decide)
  unfold rb32
  rw [halves32 _ _ hi, sw32_8 _ _ h1, Nat.xor_assoc, show (16 ^^^ 8 : Nat) = 24 from rfl]

/-- The bits in opposite order, as the library's text makes them. -/
def rv64 (x : BitVec 64) : BitVec 64 := rb64 (swp 4 0x0f0f0f0f0f0f0f0f#64 (swp 2 0x3333333333333333#64 (swp 1 0x5555555555555555#64 x)))
def rv32 (x : BitVec 32) : BitVec 32 := rb32 (swp 4 0x0f0f0f0f#32 (swp 2 0x33333333#32 (swp 1 0x55555555#32 x)))

theorem all64 : ∀ i : Fin 64, i.val ^^^ 56 ^^^ 4 ^^^ 2 ^^^ 1 = 64 - 1 - i.val := by decide +kernel
theorem all32 : ∀ i : Fin 32, i.val ^^^ 24 ^^^ 4 ^^^ 2 ^^^ 1 = 32 - 1 - i.val := by decide +kernel

theorem rv64_eq (x : BitVec 64) : rv64 x = x.reverse := by
  refine bv_ext fun i hi => ?_
  have h1 := xl64 i 56 hi (by decide)
  have h2 := xl64 _ 4 h1 (by decide)
  have h3 := xl64 _ 2 h2 (by decide)
  rw [rev_bit _ _ hi]
  unfold rv64
  rw [rb64_bit _ _ hi, sw64_4 _ _ h1, sw64_2 _ _ h2, sw64_1 _ _ h3]
  congr 1
  exact all64 ⟨i, hi⟩

theorem rv32_eq (x : BitVec 32) : rv32 x = x.reverse := by
  refine bv_ext fun i hi => ?_
  have h1 := xl32 i 24 hi (by decide)
  have h2 := xl32 _ 4 h1 (by decide)
  have h3 := xl32 _ 2 h2 (by decide)
  rw [rev_bit _ _ hi]
  unfold rv32
  rw [rb32_bit _ _ hi, sw32_4 _ _ h1, sw32_2 _ _ h2, sw32_1 _ _ h3]
  congr 1
  exact all32 ⟨i, hi⟩

/-! ### Counting up -/

theorem succ_bits : ∀ (c m : Nat), (∀ i, i < c → m.testBit i = true) → m.testBit c = false → ∀ i, (m + 1).testBit i = if i < c then false else if i = c then true else m.testBit i
  | 0, m, _, h, i => by
    rw [Nat.testBit_zero] at h
    have h2 : m % 2 = 0 := by simp at h; omega
    cases i with
    | zero => simp [Nat.testBit_zero]; omega
    | succ i =>
      rw [Nat.testBit_succ, Nat.testBit_succ, show (m + 1) / 2 = m / 2 by omega]
      simp
  | c + 1, m, ha, h, i => by
    have h0 := ha 0 (by omega)
    rw [Nat.testBit_zero] at h0
    have h2 : m % 2 = 1 := by simpa using h0
    cases i with
    | zero => simp [Nat.testBit_zero]; omega
    | succ i =>
      have ih := succ_bits c (m / 2) (fun j hj => by rw [← Nat.testBit_succ]; exact ha (j + 1) (by omega)) (by rw [← Nat.testBit_succ]; exact h) i
      rw [Nat.testBit_succ, show (m + 1) / 2 = m / 2 + 1 by omega, ih, Nat.testBit_succ]
      simp

/-- 'c' ones ahead and then a zero: the next number in opposite order. -/
theorem rev_succ {w : Nat} (x : BitVec w) (c : Nat) (hc : c < w) (h1 : ∀ i, i < c → x.getLsbD (w - 1 - i) = true) (h2 : x.getLsbD (w - 1 - c) = false) :
    (x.reverse + 1#w).reverse = x <<< c >>> c ||| 1#w <<< (w - 1 - c) := by
  have hbit : ∀ i, i < w → (x.reverse + 1#w).getLsbD i = if i < c then false else if i = c then true else x.reverse.getLsbD i := by
    intro i hi
    have key := succ_bits c x.reverse.toNat (fun j hj => by
      have := rev_bit x j (by omega)
      rw [h1 j hj] at this; exact this) (by
      have := rev_bit x c hc
      rw [h2] at this; exact this) i
    have hlt : x.reverse.toNat + 1 < 2 ^ w := by
      have h3 := x.reverse.isLt
      rcases Nat.lt_or_ge (x.reverse.toNat + 1) (2 ^ w) with h4 | h4
      · exact h4
      · exfalso
        have h5 : x.reverse.toNat = 2 ^ w - 1 := by omega
        have h6 : x.reverse.getLsbD c = true := by
          show x.reverse.toNat.testBit c = true
          rw [h5, Nat.testBit_two_pow_sub_one]; simp [hc]
        rw [rev_bit x c hc, h2] at h6
        cases h6
    have hw1 : (1#w).toNat = 1 := by
      rw [BitVec.toNat_ofNat]; exact Nat.mod_eq_of_lt (Nat.one_lt_two_pow (by omega))
    show (x.reverse + 1#w).toNat.testBit i = _
    rw [BitVec.toNat_add, hw1, Nat.mod_eq_of_lt hlt, key]
    rfl
  refine bv_ext fun i hi => ?_
  rw [rev_bit _ _ hi, hbit _ (by omega), BitVec.getLsbD_or, BitVec.getLsbD_ushiftRight, BitVec.getLsbD_shiftLeft, BitVec.getLsbD_shiftLeft, BitVec.getLsbD_one]
  by_cases a : w - 1 - i < c
  · have b1 : ¬ c + i < w := by omega
    have b2 : ¬ i - (w - 1 - c) = 0 := by omega
    simp [a, b1, b2]
  · by_cases b : w - 1 - i = c
    · have b1 : i - (w - 1 - c) = 0 := by omega
      have b2 : ¬ i < w - 1 - c := by omega
      have b3 : 0 < w := by omega
      simp [b, hi, b1, b2, b3]
    · have b1 : c + i < w := by omega
      have b2 : i < w - 1 - c := by omega
      rw [if_neg a, if_neg b, rev_bit x _ (by omega)]
      rw [show w - 1 - (w - 1 - i) = i by omega]
      simp [b1, b2]

theorem rev_last {w : Nat} (x : BitVec w) (h1 : ∀ i, i < w → x.getLsbD i = true) : (x.reverse + 1#w).reverse = 0#w := by
  have e : x.reverse = BitVec.allOnes w := by
    refine bv_ext fun i hi => ?_
    rw [rev_bit _ _ hi, h1 _ (by omega)]; simp [hi]
  rw [e]
  have e2 : BitVec.allOnes w + 1#w = 0#w := by
    apply BitVec.eq_of_toNat_eq
    rw [BitVec.toNat_add, BitVec.toNat_allOnes, BitVec.toNat_ofNat]
    cases w with
    | zero => simp
    | succ w =>
      have h : 1 % 2 ^ (w + 1) = 1 := Nat.mod_eq_of_lt (Nat.one_lt_two_pow (by omega))
      have hp : 0 < 2 ^ (w + 1) := Nat.two_pow_pos _
      rw [h, show 2 ^ (w + 1) - 1 + 1 = 2 ^ (w + 1) by omega]
      simp
  rw [e2]
  refine bv_ext fun i hi => ?_
  rw [rev_bit _ _ hi]; simp

end Go.Proofs.Ytiheaeccnofelaa.Pl
