/-
  Plain facts on how many ones a number has: that a rotation keeps it; that the library's sum over bytes, and its summing side by side at 64 bits, count the ones.
  Conditions: as stated in each theorem.
-/
import Derived.Lib.BitFns
import Derived.Test.YthkegogjboiilaaWords
namespace Go.Proofs.Ythkegogjboiilaa.Pl
open Go.Lib (popAux)

/-- How many of the first n places answer yes. -/
def cnt (f : Nat → Bool) : Nat → Nat
  | 0 => 0
  | n + 1 => cnt f n + (f n).toNat

theorem cnt_congr {f g : Nat → Bool} : ∀ n, (∀ i, i < n → f i = g i) → cnt f n = cnt g n
  | 0, _ => rfl
  | n + 1, h => by
    simp only [cnt]
    rw [cnt_congr n (fun i hi => h i (by omega)), h n (by omega)]

theorem cnt_add (f : Nat → Bool) (a : Nat) : ∀ b, cnt f (a + b) = cnt f a + cnt (fun i => f (a + i)) b
  | 0 => rfl
  | b + 1 => by
    rw [← Nat.add_assoc]
    simp only [cnt]
    rw [cnt_add f a b]
    omega

/-- How many ones a bit vector has. -/
def pc {w : Nat} (x : BitVec w) : Nat := cnt x.getLsbD w

theorem pc_rotZ {w : Nat} (x : BitVec w) (k : Int) : pc (rotZ x k) = pc x := by
  unfold pc rotZ
  cases Nat.eq_zero_or_pos w with
  | inl h => subst h; rfl
  | inr hw =>
    have h0 := Int.emod_nonneg k (show (w : Int) ≠ 0 by omega)
    have h1 := Int.emod_lt_of_pos k (show (0 : Int) < w by omega)
    generalize hr : (k % (w : Int)).toNat = r
    have hrw : r < w := by omega
    have e : w = r + (w - r) := by omega
    have c1 : cnt (x.rotateLeft r).getLsbD w = cnt (x.rotateLeft r).getLsbD r + cnt (fun i => (x.rotateLeft r).getLsbD (r + i)) (w - r) := by
      have := cnt_add (x.rotateLeft r).getLsbD r (w - r)
      rw [← e] at this; exact this
    have c2 : cnt x.getLsbD w = cnt x.getLsbD (w - r) + cnt (fun i => x.getLsbD (w - r + i)) r := by
      have := cnt_add x.getLsbD (w - r) r
      rw [show w - r + r = w by omega] at this; exact this
    rw [c1, c2]
    have d1 : cnt (x.rotateLeft r).getLsbD r = cnt (fun i => x.getLsbD (w - r + i)) r := by
      refine cnt_congr r fun i hi => ?_
      rw [BitVec.getLsbD_rotateLeft, Nat.mod_eq_of_lt hrw]
      simp [hi]
    have d2 : cnt (fun i => (x.rotateLeft r).getLsbD (r + i)) (w - r) = cnt x.getLsbD (w - r) := by
      refine cnt_congr _ fun i hi => ?_
      show (x.rotateLeft r).getLsbD (r + i) = x.getLsbD i
      rw [BitVec.getLsbD_rotateLeft, Nat.mod_eq_of_lt hrw]
      have a1 : ¬ r + i < r := by omega
      have a2 : r + i < w := by omega
      simp only [a1, a2, decide_false, decide_true, cond_false, Bool.true_and]
      congr 1; omega
    rw [d1, d2]; omega

theorem cnt_popAux : ∀ (n m : Nat), cnt (fun i => m.testBit i) n = popAux n m
  | 0, _ => rfl
  | n + 1, m => by
    rw [Nat.add_comm n 1, cnt_add]
    have e1 : cnt (fun i => m.testBit i) 1 = m % 2 := by
      simp only [cnt, Nat.testBit_zero]
      have : m % 2 = 0 ∨ m % 2 = 1 := by omega
      cases this with
      | inl h => rw [h]; rfl
      | inr h => rw [h]; rfl
    have e2 : cnt (fun i => m.testBit (1 + i)) n = popAux n (m / 2) := by
      rw [← cnt_popAux n (m / 2)]
      refine cnt_congr n fun i _ => ?_
      rw [Nat.add_comm 1 i, Nat.testBit_succ]
    rw [e1, e2, Nat.add_comm 1 n]
    rfl

theorem pc_popAux {w : Nat} (x : BitVec w) : pc x = popAux w x.toNat := by
  unfold pc
  exact cnt_popAux w x.toNat

theorem popAux_add : ∀ (a b m : Nat), popAux (a + b) m = popAux a m + popAux b (m / 2 ^ a)
  | 0, b, m => by simp [popAux]
  | a + 1, b, m => by
    rw [show a + 1 + b = (a + b) + 1 by omega]
    simp only [popAux]
    rw [popAux_add a b (m / 2), Nat.div_div_eq_div_mul, Nat.pow_succ, Nat.mul_comm 2 (2 ^ a)]
    omega

theorem popAux_mod : ∀ (a m : Nat), popAux a (m % 2 ^ a) = popAux a m
  | 0, _ => rfl
  | a + 1, m => by
    simp only [popAux]
    have e1 : m % 2 ^ (a + 1) % 2 = m % 2 := by
      rw [Nat.pow_succ, Nat.mul_comm]; exact Nat.mod_mul_right_mod m 2 (2 ^ a)
    have e2 : m % 2 ^ (a + 1) / 2 = m / 2 % 2 ^ a := by
      rw [Nat.pow_succ, Nat.mul_comm]; exact Nat.mod_mul_right_div_self m 2 (2 ^ a)
    rw [e1, e2, popAux_mod a (m / 2)]

theorem popAux_le : ∀ (a m : Nat), popAux a m ≤ a
  | 0, _ => Nat.le_refl _
  | a + 1, m => by
    simp only [popAux]
    have := popAux_le a (m / 2)
    omega

theorem popAux_byte (m : Nat) (h : m < 256) : Lib.onesCount m = popAux 8 m := by
  unfold Lib.onesCount
  rw [show (64 : Nat) = 8 + 56 from rfl, popAux_add, Nat.div_eq_of_lt h]
  have : popAux 56 0 = 0 := by decide
  omega

/-- The table's byte. -/
theorem pop8_at (b : Int) (h0 : 0 ≤ b) (h1 : b ≤ 255) : Lib.pop8 b = (popAux 8 b.toNat : Int) := by
  have e := Lib.pop8_eq ⟨b.toNat, by omega⟩
  simp only [Int.toNat_of_nonneg h0] at e
  rw [e, popAux_byte b.toNat (by omega)]

/-! ### Summing side by side, at 64 bits -/

theorem and_split (k x m : Nat) : x &&& m = (x % 2 ^ k &&& m % 2 ^ k) + 2 ^ k * (x / 2 ^ k &&& m / 2 ^ k) := by
  rw [← Nat.and_mod_two_pow, ← Nat.and_div_two_pow, Nat.mod_add_div]

def m5 : Nat → Nat
  | 0 => 0
  | n + 1 => 5 + 16 * m5 n
def m3 : Nat → Nat
  | 0 => 0
  | n + 1 => 3 + 16 * m3 n
def m15 : Nat → Nat
  | 0 => 0
  | n + 1 => 15 + 256 * m15 n

/-- Each digit of base 16 replaced by how many ones it has. -/
def nib : Nat → Nat → Nat
  | 0, _ => 0
  | n + 1, x => popAux 4 x + 16 * nib n (x / 16)
/-- Each digit of base 256 replaced by how many ones it has. -/
def byt : Nat → Nat → Nat
  | 0, _ => 0
  | n + 1, x => popAux 8 x + 256 * byt n (x / 256)

def pair (d : Nat) : Nat := (d / 2 &&& 5) + (d &&& 5)

def two : Nat → Nat → Nat
  | 0, _ => 0
  | n + 1, x => pair (x % 16) + 16 * two n (x / 16)

theorem half_and5 : ∀ d : Fin 32, (d.val / 2) % 16 &&& 5 = (d.val % 16) / 2 &&& 5 := by decide

theorem step_two : ∀ (n x : Nat), (x / 2 &&& m5 n) + (x &&& m5 n) = two n x
  | 0, x => by simp [m5, two]
  | n + 1, x => by
    have ih := step_two n (x / 16)
    rw [and_split 4 (x / 2) (m5 (n + 1)), and_split 4 x (m5 (n + 1))]
    have a1 : m5 (n + 1) % 2 ^ 4 = 5 := by simp only [m5]; omega
    have a2 : m5 (n + 1) / 2 ^ 4 = m5 n := by simp only [m5]; omega
    rw [a1, a2]
    have b1 : x / 2 % 2 ^ 4 &&& 5 = (x % 16) / 2 &&& 5 := by
      have := half_and5 ⟨x % 32, by omega⟩
      simp only at this
      rw [show x % 32 / 2 % 16 = x / 2 % 2 ^ 4 by omega, show x % 32 % 16 = x % 16 by omega] at this
      exact this
    have b2 : x / 2 / 2 ^ 4 = x / 16 / 2 := by omega
    rw [b1, b2]
    simp only [two, pair]
    rw [← ih, show (2 : Nat) ^ 4 = 16 from rfl]
    omega

theorem pair_lt : ∀ d : Fin 16, pair d.val < 16 := by decide
theorem quad : ∀ d : Fin 16, pair d.val / 4 + (pair d.val &&& 3) = popAux 4 d.val := by decide
theorem and3 : ∀ d : Fin 16, (d.val &&& 3) = d.val % 4 := by decide

theorem step_nib : ∀ (n x : Nat), (two n x / 4 &&& m3 n) + (two n x &&& m3 n) = nib n x
  | 0, x => by simp [m3, two, nib]
  | n + 1, x => by
    have ih := step_nib n (x / 16)
    have hp := pair_lt ⟨x % 16, by omega⟩
    have hq := quad ⟨x % 16, by omega⟩
    simp only at hp hq
    rw [and_split 4 (two (n + 1) x / 4) (m3 (n + 1)), and_split 4 (two (n + 1) x) (m3 (n + 1))]
    have a1 : m3 (n + 1) % 2 ^ 4 = 3 := by simp only [m3]; omega
    have a2 : m3 (n + 1) / 2 ^ 4 = m3 n := by simp only [m3]; omega
    have t0 : two (n + 1) x = pair (x % 16) + 16 * two n (x / 16) := rfl
    have b1 : two (n + 1) x / 4 % 2 ^ 4 &&& 3 = pair (x % 16) / 4 := by
      rw [and3 ⟨two (n + 1) x / 4 % 2 ^ 4, by omega⟩]
      simp only [t0]; omega
    have b2 : two (n + 1) x % 2 ^ 4 = pair (x % 16) := by rw [t0]; omega
    have b3 : two (n + 1) x / 4 / 2 ^ 4 = two n (x / 16) / 4 := by rw [t0]; omega
    have b4 : two (n + 1) x / 2 ^ 4 = two n (x / 16) := by rw [t0]; omega
    rw [a1, a2, b1, b2, b3, b4]
    have c := popAux_mod 4 x
    have d : nib (n + 1) x = popAux 4 x + 16 * nib n (x / 16) := rfl
    rw [d, ← ih, ← c, show (2 : Nat) ^ 4 = 16 from rfl, ← hq]
    omega

theorem nib_low (n x : Nat) : nib n x % 16 ≤ 4 := by
  cases n with
  | zero => simp [nib]
  | succ n =>
    have := popAux_le 4 x
    simp only [nib]; omega

theorem and15 (d : Nat) : d &&& 15 = d % 16 := by
  have := Nat.and_two_pow_sub_one_eq_mod d 4
  simpa using this

theorem step_byt : ∀ (n x : Nat), (nib (2 * n) x / 16 + nib (2 * n) x) &&& m15 n = byt n x
  | 0, x => by simp [m15, byt]
  | n + 1, x => by
    have ih := step_byt n (x / 256)
    have e0 : nib (2 * (n + 1)) x = popAux 4 x + 16 * (popAux 4 (x / 16) + 16 * nib (2 * n) (x / 16 / 16)) := by
      rw [show 2 * (n + 1) = (2 * n + 1) + 1 by omega]; rfl
    have l0 := popAux_le 4 x
    have l1 := popAux_le 4 (x / 16)
    have l2 := nib_low (2 * n) (x / 256)
    rw [Nat.div_div_eq_div_mul, show (16 : Nat) * 16 = 256 from rfl] at e0
    rw [and_split 8 _ (m15 (n + 1))]
    have a1 : m15 (n + 1) % 2 ^ 8 = 15 := by simp only [m15]; omega
    have a2 : m15 (n + 1) / 2 ^ 8 = m15 n := by simp only [m15]; omega
    rw [a1, a2, and15]
    have b1 : (nib (2 * (n + 1)) x / 16 + nib (2 * (n + 1)) x) % 2 ^ 8 % 16 = popAux 4 x + popAux 4 (x / 16) := by
      rw [e0]; omega
    have b2 : (nib (2 * (n + 1)) x / 16 + nib (2 * (n + 1)) x) / 2 ^ 8 = nib (2 * n) (x / 256) / 16 + nib (2 * n) (x / 256) := by
      rw [e0]; omega
    rw [b1, b2, ih]
    have c := popAux_add 4 4 x
    have d : byt (n + 1) x = popAux 8 x + 256 * byt n (x / 256) := rfl
    rw [d]
    rw [show (4 : Nat) + 4 = 8 from rfl, show (2 : Nat) ^ 4 = 16 from rfl] at c
    omega

theorem two_lt : ∀ n x, two n x < 16 ^ n
  | 0, _ => by simp [two]
  | n + 1, x => by
    have := two_lt n (x / 16)
    have hp := pair_lt ⟨x % 16, by omega⟩
    simp only at hp
    simp only [two]; rw [Nat.pow_succ]; omega

theorem byt8 (x : Nat) : byt 8 x = popAux 8 x + 256 * (popAux 8 (x / 2 ^ 8) + 256 * (popAux 8 (x / 2 ^ 16) + 256 * (popAux 8 (x / 2 ^ 24) + 256 * (popAux 8 (x / 2 ^ 32) + 256 * (popAux 8 (x / 2 ^ 40) + 256 * (popAux 8 (x / 2 ^ 48) + 256 * popAux 8 (x / 2 ^ 56))))))) := by
  simp only [byt, Nat.div_div_eq_div_mul, Nat.mul_zero, Nat.add_zero]

theorem pop64 (x : Nat) : popAux 64 x = popAux 8 x + popAux 8 (x / 2 ^ 8) + popAux 8 (x / 2 ^ 16) + popAux 8 (x / 2 ^ 24) + popAux 8 (x / 2 ^ 32) + popAux 8 (x / 2 ^ 40) + popAux 8 (x / 2 ^ 48) + popAux 8 (x / 2 ^ 56) := by
  rw [show (64 : Nat) = 8 + (8 + (8 + (8 + (8 + (8 + (8 + 8)))))) from rfl]
  rw [popAux_add, popAux_add, popAux_add, popAux_add, popAux_add, popAux_add, popAux_add]
  simp only [Nat.div_div_eq_div_mul]
  simp only [Nat.reducePow, Nat.reduceMul]
  omega

/-- The last three sums, and the lowest seven bits: over eight digits of base 256 that are 8 at most. -/
theorem fold_digits (p0 p1 p2 p3 p4 p5 p6 p7 Y1 Y2 Y3 Y4 Y5 Y6 y : Nat) (l0 : p0 ≤ 8) (l1 : p1 ≤ 8) (l2 : p2 ≤ 8) (l3 : p3 ≤ 8) (l4 : p4 ≤ 8) (l5 : p5 ≤ 8) (l6 : p6 ≤ 8) (l7 : p7 ≤ 8)
    (e6 : Y6 = p6 + 256 * p7) (e5 : Y5 = p5 + 256 * Y6) (e4 : Y4 = p4 + 256 * Y5) (e3 : Y3 = p3 + 256 * Y4) (e2 : Y2 = p2 + 256 * Y3) (e1 : Y1 = p1 + 256 * Y2) (e0 : y = p0 + 256 * Y1) :
    ∀ a b c : Nat, a = (y + y / 256) % 18446744073709551616 → b = (a + a / 65536) % 18446744073709551616 → c = (b + b / 4294967296) % 18446744073709551616 → c % 128 = p0 + p1 + p2 + p3 + p4 + p5 + p6 + p7 := by
  intro a b c ha hb hc
  have b6 : Y6 ≤ 2056 := by omega
  have b5 : Y5 ≤ 526344 := by omega
  have b4 : Y4 ≤ 134744072 := by omega
  have b3 : Y3 ≤ 34494482440 := by omega
  have b2 : Y2 ≤ 8830587504648 := by omega
  have b1 : Y1 ≤ 2260630401189896 := by omega
  have b0 : y ≤ 578721382704613384 := by omega
  have q1 : y / 256 = Y1 := by clear e1 e2 e3 e4 e5 e6 ha hb hc; omega
  rw [q1, Nat.mod_eq_of_lt (by clear e1 e2 e3 e4 e5 e6 e0 ha hb hc; omega)] at ha
  have ha' : a = (p0 + p1) + 256 * ((p1 + p2) + 256 * (Y2 + Y3)) := by clear e4 e5 e6 hb hc; omega
  have q2 : a / 65536 = Y2 + Y3 := by clear e0 e1 e2 e3 e4 e5 e6 ha hb hc; omega
  have ba : a ≤ 600000000000000000 := by clear e0 e1 e2 e3 e4 e5 e6 ha' hb hc q2; omega
  rw [q2, Nat.mod_eq_of_lt (by clear e0 e1 e2 e3 e4 e5 e6 ha ha' hb hc; omega)] at hb
  have hb' : b = y + Y1 + Y2 + Y3 := by clear e0 e1 e2 e3 e4 e5 e6 ha' hc q1 q2; omega
  have f3 : Y3 + Y4 + Y5 + Y6 = (p3 + p4 + p5 + p6) + 256 * (Y4 + Y5 + Y6 + p7) := by clear e0 e1 e2 ha ha' hb hb' hc q1 q2; omega
  have f2 : Y2 + Y3 + Y4 + Y5 = (p2 + p3 + p4 + p5) + 256 * (Y3 + Y4 + Y5 + Y6) := by clear e0 e1 e6 ha ha' hb hb' hc q1 q2 f3; omega
  have f1 : Y1 + Y2 + Y3 + Y4 = (p1 + p2 + p3 + p4) + 256 * (Y2 + Y3 + Y4 + Y5) := by clear e0 e5 e6 ha ha' hb hb' hc q1 q2 f2 f3; omega
  have f0 : b = (p0 + p1 + p2 + p3) + 256 * (Y1 + Y2 + Y3 + Y4) := by clear e4 e5 e6 ha ha' hb hc q1 q2 f1 f2 f3; omega
  have g4 : Y4 + Y5 + Y6 + p7 = (p4 + p5 + p6 + p7) + 256 * (Y5 + Y6 + p7) := by clear e0 e1 e2 e3 ha ha' hb hb' hc q1 q2 f0 f1 f2 f3; omega
  have q3 : b / 4294967296 = Y4 + Y5 + Y6 + p7 := by
    clear e0 e1 e2 e3 e4 e5 e6 ha ha' hb hb' hc q1 q2 g4
    generalize Y4 + Y5 + Y6 + p7 = B4 at *
    generalize Y3 + Y4 + Y5 + Y6 = B3 at *
    generalize Y2 + Y3 + Y4 + Y5 = B2 at *
    generalize Y1 + Y2 + Y3 + Y4 = B1 at *
    clear b0 b1 b2 b3 b4 b5 b6 ba
    omega
  have bb : b ≤ 700000000000000000 := by clear e0 e1 e2 e3 e4 e5 e6 ha ha' hb hc q1 q2 q3 f0 f1 f2 f3 g4; omega
  rw [q3, Nat.mod_eq_of_lt (by clear e0 e1 e2 e3 e4 e5 e6 ha ha' hb hb' hc q1 q2 q3 f0 f1 f2 f3 g4; omega)] at hc
  clear e0 e1 e2 e3 e4 e5 e6 ha ha' hb hb' q1 q2 q3 f1 f2 f3 b0 b1 b2 b3 b4 b5 b6 ba bb
  generalize Y1 + Y2 + Y3 + Y4 = B1 at *
  generalize Y5 + Y6 + p7 = B5 at *
  omega

theorem fold_sum (x : Nat) (a b c : Nat) (ha : a = (byt 8 x + byt 8 x / 256) % 18446744073709551616) (hb : b = (a + a / 65536) % 18446744073709551616) (hc : c = (b + b / 4294967296) % 18446744073709551616) : c % 128 = popAux 64 x := by
  rw [pop64]
  exact fold_digits _ _ _ _ _ _ _ _ _ _ _ _ _ _ _ (popAux_le 8 _) (popAux_le 8 _) (popAux_le 8 _) (popAux_le 8 _) (popAux_le 8 _) (popAux_le 8 _) (popAux_le 8 _) (popAux_le 8 _) rfl rfl rfl rfl rfl rfl (byt8 x) a b c ha hb hc

/-! ### The library's text at 64 bits, step by step, as the model computes it -/

def c1 (x : Int) : Int := IntKind.u64.wrap (bits .and .u64 (x / 2) 6148914691236517205 + bits .and .u64 x 6148914691236517205)
def c2 (x : Int) : Int := IntKind.u64.wrap (bits .and .u64 (x / 4) 3689348814741910323 + bits .and .u64 x 3689348814741910323)
def c3 (x : Int) : Int := bits .and .u64 (IntKind.u64.wrap (x / 16 + x)) 1085102592571150095
def c4 (x : Int) : Int := IntKind.u64.wrap (x + x / 256)
def c5 (x : Int) : Int := IntKind.u64.wrap (x + x / 65536)
def c6 (x : Int) : Int := IntKind.u64.wrap (x + x / 4294967296)

theorem m5_16 : m5 16 = 6148914691236517205 := by decide
theorem m3_16 : m3 16 = 3689348814741910323 := by decide
theorem m15_8 : m15 8 = 1085102592571150095 := by decide

theorem nib_lt : ∀ n x, nib n x < 16 ^ n
  | 0, _ => by simp [nib]
  | n + 1, x => by
    have := nib_lt n (x / 16)
    have hp := popAux_le 4 x
    simp only [nib]; rw [Nat.pow_succ]; omega

theorem nib_small : ∀ n x, 15 * nib n x ≤ 4 * (16 ^ n - 1)
  | 0, _ => by simp [nib]
  | n + 1, x => by
    have := nib_small n (x / 16)
    have hp := popAux_le 4 x
    have h1 : 0 < 16 ^ n := Nat.pow_pos (by decide)
    simp only [nib]; rw [Nat.pow_succ]; omega

theorem byt_small : ∀ n x, 255 * byt n x ≤ 8 * (256 ^ n - 1)
  | 0, _ => by simp [byt]
  | n + 1, x => by
    have := byt_small n (x / 256)
    have hp := popAux_le 8 x
    have h1 : 0 < 256 ^ n := Nat.pow_pos (by decide)
    simp only [byt]; rw [Nat.pow_succ]; omega

theorem wrap_nat (n : Nat) : IntKind.u64.wrap (n : Int) = ((n % 18446744073709551616 : Nat) : Int) := by
  rw [IntKind.wrap_u64]; omega

theorem and_lit (a m : Nat) (M : Int) (hM : M = (m : Int)) (ha : a < 18446744073709551616) (hm : m < 18446744073709551616) : bits .and .u64 (a : Int) M = ((a &&& m : Nat) : Int) := by
  subst hM; exact u64_and_nat a m ha hm

theorem c1_eq (X : Nat) (h : X < 18446744073709551616) : c1 (X : Int) = ((two 16 X : Nat) : Int) := by
  have e : ((X : Int) / 2) = ((X / 2 : Nat) : Int) := by omega
  have s := step_two 16 X
  have l := two_lt 16 X
  rw [m5_16] at s
  unfold c1
  rw [e, and_lit (X / 2) 6148914691236517205 6148914691236517205 rfl (by omega) (by decide), and_lit X 6148914691236517205 6148914691236517205 rfl h (by decide)]
  rw [show (((X / 2 &&& 6148914691236517205 : Nat) : Int) + ((X &&& 6148914691236517205 : Nat) : Int)) = (((X / 2 &&& 6148914691236517205) + (X &&& 6148914691236517205) : Nat) : Int) from (Int.natCast_add _ _).symm]
  rw [s, wrap_nat, Nat.mod_eq_of_lt (by simpa using l)]

theorem c2_eq (X : Nat) : c2 ((two 16 X : Nat) : Int) = ((nib 16 X : Nat) : Int) := by
  have l := two_lt 16 X
  have s := step_nib 16 X
  have ln := nib_lt 16 X
  generalize two 16 X = Y at *
  have h : Y < 18446744073709551616 := by simpa using l
  have e : ((Y : Int) / 4) = ((Y / 4 : Nat) : Int) := by omega
  rw [m3_16] at s
  unfold c2
  rw [e, and_lit (Y / 4) 3689348814741910323 3689348814741910323 rfl (by omega) (by decide), and_lit Y 3689348814741910323 3689348814741910323 rfl h (by decide)]
  rw [show (((Y / 4 &&& 3689348814741910323 : Nat) : Int) + ((Y &&& 3689348814741910323 : Nat) : Int)) = (((Y / 4 &&& 3689348814741910323) + (Y &&& 3689348814741910323) : Nat) : Int) from (Int.natCast_add _ _).symm]
  rw [s, wrap_nat, Nat.mod_eq_of_lt (by simpa using ln)]

theorem c3_eq (X : Nat) : c3 ((nib 16 X : Nat) : Int) = ((byt 8 X : Nat) : Int) := by
  have l := nib_small 16 X
  have s := step_byt 8 X
  simp only [Nat.reducePow, Nat.reduceSub, Nat.reduceMul] at l s
  generalize nib 16 X = Y at *
  rw [m15_8] at s
  unfold c3
  have e : ((Y : Int) / 16 + (Y : Int)) = ((Y / 16 + Y : Nat) : Int) := by omega
  rw [e, wrap_nat, Nat.mod_eq_of_lt (by omega), and_lit _ 1085102592571150095 1085102592571150095 rfl (by omega) (by decide), s]

theorem ones64_nat (X : Nat) : ∃ c : Nat, c6 (c5 (c4 ((byt 8 X : Nat) : Int))) = (c : Int) ∧ c < 18446744073709551616 ∧ c % 128 = popAux 64 X := by
  have f := fold_sum X _ _ _ rfl rfl rfl
  refine ⟨_, ?_, ?_, f⟩
  · unfold c4 c5 c6
    have e1 : ∀ n : Nat, ((n : Int) + (n : Int) / 256) = ((n + n / 256 : Nat) : Int) := fun n => by omega
    have e2 : ∀ n : Nat, ((n : Int) + (n : Int) / 65536) = ((n + n / 65536 : Nat) : Int) := fun n => by omega
    have e3 : ∀ n : Nat, ((n : Int) + (n : Int) / 4294967296) = ((n + n / 4294967296 : Nat) : Int) := fun n => by omega
    rw [e1, wrap_nat, e2, wrap_nat, e3, wrap_nat]
  · exact Nat.mod_lt _ (by decide)

theorem i64_low7 (c : Nat) (h : c < 18446744073709551616) : bits .and .i64 (RowKit.wrap64 (c : Int)) 127 = ((c % 128 : Nat) : Int) := by
  have hb : (BitVec.ofInt 64 (RowKit.wrap64 (c : Int))).toNat = c := by
    rw [BitVec.toNat_ofInt]
    unfold RowKit.wrap64
    simp only [Nat.reducePow]
    omega
  have e : (BitVec.ofInt 64 (RowKit.wrap64 (c : Int)) &&& BitVec.ofInt 64 127).toNat = c % 128 := by
    rw [BitVec.toNat_and, hb, show (BitVec.ofInt 64 127).toNat = 2 ^ 7 - 1 from rfl, Nat.and_two_pow_sub_one_eq_mod]
  show IntKind.i64.wrap (((BitVec.ofInt 64 (RowKit.wrap64 (c : Int)) &&& BitVec.ofInt 64 127).toNat : Nat) : Int) = _
  rw [e]
  have h2 : c % 128 < 128 := Nat.mod_lt _ (by decide)
  generalize c % 128 = d at *
  simp [IntKind.wrap, IntKind.bits, IntKind.signed]
  omega

theorem ones64 (x : Int) (h0 : 0 ≤ x) (h1 : x ≤ 18446744073709551615) : bits .and .i64 (RowKit.wrap64 (c6 (c5 (c4 (c3 (c2 (c1 x))))))) 127 = (popAux 64 x.toNat : Int) := by
  obtain ⟨X, rfl⟩ := Int.eq_ofNat_of_zero_le h0
  rw [c1_eq X (by omega), c2_eq, c3_eq]
  obtain ⟨c, hc, hl, hp⟩ := ones64_nat X
  rw [hc, i64_low7 c hl, hp, Int.toNat_natCast]

end Go.Proofs.Ythkegogjboiilaa.Pl
