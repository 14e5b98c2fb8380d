/-
  Plain facts on bit vectors, with no program in sight: rotation by any whole number, its composition, and that laying a number over itself rotated twice, as often as it has bits, gives it back.
  Conditions: none beyond what each theorem states.
-/
import Derived.Laws.BitsAllLaws
import Derived.Lib.BitFns
namespace Go.Proofs.Ytnebokpifgipfaa.Pl

/-- Rotation to the left by any whole number. -/
def rotZ {w : Nat} (x : BitVec w) (k : Int) : BitVec w := x.rotateLeft (k % (w : Int)).toNat

theorem getLsbD_rotZ {w : Nat} (x : BitVec w) (k : Int) (i : Nat) (hi : i < w) :
    (rotZ x k).getLsbD i = x.getLsbD (((i : Int) - k) % (w : Int)).toNat := by
  have hw : (0 : Int) < w := by omega
  have h0 := Int.emod_nonneg k (Int.ne_of_gt hw)
  have h1 := Int.emod_lt_of_pos k hw
  have hq := Int.emod_add_mul_ediv k (w : Int)
  unfold rotZ
  generalize hr : k % (w : Int) = r at h0 h1 hq
  generalize k / (w : Int) = q at hq
  have hrn : r.toNat < w := by omega
  rw [BitVec.getLsbD_rotateLeft, Nat.mod_eq_of_lt hrn]
  by_cases hlt : i < r.toNat
  · have e : ((i : Int) - k) % (w : Int) = i - r + w := by
      have e1 : (i : Int) - k = (i - r + w) + (w : Int) * (-q - 1) := by
        rw [Int.mul_sub, Int.mul_neg, Int.mul_one]; omega
      rw [e1, Int.add_mul_emod_self_left, Int.emod_eq_of_lt (by omega) (by omega)]
    rw [e]
    simp only [hlt, decide_true, cond_true]
    congr 1; omega
  · have e : ((i : Int) - k) % (w : Int) = i - r := by
      have e1 : (i : Int) - k = (i - r) + (w : Int) * (-q) := by
        rw [Int.mul_neg]; omega
      rw [e1, Int.add_mul_emod_self_left, Int.emod_eq_of_lt (by omega) (by omega)]
    rw [e]
    simp only [hlt, decide_false, cond_false, hi, decide_true, Bool.true_and]
    congr 1; omega

theorem bv_ext {w : Nat} {x y : BitVec w} (h : ∀ i, i < w → x.getLsbD i = y.getLsbD i) : x = y :=
  BitVec.eq_of_getLsbD_eq h

theorem rotZ_xor {w : Nat} (x y : BitVec w) (k : Int) : rotZ (x ^^^ y) k = rotZ x k ^^^ rotZ y k := by
  refine bv_ext fun i hi => ?_
  rw [getLsbD_rotZ _ _ _ hi, BitVec.getLsbD_xor, BitVec.getLsbD_xor, getLsbD_rotZ _ _ _ hi, getLsbD_rotZ _ _ _ hi]

theorem rotZ_and {w : Nat} (x y : BitVec w) (k : Int) : rotZ (x &&& y) k = rotZ x k &&& rotZ y k := by
  refine bv_ext fun i hi => ?_
  rw [getLsbD_rotZ _ _ _ hi, BitVec.getLsbD_and, BitVec.getLsbD_and, getLsbD_rotZ _ _ _ hi, getLsbD_rotZ _ _ _ hi]

theorem rotZ_idx {w : Nat} (i : Nat) (k : Int) (hi : i < w) : (((i : Int) - k) % (w : Int)).toNat < w := by
  have hw : (0 : Int) < w := by omega
  have h0 := Int.emod_nonneg ((i : Int) - k) (Int.ne_of_gt hw)
  have h1 := Int.emod_lt_of_pos ((i : Int) - k) hw
  omega

theorem rotZ_not {w : Nat} (x : BitVec w) (k : Int) : rotZ (~~~x) k = ~~~(rotZ x k) := by
  refine bv_ext fun i hi => ?_
  rw [getLsbD_rotZ _ _ _ hi, BitVec.getLsbD_not, BitVec.getLsbD_not, getLsbD_rotZ _ _ _ hi]
  simp [rotZ_idx i k hi, hi]

theorem rotZ_rotZ {w : Nat} (x : BitVec w) (a b : Int) : rotZ (rotZ x a) b = rotZ x (a + b) := by
  refine bv_ext fun i hi => ?_
  have hw : (0 : Int) < w := by omega
  rw [getLsbD_rotZ _ _ _ hi, getLsbD_rotZ _ _ _ (rotZ_idx i b hi), getLsbD_rotZ _ _ _ hi]
  have h0 := Int.emod_nonneg ((i : Int) - b) (Int.ne_of_gt hw)
  rw [Int.toNat_of_nonneg h0]
  congr 2
  rw [show ((i : Int) - b) % (w : Int) - a = ((i : Int) - b) % (w : Int) + -a by omega, Int.emod_add_emod]
  congr 1; omega

theorem rotZ_full {w : Nat} (x : BitVec w) (k : Int) : rotZ x ((w : Int) * k) = x := by
  unfold rotZ
  rw [Int.mul_emod_right]
  refine bv_ext fun i hi => ?_
  rw [BitVec.getLsbD_rotateLeft]
  simp [hi]

theorem rotZ_zero {w : Nat} (x : BitVec w) : rotZ x 0 = x := by
  have := rotZ_full x 0
  simpa using this

/-- One round of the law: the number laid over itself rotated twice. -/
def spreadZ {w : Nat} (j k : Int) (y : BitVec w) : BitVec w := y ^^^ rotZ y j ^^^ rotZ y k

theorem spread_twice {w : Nat} (j k : Int) (y : BitVec w) : spreadZ j k (spreadZ j k y) = spreadZ (j + j) (k + k) y := by
  unfold spreadZ
  rw [rotZ_xor, rotZ_xor, rotZ_xor, rotZ_xor, rotZ_rotZ, rotZ_rotZ, rotZ_rotZ, rotZ_rotZ, Int.add_comm k j]
  generalize rotZ y j = b
  generalize rotZ y k = c
  generalize rotZ y (j + j) = d
  generalize rotZ y (j + k) = f
  generalize rotZ y (k + k) = g
  refine bv_ext fun i _ => ?_
  simp only [BitVec.getLsbD_xor]
  cases y.getLsbD i <;> cases b.getLsbD i <;> cases c.getLsbD i <;> cases d.getLsbD i <;> cases f.getLsbD i <;> cases g.getLsbD i <;> rfl

def spreadN {w : Nat} (j k : Int) : Nat → BitVec w → BitVec w
  | 0, y => y
  | n + 1, y => spreadZ j k (spreadN j k n y)

theorem spreadN_add {w : Nat} (j k : Int) (a b : Nat) (y : BitVec w) : spreadN j k (a + b) y = spreadN j k a (spreadN j k b y) := by
  induction a with
  | zero => simp [spreadN]
  | succ a ih => rw [Nat.succ_add]; simp only [spreadN]; rw [ih]

theorem spread_pow {w : Nat} (j k : Int) (m : Nat) (y : BitVec w) : spreadN j k (2 ^ m) y = spreadZ ((2 : Int) ^ m * j) ((2 : Int) ^ m * k) y := by
  induction m generalizing y with
  | zero => simp [spreadN]
  | succ m ih =>
    rw [Nat.pow_succ, Nat.mul_two, spreadN_add, ih, ih, spread_twice, Int.pow_succ]
    congr 1
    · rw [Int.mul_assoc, Int.mul_comm 2 j, ← Int.mul_assoc]; omega
    · rw [Int.mul_assoc, Int.mul_comm 2 k, ← Int.mul_assoc]; omega

theorem spread_back {m : Nat} (j k : Int) (y : BitVec (2 ^ m)) : spreadN j k (2 ^ m) y = y := by
  rw [spread_pow]
  unfold spreadZ
  have e : ((2 : Int) ^ m) = ((2 ^ m : Nat) : Int) := by simp
  rw [e, rotZ_full, rotZ_full]
  refine bv_ext fun i _ => ?_
  simp only [BitVec.getLsbD_xor]
  cases y.getLsbD i <;> rfl

end Go.Proofs.Ytnebokpifgipfaa.Pl
