/-
  The ring of Josephus in plain Lean: every second one leaves; the one that is left has as its number n with its highest one put to the lower end.
  Conditions: as stated in each theorem.
-/
import Derived.Lib.BitFns
import Derived.Test.YtnebokpifgipfaaLenL
namespace Go.Proofs.Ytnebokpifgipfaa.Pl

/-- The one that is left of a ring, every second one leaving (at most f times). -/
def joF : Nat → List Nat → Nat
  | f + 1, a :: _ :: r => joF f (r ++ [a])
  | _, l => l.headD 0
def jo (l : List Nat) : Nat := joF l.length l

theorem jo_step (a b : Nat) (r : List Nat) : jo (a :: b :: r) = jo (r ++ [a]) := by
  unfold jo
  rw [show (a :: b :: r).length = (r ++ [a]).length + 1 by simp]
  rfl

theorem jo_one (a : Nat) : jo [a] = a := rfl

/-- Which place is left: by the length alone. -/
theorem jo_place : ∀ (n : Nat) (l : List Nat) (k : Nat), l.length = n → 2 ^ k ≤ n → n < 2 ^ (k + 1) → jo l = l.getD (2 * (n - 2 ^ k)) 0
  | 0, l, k, _, h1, _ => by have := Nat.two_pow_pos k; omega
  | 1, l, k, hl, h1, h2 => by
    have hk : k = 0 := by
      rcases Nat.eq_zero_or_pos k with h | h
      · exact h
      · have : 2 ^ 1 ≤ 2 ^ k := Nat.pow_le_pow_right (by decide) h
        omega
    subst hk
    match l, hl with
    | [a], _ => rfl
  | n + 2, l, k, hl, h1, h2 => by
    match l, hl with
    | a :: b :: r, hl =>
      have hr : r.length = n := by simpa using hl
      have hl' : (r ++ [a]).length = n + 1 := by simp [hr]
      rw [jo_step]
      have hp : 2 ^ (k + 1) = 2 * 2 ^ k := by rw [Nat.pow_succ, Nat.mul_comm]
      by_cases hc : 2 ^ k ≤ n + 1
      · rw [jo_place (n + 1) (r ++ [a]) k hl' hc (by omega)]
        have e1 : 2 * (n + 2 - 2 ^ k) = 2 * (n + 1 - 2 ^ k) + 2 := by omega
        have hi : 2 * (n + 1 - 2 ^ k) < r.length := by omega
        rw [e1]
        simp [List.getD_eq_getElem?_getD, List.getElem?_append_left hi]
      · have hn : n + 2 = 2 ^ k := by omega
        obtain ⟨j, rfl⟩ : ∃ j, k = j + 1 := ⟨k - 1, by
          rcases Nat.eq_zero_or_pos k with h | h
          · subst h; simp at hn
          · omega⟩
        have hj : 2 ^ (j + 1) = 2 * 2 ^ j := by rw [Nat.pow_succ, Nat.mul_comm]
        have hjp : 0 < 2 ^ j := Nat.two_pow_pos j
        rw [jo_place (n + 1) (r ++ [a]) j hl' (by omega) (by omega)]
        have e1 : 2 * (n + 1 - 2 ^ j) = r.length := by omega
        have e2 : 2 * (n + 2 - 2 ^ (j + 1)) = 0 := by omega
        rw [e1, e2]
        simp [List.getD_eq_getElem?_getD]

/-- What is wanted: the highest one taken away, the rest doubled and one put to it. -/
theorem jo_all (n k : Nat) (h1 : 2 ^ k ≤ n) (h2 : n < 2 ^ (k + 1)) : jo (List.range' 1 n) = (n - 2 ^ k) * 2 + 1 := by
  have hp : 2 ^ (k + 1) = 2 * 2 ^ k := by rw [Nat.pow_succ, Nat.mul_comm]
  have hk := Nat.two_pow_pos k
  rw [jo_place n _ k (by simp) h1 h2]
  have hi : 2 * (n - 2 ^ k) < n := by omega
  simp [List.getD_eq_getElem?_getD, hi]
  omega

/-- The length of a number from 1 to 300, less one. -/
theorem jo_len (n : Nat) (h1 : 1 ≤ n) (h2 : n ≤ 300) : ∃ k, Lib.bitLen n = k + 1 ∧ 2 ^ k ≤ n ∧ n < 2 ^ (k + 1) ∧ k ≤ 8 := by
  have hlt := bitLen_lt n (by omega)
  have hiff := bitLen_iff n
  have h9 : Lib.bitLen n ≤ 9 := (hiff 9 (by omega)).2 (by omega)
  have h0 : ¬ Lib.bitLen n ≤ 0 := fun h => by have := (hiff 0 (by omega)).1 h; simp at this; omega
  refine ⟨Lib.bitLen n - 1, by omega, ?_, ?_, by omega⟩
  · apply Nat.le_of_not_lt
    intro h
    have := (hiff _ (by omega)).2 h
    omega
  · rw [show Lib.bitLen n - 1 + 1 = Lib.bitLen n by omega]
    exact hlt

/-- The wanted number as the program computes it, in 16 bits. -/
theorem jo_raw (N L : Nat) (h1 : 2 ^ L ≤ N) (h2 : N ≤ 300) : IntKind.u16.wrap (IntKind.u16.wrap (IntKind.u16.wrap ((N : Int) - IntKind.u16.wrap (2 ^ L)) * 2) + 1) = (((N - 2 ^ L) * 2 + 1 : Nat) : Int) := by
  have e : ((2 : Int) ^ L) = ((2 ^ L : Nat) : Int) := by simp
  rw [e]
  generalize 2 ^ L = T at h1
  rw [IntKind.wrap_u16, IntKind.wrap_u16, IntKind.wrap_u16, IntKind.wrap_u16]
  omega

end Go.Proofs.Ytnebokpifgipfaa.Pl
