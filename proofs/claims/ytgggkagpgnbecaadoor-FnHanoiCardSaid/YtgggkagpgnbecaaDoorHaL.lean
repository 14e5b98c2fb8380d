/-
  The tower of discs in plain Lean: where each disc lies after k moves, by doing them; that each move takes the disc from where it lies and that no smaller disc is in the way; where all lie in the end.
  Conditions: at most six discs.
-/
import Derived.Lib.TrailingZeros
import Derived.Test.YtgggkagpgnbecaaDoorTzL
namespace Go.Proofs.YtgggkagpgnbecaaDoor.Pl
open Go.Lib (ctz)

def frN (M : Nat) : Nat := (M &&& (M - 1)) % 3
def toN (M : Nat) : Nat := ((M ||| (M - 1)) + 1) % 3

/-- Where the discs lie after k moves. -/
def hB (N : Nat) : Nat → List Nat
  | 0 => List.replicate N 0
  | k + 1 => (hB N k).set (ctz 64 (k + 1)) (toN (k + 1))

theorem hB_length (N : Nat) : ∀ k, (hB N k).length = N
  | 0 => by simp [hB]
  | k + 1 => by simp [hB, hB_length N k]

theorem move_ok : ∀ N : Fin 7, ∀ k : Fin 64, k.val + 1 < 2 ^ N.val → ctz 64 (k.val + 1) < N.val ∧ (hB N.val k.val).getD (ctz 64 (k.val + 1)) 0 = frN (k.val + 1) ∧ ∀ i, i < ctz 64 (k.val + 1) → (hB N.val k.val).getD i 0 ≠ frN (k.val + 1) ∧ (hB N.val k.val).getD i 0 ≠ toN (k.val + 1) := by decide +kernel

theorem end_ok : ∀ N : Fin 7, ∀ i, i < N.val → (hB N.val (2 ^ N.val - 1)).getD i 0 ≠ 0 ∧ (hB N.val (2 ^ N.val - 1)).getD i 0 = (hB N.val (2 ^ N.val - 1)).getD 0 0 := by decide +kernel

theorem hB_next (N k d v : Nat) (hd : ctz 64 (k + 1) = d) (hv : toN (k + 1) = v) (hN : d < N) (i : Nat) : (hB N (k + 1)).getD i 0 = if i = d then v else (hB N k).getD i 0 := by
  have hl := hB_length N k
  simp only [hB, hd, hv]
  by_cases h : i = d
  · subst h
    simp [List.getD_eq_getElem?_getD, hl, hN]
  · have h2 : ¬ d = i := fun e => h e.symm
    simp [List.getD_eq_getElem?_getD, h, h2]

end Go.Proofs.YtgggkagpgnbecaaDoor.Pl
