/-
  Prouhet's sums in plain Lean: a sum of powers over the numbers with even ones and over those with odd ones, up to a power of two, is the same for each power less than the number of bits; and the steps of the law's loops.
  Conditions: as stated in each theorem.
-/
import Derived.Lib.BitFns
import Derived.Test.YthkegogjboiilaaWords
namespace Go.Proofs.Ythkegogjboiilaa.Pl
open Go.Lib (popAux)

/-- All differences of d steps vanish: 'of degree less than d'. -/
def Deg : Nat → (Int → Int) → Prop
  | 0, g => ∀ t, g t = 0
  | d + 1, g => ∀ h, Deg d (fun t => g t - g (t + h))

theorem Deg.congr : ∀ {d : Nat} {f g : Int → Int}, (∀ t, f t = g t) → Deg d f → Deg d g
  | 0, f, g, h, hf => fun t => by rw [← h t]; exact hf t
  | d + 1, f, g, h, hf => fun s => Deg.congr (fun t => by rw [h t, h (t + s)]) (hf s)

theorem Deg.zero : ∀ (d : Nat), Deg d (fun _ => 0)
  | 0 => fun _ => rfl
  | d + 1 => fun _ => Deg.congr (fun _ => (Int.sub_self 0).symm) (Deg.zero d)

theorem Deg.sub : ∀ {d : Nat} {f g : Int → Int}, Deg d f → Deg d g → Deg d (fun t => f t - g t)
  | 0, f, g, hf, hg => fun t => by show f t - g t = 0; rw [hf t, hg t]; rfl
  | d + 1, f, g, hf, hg => fun s => Deg.congr (fun t => by show f t - f (t + s) - (g t - g (t + s)) = f t - g t - (f (t + s) - g (t + s)); omega) (Deg.sub (hf s) (hg s))

theorem Deg.scale : ∀ {d : Nat} {f : Int → Int} (c : Int), Deg d f → Deg d (fun t => c * f t)
  | 0, f, c, hf => fun t => by show c * f t = 0; rw [hf t, Int.mul_zero]
  | d + 1, f, c, hf => fun s => Deg.congr (fun t => by rw [Int.mul_sub]) (Deg.scale c (hf s))

theorem Deg.shift : ∀ {d : Nat} {f : Int → Int} (c : Int), Deg d f → Deg d (fun t => f (t + c))
  | 0, f, c, hf => fun t => hf (t + c)
  | d + 1, f, c, hf => fun s => Deg.congr (fun t => by show f (t + c) - f (t + c + s) = f (t + c) - f (t + s + c); rw [Int.add_right_comm]) (Deg.shift c (hf s))

theorem Deg.times : ∀ {d : Nat} {g : Int → Int}, Deg d g → Deg (d + 1) (fun t => t * g t)
  | 0, g, hg => fun s => fun t => by show t * g t - (t + s) * g (t + s) = 0; rw [hg t, hg (t + s)]; simp
  | d + 1, g, hg => fun s => by
    have a := Deg.times (hg s)
    have b := Deg.scale s (Deg.shift s hg)
    refine Deg.congr (fun t => ?_) (Deg.sub a b)
    show t * (g t - g (t + s)) - s * g (t + s) = t * g t - (t + s) * g (t + s)
    rw [Int.mul_sub, Int.add_mul]
    omega

theorem Deg.more {d : Nat} {f : Int → Int} (h : Deg d f) : Deg (d + 1) f := fun s => Deg.sub h (Deg.shift s h)

theorem Deg.le {d e : Nat} {f : Int → Int} (h : Deg d f) (hle : d ≤ e) : Deg e f := by
  induction e with
  | zero => obtain rfl : d = 0 := by omega
            exact h
  | succ e ih =>
    by_cases hd : d = e + 1
    · subst hd; exact h
    · exact (ih (by omega)).more

theorem deg_pow : ∀ (j : Nat), Deg (j + 1) (fun t => t ^ j)
  | 0 => fun s => fun t => by show t ^ 0 - (t + s) ^ 0 = 0; simp
  | j + 1 => Deg.congr (fun t => by show t * t ^ j = t ^ (j + 1); rw [Int.pow_succ, Int.mul_comm]) (Deg.times (deg_pow j))

/-- The sign of a number: by its ones. -/
def sgn (m : Nat) : Int := if popAux 64 m % 2 = 0 then 1 else -1

/-- The sum with signs over the first M numbers. -/
def alt (g : Int → Int) (t : Int) : Nat → Int
  | 0 => 0
  | M + 1 => alt g t M + sgn M * g (t + M)

theorem alt_congr {f g : Int → Int} (h : ∀ t, f t = g t) (t : Int) : ∀ M, alt f t M = alt g t M
  | 0 => rfl
  | M + 1 => by simp only [alt]; rw [alt_congr h t M, h]

theorem alt_sub (f g : Int → Int) (t : Int) : ∀ M, alt (fun t => f t - g t) t M = alt f t M - alt g t M
  | 0 => rfl
  | M + 1 => by simp only [alt]; rw [alt_sub f g t M, Int.mul_sub]; omega

theorem pop_next : ∀ n : Fin 6, ∀ m : Fin 64, m.val < 2 ^ n.val → popAux 64 (2 ^ n.val + m.val) = popAux 64 m.val + 1 := by decide +kernel

theorem sgn_next (n m : Nat) (hn : n < 6) (hm : m < 2 ^ n) : sgn (2 ^ n + m) = - sgn m := by
  have hm64 : m < 64 := Nat.lt_of_lt_of_le hm (show 2 ^ n ≤ 2 ^ 6 from Nat.pow_le_pow_right (by decide) (by omega))
  have e := pop_next ⟨n, hn⟩ ⟨m, hm64⟩ hm
  simp only at e
  unfold sgn
  rw [e]
  by_cases h : popAux 64 m % 2 = 0
  · rw [if_pos h, if_neg (by omega)]
  · rw [if_neg h, if_pos (by omega)]; rfl

theorem alt_more (g : Int → Int) (t : Int) (n : Nat) (hn : n < 6) : ∀ k, k ≤ 2 ^ n → alt g t (2 ^ n + k) = alt g t (2 ^ n) - alt (fun u => g (u + (2 ^ n : Nat))) t k
  | 0, _ => by simp [alt]
  | k + 1, hk => by
    rw [← Nat.add_assoc]
    simp only [alt]
    rw [alt_more g t n hn k (by omega), sgn_next n k hn (by omega)]
    have e : t + ((2 ^ n + k : Nat) : Int) = t + (k : Int) + ((2 ^ n : Nat) : Int) := by
      rw [Int.natCast_add]; omega
    rw [e, Int.neg_mul]
    omega

theorem alt_zero : ∀ (n : Nat), n ≤ 6 → ∀ (g : Int → Int), Deg n g → ∀ t, alt g t (2 ^ n) = 0
  | 0, _, g, hg, t => by
    show 0 + sgn 0 * g (t + (0 : Nat)) = 0
    rw [hg]; simp
  | n + 1, hn, g, hg, t => by
    rw [Nat.pow_succ, Nat.mul_two, alt_more g t n (by omega) (2 ^ n) (Nat.le_refl _), ← alt_sub g]
    exact alt_zero n (by omega) _ (hg _) t

/-- The sums over the numbers with even ones, and over those with odd ones. -/
def evI (a : Int) (j : Nat) : Nat → Int
  | 0 => 0
  | M + 1 => evI a j M + if popAux 64 M % 2 = 0 then (a + M) ^ j else 0
def odI (a : Int) (j : Nat) : Nat → Int
  | 0 => 0
  | M + 1 => odI a j M + if popAux 64 M % 2 = 0 then 0 else (a + M) ^ j

theorem ev_od (a : Int) (j : Nat) : ∀ M, evI a j M - odI a j M = alt (fun t => t ^ j) a M
  | 0 => rfl
  | M + 1 => by
    simp only [evI, odI, alt]
    rw [← ev_od a j M]
    unfold sgn
    by_cases h : popAux 64 M % 2 = 0
    · rw [if_pos h, if_pos h, if_pos h, Int.one_mul]; omega
    · rw [if_neg h, if_neg h, if_neg h, Int.neg_mul, Int.one_mul]; omega

theorem prouhet (a : Int) (j n : Nat) (hj : j < n) (hn : n ≤ 6) : evI a j (2 ^ n) = odI a j (2 ^ n) := by
  have h := ev_od a j (2 ^ n)
  rw [alt_zero n hn _ ((deg_pow j).le hj) a] at h
  omega

/-! ### The loops' steps -/

/-- A sum as the program holds it: in 64 bits. -/
def evW (a : Int) (j M : Nat) : Int := IntKind.u64.wrap (evI a j M)
def odW (a : Int) (j M : Nat) : Int := IntKind.u64.wrap (odI a j M)
def tw (a : Int) (m i : Nat) : Int := IntKind.u64.wrap ((a + m) ^ i)

theorem tw_zero (a : Int) (m : Nat) : tw a m 0 = 1 := by unfold tw; rw [IntKind.wrap_u64, Int.pow_zero]; rfl
theorem tw_step (a : Int) (m i : Nat) : IntKind.u64.wrap (tw a m i * IntKind.u64.wrap (a + m)) = tw a m (i + 1) := by
  unfold tw
  rw [IntKind.wrap_u64, IntKind.wrap_u64, IntKind.wrap_u64, IntKind.wrap_u64, ← Int.mul_emod, Int.pow_succ]
theorem ev_zero (a : Int) (j : Nat) : evW a j 0 = 0 := by unfold evW; rw [IntKind.wrap_u64]; rfl
theorem od_zero (a : Int) (j : Nat) : odW a j 0 = 0 := by unfold odW; rw [IntKind.wrap_u64]; rfl
theorem wrap_sum (x y : Int) : IntKind.u64.wrap (IntKind.u64.wrap x + IntKind.u64.wrap y) = IntKind.u64.wrap (x + y) := by
  rw [IntKind.wrap_u64, IntKind.wrap_u64, IntKind.wrap_u64, IntKind.wrap_u64]; omega
theorem ev_yes (a : Int) (j M : Nat) (h : popAux 64 M % 2 = 0) : IntKind.u64.wrap (evW a j M + tw a M j) = evW a j (M + 1) := by
  unfold evW tw; rw [wrap_sum]; simp only [evI, if_pos h]
theorem od_yes (a : Int) (j M : Nat) (h : popAux 64 M % 2 = 0) : odW a j M = odW a j (M + 1) := by
  unfold odW; simp only [odI, if_pos h, Int.add_zero]
theorem ev_no (a : Int) (j M : Nat) (h : ¬ popAux 64 M % 2 = 0) : evW a j M = evW a j (M + 1) := by
  unfold evW; simp only [evI, if_neg h, Int.add_zero]
theorem od_no (a : Int) (j M : Nat) (h : ¬ popAux 64 M % 2 = 0) : IntKind.u64.wrap (odW a j M + tw a M j) = odW a j (M + 1) := by
  unfold odW tw; rw [wrap_sum]; simp only [odI, if_neg h]
theorem ev_last (a : Int) (j n : Nat) (hj : j < n) (hn : n ≤ 6) : evW a j (2 ^ n) = odW a j (2 ^ n) := by
  unfold evW odW; rw [prouhet a j n hj hn]

end Go.Proofs.Ythkegogjboiilaa.Pl
