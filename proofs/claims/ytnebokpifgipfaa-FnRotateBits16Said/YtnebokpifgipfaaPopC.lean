/-
  Contracts of the library's counts of ones and of the thin package's calls of them.
  Conditions: the arguments are of their kinds.
-/
import Derived.Test.YtnebokpifgipfaaChecked
import Derived.Test.YtnebokpifgipfaaWords
import Derived.Test.YtnebokpifgipfaaPop
import Derived.WalkKit
import Derived.WalkLawsBesides
import Derived.Deep.QuietTactic
import Derived.BigQuiet
namespace Go.Proofs.Ytnebokpifgipfaa
open Go.RowKit Pl

theorem bitsOnes8 (x : Int) (w : World) (h0 : 0 ≤ x) (h1 : x ≤ 255) :
    Calls Try.prog 34 #[.int .u8 x] w fun e w' => e = .returned (.int .i64 (Lib.popAux 8 x.toNat : Int)) ∧ w = w' := by
  have e := pop8_at x h0 h1
  have l := popAux_le 8 x.toNat
  go_enter Try.func34, Try.ntmps34
  go_wp2
  go_ret
  exact ⟨rfl, rfl⟩

theorem low16 (x : Int) (h0 : 0 ≤ x) (h1 : x ≤ 65535) : bits .and .u16 x 255 = x % 256 := by
  rw [u16_and x 255 h0 (by omega) (by decide) (by decide), show (255 : Int).toNat = 2 ^ 8 - 1 from rfl, Nat.and_two_pow_sub_one_eq_mod]
  omega
theorem sum16 (x : Int) (h0 : 0 ≤ x) (h1 : x ≤ 65535) : (Lib.popAux 8 (x / 256).toNat : Int) + (Lib.popAux 8 (x % 256).toNat : Int) = (Lib.popAux 16 x.toNat : Int) := by
  have a : Lib.popAux 16 x.toNat = Lib.popAux 8 x.toNat + Lib.popAux 8 (x.toNat / 256) := popAux_add 8 8 x.toNat
  have b : Lib.popAux 8 (x.toNat % 256) = Lib.popAux 8 x.toNat := popAux_mod 8 x.toNat
  rw [show (x / 256).toNat = x.toNat / 256 by omega, show (x % 256).toNat = x.toNat % 256 by omega, b]
  omega
theorem bitsOnes16 (x : Int) (w : World) (h0 : 0 ≤ x) (h1 : x ≤ 65535) :
    Calls Try.prog 33 #[.int .u16 x] w fun e w' => e = .returned (.int .i64 (Lib.popAux 16 x.toNat : Int)) ∧ ∃ n, w' = w.drewN n := by
  have g0 : 0 ≤ x / 256 := by omega
  have g1 : x / 256 ≤ 255 := by omega
  have q0 : 0 ≤ x % 256 := by omega
  have q1 : x % 256 ≤ 255 := by omega
  have e := low16 x h0 h1
  have e1 := pop8_at (x / 256) g0 g1
  have e2 := pop8_at (x % 256) q0 q1
  have l1 := popAux_le 8 (x / 256).toNat
  have l2 := popAux_le 8 (x % 256).toNat
  go_enter Try.func33, Try.ntmps33
  go_wp2
  go_quiet (fail)
  go_wp2
  go_ret
  exact ⟨congrArg (fun z => Ending.returned (Value.int IntKind.i64 z)) (sum16 x h0 h1), _, rfl⟩




theorem implOnes8 (x : Int) (w : World) (h0 : 0 ≤ x) (h1 : x ≤ 255) :
    Calls Try.prog 22 #[.int .u8 x] w fun e w' => e = .returned (.int .i64 (Lib.popAux 8 x.toNat : Int)) ∧ w = w' := by
  go_enter Try.func22, Try.ntmps22
  go_wp2_with fail
  refine (bitsOnes8 x _ h0 h1).mono ?_
  rintro e w' ⟨rfl, rfl⟩
  go_wp2_with fail
  go_ret
  exact ⟨rfl, rfl⟩

theorem implOnes16 (x : Int) (w : World) (h0 : 0 ≤ x) (h1 : x ≤ 65535) :
    Calls Try.prog 21 #[.int .u16 x] w fun e w' => e = .returned (.int .i64 (Lib.popAux 16 x.toNat : Int)) ∧ ∃ n, w' = w.drewN n := by
  go_enter Try.func21, Try.ntmps21
  go_wp2_with fail
  refine (bitsOnes16 x _ h0 h1).mono ?_
  rintro e w' ⟨rfl, n, rfl⟩
  go_wp2_with fail
  go_ret
  exact ⟨rfl, n, rfl⟩




end Go.Proofs.Ytnebokpifgipfaa
