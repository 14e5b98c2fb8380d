/-
  Contracts of the library's counts of ones and of the thin package's calls of them.
  Conditions: the arguments are of their kinds.
-/
import Derived.Test.YthkegogjboiilaaChecked
import Derived.Test.YthkegogjboiilaaWords
import Derived.Test.YthkegogjboiilaaPop
import Derived.WalkKit
import Derived.WalkLawsBesides
import Derived.Deep.QuietTactic
import Derived.BigQuiet
namespace Go.Proofs.Ythkegogjboiilaa
open Go.RowKit Pl



theorem low32 (x : Int) (h0 : 0 ≤ x) (h1 : x ≤ 4294967295) : bits .and .u32 x 255 = x % 256 := by
  rw [u32_and x 255 h0 (by omega) (by decide) (by decide), show (255 : Int).toNat = 2 ^ 8 - 1 from rfl, Nat.and_two_pow_sub_one_eq_mod]
  omega
theorem sum32 (x : Int) (h0 : 0 ≤ x) (h1 : x ≤ 4294967295) : (Lib.popAux 8 (x / 16777216).toNat : Int) + (Lib.popAux 8 (x / 65536 % 256).toNat : Int) + (Lib.popAux 8 (x / 256 % 256).toNat : Int) + (Lib.popAux 8 (x % 256).toNat : Int) = (Lib.popAux 32 x.toNat : Int) := by
  have a : Lib.popAux 32 x.toNat = Lib.popAux 8 x.toNat + Lib.popAux 24 (x.toNat / 256) := popAux_add 8 24 x.toNat
  have a2 : Lib.popAux 24 (x.toNat / 256) = Lib.popAux 8 (x.toNat / 256) + Lib.popAux 16 (x.toNat / 256 / 256) := popAux_add 8 16 (x.toNat / 256)
  have a3 : Lib.popAux 16 (x.toNat / 256 / 256) = Lib.popAux 8 (x.toNat / 256 / 256) + Lib.popAux 8 (x.toNat / 256 / 256 / 256) := popAux_add 8 8 (x.toNat / 256 / 256)
  have b : Lib.popAux 8 (x.toNat % 256) = Lib.popAux 8 x.toNat := popAux_mod 8 x.toNat
  have b2 : Lib.popAux 8 (x.toNat / 256 % 256) = Lib.popAux 8 (x.toNat / 256) := popAux_mod 8 (x.toNat / 256)
  have b3 : Lib.popAux 8 (x.toNat / 256 / 256 % 256) = Lib.popAux 8 (x.toNat / 256 / 256) := popAux_mod 8 (x.toNat / 256 / 256)
  rw [show (x / 16777216).toNat = x.toNat / 256 / 256 / 256 by omega, show (x / 65536 % 256).toNat = x.toNat / 256 / 256 % 256 by omega, show (x / 256 % 256).toNat = x.toNat / 256 % 256 by omega, show (x % 256).toNat = x.toNat % 256 by omega, b, b2, b3]
  omega
theorem bitsOnes32 (x : Int) (w : World) (h0 : 0 ≤ x) (h1 : x ≤ 4294967295) :
    Calls Try.prog 28 #[.int .u32 x] w fun e w' => e = .returned (.int .i64 (Lib.popAux 32 x.toNat : Int)) ∧ ∃ n, w' = w.drewN n := by
  have g0 : 0 ≤ x / 16777216 := by omega
  have g1 : x / 16777216 ≤ 255 := by omega
  have q0 : 0 ≤ x % 256 := by omega
  have q1 : x % 256 ≤ 255 := by omega
  have r0 : 0 ≤ x / 256 % 256 := by omega
  have r1 : x / 256 % 256 ≤ 255 := by omega
  have s0 : 0 ≤ x / 65536 % 256 := by omega
  have s1 : x / 65536 % 256 ≤ 255 := by omega
  have e := low32 x h0 h1
  have e' := low32 (x / 256) (by omega) (by omega)
  have e'' := low32 (x / 65536) (by omega) (by omega)
  have e1 := pop8_at (x / 16777216) g0 g1
  have e2 := pop8_at (x % 256) q0 q1
  have e3 := pop8_at (x / 256 % 256) r0 r1
  have e4 := pop8_at (x / 65536 % 256) s0 s1
  have l1 := popAux_le 8 (x / 16777216).toNat
  have l2 := popAux_le 8 (x % 256).toNat
  have l3 := popAux_le 8 (x / 256 % 256).toNat
  have l4 := popAux_le 8 (x / 65536 % 256).toNat
  go_enter Try.func28, Try.ntmps28
  go_wp2
  go_quiet (fail)
  go_wp2
  go_ret
  exact ⟨congrArg (fun z => Ending.returned (Value.int IntKind.i64 z)) (sum32 x h0 h1), _, rfl⟩

theorem bitsOnes64 (x : Int) (w : World) (h0 : 0 ≤ x) (h1 : x ≤ 18446744073709551615) :
    Calls Try.prog 36 #[.int .u64 x] w fun e w' => e = .returned (.int .i64 (Lib.popAux 64 x.toNat : Int)) ∧ w = w' := by
  have r1 : IntKind.u64.wrap (bits .and .u64 (x / 2) 6148914691236517205 + bits .and .u64 x 6148914691236517205) = c1 x := rfl
  have r2 : IntKind.u64.wrap (bits .and .u64 (c1 x / 4) 3689348814741910323 + bits .and .u64 (c1 x) 3689348814741910323) = c2 (c1 x) := rfl
  have r3 : bits .and .u64 (IntKind.u64.wrap (c2 (c1 x) / 16 + c2 (c1 x))) 1085102592571150095 = c3 (c2 (c1 x)) := rfl
  have r4 : IntKind.u64.wrap (c3 (c2 (c1 x)) + c3 (c2 (c1 x)) / 256) = c4 (c3 (c2 (c1 x))) := rfl
  have r5 : IntKind.u64.wrap (c4 (c3 (c2 (c1 x))) + c4 (c3 (c2 (c1 x))) / 65536) = c5 (c4 (c3 (c2 (c1 x)))) := rfl
  have r6 : IntKind.u64.wrap (c5 (c4 (c3 (c2 (c1 x)))) + c5 (c4 (c3 (c2 (c1 x)))) / 4294967296) = c6 (c5 (c4 (c3 (c2 (c1 x))))) := rfl
  go_enter Try.func36, Try.ntmps36
  go_wp2
  go_ret
  exact ⟨congrArg (fun z => Ending.returned (Value.int IntKind.i64 z)) (ones64 x h0 h1), rfl⟩




theorem implOnes32 (x : Int) (w : World) (h0 : 0 ≤ x) (h1 : x ≤ 4294967295) :
    Calls Try.prog 16 #[.int .u32 x] w fun e w' => e = .returned (.int .i64 (Lib.popAux 32 x.toNat : Int)) ∧ ∃ n, w' = w.drewN n := by
  go_enter Try.func16, Try.ntmps16
  go_wp2_with fail
  refine (bitsOnes32 x _ h0 h1).mono ?_
  rintro e w' ⟨rfl, n, rfl⟩
  go_wp2_with fail
  go_ret
  exact ⟨rfl, n, rfl⟩

theorem implOnes64 (x : Int) (w : World) (h0 : 0 ≤ x) (h1 : x ≤ 18446744073709551615) :
    Calls Try.prog 24 #[.int .u64 x] w fun e w' => e = .returned (.int .i64 (Lib.popAux 64 x.toNat : Int)) ∧ w = w' := by
  go_enter Try.func24, Try.ntmps24
  go_wp2_with fail
  refine (bitsOnes64 x _ h0 h1).mono ?_
  rintro e w' ⟨rfl, rfl⟩
  go_wp2_with fail
  go_ret
  exact ⟨rfl, rfl⟩


end Go.Proofs.Ythkegogjboiilaa
