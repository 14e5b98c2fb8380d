/-
  Contracts of the library's lengths and counts of leading zeros, and of the thin package's calls of them.
  Conditions: the arguments are of their kinds.
-/
import Derived.Test.YtnebokpifgipfaaChecked
import Derived.Test.YtnebokpifgipfaaWords
import Derived.Lib.BitFns
import Derived.Lib.Hide
import Derived.WalkKit
import Derived.WalkLawsBesides
import Derived.Deep.QuietTactic
import Derived.BigQuiet
namespace Go.Proofs.Ytnebokpifgipfaa
open Go.RowKit Pl

theorem bitsLen8 (x : Int) (w : World) (h0 : 0 ≤ x) (h1 : x ≤ 255) :
    Calls Try.prog 25 #[.int .u8 x] w fun e w' => e = .returned (.int .i64 (Lib.bitLen x.toNat : Int)) ∧ w = w' := by
  have g0 : 0 ≤ x := by omega
  have g1 : x ≤ 255 := by omega
  have e := Lib.len8_of (x) g0 g1
  have l := Lib.bitLen_le8' (x) g0 g1
  go_enter Try.func25, Try.ntmps25
  go_wp2
  go_ret
  exact ⟨rfl, rfl⟩

theorem bitsLen16 (x : Int) (w : World) (h0 : 0 ≤ x) (h1 : x ≤ 65535) :
    Calls Try.prog 24 #[.int .u16 x] w fun e w' => e = .returned (.int .i64 (Lib.bitLen x.toNat : Int)) ∧ w = w' := by
  by_cases c0 : 256 ≤ x
  · have g0 : 0 ≤ x / 256 := by omega
    have g1 : x / 256 ≤ 255 := by omega
    have e := Lib.len8_of (x / 256) g0 g1
    have l := Lib.bitLen_le8' (x / 256) g0 g1
    have hs := Lib.hid (Lib.bitLen_shift8 x.toNat (by omega) (by omega))
    have ht := Lib.hid (show (x / 256).toNat = x.toNat / 256 by omega)
    go_enter Try.func24, Try.ntmps24
    go_wp2
    go_ret
    refine ⟨congrArg (fun z => Ending.returned (Value.int IntKind.i64 z)) ?_, rfl⟩
    have hs := hs.out
    have ht := ht.out
    rw [← ht] at hs
    omega
  · have g0 : 0 ≤ x := by omega
    have g1 : x ≤ 255 := by omega
    have e := Lib.len8_of (x) g0 g1
    have l := Lib.bitLen_le8' (x) g0 g1
    go_enter Try.func24, Try.ntmps24
    go_wp2
    go_ret
    exact ⟨rfl, rfl⟩




theorem bitsLead8 (x : Int) (w : World) (h0 : 0 ≤ x) (h1 : x ≤ 255) :
    Calls Try.prog 27 #[.int .u8 x] w fun e w' => e = .returned (.int .i64 (8 - (Lib.bitLen x.toNat : Int))) ∧ w = w' := by
  have l := Lib.bitLen_le x.toNat 8 (by decide) (by omega)
  go_enter Try.func27, Try.ntmps27
  go_wp2_with fail
  refine (bitsLen8 x _ h0 h1).mono ?_
  rintro e w' ⟨rfl, rfl⟩
  go_wp2_with fail
  go_ret
  exact ⟨rfl, rfl⟩

theorem implLen8 (x : Int) (w : World) (h0 : 0 ≤ x) (h1 : x ≤ 255) :
    Calls Try.prog 13 #[.int .u8 x] w fun e w' => e = .returned (.int .i64 (Lib.bitLen x.toNat : Int)) ∧ w = w' := by
  go_enter Try.func13, Try.ntmps13
  go_wp2_with fail
  refine (bitsLen8 x _ h0 h1).mono ?_
  rintro e w' ⟨rfl, rfl⟩
  go_wp2_with fail
  go_ret
  exact ⟨rfl, rfl⟩

theorem implLead8 (x : Int) (w : World) (h0 : 0 ≤ x) (h1 : x ≤ 255) :
    Calls Try.prog 15 #[.int .u8 x] w fun e w' => e = .returned (.int .i64 (8 - (Lib.bitLen x.toNat : Int))) ∧ w = w' := by
  go_enter Try.func15, Try.ntmps15
  go_wp2_with fail
  refine (bitsLead8 x _ h0 h1).mono ?_
  rintro e w' ⟨rfl, rfl⟩
  go_wp2_with fail
  go_ret
  exact ⟨rfl, rfl⟩

theorem bitsLead16 (x : Int) (w : World) (h0 : 0 ≤ x) (h1 : x ≤ 65535) :
    Calls Try.prog 35 #[.int .u16 x] w fun e w' => e = .returned (.int .i64 (16 - (Lib.bitLen x.toNat : Int))) ∧ w = w' := by
  have l := Lib.bitLen_le x.toNat 16 (by decide) (by omega)
  go_enter Try.func35, Try.ntmps35
  go_wp2_with fail
  refine (bitsLen16 x _ h0 h1).mono ?_
  rintro e w' ⟨rfl, rfl⟩
  go_wp2_with fail
  go_ret
  exact ⟨rfl, rfl⟩

theorem implLen16 (x : Int) (w : World) (h0 : 0 ≤ x) (h1 : x ≤ 65535) :
    Calls Try.prog 12 #[.int .u16 x] w fun e w' => e = .returned (.int .i64 (Lib.bitLen x.toNat : Int)) ∧ w = w' := by
  go_enter Try.func12, Try.ntmps12
  go_wp2_with fail
  refine (bitsLen16 x _ h0 h1).mono ?_
  rintro e w' ⟨rfl, rfl⟩
  go_wp2_with fail
  go_ret
  exact ⟨rfl, rfl⟩

theorem implLead16 (x : Int) (w : World) (h0 : 0 ≤ x) (h1 : x ≤ 65535) :
    Calls Try.prog 23 #[.int .u16 x] w fun e w' => e = .returned (.int .i64 (16 - (Lib.bitLen x.toNat : Int))) ∧ w = w' := by
  go_enter Try.func23, Try.ntmps23
  go_wp2_with fail
  refine (bitsLead16 x _ h0 h1).mono ?_
  rintro e w' ⟨rfl, rfl⟩
  go_wp2_with fail
  go_ret
  exact ⟨rfl, rfl⟩










theorem bitsTrail8 (x : Int) (w : World) (h0 : 0 ≤ x) (h1 : x ≤ 255) :
    Calls Try.prog 26 #[.int .u8 x] w fun e w' => e = .returned (.int .i64 (Lib.trailingZeros8 x.toNat : Int)) ∧ w = w' := by
  have e : Lib.ntz8 x = (Lib.trailingZeros8 x.toNat : Int) := by
    have e := Lib.ntz8_eq ⟨x.toNat, by omega⟩
    simpa only [Int.toNat_of_nonneg h0] using e
  have l : Lib.trailingZeros8 x.toNat ≤ 8 := Lib.trailingZeros8_le8 ⟨x.toNat, by omega⟩
  go_enter Try.func26, Try.ntmps26
  go_wp2
  go_ret
  exact ⟨rfl, rfl⟩

theorem implTrail8 (x : Int) (w : World) (h0 : 0 ≤ x) (h1 : x ≤ 255) :
    Calls Try.prog 14 #[.int .u8 x] w fun e w' => e = .returned (.int .i64 (Lib.trailingZeros8 x.toNat : Int)) ∧ w = w' := by
  go_enter Try.func14, Try.ntmps14
  go_wp2_with fail
  refine (bitsTrail8 x _ h0 h1).mono ?_
  rintro e w' ⟨rfl, rfl⟩
  go_wp2_with fail
  go_ret
  exact ⟨rfl, rfl⟩

end Go.Proofs.Ytnebokpifgipfaa
