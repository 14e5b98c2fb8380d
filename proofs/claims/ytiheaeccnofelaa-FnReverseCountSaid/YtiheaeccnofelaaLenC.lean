/-
  Contracts of the library's lengths and counts of leading zeros, and of the thin package's calls of them.
  Conditions: the arguments are of their kinds.
-/
import Derived.Test.YtiheaeccnofelaaChecked
import Derived.Test.YtiheaeccnofelaaWords
import Derived.Lib.BitFns
import Derived.Lib.Hide
import Derived.WalkKit
import Derived.WalkLawsBesides
import Derived.Deep.QuietTactic
import Derived.BigQuiet
namespace Go.Proofs.Ytiheaeccnofelaa
open Go.RowKit Pl



theorem bitsLen32 (x : Int) (w : World) (h0 : 0 ≤ x) (h1 : x ≤ 4294967295) :
    Calls Try.prog 46 #[.int .u32 x] w fun e w' => e = .returned (.int .i64 (Lib.bitLen x.toNat : Int)) ∧ w = w' := by
  by_cases c0 : 65536 ≤ x
  · by_cases c1 : 256 ≤ x / 65536
    · have g0 : 0 ≤ x / 65536 / 256 := by omega
      have g1 : x / 65536 / 256 ≤ 255 := by omega
      have e := Lib.len8_of (x / 65536 / 256) g0 g1
      have l := Lib.bitLen_le8' (x / 65536 / 256) g0 g1
      have hs := Lib.hid (Lib.bitLen_shift24 x.toNat (by omega) (by omega))
      have ht := Lib.hid (show (x / 65536 / 256).toNat = x.toNat / 16777216 by omega)
      go_enter Try.func46, Try.ntmps46
      go_wp2
      go_ret
      refine ⟨congrArg (fun z => Ending.returned (Value.int IntKind.i64 z)) ?_, rfl⟩
      have hs := hs.out
      have ht := ht.out
      rw [← ht] at hs
      omega
    · have g0 : 0 ≤ x / 65536 := by omega
      have g1 : x / 65536 ≤ 255 := by omega
      have e := Lib.len8_of (x / 65536) g0 g1
      have l := Lib.bitLen_le8' (x / 65536) g0 g1
      have hs := Lib.hid (Lib.bitLen_shift16 x.toNat (by omega) (by omega))
      have ht := Lib.hid (show (x / 65536).toNat = x.toNat / 65536 by omega)
      go_enter Try.func46, Try.ntmps46
      go_wp2
      go_ret
      refine ⟨congrArg (fun z => Ending.returned (Value.int IntKind.i64 z)) ?_, rfl⟩
      have hs := hs.out
      have ht := ht.out
      rw [← ht] at hs
      omega
  · by_cases c1 : 256 ≤ x
    · have g0 : 0 ≤ x / 256 := by omega
      have g1 : x / 256 ≤ 255 := by omega
      have e := Lib.len8_of (x / 256) g0 g1
      have l := Lib.bitLen_le8' (x / 256) g0 g1
      have hs := Lib.hid (Lib.bitLen_shift8 x.toNat (by omega) (by omega))
      have ht := Lib.hid (show (x / 256).toNat = x.toNat / 256 by omega)
      go_enter Try.func46, Try.ntmps46
      go_wp2
      go_ret
      refine ⟨congrArg (fun z => Ending.returned (Value.int IntKind.i64 z)) ?_, rfl⟩
      have hs := hs.out
      have ht := ht.out
      rw [← ht] at hs
      omega
    · have g0 : 0 ≤ x := by omega
      have g1 : x ≤ 255 := by omega
      have e := Lib.len8_of (x) g0 g1
      have l := Lib.bitLen_le8' (x) g0 g1
      go_enter Try.func46, Try.ntmps46
      go_wp2
      go_ret
      exact ⟨rfl, rfl⟩

theorem bitsLen64 (x : Int) (w : World) (h0 : 0 ≤ x) (h1 : x ≤ 18446744073709551615) :
    Calls Try.prog 45 #[.int .u64 x] w fun e w' => e = .returned (.int .i64 (Lib.bitLen x.toNat : Int)) ∧ w = w' := by
  by_cases c0 : 4294967296 ≤ x
  · by_cases c1 : 65536 ≤ x / 4294967296
    · by_cases c2 : 256 ≤ x / 4294967296 / 65536
      · have g0 : 0 ≤ x / 4294967296 / 65536 / 256 := by omega
        have g1 : x / 4294967296 / 65536 / 256 ≤ 255 := by omega
        have e := Lib.len8_of (x / 4294967296 / 65536 / 256) g0 g1
        have l := Lib.bitLen_le8' (x / 4294967296 / 65536 / 256) g0 g1
        have hs := Lib.hid (Lib.bitLen_shift56 x.toNat (by omega) (by omega))
        have ht := Lib.hid (show (x / 4294967296 / 65536 / 256).toNat = x.toNat / 72057594037927936 by omega)
        go_enter Try.func45, Try.ntmps45
        go_wp2
        go_ret
        refine ⟨congrArg (fun z => Ending.returned (Value.int IntKind.i64 z)) ?_, rfl⟩
        have hs := hs.out
        have ht := ht.out
        rw [← ht] at hs
        omega
      · have g0 : 0 ≤ x / 4294967296 / 65536 := by omega
        have g1 : x / 4294967296 / 65536 ≤ 255 := by omega
        have e := Lib.len8_of (x / 4294967296 / 65536) g0 g1
        have l := Lib.bitLen_le8' (x / 4294967296 / 65536) g0 g1
        have hs := Lib.hid (Lib.bitLen_shift48 x.toNat (by omega) (by omega))
        have ht := Lib.hid (show (x / 4294967296 / 65536).toNat = x.toNat / 281474976710656 by omega)
        go_enter Try.func45, Try.ntmps45
        go_wp2
        go_ret
        refine ⟨congrArg (fun z => Ending.returned (Value.int IntKind.i64 z)) ?_, rfl⟩
        have hs := hs.out
        have ht := ht.out
        rw [← ht] at hs
        omega
    · by_cases c2 : 256 ≤ x / 4294967296
      · have g0 : 0 ≤ x / 4294967296 / 256 := by omega
        have g1 : x / 4294967296 / 256 ≤ 255 := by omega
        have e := Lib.len8_of (x / 4294967296 / 256) g0 g1
        have l := Lib.bitLen_le8' (x / 4294967296 / 256) g0 g1
        have hs := Lib.hid (Lib.bitLen_shift40 x.toNat (by omega) (by omega))
        have ht := Lib.hid (show (x / 4294967296 / 256).toNat = x.toNat / 1099511627776 by omega)
        go_enter Try.func45, Try.ntmps45
        go_wp2
        go_ret
        refine ⟨congrArg (fun z => Ending.returned (Value.int IntKind.i64 z)) ?_, rfl⟩
        have hs := hs.out
        have ht := ht.out
        rw [← ht] at hs
        omega
      · have g0 : 0 ≤ x / 4294967296 := by omega
        have g1 : x / 4294967296 ≤ 255 := by omega
        have e := Lib.len8_of (x / 4294967296) g0 g1
        have l := Lib.bitLen_le8' (x / 4294967296) g0 g1
        have hs := Lib.hid (Lib.bitLen_shift32 x.toNat (by omega) (by omega))
        have ht := Lib.hid (show (x / 4294967296).toNat = x.toNat / 4294967296 by omega)
        go_enter Try.func45, Try.ntmps45
        go_wp2
        go_ret
        refine ⟨congrArg (fun z => Ending.returned (Value.int IntKind.i64 z)) ?_, rfl⟩
        have hs := hs.out
        have ht := ht.out
        rw [← ht] at hs
        omega
  · by_cases c1 : 65536 ≤ x
    · by_cases c2 : 256 ≤ x / 65536
      · have g0 : 0 ≤ x / 65536 / 256 := by omega
        have g1 : x / 65536 / 256 ≤ 255 := by omega
        have e := Lib.len8_of (x / 65536 / 256) g0 g1
        have l := Lib.bitLen_le8' (x / 65536 / 256) g0 g1
        have hs := Lib.hid (Lib.bitLen_shift24 x.toNat (by omega) (by omega))
        have ht := Lib.hid (show (x / 65536 / 256).toNat = x.toNat / 16777216 by omega)
        go_enter Try.func45, Try.ntmps45
        go_wp2
        go_ret
        refine ⟨congrArg (fun z => Ending.returned (Value.int IntKind.i64 z)) ?_, rfl⟩
        have hs := hs.out
        have ht := ht.out
        rw [← ht] at hs
        omega
      · have g0 : 0 ≤ x / 65536 := by omega
        have g1 : x / 65536 ≤ 255 := by omega
        have e := Lib.len8_of (x / 65536) g0 g1
        have l := Lib.bitLen_le8' (x / 65536) g0 g1
        have hs := Lib.hid (Lib.bitLen_shift16 x.toNat (by omega) (by omega))
        have ht := Lib.hid (show (x / 65536).toNat = x.toNat / 65536 by omega)
        go_enter Try.func45, Try.ntmps45
        go_wp2
        go_ret
        refine ⟨congrArg (fun z => Ending.returned (Value.int IntKind.i64 z)) ?_, rfl⟩
        have hs := hs.out
        have ht := ht.out
        rw [← ht] at hs
        omega
    · by_cases c2 : 256 ≤ x
      · have g0 : 0 ≤ x / 256 := by omega
        have g1 : x / 256 ≤ 255 := by omega
        have e := Lib.len8_of (x / 256) g0 g1
        have l := Lib.bitLen_le8' (x / 256) g0 g1
        have hs := Lib.hid (Lib.bitLen_shift8 x.toNat (by omega) (by omega))
        have ht := Lib.hid (show (x / 256).toNat = x.toNat / 256 by omega)
        go_enter Try.func45, Try.ntmps45
        go_wp2
        go_ret
        refine ⟨congrArg (fun z => Ending.returned (Value.int IntKind.i64 z)) ?_, rfl⟩
        have hs := hs.out
        have ht := ht.out
        rw [← ht] at hs
        omega
      · have g0 : 0 ≤ x := by omega
        have g1 : x ≤ 255 := by omega
        have e := Lib.len8_of (x) g0 g1
        have l := Lib.bitLen_le8' (x) g0 g1
        go_enter Try.func45, Try.ntmps45
        go_wp2
        go_ret
        exact ⟨rfl, rfl⟩

theorem bitsLen (x : Int) (w : World) (h0 : 0 ≤ x) (h1 : x ≤ 18446744073709551615) :
    Calls Try.prog 42 #[.int .u64 x] w fun e w' => e = .returned (.int .i64 (Lib.bitLen x.toNat : Int)) ∧ w = w' := by
  go_enter Try.func42, Try.ntmps42
  go_wp2_with fail
  refine (bitsLen64 x _ h0 h1).mono ?_
  rintro e w' ⟨rfl, rfl⟩
  go_wp2_with fail
  go_ret
  exact ⟨rfl, rfl⟩







theorem bitsLead32 (x : Int) (w : World) (h0 : 0 ≤ x) (h1 : x ≤ 4294967295) :
    Calls Try.prog 48 #[.int .u32 x] w fun e w' => e = .returned (.int .i64 (32 - (Lib.bitLen x.toNat : Int))) ∧ w = w' := by
  have l := Lib.bitLen_le x.toNat 32 (by decide) (by omega)
  go_enter Try.func48, Try.ntmps48
  go_wp2_with fail
  refine (bitsLen32 x _ h0 h1).mono ?_
  rintro e w' ⟨rfl, rfl⟩
  go_wp2_with fail
  go_ret
  exact ⟨rfl, rfl⟩

theorem implLen32 (x : Int) (w : World) (h0 : 0 ≤ x) (h1 : x ≤ 4294967295) :
    Calls Try.prog 28 #[.int .u32 x] w fun e w' => e = .returned (.int .i64 (Lib.bitLen x.toNat : Int)) ∧ w = w' := by
  go_enter Try.func28, Try.ntmps28
  go_wp2_with fail
  refine (bitsLen32 x _ h0 h1).mono ?_
  rintro e w' ⟨rfl, rfl⟩
  go_wp2_with fail
  go_ret
  exact ⟨rfl, rfl⟩

theorem implLead32 (x : Int) (w : World) (h0 : 0 ≤ x) (h1 : x ≤ 4294967295) :
    Calls Try.prog 30 #[.int .u32 x] w fun e w' => e = .returned (.int .i64 (32 - (Lib.bitLen x.toNat : Int))) ∧ w = w' := by
  go_enter Try.func30, Try.ntmps30
  go_wp2_with fail
  refine (bitsLead32 x _ h0 h1).mono ?_
  rintro e w' ⟨rfl, rfl⟩
  go_wp2_with fail
  go_ret
  exact ⟨rfl, rfl⟩

theorem bitsLead64 (x : Int) (w : World) (h0 : 0 ≤ x) (h1 : x ≤ 18446744073709551615) :
    Calls Try.prog 47 #[.int .u64 x] w fun e w' => e = .returned (.int .i64 (64 - (Lib.bitLen x.toNat : Int))) ∧ w = w' := by
  have l := Lib.bitLen_le x.toNat 64 (by decide) (by omega)
  go_enter Try.func47, Try.ntmps47
  go_wp2_with fail
  refine (bitsLen64 x _ h0 h1).mono ?_
  rintro e w' ⟨rfl, rfl⟩
  go_wp2_with fail
  go_ret
  exact ⟨rfl, rfl⟩

theorem implLen64 (x : Int) (w : World) (h0 : 0 ≤ x) (h1 : x ≤ 18446744073709551615) :
    Calls Try.prog 27 #[.int .u64 x] w fun e w' => e = .returned (.int .i64 (Lib.bitLen x.toNat : Int)) ∧ w = w' := by
  go_enter Try.func27, Try.ntmps27
  go_wp2_with fail
  refine (bitsLen64 x _ h0 h1).mono ?_
  rintro e w' ⟨rfl, rfl⟩
  go_wp2_with fail
  go_ret
  exact ⟨rfl, rfl⟩

theorem implLead64 (x : Int) (w : World) (h0 : 0 ≤ x) (h1 : x ≤ 18446744073709551615) :
    Calls Try.prog 29 #[.int .u64 x] w fun e w' => e = .returned (.int .i64 (64 - (Lib.bitLen x.toNat : Int))) ∧ w = w' := by
  go_enter Try.func29, Try.ntmps29
  go_wp2_with fail
  refine (bitsLead64 x _ h0 h1).mono ?_
  rintro e w' ⟨rfl, rfl⟩
  go_wp2_with fail
  go_ret
  exact ⟨rfl, rfl⟩

theorem bitsLead (x : Int) (w : World) (h0 : 0 ≤ x) (h1 : x ≤ 18446744073709551615) :
    Calls Try.prog 35 #[.int .u64 x] w fun e w' => e = .returned (.int .i64 (64 - (Lib.bitLen x.toNat : Int))) ∧ w = w' := by
  have l := Lib.bitLen_le x.toNat 64 (by decide) (by omega)
  go_enter Try.func35, Try.ntmps35
  go_wp2_with fail
  refine (bitsLen x _ h0 h1).mono ?_
  rintro e w' ⟨rfl, rfl⟩
  go_wp2_with fail
  go_ret
  exact ⟨rfl, rfl⟩

theorem implLen (x : Int) (w : World) (h0 : 0 ≤ x) (h1 : x ≤ 18446744073709551615) :
    Calls Try.prog 24 #[.int .u64 x] w fun e w' => e = .returned (.int .i64 (Lib.bitLen x.toNat : Int)) ∧ w = w' := by
  go_enter Try.func24, Try.ntmps24
  go_wp2_with fail
  refine (bitsLen x _ h0 h1).mono ?_
  rintro e w' ⟨rfl, rfl⟩
  go_wp2_with fail
  go_ret
  exact ⟨rfl, rfl⟩

theorem implLead (x : Int) (w : World) (h0 : 0 ≤ x) (h1 : x ≤ 18446744073709551615) :
    Calls Try.prog 16 #[.int .u64 x] w fun e w' => e = .returned (.int .i64 (64 - (Lib.bitLen x.toNat : Int))) ∧ w = w' := by
  go_enter Try.func16, Try.ntmps16
  go_wp2_with fail
  refine (bitsLead x _ h0 h1).mono ?_
  rintro e w' ⟨rfl, rfl⟩
  go_wp2_with fail
  go_ret
  exact ⟨rfl, rfl⟩



end Go.Proofs.Ytiheaeccnofelaa
