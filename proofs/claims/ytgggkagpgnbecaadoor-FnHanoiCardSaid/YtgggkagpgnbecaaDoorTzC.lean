/-
  Contracts of the library's counts of zeros behind, and of the thin package's calls of them.
  Conditions: the arguments are of their kinds; the library's table holds what its text lays.
-/
import Derived.Test.YtgggkagpgnbecaaDoorChecked
import Derived.Test.YtgggkagpgnbecaaDoorTzL
import Derived.WalkKit
import Derived.WalkLawsBesides
namespace Go.Proofs.YtgggkagpgnbecaaDoor
open Go.RowKit Pl

/-- The table in its variable. -/
def TabAt (g : Nat) (tab : List Nat) (w : World) : Prop := ∀ j, j < tab.length → w.cell? ⟨g, j, none⟩ = some (.int .u8 (tab.getD j 0))

theorem tz64_key (x a : Nat) (hx : x < 18446744073709551616) (hx0 : x ≠ 0) (hlow : x &&& (18446744073709551616 - x) = a) :
    IntKind.u64.wrap (bits BinOp.and IntKind.u64 (x : Int) (IntKind.u64.wrap (-(x : Int))) * 285870213051353865) / 288230376151711744 = ((a * 285870213051353865 % 18446744073709551616 / 288230376151711744 : Nat) : Int) := by
  have e1 : IntKind.u64.wrap (-(x : Int)) = ((18446744073709551616 - x : Nat) : Int) := by rw [IntKind.wrap_u64]; omega
  rw [e1, u64_and_nat x _ hx (by omega), hlow, IntKind.wrap_u64]
  omega
theorem tz32_key (x a : Nat) (hx : x < 4294967296) (hx0 : x ≠ 0) (hlow : x &&& (4294967296 - x) = a) :
    bits BinOp.and IntKind.u32 (x : Int) (-(x : Int) % 4294967296) * 125613361 % 4294967296 / 134217728 = ((a * 125613361 % 4294967296 / 134217728 : Nat) : Int) := by
  have e1 : -(x : Int) % 4294967296 = ((4294967296 - x : Nat) : Int) := by omega
  rw [e1, u32_and_nat x _ hx (by omega), hlow]
  omega
theorem cast_key (a : Nat) : (a : Int) * 125613361 % 4294967296 / 134217728 = ((a * 125613361 % 4294967296 / 134217728 : Nat) : Int) := by omega
theorem tz16_key (x a : Nat) (hx : x < 65536) (hx0 : x ≠ 0) (hlow : x &&& (65536 - x) = a) :
    bits BinOp.and IntKind.u16 (x : Int) (IntKind.u16.wrap (-(x : Int))) = (a : Int) := by
  have e1 : IntKind.u16.wrap (-(x : Int)) = ((65536 - x : Nat) : Int) := by rw [IntKind.wrap_u16]; omega
  rw [e1, u16_and_nat x _ hx (by omega), hlow]

theorem tz64_core (x k idx : Nat) (w : World) (hx0 : ((x : Int) == 0) = false) (key : IntKind.u64.wrap (bits BinOp.and IntKind.u64 (x : Int) (IntKind.u64.wrap (-(x : Int))) * 285870213051353865) / 288230376151711744 = (idx : Int)) (hi : idx < 64) (hk : k < 64) (hcell : w.cell? ⟨0, idx, none⟩ = some (.int .u8 k)) :
    Calls Tryd.prog 20 #[.int .u64 x] w fun e w' => e = .returned (.int .i64 k) ∧ w = w' := by
  go_enter Tryd.func20, Tryd.ntmps20
  go_wp2_with (simp only [key])
  go_ret
  exact ⟨rfl, rfl⟩
theorem tz64_zero (w : World) :
    Calls Tryd.prog 20 #[.int .u64 0] w fun e w' => e = .returned (.int .i64 64) ∧ w = w' := by
  go_enter Tryd.func20, Tryd.ntmps20
  go_wp2
  go_ret
  exact ⟨rfl, rfl⟩
theorem bitsTrail64 (x : Int) (w : World) (h0 : 0 ≤ x) (h1 : x ≤ 18446744073709551615) (hT : TabAt 0 Lib.deBruijn64tab w) :
    Calls Tryd.prog 20 #[.int .u64 x] w fun e w' => e = .returned (.int .i64 (Lib.ctz 64 x.toNat : Int)) ∧ w = w' := by
  obtain ⟨X, rfl⟩ := Int.eq_ofNat_of_zero_le h0
  rw [Int.toNat_natCast]
  by_cases hx0 : X = 0
  · subst hx0
    exact tz64_zero w
  · obtain ⟨hlow, hk⟩ := Lib.lowest_bit 64 X hx0 (by omega)
    obtain ⟨hi, htab⟩ := Lib.deBruijn64_at _ hk
    have hcell := hT _ hi
    rw [htab] at hcell
    exact tz64_core X _ _ w (by simp; omega) (tz64_key X _ (by omega) hx0 hlow) hi hk hcell

theorem tz32_core (x k idx : Nat) (w : World) (hx0 : ((x : Int) == 0) = false) (key : bits BinOp.and IntKind.u32 (x : Int) (-(x : Int) % 4294967296) * 125613361 % 4294967296 / 134217728 = (idx : Int)) (hi : idx < 32) (hk : k < 32) (hcell : w.cell? ⟨1, idx, none⟩ = some (.int .u8 k)) :
    Calls Tryd.prog 24 #[.int .u32 x] w fun e w' => e = .returned (.int .i64 k) ∧ w = w' := by
  go_enter Tryd.func24, Tryd.ntmps24
  go_wp2_with (simp only [key])
  go_ret
  exact ⟨rfl, rfl⟩
theorem tz32_zero (w : World) :
    Calls Tryd.prog 24 #[.int .u32 0] w fun e w' => e = .returned (.int .i64 32) ∧ w = w' := by
  go_enter Tryd.func24, Tryd.ntmps24
  go_wp2
  go_ret
  exact ⟨rfl, rfl⟩
theorem bitsTrail32 (x : Int) (w : World) (h0 : 0 ≤ x) (h1 : x ≤ 4294967295) (hT : TabAt 1 Lib.deBruijn32tab w) :
    Calls Tryd.prog 24 #[.int .u32 x] w fun e w' => e = .returned (.int .i64 (Lib.ctz 32 x.toNat : Int)) ∧ w = w' := by
  obtain ⟨X, rfl⟩ := Int.eq_ofNat_of_zero_le h0
  rw [Int.toNat_natCast]
  by_cases hx0 : X = 0
  · subst hx0
    exact tz32_zero w
  · obtain ⟨hlow, hk⟩ := Lib.lowest_bit 32 X hx0 (by omega)
    obtain ⟨hi, htab⟩ := Lib.deBruijn32_at _ hk
    have hcell := hT _ hi
    rw [htab] at hcell
    exact tz32_core X _ _ w (by simp; omega) (tz32_key X _ (by omega) hx0 hlow) hi hk hcell

theorem tz16_core (x k idx a : Nat) (w : World) (hx0 : ((x : Int) == 0) = false) (key : bits BinOp.and IntKind.u16 (x : Int) (IntKind.u16.wrap (-(x : Int))) = (a : Int)) (ha : a < 65536) (key2 : (a : Int) * 125613361 % 4294967296 / 134217728 = (idx : Int)) (hi : idx < 32) (hk : k < 32) (hcell : w.cell? ⟨1, idx, none⟩ = some (.int .u8 k)) :
    Calls Tryd.prog 22 #[.int .u16 x] w fun e w' => e = .returned (.int .i64 k) ∧ w = w' := by
  go_enter Tryd.func22, Tryd.ntmps22
  go_wp2_with (first | simp only [key] | simp only [key2])
  go_ret
  exact ⟨rfl, rfl⟩
theorem tz16_zero (w : World) :
    Calls Tryd.prog 22 #[.int .u16 0] w fun e w' => e = .returned (.int .i64 16) ∧ w = w' := by
  go_enter Tryd.func22, Tryd.ntmps22
  go_wp2
  go_ret
  exact ⟨rfl, rfl⟩
theorem bitsTrail16 (x : Int) (w : World) (h0 : 0 ≤ x) (h1 : x ≤ 65535) (hT : TabAt 1 Lib.deBruijn32tab w) :
    Calls Tryd.prog 22 #[.int .u16 x] w fun e w' => e = .returned (.int .i64 (Lib.ctz 16 x.toNat : Int)) ∧ w = w' := by
  obtain ⟨X, rfl⟩ := Int.eq_ofNat_of_zero_le h0
  rw [Int.toNat_natCast]
  by_cases hx0 : X = 0
  · subst hx0
    exact tz16_zero w
  · obtain ⟨hlow, hk⟩ := Lib.lowest_bit 16 X hx0 (by omega)
    obtain ⟨hi, htab⟩ := Lib.deBruijn32_at (Lib.ctz 16 X) (by omega)
    have hcell := hT _ hi
    rw [htab] at hcell
    have hp : 2 ^ Lib.ctz 16 X < 65536 := Nat.pow_lt_pow_right (a := 2) (n := 16) (by decide) hk
    exact tz16_core X _ _ _ w (by simp; omega) (tz16_key X _ (by omega) hx0 hlow) hp (cast_key _) hi (by omega) hcell

theorem bitsTrail (x : Int) (w : World) (h0 : 0 ≤ x) (h1 : x ≤ 18446744073709551615) (hT : TabAt 0 Lib.deBruijn64tab w) :
    Calls Tryd.prog 19 #[.int .u64 x] w fun e w' => e = .returned (.int .i64 (Lib.ctz 64 x.toNat : Int)) ∧ w = w' := by
  go_enter Tryd.func19, Tryd.ntmps19
  go_wp2_with fail
  with_reducible refine (bitsTrail64 x _ h0 h1 hT).mono ?_
  rintro e w' ⟨rfl, rfl⟩
  go_wp2_with fail
  go_ret
  exact ⟨rfl, rfl⟩

theorem implTrail16 (x : Int) (w : World) (h0 : 0 ≤ x) (h1 : x ≤ 65535) (hT : TabAt 1 Lib.deBruijn32tab w) :
    Calls Tryd.prog 14 #[.int .u16 x] w fun e w' => e = .returned (.int .i64 (Lib.ctz 16 x.toNat : Int)) ∧ w = w' := by
  go_enter Tryd.func14, Tryd.ntmps14
  go_wp2_with fail
  with_reducible refine (bitsTrail16 x _ h0 h1 hT).mono ?_
  rintro e w' ⟨rfl, rfl⟩
  go_wp2_with fail
  go_ret
  exact ⟨rfl, rfl⟩

theorem implTrail32 (x : Int) (w : World) (h0 : 0 ≤ x) (h1 : x ≤ 4294967295) (hT : TabAt 1 Lib.deBruijn32tab w) :
    Calls Tryd.prog 16 #[.int .u32 x] w fun e w' => e = .returned (.int .i64 (Lib.ctz 32 x.toNat : Int)) ∧ w = w' := by
  go_enter Tryd.func16, Tryd.ntmps16
  go_wp2_with fail
  with_reducible refine (bitsTrail32 x _ h0 h1 hT).mono ?_
  rintro e w' ⟨rfl, rfl⟩
  go_wp2_with fail
  go_ret
  exact ⟨rfl, rfl⟩

theorem implTrail64 (x : Int) (w : World) (h0 : 0 ≤ x) (h1 : x ≤ 18446744073709551615) (hT : TabAt 0 Lib.deBruijn64tab w) :
    Calls Tryd.prog 12 #[.int .u64 x] w fun e w' => e = .returned (.int .i64 (Lib.ctz 64 x.toNat : Int)) ∧ w = w' := by
  go_enter Tryd.func12, Tryd.ntmps12
  go_wp2_with fail
  with_reducible refine (bitsTrail64 x _ h0 h1 hT).mono ?_
  rintro e w' ⟨rfl, rfl⟩
  go_wp2_with fail
  go_ret
  exact ⟨rfl, rfl⟩

theorem implTrail (x : Int) (w : World) (h0 : 0 ≤ x) (h1 : x ≤ 18446744073709551615) (hT : TabAt 0 Lib.deBruijn64tab w) :
    Calls Tryd.prog 10 #[.int .u64 x] w fun e w' => e = .returned (.int .i64 (Lib.ctz 64 x.toNat : Int)) ∧ w = w' := by
  go_enter Tryd.func10, Tryd.ntmps10
  go_wp2_with fail
  with_reducible refine (bitsTrail x _ h0 h1 hT).mono ?_
  rintro e w' ⟨rfl, rfl⟩
  go_wp2_with fail
  go_ret
  exact ⟨rfl, rfl⟩

end Go.Proofs.YtgggkagpgnbecaaDoor
