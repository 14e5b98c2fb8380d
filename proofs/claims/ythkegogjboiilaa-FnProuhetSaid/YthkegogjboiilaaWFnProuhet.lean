/-
  The walk of the law 'FnProuhet': it returns true for every two numbers.
  Conditions: the arguments are of their kinds.
-/
import Derived.Test.YthkegogjboiilaaPopC
import Derived.Test.YthkegogjboiilaaPrL
import Derived.LoopTactic
import Derived.Lib.Hide
import Derived.ProofKit
namespace Go.Proofs.Ythkegogjboiilaa.fnProuhet
open Go.RowKit Pl
set_option linter.unusedVariables false

theorem pow_in (N : Nat) (h : N ≤ 6) : IntKind.u64.wrap ((2 : Int) ^ N) = ((2 ^ N : Nat) : Int) := by
  have h64 : 2 ^ N ≤ 64 := show 2 ^ N ≤ 2 ^ 6 from Nat.pow_le_pow_right (by decide) h
  have e : ((2 : Int) ^ N) = ((2 ^ N : Nat) : Int) := by simp
  rw [e]
  generalize 2 ^ N = T at h64
  rw [IntKind.wrap_u64]
  omega

set_option maxHeartbeats 1000000 in
theorem walk (a0 : Int) (a1 : Int) (w0 : (Lit.int .u64 a0).wf = true) (w1 : (Lit.int .u8 a1).wf = true) (w : World) :
    Calls Try.prog 11 #[.int .u64 a0, .int .u8 a1] w fun e w' => e = .returned (.bool true) ∧ Grown w w' := by
  obtain ⟨b0, c0⟩ := bnd64 a0 w0
  obtain ⟨b1, c1⟩ := bnd8 a1 w1
  clear w0 w1
  obtain ⟨N, hN⟩ : ∃ N : Nat, a1 % 6 + 1 = (N : Int) := ⟨(a1 % 6 + 1).toNat, by omega⟩
  have hN0 : 1 ≤ N := by omega
  have hN6 : N ≤ 6 := by omega
  obtain ⟨T, hT, hT64⟩ : ∃ T : Nat, T = 2 ^ N ∧ T ≤ 64 := ⟨2 ^ N, rfl, show 2 ^ N ≤ 2 ^ 6 from Nat.pow_le_pow_right (by decide) hN6⟩
  have hr := pow_in N hN6
  rw [← hT] at hr
  have HT := Lib.hid hT
  clear hT
  go_enter Try.func11, Try.ntmps11
  go_wp2_with fail
  clear hN b0 c0 b1 c1
  go_loop [6, 7, 8, 9, 10, 11] (fun j _ _ _ _ _ => ∃ J : Nat, J ≤ N ∧ j = .int .i64 J) (fun j _ _ _ _ _ => N - (intOf j).toNat)
  case atStart => exact ⟨0, by omega, rfl⟩
  case round =>
    obtain ⟨J, hJ, rfl⟩ := hrel
    by_cases hlt : J < N
    · go_wp2_with fail
      go_loop [7, 8, 9, 10, 11] (fun ev od m _ _ => ∃ M : Nat, M ≤ T ∧ m = .int .u64 M ∧ ev = .int .u64 (evW a0 J M) ∧ od = .int .u64 (odW a0 J M)) (fun _ _ m _ _ => T - (intOf m).toNat)
      case atStart => exact ⟨0, Nat.zero_le _, rfl, by rw [ev_zero], by rw [od_zero]⟩
      case round =>
        obtain ⟨M, hM, rfl, rfl, rfl⟩ := hrel
        by_cases hlm : M < T
        · go_wp2_with fail
          go_loop [10, 11] (fun p i => ∃ I : Nat, I ≤ J ∧ i = .int .i64 I ∧ p = .int .u64 (tw a0 M I)) (fun _ i => J - (intOf i).toNat)
          case atStart => exact ⟨0, Nat.zero_le _, rfl, by rw [tw_zero]⟩
          case round =>
            obtain ⟨I, hI, rfl, rfl⟩ := hrel
            by_cases hli : I < J
            · go_wp2_with fail
              go_round
              case rel => exact ⟨I + 1, by omega, by go_num, by rw [← tw_step]⟩
              case measure => simp [intOf]; omega
            · obtain rfl : I = J := by omega
              have m0 : (0 : Int) ≤ (M : Int) := by omega
              have m1 : (M : Int) ≤ 18446744073709551615 := by omega
              by_cases hp : Lib.popAux 64 M % 2 = 0
              · have t1 : (((Lib.popAux 64 M : Nat) : Int) % 2 == 0) = true := by simp; omega
                have HP := Lib.hid hp
                clear hp
                go_wp2_with fail
                with_reducible refine (implOnes64 _ _ m0 m1).mono ?_
                rintro e w' ⟨rfl, rfl⟩
                rw [Int.toNat_natCast]
                go_wp2_with fail
                go_round
                case rel => exact ⟨M + 1, by omega, by go_num, by rw [← ev_yes a0 I M HP.out], by rw [← od_yes a0 I M HP.out]⟩
                case measure => simp [intOf]; omega
              · have t1 : (((Lib.popAux 64 M : Nat) : Int) % 2 == 0) = false := beq_eq_false_iff_ne.2 (by omega)
                have HP := Lib.hid hp
                clear hp
                go_wp2_with fail
                with_reducible refine (implOnes64 _ _ m0 m1).mono ?_
                rintro e w' ⟨rfl, rfl⟩
                rw [Int.toNat_natCast]
                go_wp2_with fail
                go_round
                case rel => exact ⟨M + 1, by omega, by go_num, by rw [← ev_no a0 I M HP.out], by rw [← od_no a0 I M HP.out]⟩
                case measure => simp [intOf]; omega
        · obtain rfl : M = T := by omega
          have hl : evW a0 J M = odW a0 J M := by rw [HT.out]; exact ev_last a0 J N hlt hN6
          rw [hl]
          clear hl
          have t1 : (odW a0 J M != odW a0 J M) = false := by simp
          go_wp2_with fail
          go_round
          case rel => exact ⟨J + 1, by omega, by go_num⟩
          case measure => simp [intOf]; omega
    · go_wp2_with fail
      go_ret
      exact ⟨rfl, Grown.refl _⟩
end Go.Proofs.Ythkegogjboiilaa.fnProuhet
