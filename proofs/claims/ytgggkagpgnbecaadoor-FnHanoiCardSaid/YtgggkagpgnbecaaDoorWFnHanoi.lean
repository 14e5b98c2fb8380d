/-
  The walk of the law 'FnHanoi': it returns true for every number.
  Conditions: the argument is of its kind; the library's table holds what its text lays.
-/
import Derived.Test.YtgggkagpgnbecaaDoorTzC
import Derived.Test.YtgggkagpgnbecaaDoorHaL
import Derived.LoopTactic
import Derived.Lib.Hide
import Derived.ProofKit
import Derived.RowKit3
import Derived.Deep.QuietTactic
import Derived.BigQuiet
namespace Go.Proofs.YtgggkagpgnbecaaDoor.fnHanoi
open Go.RowKit Pl
set_option linter.unusedVariables false

/-- What is known of memory after k moves: the discs' cells, that they may be written, the library's table. -/
def HS (w wr : World) (N k : Nat) : Prop :=
  (∀ i, i < N → wr.cell? ⟨w.heap.size, i, none⟩ = some (.int .u64 (((hB N k).getD i 0 : Nat) : Int))) ∧ (∀ i, wr.frozen? ⟨w.heap.size, i, none⟩ = false) ∧ TabAt 0 Lib.deBruijn64tab wr ∧ Grown w wr

theorem tab_lt {w : World} (hT : TabAt 0 Lib.deBruijn64tab w) : 0 < w.heap.size := by
  have h := hT 0 (by decide)
  exact World.block_lt_of_cell? w _ h

theorem HS.store {w wr : World} {N k d v : Nat} (h : HS w wr N k) (hT : TabAt 0 Lib.deBruijn64tab w) (hd : Lib.ctz 64 (k + 1) = d) (hv : toN (k + 1) = v) (hN : d < N) :
    HS w (wr.setCell ⟨w.heap.size, d, none⟩ (.int .u64 (v : Int))) N (k + 1) := by
  obtain ⟨h1, h2, h3, h4⟩ := h
  have hlt := tab_lt hT
  refine ⟨fun i hi => ?_, fun i => ?_, fun j hj => ?_, ?_⟩
  · rw [hB_next N k d v hd hv hN i]
    by_cases e : i = d
    · subst e
      rw [if_pos rfl]
      exact World.cell?_setCell_same wr _ _ (h1 i hi)
    · rw [if_neg e, World.cell?_setCell_other wr _ _ _ (fun x => e (by injection x with _ x2 _; exact x2.symm))]
      exact h1 i hi
  · rw [World.frozen?_setCell]; exact h2 i
  · rw [World.cell?_setCell_other wr _ _ _ (fun x => by injection x with x1 _ _; omega)]
    exact h3 j hj
  · exact Grown.setCell h4 (Nat.le_refl _) _

theorem HS.tab {w wr : World} {N k : Nat} (h : HS w wr N k) : TabAt 0 Lib.deBruijn64tab wr := h.2.2.1
theorem HS.grown {w wr : World} {N k : Nat} (h : HS w wr N k) : Grown w wr := h.2.2.2
theorem HS.cell {w wr : World} {N k : Nat} (h : HS w wr N k) (i : Nat) (hi : i < N) : wr.cell? ⟨w.heap.size, i, none⟩ = some (.int .u64 (((hB N k).getD i 0 : Nat) : Int)) := h.1 i hi
theorem HS.drewN {w wr : World} {N k : Nat} (h : HS w wr N k) (n : Nat) : HS w (wr.drewN n) N k := h

theorem pow_in (N : Nat) (h : N ≤ 6) : IntKind.u64.wrap ((2 : Int) ^ N) = ((2 ^ N : Nat) : Int) := by
  have h64 : 2 ^ N ≤ 64 := show 2 ^ N ≤ 2 ^ 6 from Nat.pow_le_pow_right (by decide) h
  have e : ((2 : Int) ^ N) = ((2 ^ N : Nat) : Int) := by simp
  rw [e]
  generalize 2 ^ N = T at h64
  rw [IntKind.wrap_u64]
  omega

set_option maxHeartbeats 1000000 in
theorem core (a0 : Int) (N : Nat) (hN : a0 % 6 + 1 = (N : Int)) (b0 : 0 ≤ a0) (c0 : a0 ≤ 255) (w : World) (hT : TabAt 0 Lib.deBruijn64tab w)
    (C : Array Value) (hmk : ∀ w, (Instr.makeSlice 26 (.int .i64 (N : Int)) (.int .i64 (N : Int))).run Tryd.prog w = .ok (.slice (some ⟨w.heap.size, 0, none⟩) N N) (w.alloc (.cells C 27)))
    (hC : HS w (w.alloc (.cells C 27)) N 0) :
    Calls Tryd.prog 4 #[.int .u8 a0] w fun e w' => e = .returned (.bool true) ∧ Grown w w' := by
  have hN0 : 1 ≤ N := by omega
  have hN6 : N ≤ 6 := by omega
  obtain ⟨T, hT2, hT64⟩ : ∃ T : Nat, T = 2 ^ N ∧ T ≤ 64 := ⟨2 ^ N, rfl, show 2 ^ N ≤ 2 ^ 6 from Nat.pow_le_pow_right (by decide) hN6⟩
  have hT1 : 2 ≤ T := by rw [hT2]; exact show 2 ^ 1 ≤ 2 ^ N from Nat.pow_le_pow_right (by decide) hN0
  have hr := pow_in N hN6
  rw [← hT2] at hr
  have HT2 := Lib.hid hT2
  have HT := Lib.hid hT
  clear hT2 hT
  go_enter Tryd.func4, Tryd.ntmps4
  go_wp2_with fail
  clear hN b0 c0 hmk
  go_loopw [5, 6, 7, 8, 9] (fun m _ _ _ _ wr => ∃ M : Nat, 1 ≤ M ∧ M ≤ T ∧ m = .int .u64 M ∧ HS w wr N (M - 1)) (fun m _ _ _ _ _ => T - (intOf m).toNat)
  case atStart => exact ⟨1, by omega, by omega, rfl, hC⟩
  case round =>
    obtain ⟨M, hM1, hM2, rfl, hS⟩ := hrel
    obtain ⟨wo, rfl⟩ : ∃ wo : World, wo = wr := ⟨_, rfl⟩
    clear hC
    by_cases hlt : M < T
    · have mv := move_ok ⟨N, by omega⟩ ⟨M - 1, by omega⟩ (by show M - 1 + 1 < 2 ^ N; rw [← HT2.out]; omega)
      simp only [show M - 1 + 1 = M by omega] at mv
      obtain ⟨d, hdd⟩ : ∃ d, Lib.ctz 64 M = d := ⟨_, rfl⟩
      rw [hdd] at mv
      obtain ⟨hd, hf, hi⟩ := mv
      have rX : bits .and .u64 (M : Int) ((M : Int) - 1) = ((M &&& (M - 1) : Nat) : Int) := by
        rw [show (M : Int) - 1 = ((M - 1 : Nat) : Int) by omega]; exact u64_and_nat _ _ (by omega) (by omega)
      have rY : bits .or .u64 (M : Int) ((M : Int) - 1) = ((M ||| (M - 1) : Nat) : Int) := by
        rw [show (M : Int) - 1 = ((M - 1 : Nat) : Int) by omega]; exact u64_or_nat _ _ (by omega) (by omega)
      have hfr : frN M = (M &&& (M - 1)) % 3 := rfl
      have hto : toN M = ((M ||| (M - 1)) + 1) % 3 := rfl
      have hY : M ||| (M - 1) < 64 := Nat.or_lt_two_pow (n := 6) (by omega) (by omega)
      generalize M &&& (M - 1) = X at rX hfr
      generalize M ||| (M - 1) = Y at rY hto hY
      have hcd : wo.cell? ⟨w.heap.size, d, none⟩ = some (.int .u64 ((X : Int) % 3)) := by
        rw [hS.1 d hd, hf, hfr]; rfl
      have hfz := hS.2.1 d
      have HI := Lib.hid hi
      have HTO := Lib.hid hto
      have HFR := Lib.hid hfr
      have HD := Lib.hid hdd
      clear hi hto hfr hf
      go_wp2_with fail
      have hST := hS.tab
      with_reducible refine (implTrail64 _ _ (by omega) (by omega) hST).mono ?_
      rintro e w' ⟨rfl, rfl⟩
      rw [Int.toNat_natCast, HD.out]
      clear hdd hST
      have hnd : decide (N ≤ d) = false := by simp; omega
      go_wp2_with fail
      go_loop [9] (fun i => ∃ I : Nat, I ≤ d ∧ i = .int .i64 I) (fun i => d - (intOf i).toNat)
      case atStart => exact ⟨0, Nat.zero_le _, rfl⟩
      case round =>
        obtain ⟨I, hI, rfl⟩ := hrel
        by_cases hli : I < d
        · have hci := hS.cell I (by omega)
          have hne := HI.out I hli
          rw [HFR.out, HTO.out] at hne
          generalize (hB N (M - 1)).getD I 0 = c at hci hne
          have t1 : ((c : Int) == (X : Int) % 3) = false := beq_eq_false_iff_ne.2 (by omega)
          have t2 : ((c : Int) == ((Y : Int) + 1) % 3) = false := beq_eq_false_iff_ne.2 (by omega)
          clear hne
          go_wp2_with fail
          go_round
          case rel => exact ⟨I + 1, by omega, by go_num⟩
          case measure => simp [intOf]; omega
        · obtain rfl : I = d := by omega
          go_wp2_with fail
          refine ⟨⟨M + 1, by omega, by omega, by go_num, ?_⟩, by simp [intOf]; omega⟩
          have e1 : M - 1 + 1 = M := by omega
          have hst := HS.store (k := M - 1) (d := I) (v := (Y + 1) % 3) hS HT.out (by rw [e1]; exact HD.out) (by rw [e1]; exact HTO.out) hd
          rw [e1] at hst
          rw [show M + 1 - 1 = M by omega, show ((Y : Int) + 1) % 3 = (((Y + 1) % 3 : Nat) : Int) by omega]
          exact hst
    · obtain rfl : M = T := by omega
      have he := end_ok ⟨N, by omega⟩
      simp only at he
      rw [← HT2.out] at he
      have HE := Lib.hid he
      clear he
      go_wp2_with fail
      go_loopw [10] (fun i wq => ∃ I : Nat, I ≤ N ∧ i = .int .i64 I ∧ ∃ q, wq = wo.drewN q) (fun i _ => N - (intOf i).toNat)
      case atStart => exact ⟨0, Nat.zero_le _, rfl, 0, rfl⟩
      case round =>
        obtain ⟨I, hI, rfl, q, rfl⟩ := hrel
        by_cases hli : I < N
        · have hci := hS.cell I hli
          have hc0 := hS.cell 0 (by omega)
          have hne := HE.out I hli
          rw [hne.2] at hci
          have hnz := hne.1
          rw [hne.2] at hnz
          clear hne
          generalize (hB N (M - 1)).getD 0 0 = z at hci hc0 hnz
          have t1 : ((z : Int) == 0) = false := beq_eq_false_iff_ne.2 (by omega)
          have i0 : 0 < N := by omega
          clear hnz
          go_wp2_with fail
          go_quiet (fail)
          go_wp2_with fail
          exact ⟨⟨I + 1, by omega, by go_num, _, rfl⟩, by simp [intOf]; omega⟩
        · have hST : TabAt 0 Lib.deBruijn64tab (wo.drewN q) := hS.tab
          have hG : Grown w (wo.drewN q) := hS.grown
          have z2 : Lib.ctz 64 0 = 64 := ctz_zero64
          go_wp2_with fail
          with_reducible refine (implTrail64 _ _ (by decide) (by decide) hST).mono ?_
          rintro e w' ⟨rfl, rfl⟩
          go_wp2_with fail
          go_ret
          exact ⟨rfl, hG⟩

theorem HS.start {w : World} (hT : TabAt 0 Lib.deBruijn64tab w) (N : Nat) : HS w (w.alloc (.cells (Array.replicate N (.int .u64 0)) 27)) N 0 := by
  have hlt := tab_lt hT
  refine ⟨fun i hi => ?_, fun i => World.frozen?_alloc_new _ _ _ _, fun j hj => ?_, Grown.alloc (Grown.refl w) _ _⟩
  · rw [World.cell?_alloc_new]
    simp [hB, List.getD_eq_getElem?_getD, hi]
  · rw [World.cell?_alloc_lt _ _ _ hlt]
    exact hT j hj

theorem walk (a0 : Int) (w0 : (Lit.int .u8 a0).wf = true) (w : World) (hT : TabAt 0 Lib.deBruijn64tab w) :
    Calls Tryd.prog 4 #[.int .u8 a0] w fun e w' => e = .returned (.bool true) ∧ Grown w w' := by
  obtain ⟨b0, c0⟩ := bnd8 a0 w0
  clear w0
  have h : a0 % 6 + 1 = 1 ∨ a0 % 6 + 1 = 2 ∨ a0 % 6 + 1 = 3 ∨ a0 % 6 + 1 = 4 ∨ a0 % 6 + 1 = 5 ∨ a0 % 6 + 1 = 6 := by omega
  rcases h with h | h | h | h | h | h
  · exact core a0 1 h b0 c0 w hT _ (fun _ => by kernel_rfl) (HS.start hT 1)
  · exact core a0 2 h b0 c0 w hT _ (fun _ => by kernel_rfl) (HS.start hT 2)
  · exact core a0 3 h b0 c0 w hT _ (fun _ => by kernel_rfl) (HS.start hT 3)
  · exact core a0 4 h b0 c0 w hT _ (fun _ => by kernel_rfl) (HS.start hT 4)
  · exact core a0 5 h b0 c0 w hT _ (fun _ => by kernel_rfl) (HS.start hT 5)
  · exact core a0 6 h b0 c0 w hT _ (fun _ => by kernel_rfl) (HS.start hT 6)
end Go.Proofs.YtgggkagpgnbecaaDoor.fnHanoi
