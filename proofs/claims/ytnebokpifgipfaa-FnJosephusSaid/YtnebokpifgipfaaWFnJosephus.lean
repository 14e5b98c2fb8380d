/-
  The walk of the law 'FnJosephus': it returns true for every number.
  Conditions: the argument is of its kind.
-/
import Derived.Test.YtnebokpifgipfaaLenC
import Derived.Test.YtnebokpifgipfaaJoL
import Derived.LoopTactic
import Derived.Lib.Hide
import Derived.ProofKit
import Derived.OwnWalk
import Derived.Below
import Derived.Maps.AppendAt
import Derived.Deep.AppendLies
import Derived.Deep.RegionHeld3
import Derived.Outline
namespace Go.Proofs.Ytnebokpifgipfaa.fnJosephus
open Go.RowKit Pl
set_option linter.unusedVariables false

theorem info16 : (Try.prog.info? 22).map (fun i => (i.zero, i.size, i.bytes)) = some (some (.int .u16 0), 1, 2) := by kernel_rfl

/-- A ring's numbers as they lie in memory. -/
def ringV (l : List Nat) : List Value := l.map fun (x : Nat) => Value.int .u16 (x : Int)

theorem ringV_length (l : List Nat) : (ringV l).length = l.length := by simp [ringV]
theorem ringV_range (k : Nat) : ringV (List.range' 1 k) ++ [Value.int .u16 ((k : Int) + 1)] = ringV (List.range' 1 (k + 1)) := by
  simp [ringV, List.range'_1_concat, Int.add_comm]

/-- Behind an append of one number that was laid in a block of its own: old memory is as it was. -/
theorem rel_app {B k : Nat} {w wr w1 : World} {v : Value} {o : Obj} {xs : List Value} (hown : wr.ownsRow B 22 1 v k xs) (hbel : Below B w wr) (hB : B ≤ wr.heap.size) (hgrow : (wr.alloc o).grownBy w1 v.ownBlock) : Below B w w1 :=
  (hbel.alloc hB o).grown hgrow (by simp; omega) (fun j hj => (hown.lt j hj).1)

/-- An append to a slice that the call owns, at a step of a region that draws its order; nothing need be appended. -/
theorem step_append_at {P : Program} (w : World) {ops : Array Oper} {o : Oper} {a : Act} {K : Act → World → Prop} {Q : Exit → Act → World → Prop} {E : Prop} (hgd : o.guard = none) (s x : Operand) (t : TypeId)
    (ho : o.op = .call { callee := .builtin .append, args := #[s, x], argTypes := #[t, t] })
    (base : Nat) (e : TypeId) (i : TypeInfo) (z : Value) (size bytes : Nat) (ht : P.underlying t = some (.slice e)) (hi : P.info? e = some i) (hz : i.zero = some z)
    (hsize : i.size = size) (hby : i.bytes = bytes) (hzs : z.cells.size = size) (hsz : 0 < size)
    (v : Value) (n : Nat) (xs : List Value) (hs : a.eval s = v) (hown : w.ownsRow base e size v n xs)
    (ad : Addr) (m c : Nat) (news : List Value) (hx : a.eval x = .slice (some ad) m c) (hl : news.length = m * size) (hnews : ∀ j u, news[j]? = some u → w.cell? (ad.add j) = some u) (h1 : ∀ u ∈ news, u.oneCell' = true)
    (h63 : n + m ≤ maxLen) (hbytes : (n + m) * bytes ≤ 140737488355328) (hbase : base ≤ w.heap.size)
    (h : ∀ v' w', w'.ownsRow base e size v' (n + m) (xs ++ news) → w.grownBy w' v.ownBlock → (v'.ownBlock = v.ownBlock ∨ v'.ownBlock = some w.heap.size) → K (a.put o.dst v') w') :
    if Region.wanted o (yielded ops a.tmps) = true then Oper.wp P o a w K Q else E := by
  have hw : Region.wanted o (yielded ops a.tmps) = true := by simp [Region.wanted, hgd]
  rw [if_pos hw]
  obtain ⟨v', w', hr, h2, h3, _, h5⟩ := run_append_own_at (P := P) w base t o.type e i z size bytes ht hi hz hsize hby hzs hsz v n xs hown ad m c news hl hnews h1 h63 hbytes hbase
  unfold Oper.wp execOp
  simp only [ho, resolve, invoke, builtin, Sem.run_bind, Sem.run_pure, Result.andThen_ok, List.map_toArray, List.map_cons, List.map_nil, hs, hx, hr]
  exact h v' w' h2 h3 h5

theorem ringV_one (l : List Nat) : ∀ u ∈ ringV l, u.oneCell' = true := by
  intro u hu
  simp only [ringV, List.mem_map] at hu
  obtain ⟨x, _, rfl⟩ := hu
  rfl

theorem heap_fst (wr : World) (o o' : Obj) : ((wr.alloc o).alloc o').heap[wr.heap.size]? = some o :=
  (heap_alloc_old (wr.alloc o) o' (by simp)).trans (heap_alloc_new wr o)
theorem heap_snd (wr : World) (o o' : Obj) : ((wr.alloc o).alloc o').heap[wr.heap.size + 1]? = some o' := by
  have h := heap_alloc_new (wr.alloc o) o'
  have e : (wr.alloc o).heap.size = wr.heap.size + 1 := by simp
  rw [e] at h
  exact h

/-- A new slice of no elements owns nothing. -/
theorem own_empty {W : World} {B g : Nat} (h : W.heap[g]? = some (.cells #[] 22 (0, 0))) (hB : B ≤ g) : W.ownsRow B 22 1 (.slice (some ⟨g, 0, none⟩) 0 0) 0 [] :=
  ⟨by simp, .inr ⟨g, 0, #[], rfl, hB, h, Nat.le_refl _, by decide, rfl, rfl⟩⟩

/-- What the region keeps of memory: all that was there before it. -/
theorem keep_of {g : Nat} {u : Value} {wr W : World} (hg : g < wr.heap.size) (hc : wr.cell? ⟨g, 0, none⟩ = some u) (h : Below wr.heap.size wr W) : W.cell? ⟨g, 0, none⟩ = some u ∧ Below wr.heap.size wr W :=
  ⟨(h.cell hg).trans hc, h⟩
theorem below_alloc {wr W : World} (h : Below wr.heap.size wr W) (o : Obj) : Below wr.heap.size wr (W.alloc o) := h.alloc h.size o
theorem below_grown {wr W w1 : World} {E : Nat} {n c : Nat} (h : Below wr.heap.size wr W) (hg : W.grownBy w1 (Value.slice (some ⟨E, 0, none⟩) n c).ownBlock) (hE : wr.heap.size ≤ E) : Below wr.heap.size wr w1 :=
  h.grown hg h.size (fun k e => by simp only [Value.ownBlock, Option.some.injEq] at e; omega)

/-- Where the copy lies: in memory that the region has made. -/
theorem own_ge {wr W : World} {v1 : Value} {E n c : Nat} (hat : v1.ownBlock = (Value.slice (some ⟨E, 0, none⟩) n c).ownBlock ∨ v1.ownBlock = some W.heap.size) (hE : wr.heap.size ≤ E) (hW : wr.heap.size ≤ W.heap.size) : Hid (∀ k, v1.ownBlock = some k → wr.heap.size ≤ k) := by
  refine Lib.hid fun k hk => ?_
  rcases hat with h | h
  · rw [hk] at h; simp only [Value.ownBlock, Option.some.injEq] at h; omega
  · rw [hk] at h; simp only [Option.some.injEq] at h; omega
theorem below_grown2 {wr W w2 : World} {v1 : Value} (h : Below wr.heap.size wr W) (hg : W.grownBy w2 v1.ownBlock) (hv : Hid (∀ k, v1.ownBlock = some k → wr.heap.size ≤ k)) : Below wr.heap.size wr w2 :=
  h.grown hg h.size hv.out
/-- The one number that is appended, in a block that was laid before the copy was made. -/
theorem news_old {W w1 : World} {E b n c : Nat} {x : Value} (hg : W.grownBy w1 (Value.slice (some ⟨E, 0, none⟩) n c).ownBlock) (hb : W.heap[b]? = some (.cells #[x] 22 (0, 0))) (hlt : b < W.heap.size) (hne : b ≠ E) : w1.heap[b]? = some (.cells #[x] 22 (0, 0)) := by
  rw [hg.block b hlt (fun e => hne (by simpa [Value.ownBlock] using e))]
  exact hb
theorem news_one {W : World} {b : Nat} {x : Value} (hb : W.heap[b]? = some (.cells #[x] 22 (0, 0))) : ∀ j u, [x][j]? = some u → W.cell? ((⟨b, 0, none⟩ : Addr).add j) = some u :=
  World.news_of_block (cs := #[x]) (t := 22) (fr := (0, 0)) hb

/-- The numbers that are copied, read behind what the region has made so far. -/
theorem src_of {wr W : World} {ad : Addr} {xs : List Value} (hs : ∀ j u, xs[j]? = some u → wr.cell? (ad.add j) = some u) (hl : ∀ j, (ad.add j).block < wr.heap.size) (h : Below wr.heap.size wr W) : ∀ j u, xs[j]? = some u → W.cell? (ad.add j) = some u :=
  fun j u hj => (h.cell (hl j)).trans (hs j u hj)

/-- The length of a slice's value. -/
def lenOf : Value → Nat
  | .slice _ n _ => n
  | _ => 0

theorem addr_add (g o j : Nat) : (⟨g, o, none⟩ : Addr).add j = ⟨g, o + j, none⟩ := by
  unfold Addr.add; split <;> simp_all

/-- What is read of the ring in one round: where the rest of it begins, its numbers, the first one. -/
theorem src_facts {wr : World} {B g n cap a b : Nat} {r : List Nat} (h : wr.ownsRow B 22 1 (.slice (some ⟨g, 0, none⟩) (n + 1 + 1) cap) (n + 1 + 1) (ringV (a :: b :: r))) (hn : r.length = n) (hg : g < wr.heap.size) :
    ∃ ad : Addr, (if cap = 2 then some (⟨g, 0, none⟩ : Addr) else some ⟨g, 2, none⟩) = some ad ∧ Hid (∀ j u, (ringV r)[j]? = some u → wr.cell? (ad.add j) = some u) ∧ Hid (∀ j, (ad.add j).block < wr.heap.size) ∧ wr.cell? ⟨g, 0, none⟩ = some (.int .u16 (a : Int)) := by
  have h0 : wr.cell? ⟨g, 0, none⟩ = some (.int .u16 (a : Int)) := (h.cellAt 0 (by omega)).trans rfl
  have hcap : n + 1 + 1 ≤ cap := by
    rcases h.2 with ⟨h', _⟩ | ⟨g', cap', cur, h', _, _, hc, _⟩
    · simp at h'
    · simp only [Value.slice.injEq] at h'
      omega
  by_cases hc : cap = 2
  · refine ⟨⟨g, 0, none⟩, if_pos hc, Lib.hid fun j u hj => ?_, Lib.hid fun j => ?_, h0⟩
    · have hr : r = [] := List.length_eq_zero_iff.1 (by omega)
      subst hr
      simp [ringV] at hj
    · rw [addr_add]; exact hg
  · refine ⟨⟨g, 2, none⟩, if_neg hc, Lib.hid fun j u hj => ?_, Lib.hid fun j => ?_, h0⟩
    · have hlt : j < r.length := by
        have := (List.getElem?_eq_some_iff.1 hj).1
        rwa [ringV_length] at this
      rw [addr_add, h.cellAt (2 + j) (by omega), Nat.add_comm 2 j]
      exact hj
    · rw [addr_add]; exact hg

theorem one_of (l : List Nat) (h1 : 1 ≤ l.length) (h2 : ¬ 2 ≤ l.length) : ∃ x, l = [x] := by
  cases l with
  | nil => simp at h1
  | cons x t =>
    cases t with
    | nil => exact ⟨x, rfl⟩
    | cons y t => simp at h2

/-- The round's end. -/
theorem round_end {g n cap W a : Nat} {r : List Nat} {w wr w2 : World} {v2 : Value} (hn : r.length = n) (hn3 : n ≤ 298) (hj : jo (r ++ [a]) = W)
    (hown : w2.ownsRow w.heap.size 22 1 v2 (0 + n + 1) ([] ++ ringV r ++ [.int .u16 (a : Int)])) (hb : Below w.heap.size w wr) (hh : w2.cell? ⟨g, 0, none⟩ = some (.int .u16 (a : Int)) ∧ Below wr.heap.size wr w2) :
    (∃ l : List Nat, 1 ≤ l.length ∧ l.length ≤ 300 ∧ jo l = W ∧ w2.ownsRow w.heap.size 22 1 v2 l.length (ringV l) ∧ Below w.heap.size w w2) ∧ lenOf v2 < lenOf (.slice (some ⟨g, 0, none⟩) (n + 1 + 1) cap) := by
  have e : [] ++ ringV r ++ [Value.int .u16 (a : Int)] = ringV (r ++ [a]) := by simp [ringV]
  have el : (r ++ [a]).length = 0 + n + 1 := by simp [hn]
  rw [e] at hown
  refine ⟨⟨r ++ [a], by omega, by omega, hj, by rw [el]; exact hown, hb.trans (hh.2.mono hb.size)⟩, ?_⟩
  obtain ⟨g', cap', rfl, _, _⟩ := hown.form (by omega)
  show 0 + n + 1 < n + 1 + 1
  omega

set_option maxHeartbeats 1000000 in
theorem walk (a0 : Int) (w0 : (Lit.int .u16 a0).wf = true) (w : World) :
    Calls Try.prog 3 #[.int .u16 a0] w fun e w' => e = .returned (.bool true) ∧ Below w.heap.size w w' := by
  obtain ⟨b0, c0⟩ := bnd16 a0 w0
  clear w0
  obtain ⟨N, hN⟩ : ∃ N : Nat, a0 % 300 + 1 = (N : Int) := ⟨(a0 % 300 + 1).toNat, by omega⟩
  have hN1 : 1 ≤ N := by omega
  have hN3 : N ≤ 300 := by omega
  obtain ⟨L, hl, hL1, hL2, hL8⟩ := jo_len N hN1 hN3
  have hj := jo_all N L hL1 hL2
  have hr := jo_raw N L hL1 hN3
  have hwm : (N - 2 ^ L) * 2 + 1 ≤ 601 := by omega
  generalize (N - 2 ^ L) * 2 + 1 = W at hj hr hwm
  have HJ := Lib.hid hj
  have HL := Lib.hid hl
  clear hj hl hL1 hL2
  obtain ⟨i0, hi0, hz0, hz1, hz2⟩ := info_parts info16
  go_enter Try.func3, Try.ntmps3
  go_wp2_with fail
  with_reducible refine (implLen16 _ _ (by omega) (by omega)).mono ?_
  rintro e w' ⟨rfl, rfl⟩
  rw [Int.toNat_natCast, HL.out]
  have t1 : (((L : Nat) : Int) + 1 == 0) = false := beq_eq_false_iff_ne.2 (by omega)
  have t2 : 0 ≤ (L : Int) := by omega
  have t3 : (L : Int) ≤ 8 := by omega
  go_wp2_with fail
  clear hr t1 t2 t3 hN
  go_loopw [6, 7] (fun v i wr => ∃ k : Nat, k ≤ N ∧ i = .int .u16 ((k : Int) + 1) ∧ wr.ownsRow w.heap.size 22 1 v k (ringV (List.range' 1 k)) ∧ Below w.heap.size w wr) (fun _ i _ => N + 1 - (intOf i).toNat)
  case atStart => exact ⟨0, Nat.zero_le _, rfl, World.ownsRow_made w #[] 0 (Nat.le_refl _) (by decide) rfl, (Below.refl _ _).alloc (Nat.le_refl _) _⟩
  case round =>
    obtain ⟨k, hk, rfl, hown, hbel⟩ := hrel
    have hsz := hbel.size
    by_cases hlt : k < N
    · go_wp2_with (at_builtin; refine wpList_append_own _ rfl _ _ 24 rfl w.heap.size 22 i0 (.int .u16 0) 1 2 Try.underlying24 hi0 hz0 hz1 hz2 rfl (by decide) _ _ _ rfl (hown.alloc _) ⟨wr.heap.size, 0, none⟩ 1 1 [.int .u16 ((k : Int) + 1)] rfl rfl ?c1 ?c2 ?c3 ?c4 ?c5 ?_)
      case c1 =>
        intro j u hj
        match j, hj with
        | 0, hj => simp at hj; subst hj; simp [Addr.add]
      case c2 => intro u hu; simp at hu; subst hu; rfl
      case c3 => unfold maxLen; omega
      case c4 => omega
      case c5 => simp; omega
      · intro v' w1 hown' hgrow _
        have R := rel_app hown hbel (by omega) hgrow
        have hown2 : w1.ownsRow w.heap.size 22 1 v' (k + 1) (ringV (List.range' 1 (k + 1))) := by rw [← ringV_range]; exact hown'
        clear hown' hgrow hown
        go_wp2
        go_roundw
        case rel => exact ⟨k + 1, by omega, by go_num, hown2, R⟩
        case measure => simp [intOf]; omega
    · obtain rfl : k = N := by omega
      have tk : decide ((k : Int) + 1 ≤ (k : Int)) = false := decide_eq_false (by omega)
      go_wp2_with fail
      obtain ⟨wo, rfl⟩ : ∃ wo : World, wo = wr := ⟨_, rfl⟩
      go_loopw [6] (fun v wq => ∃ l : List Nat, 1 ≤ l.length ∧ l.length ≤ 300 ∧ jo l = W ∧ wq.ownsRow w.heap.size 22 1 v l.length (ringV l) ∧ Below w.heap.size w wq) (fun v _ => lenOf v)
      case atStart => exact ⟨List.range' 1 k, by simp; omega, by simp; omega, HJ.out, by simpa using hown, hbel⟩
      case round =>
        obtain ⟨l, hl1, hl3, hjl, hown2, hbel2⟩ := hrel
        clear hown hbel hsz
        by_cases h2 : 2 ≤ l.length
        · obtain ⟨a, b, r, rfl⟩ : ∃ a b r, l = a :: b :: r := by
            match l, h2 with
            | a :: b :: r, _ => exact ⟨a, b, r, rfl⟩
          obtain ⟨g, cap, rfl, hbg, hglt⟩ := hown2.form (by simp)
          obtain ⟨n, hn⟩ : ∃ n, r.length = n := ⟨_, rfl⟩
          rw [jo_step] at hjl
          simp only [List.length_cons, hn] at hl3 hown2
          have hn3 : n ≤ 298 := by omega
          obtain ⟨ad, hif, HSRC, HADL, hca⟩ := src_facts hown2 hn hglt
          have HJL := Lib.hid hjl
          have HN := Lib.hid hn
          clear hl1 hl3 h2 hjl
          simp only [List.length_cons, hn]
          clear hn
          have e2 : (2 : Int) ≤ (n : Int) + 1 + 1 := by omega
          have e3 : (0 : Int) < (n : Int) + 1 + 1 := by omega
          have e4 : 0 < n + 1 + 1 := by omega
          have hwr := hbel2.size
          go_wp2_with fail
          go_region_held3 (fun w' => w'.cell? ⟨g, 0, none⟩ = some (.int .u16 (a : Int)) ∧ Below wr.heap.size wr w')
            (first
              | (refine keep_of hglt hca ?_; (repeat (first | exact Below.refl _ _ | apply Below.drew | apply below_alloc)); done)
              | (refine keep_of hglt hca (below_grown ?_ hgrow1 (by omega)); (repeat (first | exact Below.refl _ _ | apply Below.drew | apply below_alloc)); done)
              | (refine keep_of hglt hca (below_alloc (below_grown ?_ hgrow1 (by omega)) _); (repeat (first | exact Below.refl _ _ | apply Below.drew | apply below_alloc)); done)
              | (refine keep_of hglt hca (below_grown2 (below_grown ?_ hgrow1 (by omega)) hgrow3 hv1); (repeat (first | exact Below.refl _ _ | apply Below.drew | apply below_alloc)); done)
              | (refine keep_of hglt hca (below_grown2 (below_alloc (below_grown ?_ hgrow1 (by omega)) _) hgrow3 hv1); (repeat (first | exact Below.refl _ _ | apply Below.drew | apply below_alloc)); done))
            (first
              | (refine step_append_at _ (by rfl) (.tmp 35) (.tmp 37) 24 (by rfl) w.heap.size 22 i0 (.int .u16 0) 1 2 Try.underlying24 hi0 hz0 hz1 hz2 rfl (by decide) (.slice (some ⟨wr.heap.size, 0, none⟩) 0 0) 0 [] (by rfl) (own_empty (by first | exact heap_alloc_new _ _ | exact heap_fst _ _ _ | exact heap_snd _ _ _) (by omega)) ad n (cap - 2) (ringV r) (by rfl) (by rw [ringV_length, HN.out, Nat.mul_one]) (src_of HSRC.out HADL.out (by repeat (first | exact Below.refl _ _ | apply Below.drew | apply below_alloc))) (ringV_one r) (by unfold maxLen; omega) (by omega) (by simp; omega) ?_; intro v1 w1 hown1 hgrow1 hat1; have hv1 := own_ge (wr := wr) hat1 (by omega) (by simp <;> omega); clear hat1)
              | (refine step_append_at _ (by rfl) (.tmp 35) (.tmp 37) 24 (by rfl) w.heap.size 22 i0 (.int .u16 0) 1 2 Try.underlying24 hi0 hz0 hz1 hz2 rfl (by decide) (.slice (some ⟨wr.heap.size + 1, 0, none⟩) 0 0) 0 [] (by rfl) (own_empty (by first | exact heap_alloc_new _ _ | exact heap_fst _ _ _ | exact heap_snd _ _ _) (by omega)) ad n (cap - 2) (ringV r) (by rfl) (by rw [ringV_length, HN.out, Nat.mul_one]) (src_of HSRC.out HADL.out (by repeat (first | exact Below.refl _ _ | apply Below.drew | apply below_alloc))) (ringV_one r) (by unfold maxLen; omega) (by omega) (by simp; omega) ?_; intro v1 w1 hown1 hgrow1 hat1; have hv1 := own_ge (wr := wr) hat1 (by omega) (by simp <;> omega); clear hat1)
              | (refine step_append_at _ (by rfl) (.tmp 38) (.tmp 42) 24 (by rfl) w.heap.size 22 i0 (.int .u16 0) 1 2 Try.underlying24 hi0 hz0 hz1 hz2 rfl (by decide) v1 (0 + n) ([] ++ ringV r) (by rfl) (by repeat (first | exact hown1 | apply World.ownsRow.drew | apply World.ownsRow.alloc)) ⟨wr.heap.size, 0, none⟩ 1 1 [.int .u16 (a : Int)] (by rfl) rfl (news_one (news_old hgrow1 (by first | exact heap_alloc_new _ _ | exact heap_fst _ _ _ | exact heap_snd _ _ _) (by simp <;> omega) (by omega))) (by simp [Value.oneCell']) (by unfold maxLen; omega) (by omega) (by have := hgrow1.size; simp at this ⊢; omega) ?_; intro v2 w2 hown3 hgrow3 hat3; clear hat3)
              | (refine step_append_at _ (by rfl) (.tmp 38) (.tmp 42) 24 (by rfl) w.heap.size 22 i0 (.int .u16 0) 1 2 Try.underlying24 hi0 hz0 hz1 hz2 rfl (by decide) v1 (0 + n) ([] ++ ringV r) (by rfl) (by repeat (first | exact hown1 | apply World.ownsRow.drew | apply World.ownsRow.alloc)) ⟨wr.heap.size + 1, 0, none⟩ 1 1 [.int .u16 (a : Int)] (by rfl) rfl (news_one (news_old hgrow1 (by first | exact heap_alloc_new _ _ | exact heap_fst _ _ _ | exact heap_snd _ _ _) (by simp <;> omega) (by omega))) (by simp [Value.oneCell']) (by unfold maxLen; omega) (by omega) (by have := hgrow1.size; simp at this ⊢; omega) ?_; intro v2 w2 hown3 hgrow3 hat3; clear hat3)
              | (refine step_append_at _ (by rfl) (.tmp 38) (.tmp 42) 24 (by rfl) w.heap.size 22 i0 (.int .u16 0) 1 2 Try.underlying24 hi0 hz0 hz1 hz2 rfl (by decide) v1 (0 + n) ([] ++ ringV r) (by rfl) (by repeat (first | exact hown1 | apply World.ownsRow.drew | apply World.ownsRow.alloc)) ⟨w1.heap.size, 0, none⟩ 1 1 [.int .u16 (a : Int)] (by rfl) rfl (news_one (by first | exact heap_alloc_new _ _ | exact heap_fst _ _ _ | exact heap_snd _ _ _)) (by simp [Value.oneCell']) (by unfold maxLen; omega) (by omega) (by have := hgrow1.size; simp at this ⊢; omega) ?_; intro v2 w2 hown3 hgrow3 hat3; clear hat3))
          all_goals go_wp2_with fail
          all_goals exact round_end HN.out hn3 HJL.out hown3 hbel2 (by assumption)
        · obtain ⟨x, rfl⟩ := one_of l hl1 h2
          obtain ⟨g, cap, rfl, hbg, hglt⟩ := hown2.form (by simp)
          rw [jo_one] at hjl
          subst hjl
          have hca : wr.cell? ⟨g, 0, none⟩ = some (.int .u16 (x : Int)) := (hown2.cellAt 0 (by simp)).trans rfl
          clear hown2 hl1 hl3 h2
          simp only [List.length_singleton]
          go_wp2_with fail
          go_ret
          exact ⟨rfl, hbel2⟩
end Go.Proofs.Ytnebokpifgipfaa.fnJosephus
