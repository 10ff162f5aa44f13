import Derived.Test.Qxb6616764aHas
import Derived.RegionTactic
import Derived.BigRegion
namespace Go.Proofs.Qxb6616764a
open Go.RowKit

/-- WHAT THE WALK IS TOLD OF THE TERMS THAT CAME IN. -/
def Terms (w : World) (a : Option Addr) (n : Nat) (ts : List (Int × Int)) : Prop :=
  n = ts.length ∧ (a = none → n = 0) ∧ ∀ j x, ts[j]? = some x → ∃ b off, a = some ⟨b, off, none⟩ ∧ b < w.heap.size ∧ w.cell? ⟨b, off + j * 2, none⟩ = some (.int .i64 x.1) ∧ w.cell? ⟨b, off + j * 2 + 1, none⟩ = some (.int .i64 x.2)
theorem Terms.len {w : World} {a : Option Addr} {n : Nat} {ts : List (Int × Int)} (h : Terms w a n ts) : n = ts.length := h.1
theorem Terms.on {w w' : World} {a : Option Addr} {n : Nat} {ts : List (Int × Int)} (h : Terms w a n ts) (hg : w.grownBy w' none) : Terms w' a n ts :=
  ⟨h.1, h.2.1, fun j x hx => by
    obtain ⟨b, off, h1, h2, h3, h4⟩ := h.2.2 j x hx
    exact ⟨b, off, h1, Nat.lt_of_lt_of_le h2 hg.size, hg.cell h3 (by simp), hg.cell h4 (by simp)⟩⟩
theorem Terms.get {w : World} {a : Option Addr} {n : Nat} {ts : List (Int × Int)} (h : Terms w a n ts) {j : Nat} (hj : j < n) : ∃ x b off, ts[j]? = some x ∧ a = some ⟨b, off, none⟩ ∧ b < w.heap.size ∧ w.cell? ⟨b, off + j * 2, none⟩ = some (.int .i64 x.1) ∧ w.cell? ⟨b, off + j * 2 + 1, none⟩ = some (.int .i64 x.2) := by
  have hj' : j < ts.length := by rw [← h.1]; exact hj
  obtain ⟨b, off, h1⟩ := h.2.2 j ts[j] (List.getElem?_eq_getElem hj')
  exact ⟨_, b, off, List.getElem?_eq_getElem hj', h1⟩

set_option maxHeartbeats 400000 in
theorem zz11 (c x : Int) (a : Option Addr) (n cap : Nat) (hn : n ≤ 9223372036854775807) (w : World) :
    Calls Try.prog 11 #[.int .i64 c, .slice a n cap, .int .i64 x] w fun e w' => e = .returned (.bool (decide (n ≤ 1048576))) ∧ w' = w := by
  by_cases h : n ≤ 1048576
  · rw [decide_eq_true h]
    go_enter Try.func11, Try.ntmps11
    go_wp2
    go_ret
    exact ⟨rfl, rfl⟩
  · rw [decide_eq_false h]
    go_enter Try.func11, Try.ntmps11
    go_wp2
    go_ret
    exact ⟨rfl, rfl⟩
set_option maxHeartbeats 400000 in
theorem zz13 (c : Int) (a : Option Addr) (n cap : Nat) (hn : n ≤ 9223372036854775807) (w : World) :
    Calls Try.prog 13 #[.int .i64 c, .slice a n cap] w fun e w' => e = .returned (.bool (decide (n ≤ 1048576))) ∧ w' = w := by
  by_cases h : n ≤ 1048576
  · rw [decide_eq_true h]
    go_enter Try.func13, Try.ntmps13
    go_wp2
    go_ret
    exact ⟨rfl, rfl⟩
  · rw [decide_eq_false h]
    go_enter Try.func13, Try.ntmps13
    go_wp2
    go_ret
    exact ⟨rfl, rfl⟩
set_option maxHeartbeats 400000 in
theorem zz14 (c x y : Int) (a : Option Addr) (n cap : Nat) (hn : n ≤ 9223372036854775807) (w : World) :
    Calls Try.prog 14 #[.int .i64 c, .slice a n cap, .int .i64 x, .int .i64 y] w fun e w' => e = .returned (.bool (decide (n ≤ 1048576))) ∧ w' = w := by
  by_cases h : n ≤ 1048576
  · rw [decide_eq_true h]
    go_enter Try.func14, Try.ntmps14
    go_wp2
    go_ret
    exact ⟨rfl, rfl⟩
  · rw [decide_eq_false h]
    go_enter Try.func14, Try.ntmps14
    go_wp2
    go_ret
    exact ⟨rfl, rfl⟩
set_option maxHeartbeats 400000 in
theorem zz18 (c x vx v d : Int) (a : Option Addr) (n cap : Nat) (hn : n ≤ 9223372036854775807) (w : World) :
    Calls Try.prog 18 #[.int .i64 c, .slice a n cap, .int .i64 x, .int .i64 vx, .int .i64 v, .int .i64 d] w fun e w' => e = .returned (.bool (decide (n ≤ 1048576))) ∧ w' = w := by
  by_cases h : n ≤ 1048576
  · rw [decide_eq_true h]
    go_enter Try.func18, Try.ntmps18
    go_wp2
    go_ret
    exact ⟨rfl, rfl⟩
  · rw [decide_eq_false h]
    go_enter Try.func18, Try.ntmps18
    go_wp2
    go_ret
    exact ⟨rfl, rfl⟩

set_option maxHeartbeats 400000 in
theorem toForm_nil (c : Int) (cap : Nat) (w : World) :
    Calls Try.prog 12 #[.int .i64 c, .slice none 0 cap] w fun e w' => e = .returned (.agg #[.int .i64 c, .slice none 0 0]) ∧ w.grownBy w' none := by
  have q31 : ∀ (w : World) (a : Option Addr) (n c n' c' : Nat), (binOp .eql 31 (.slice a n c) (.slice none n' c')).run Try.prog w = .ok (.bool a.isNone) w := fun w a n c n' c' => Lib.run_eql_slice_nil w _ _ a n c n' c' Try.underlying31
  go_enter Try.func12, Try.ntmps12
  go_wp2
  refine bodyPost_ret (v := .agg #[.int .i64 c, .slice none 0 0]) (by simp [results, Try.results12, go_sem]) rfl ⟨rfl, ?_⟩
  exact World.grownBy_alloc _ _ _

theorem made_cells (n : Nat) : (madeCells (Value.agg #[.int .i64 0, .int .i64 0]).cells (n * 2)).toList = cellsOf (List.replicate n (0, 0)) := by
  apply List.ext_getElem?
  intro i
  have hl : (cellsOf (List.replicate n (0, 0))).length = n * 2 := by rw [length_cellsOf]; simp
  by_cases h : i < n * 2
  · obtain ⟨j, hj⟩ : ∃ j, i = j * 2 ∨ i = j * 2 + 1 := ⟨i / 2, by omega⟩
    have hjn : j < n := by omega
    have hg := cellsOf_get0 (List.replicate n (0, 0)) j (0, 0) (by simp [hjn])
    have e : (madeCells (Value.agg #[.int .i64 0, .int .i64 0]).cells (n * 2)).toList[i]? = some (Value.int .i64 0) := by
      simp [madeCells, Value.cells, h]
      rcases Nat.mod_two_eq_zero_or_one i with h | h <;> simp [h]
    rw [e]
    rcases hj with rfl | rfl
    · exact hg.1.symm
    · exact hg.2.symm
  · rw [List.getElem?_eq_none (by simp [madeCells]; omega), List.getElem?_eq_none (by omega)]

theorem info29' : ∃ i0, Try.prog.info? 29 = some i0 ∧ i0.zero = some (.agg #[.int .i64 0, .int .i64 0]) ∧ i0.size = 2 ∧ i0.bytes = 16 := by
  have := info29
  cases h : Try.prog.info? 29 with
  | none => rw [h] at this; simp at this
  | some i => rw [h] at this; simp at this; exact ⟨i, rfl, this⟩

/-- k terms laid. -/
def laid (ts : List (Int × Int)) (k : Nat) : List (Int × Int) := ts.take k ++ List.replicate (ts.length - k) (0, 0)
theorem laid_zero (ts : List (Int × Int)) : laid ts 0 = List.replicate ts.length (0, 0) := by simp [laid]
theorem laid_all (ts : List (Int × Int)) : laid ts ts.length = ts := by simp [laid]
theorem laid_get (ts : List (Int × Int)) (k : Nat) (h : k < ts.length) : (laid ts k)[k]? = some (0, 0) := by
  unfold laid
  rw [List.getElem?_append_right (by rw [List.length_take]; omega), List.length_take, Nat.min_eq_left (by omega), Nat.sub_self, List.getElem?_replicate, if_pos (by omega)]
theorem laid_succ (ts : List (Int × Int)) (k : Nat) (x : Int × Int) (h : ts[k]? = some x) : (laid ts k).set k x = laid ts (k + 1) := by
  have hk : k < ts.length := (List.getElem?_eq_some_iff.1 h).1
  unfold laid
  rw [List.set_append_right _ _ (by rw [List.length_take]; omega), List.take_add_one, h]
  obtain ⟨m, hm⟩ : ∃ m, ts.length - k = m + 1 := ⟨ts.length - k - 1, by omega⟩
  rw [hm, show ts.length - (k + 1) = m by omega, List.length_take, Nat.min_eq_left (by omega), Nat.sub_self, List.replicate_succ]
  simp

set_option maxHeartbeats 1000000 in
theorem toForm_row (c : Int) (x : Addr) (n cap : Nat) (ts : List (Int × Int)) (hn : n ≤ 8796093022208) (w : World) (ht : Terms w (some x) n ts) :
    Calls Try.prog 12 #[.int .i64 c, .slice (some x) n cap] w fun e w' => ∃ g, e = .returned (.agg #[.int .i64 c, .slice (some ⟨g, 0, none⟩) n n]) ∧ Has w' (some ⟨g, 0, none⟩) n n ts ∧ w.grownBy w' none := by
  have q31 : ∀ (w : World) (a : Option Addr) (n c n' c' : Nat), (binOp .eql 31 (.slice a n c) (.slice none n' c')).run Try.prog w = .ok (.bool a.isNone) w := fun w a n c n' c' => Lib.run_eql_slice_nil w _ _ a n c n' c' Try.underlying31
  obtain ⟨i0, hi, hz0, hz1, hz2⟩ := info29'
  obtain ⟨w1, hmk, hown, hg1⟩ := run_make_full (P := Try.prog) (w.alloc (.cells #[.int .i64 0, .slice none 0 0] 25)) (w.heap.size + 1) 23 29 i0 _ 2 Try.underlying23 hi hz0 hz1 .i64 .i64 n (by rw [hz2]; omega) (by unfold maxLen; omega) (by simp)
  rw [made_cells, World.size_alloc] at hown
  rw [World.size_alloc] at hmk
  have T : Aside (Terms w (some x) n ts) := ht
  have O1 : Aside (w1.ownsRow (w.heap.size + 1) 29 2 (.slice (some ⟨w.heap.size + 1, 0, none⟩) n n) n (cellsOf (List.replicate n (0, 0)))) := hown
  have G1 : Aside ((w.alloc (.cells #[.int .i64 0, .slice none 0 0] 25)).grownBy w1 none) := hg1
  clear ht hown hg1 hi hz0 hz1 hz2
  go_enter Try.func12, Try.ntmps12
  go_wp2
  go_loopg [6] n (fun gg s6 wr => ∃ k : Nat, k ≤ n ∧ n - k ≤ gg ∧ s6 = .int .i64 k ∧ Aside (wr.ownsRow (w.heap.size + 1) 29 2 (.slice (some ⟨w.heap.size + 1, 0, none⟩) n n) n (cellsOf (laid ts k))) ∧ Aside (w1.grownBy wr (some (w.heap.size + 1))))
  case atStart => exact ⟨0, Nat.zero_le _, by omega, rfl, by rw [laid_zero, ← T.out.len]; exact O1.out, World.grownBy.refl _ _⟩
  case round =>
    obtain ⟨k, hk, hgg, rfl, O2, G2⟩ := hrel
    by_cases hlt : k < n
    · have hltz : (k : Int) < (n : Int) := by omega
      obtain ⟨y, b, off, hy, hx, hb, c0, c1⟩ := T.out.get hlt
      simp only [Option.some.injEq] at hx
      subst hx
      have g0 : wr.cell? ⟨b, off + k * 2, none⟩ = some (.int .i64 y.1) := G2.out.cell (G1.out.cell (Lib.cell?_alloc_some _ c0) (by simp)) (by simp; omega)
      have g1 : wr.cell? ⟨b, off + k * 2 + 1, none⟩ = some (.int .i64 y.2) := G2.out.cell (G1.out.cell (Lib.cell?_alloc_some _ c1) (by simp)) (by simp; omega)
      obtain ⟨r0, r1⟩ := owns_term O2.out (laid_get ts k (by rw [← T.out.len]; exact hlt))
      have f0 := O2.out.frozenAt (k * 2)
      have f1 := O2.out.frozenAt (k * 2 + 1)
      have Y : Aside (ts[k]? = some y) := hy
      clear hy c0 c1 q31 hmk
      go_wp2_with fail
      go_region
      all_goals
        go_wp2
        go_roundg (n - (k + 1))
        case measure => omega
        case rel =>
          obtain ⟨o2, s2⟩ := O2.out.stored (k * 2) (.int .i64 y.1)
          obtain ⟨o3, s3⟩ := o2.stored (k * 2 + 1) (.int .i64 y.2)
          rw [cellsOf_set, laid_succ ts k y Y.out] at o3
          exact ⟨k + 1, by omega, Nat.le_refl _, by go_num, o3, gb_drew (G2.out.trans (s2.trans s3))⟩
    · have : k = n := by omega
      subst this
      have hltz : ¬ (k : Int) < (k : Int) := by omega
      have e0 : (w.alloc (.cells #[.int .i64 0, .slice none 0 0] 25)).cell? ⟨w.heap.size, 0, none⟩ = some (.int .i64 0) := by go_simp
      have e1 : (w.alloc (.cells #[.int .i64 0, .slice none 0 0] 25)).cell? ⟨w.heap.size, 1, none⟩ = some (.slice none 0 0) := by go_simp
      have r0 : wr.cell? ⟨w.heap.size, 0, none⟩ = some (.int .i64 0) := G2.out.cell (G1.out.cell e0 (by simp)) (by simp)
      have r1 : wr.cell? ⟨w.heap.size, 1, none⟩ = some (.slice none 0 0) := G2.out.cell (G1.out.cell e1 (by simp)) (by simp)
      have hs1 : w.heap.size < w1.heap.size := by have := G1.out.size; rw [World.size_alloc] at this; omega
      have fz : ∀ i, wr.frozen? ⟨w.heap.size, i, none⟩ = false := fun i => by
        rw [G2.out.frozen_far ⟨w.heap.size, i, none⟩ hs1 (by simp), G1.out.frozen_far ⟨w.heap.size, i, none⟩ (by simp) (by simp)]
        go_simp
      have f0 := fz 0
      have f1 := fz 1
      have g01 : w.grownBy wr none := ((World.grownBy_alloc w _ none).trans G1.out).andThen G2.out (fun j hj => .inl (by simp at hj; omega))
      have GW : Aside (w.grownBy wr none) := g01
      clear fz e0 e1 q31 hmk hs1 g01
      go_wp2
      refine bodyPost_ret (v := .agg #[.int .i64 c, .slice (some ⟨w.heap.size + 1, 0, none⟩) k k]) (by simp [results, Try.results12, go_sem, r0, r1]) rfl ⟨w.heap.size + 1, rfl, ?_, ?_⟩
      · have o := O2.out
        rw [T.out.len, laid_all, ← T.out.len] at o
        exact owns_mono (o.kept ((gset wr w.heap.size 0 _).trans (gset _ w.heap.size 1 _)) (.inr (by simp [Value.ownBlock]))) (Nat.zero_le _)
      · exact gb_set (gb_set GW.out _ (Nat.le_refl _) _) _ (Nat.le_refl _) _

theorem toForm_any (c : Int) (a : Option Addr) (n cap : Nat) (ts : List (Int × Int)) (hn : n ≤ 8796093022208) (w : World) (ht : Terms w a n ts) :
    Calls Try.prog 12 #[.int .i64 c, .slice a n cap] w fun e w' => ∃ a' cap', e = .returned (.agg #[.int .i64 c, .slice a' n cap']) ∧ Has w' a' n cap' ts ∧ w.grownBy w' none := by
  cases a with
  | none =>
    obtain rfl := ht.2.1 rfl
    obtain rfl : ts = [] := List.eq_nil_of_length_eq_zero ht.1.symm
    refine (toForm_nil c cap w).mono ?_
    rintro e w' ⟨rfl, hg⟩
    exact ⟨none, 0, rfl, World.ownsRow_nil _ _ _ _, hg⟩
  | some x =>
    refine (toForm_row c x n cap ts hn w ht).mono ?_
    rintro e w' ⟨g, rfl, h1, h2⟩
    exact ⟨_, _, rfl, h1, h2⟩
end Go.Proofs.Qxb6616764a
