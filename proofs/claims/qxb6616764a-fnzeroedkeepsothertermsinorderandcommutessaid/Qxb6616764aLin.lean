import Derived.Test.Qxb6616764aProg
import Derived.WalkKit
import Derived.WalkSpells
import Derived.WalkLawsBesides
import Derived.Deep.LoopGhost
import Derived.Lib.SliceRun
import Derived.Maps.RangeWalk
import Derived.Deep.RegionWith
import Derived.Deep.Heap
namespace Go.Proofs.Qxb6616764a
open Go.RowKit

theorem ret_bool {a b : Bool} (h : a = b) : Ending.returned (.bool a) = .returned (.bool b) := by rw [h]
theorem ret_int {k : IntKind} {a b : Int} (h : a = b) : Ending.returned (.int k a) = .returned (.int k b) := by rw [h]

/-- The cells of a row of terms. -/
def cellsOf (ts : List (Int × Int)) : List Value := ts.flatMap fun x => [.int .i64 x.1, .int .i64 x.2]

theorem length_cellsOf (ts : List (Int × Int)) : (cellsOf ts).length = ts.length * 2 := by
  induction ts with
  | nil => rfl
  | cons x r ih => simp [cellsOf] at ih ⊢; omega
theorem cellsOf_cons (x : Int × Int) (r : List (Int × Int)) : cellsOf (x :: r) = .int .i64 x.1 :: .int .i64 x.2 :: cellsOf r := by simp [cellsOf]
theorem cellsOf_append (a b : List (Int × Int)) : cellsOf (a ++ b) = cellsOf a ++ cellsOf b := by simp [cellsOf]
theorem cellsOf_get0 (ts : List (Int × Int)) (j : Nat) (x : Int × Int) (h : ts[j]? = some x) : (cellsOf ts)[j * 2]? = some (.int .i64 x.1) ∧ (cellsOf ts)[j * 2 + 1]? = some (.int .i64 x.2) := by
  induction ts generalizing j with
  | nil => simp at h
  | cons y r ih =>
    rw [cellsOf_cons]
    cases j with
    | zero => simp at h; subst h; simp
    | succ j =>
      have := ih j (by simpa using h)
      rw [show (j + 1) * 2 = j * 2 + 2 by omega]
      simpa using this
theorem cellsOf_one (ts : List (Int × Int)) : ∀ u ∈ cellsOf ts, u.oneCell' = true := by
  intro u hu
  simp only [cellsOf, List.mem_flatMap] at hu
  obtain ⟨x, _, hx⟩ := hu
  simp at hx
  rcases hx with rfl | rfl <;> rfl

set_option maxHeartbeats 400000 in
theorem clos (x k y : Int) (B : Nat) (w : World) (hB : B < w.heap.size) (hc : w.cell? ⟨B, 0, none⟩ = some (.int .i64 y)) :
    Calls Try.prog 22 #[.agg #[.int .i64 x, .int .i64 k], .pointer (some ⟨B, 0, none⟩)] w fun e w' => e = .returned (.bool (x == y)) ∧ w.grownBy w' none := by
  have hne : B ≠ w.heap.size := by omega
  go_enter Try.func22, Try.ntmps22
  go_wp2
  all_goals (go_ret; exact ⟨by simp_all, World.grownBy_alloc _ _ _⟩)

set_option maxHeartbeats 400000 in
theorem isConst (c : Int) (a : Option Addr) (n cap : Nat) (w : World) :
    Calls Try.prog 9 #[.agg #[.int .i64 c, .slice a n cap]] w fun e w' => e = .returned (.bool (decide (n = 0))) ∧ w.grownBy w' none := by
  go_enter Try.func9, Try.ntmps9
  go_wp2
  all_goals (go_ret; exact ⟨ret_bool (by rw [Bool.eq_iff_iff]; simp), World.grownBy_alloc _ _ _⟩)

set_option maxHeartbeats 400000 in
theorem var (x : Int) (w : World) :
    Calls Try.prog 8 #[.int .i64 x] w fun e w' => ∃ v, e = .returned (.agg #[.int .i64 0, v]) ∧ w'.ownsRow w.heap.size 29 2 v 1 (cellsOf [(x, 1)]) ∧ w.grownBy w' none := by
  go_enter Try.func8, Try.ntmps8
  go_wp2
  refine bodyPost_ret (v := .agg #[.int .i64 0, .slice (some ⟨w.heap.size + 1, 0, none⟩) 1 1]) (by simp [results, Try.results8, go_sem]) rfl ⟨_, rfl, ?_, ?_⟩
  · exact ⟨rfl, .inr ⟨w.heap.size + 1, 1, #[.int .i64 x, .int .i64 1], rfl, by omega, by have h := Deep.blk_alloc_new (w.alloc (.cells #[.int .i64 0, .slice (some ⟨w.heap.size + 1, 0, none⟩) 1 1] 25)) (.cells #[.int .i64 x, .int .i64 1] 29); rwa [World.size_alloc] at h, by omega, by decide, rfl, rfl⟩⟩ -- #[.int .i64 0, .slice (some ⟨w.heap.size + 1, 0, none⟩) 1 1] 25)]; exact Deep.blk_alloc_new _ _, by omega, by decide, rfl, rfl⟩⟩
  · exact (World.grownBy_alloc w _ none).trans (World.grownBy_alloc _ _ none)

theorem info29 : (Try.prog.info? 29).map (fun i => (i.zero, i.size, i.bytes)) = some (some (.agg #[.int .i64 0, .int .i64 0]), 2, 16) := by kernel_rfl

set_option maxHeartbeats 400000 in
theorem clone_nil (w : World) : Calls Try.prog 21 #[.slice none 0 0] w fun e w' => e = .returned (.slice none 0 0) ∧ w' = w := by
  have q23 : ∀ (w : World) (a : Option Addr) (n c n' c' : Nat), (binOp .eql 23 (.slice a n c) (.slice none n' c')).run Try.prog w = .ok (.bool a.isNone) w := fun w a n c n' c' => Lib.run_eql_slice_nil w _ _ a n c n' c' Try.underlying23
  go_enter Try.func21, Try.ntmps21
  go_wp2
  go_ret
  exact ⟨rfl, rfl⟩

set_option maxHeartbeats 400000 in
theorem clone_row (b n c : Nat) (news : List Value) (w : World) (hl : news.length = n * 2) (hn : n ≤ 8796093022208)
    (hc : ∀ j u, news[j]? = some u → w.cell? ⟨b, 0 + j, none⟩ = some u) (h1 : ∀ u ∈ news, u.oneCell' = true) :
    Calls Try.prog 21 #[.slice (some ⟨b, 0, none⟩) n c] w fun e w' => ∃ g cap, e = .returned (.slice (some ⟨g, 0, none⟩) n cap) ∧ w'.ownsRow w.heap.size 29 2 (.slice (some ⟨g, 0, none⟩) n cap) n news ∧ w.grownBy w' none := by
  obtain ⟨i0, hi, hz0, hz1, hz2⟩ : ∃ i0, Try.prog.info? 29 = some i0 ∧ i0.zero = some (.agg #[.int .i64 0, .int .i64 0]) ∧ i0.size = 2 ∧ i0.bytes = 16 := by
    have := info29
    cases h : Try.prog.info? 29 with
    | none => rw [h] at this; simp at this
    | some i => rw [h] at this; simp at this; exact ⟨i, rfl, this⟩
  have q23 : ∀ (w : World) (a : Option Addr) (n c n' c' : Nat), (binOp .eql 23 (.slice a n c) (.slice none n' c')).run Try.prog w = .ok (.bool a.isNone) w := fun w a n c n' c' => Lib.run_eql_slice_nil w _ _ a n c n' c' Try.underlying23
  have A : Aside (∀ j u, news[j]? = some u → w.cell? ⟨b, 0 + j, none⟩ = some u) := hc
  have HI : Aside (Try.prog.info? 29 = some i0 ∧ i0.zero = some (.agg #[.int .i64 0, .int .i64 0]) ∧ i0.size = 2 ∧ i0.bytes = 16) := ⟨hi, hz0, hz1, hz2⟩
  clear hc hi hz0 hz1 hz2
  go_enter Try.func21, Try.ntmps21
  go_wp2_with (at_builtin; refine wpList_append_own _ rfl _ _ 23 rfl w.heap.size 29 i0 _ 2 16 Try.underlying23 HI.out.1 HI.out.2.1 HI.out.2.2.1 HI.out.2.2.2 rfl (by omega) _ _ _ rfl (World.ownsRow_made w #[] 0 (Nat.le_refl _) (Nat.zero_le _) (by simp)) ⟨b, 0, none⟩ n c news rfl ?qc1 ?qc2 ?qc3 ?qc4 ?qc5 ?qc6 ?_)
  case qc1 => exact hl
  case qc2 =>
    intro j u hj
    rw [Addr.add_lit]
    exact Lib.cell?_alloc_some _ (A.out j u hj)
  case qc3 => exact h1
  case qc4 => unfold maxLen; omega
  case qc5 => omega
  case qc6 => simp
  intro v' w1 hown hgrow hnil
  go_wp2
  go_ret
  have hown' : w1.ownsRow w.heap.size 29 2 v' n news := by simpa using hown
  obtain ⟨g, cap, rfl⟩ : ∃ g cap, v' = .slice (some ⟨g, 0, none⟩) n cap := by
    rcases hown'.2 with ⟨h, _⟩ | ⟨g, cap, _, h, _⟩
    · exact absurd h hnil
    · exact ⟨g, cap, h⟩
  refine ⟨g, cap, rfl, hown', ?_⟩
  exact (World.grownBy_alloc w _ none).andThen hgrow (fun j hj => by simp [Value.ownBlock] at hj; omega)

/-- No term is on y. -/
def NoHit (ts : List (Int × Int)) (y : Int) : Prop := ∀ x ∈ ts, (x.1 == y) = false
/-- The first term on y lies at k. -/
def FirstHit (ts : List (Int × Int)) (y : Int) (k : Nat) : Prop := ∃ x, ts[k]? = some x ∧ (x.1 == y) = true ∧ ∀ (j : Nat) (x : Int × Int), j < k → ts[j]? = some x → (x.1 == y) = false

set_option maxHeartbeats 1000000 in
theorem indexFunc (b n cap : Nat) (ts : List (Int × Int)) (y : Int) (B : Nat) (w : World) (hn : n = ts.length) (hbig : n ≤ 9223372036854775807) (hB : B < w.heap.size)
    (hc : w.cell? ⟨B, 0, none⟩ = some (.int .i64 y))
    (hr : ∀ j x, ts[j]? = some x → w.cell? ⟨b, j * 2, none⟩ = some (.int .i64 x.1) ∧ w.cell? ⟨b, j * 2 + 1, none⟩ = some (.int .i64 x.2)) :
    Calls Try.prog 24 #[.slice (some ⟨b, 0, none⟩) n cap, .func (.func 22) #[] #[.pointer (some ⟨B, 0, none⟩)]] w fun e w' =>
      ((e = .returned (.int .i64 (-1)) ∧ NoHit ts y) ∨ ∃ k : Nat, FirstHit ts y k ∧ e = .returned (.int .i64 k)) ∧ w.grownBy w' none := by
  have R : Aside (∀ j x, ts[j]? = some x → w.cell? ⟨b, j * 2, none⟩ = some (.int .i64 x.1) ∧ w.cell? ⟨b, j * 2 + 1, none⟩ = some (.int .i64 x.2)) := hr
  have HC : Aside (w.cell? ⟨B, 0, none⟩ = some (.int .i64 y)) := hc
  have HN : Aside (n = ts.length) := hn
  clear hr hc hn
  go_enter Try.func24, Try.ntmps24
  go_wp2
  go_loopg [5, 8] n (fun gg _ s8 wr => ∃ kk : Nat, kk ≤ n ∧ n - kk ≤ gg ∧ s8 = .int .i64 kk ∧ Aside (w.grownBy wr none) ∧ Aside (∀ j x, j < kk → ts[j]? = some x → (x.1 == y) = false))
  case atStart => exact ⟨0, Nat.zero_le _, by omega, rfl, World.grownBy.refl _ _, fun j x hj => absurd hj (Nat.not_lt_zero _)⟩
  case round =>
    obtain ⟨kk, hkk, hg, rfl, BW, A⟩ := hrel
    by_cases hlt : kk < n
    · have hltz : (kk : Int) < (n : Int) := by omega
      obtain ⟨x, hx⟩ : ∃ x, ts[kk]? = some x := ⟨ts[kk]'(by rw [← HN.out]; exact hlt), List.getElem?_eq_getElem _⟩
      obtain ⟨c0, c1⟩ := R.out kk x hx
      have g0 : wr.cell? ⟨b, kk * 2, none⟩ = some (.int .i64 x.1) := BW.out.cell c0 (by simp)
      have g1 : wr.cell? ⟨b, kk * 2 + 1, none⟩ = some (.int .i64 x.2) := BW.out.cell c1 (by simp)
      have hcall := clos x.1 x.2 y B wr (Nat.lt_of_lt_of_le hB BW.out.size) (BW.out.cell HC.out (by simp))
      have X : Aside (ts[kk]? = some x) := hx
      clear c0 c1 hx
      cases hq : x.1 == y with
      | true =>
        rw [hq] at hcall
        have Q : Aside ((x.1 == y) = true) := hq
        clear hq
        go_wp2_with (go_at_call 22; refine hcall.mono ?_; rintro e w' ⟨rfl, hb'⟩)
        go_ret
        exact ⟨.inr ⟨kk, ⟨x, X.out, Q.out, A.out⟩, rfl⟩, BW.out.trans hb'⟩
      | false =>
        rw [hq] at hcall
        have Q : Aside ((x.1 == y) = false) := hq
        clear hq
        go_wp2_with (go_at_call 22; refine hcall.mono ?_; rintro e w' ⟨rfl, hb'⟩)
        go_roundg (n - (kk + 1))
        case measure => omega
        case rel =>
          refine ⟨kk + 1, by omega, by omega, by go_num, BW.out.trans hb', (show Aside _ from fun j z hj hz => ?_)⟩
          by_cases e : j = kk
          · subst e
            have := X.out.symm.trans hz
            simp only [Option.some.injEq] at this
            subst this
            exact Q.out
          · exact A.out j z (by omega) hz
    · have hltz : ¬ (kk : Int) < (n : Int) := by omega
      have : kk = n := by omega
      subst this
      go_wp2
      go_ret
      refine ⟨.inl ⟨rfl, fun x hx => ?_⟩, BW.out⟩
      obtain ⟨j, hj⟩ := List.getElem?_of_mem hx
      exact A.out j x (by rw [HN.out]; exact (List.getElem?_eq_some_iff.1 hj).1) hj

set_option maxHeartbeats 400000 in
theorem indexFunc_nil (fv : Value) (w : World) :
    Calls Try.prog 24 #[.slice none 0 0, fv] w fun e w' => e = .returned (.int .i64 (-1)) ∧ w' = w := by
  go_enter Try.func24, Try.ntmps24
  go_wp2
  go_loopg [5, 8] 0 (fun _ _ s8 wr => s8 = .int .i64 0 ∧ wr = w)
  case atStart => exact ⟨rfl, rfl⟩
  case round =>
    obtain ⟨rfl, rfl⟩ := hrel
    go_wp2
    go_ret
    exact ⟨rfl, rfl⟩
end Go.Proofs.Qxb6616764a
