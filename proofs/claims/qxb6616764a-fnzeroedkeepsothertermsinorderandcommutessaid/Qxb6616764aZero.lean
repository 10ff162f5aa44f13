import Derived.Test.Qxb6616764aDel
import Derived.Deep.RegionHeld
import Derived.Deep.Heap
namespace Go.Proofs.Qxb6616764a
open Go.RowKit

set_option maxHeartbeats 400000 in
theorem delete_nil (fv : Value) (w : World) : Calls Try.prog 20 #[.slice none 0 0, fv] w fun e w' => e = .returned (.slice none 0 0) ∧ w' = w := by
  have hI := indexFunc_nil fv w
  go_enter Try.func20, Try.ntmps20
  go_wp2_with fail
  refine hI.mono ?_
  rintro e w' ⟨rfl, rfl⟩
  go_wp2
  go_ret
  exact ⟨rfl, rfl⟩

theorem delete_row (base b n cap : Nat) (ts : List (Int × Int)) (y : Int) (B : Nat) (w : World) (hB : B < w.heap.size) (hBb : B ≠ b) (hc : w.cell? ⟨B, 0, none⟩ = some (.int .i64 y))
    (ho : w.ownsRow base 29 2 (.slice (some ⟨b, 0, none⟩) n cap) n (cellsOf ts)) :
    Calls Try.prog 20 #[.slice (some ⟨b, 0, none⟩) n cap, .func (.func 22) #[] #[.pointer (some ⟨B, 0, none⟩)]] w fun e w' =>
      ∃ m, e = .returned (.slice (some ⟨b, 0, none⟩) m cap) ∧ w'.ownsRow base 29 2 (.slice (some ⟨b, 0, none⟩) m cap) m (cellsOf (zeroed y ts)) ∧ w.grownBy w' (some b) := by
  by_cases h : NoHit ts y
  · refine (delete_none base b n cap ts y B w hB hc ho h).mono ?_
    rintro e w' ⟨rfl, hg⟩
    exact ⟨n, rfl, by rw [zeroed_noHit h]; exact ho.kept hg (.inr (by simp [Value.ownBlock])), hg.but _⟩
  · exact delete_some base b n cap ts y B w hB hBb hc ho h

theorem gb_alloc {a w : World} {r : Option Nat} (h : a.grownBy w r) (o : Obj) : a.grownBy (w.alloc o) r := h.trans (World.grownBy_alloc w o r)
theorem gb_drew {a w : World} {r : Option Nat} (h : a.grownBy w r) : a.grownBy w.drew r := ⟨h.os, h.tape, h.output, h.size, h.block⟩
theorem gb_set {a w : World} (h : a.grownBy w none) (p : Addr) (hp : a.heap.size ≤ p.block) (u : Value) : a.grownBy (w.setCell p u) none :=
  ⟨h.os, h.tape, h.output, by simpa [World.setCell] using h.size, fun k hk hn => by rw [Deep.blk_setCell_other _ _ _ _ (by omega)]; exact h.block k hk hn⟩
theorem gset (w : World) (b i : Nat) (v : Value) : w.grownBy (w.setCell ⟨b, i, none⟩ v) (some b) :=
  ⟨rfl, rfl, rfl, by simp [World.setCell], fun k _ hk => Deep.blk_setCell_other _ _ _ _ (fun e => hk (by simp [e]))⟩
theorem gb_below {a w : World} (h : a.grownBy w none) : Below a.heap.size a w := ⟨h.os, h.tape, h.output, h.size, fun k hk => h.block k hk (by simp)⟩
theorem owns_mono {w : World} {base base' : Nat} {v : Value} {n : Nat} {xs : List Value} (h : w.ownsRow base 29 2 v n xs) (hb : base' ≤ base) : w.ownsRow base' 29 2 v n xs := by
  refine ⟨h.1, ?_⟩
  rcases h.2 with h2 | ⟨g, cap, cur, hv, hg, r⟩
  · exact .inl h2
  · exact .inr ⟨g, cap, cur, hv, Nat.le_trans hb hg, r⟩

theorem clone_own (base b n cap : Nat) (ts : List (Int × Int)) (w : World) (hn : n ≤ 8796093022208) (ho : w.ownsRow base 29 2 (.slice (some ⟨b, 0, none⟩) n cap) n (cellsOf ts)) :
    Calls Try.prog 21 #[.slice (some ⟨b, 0, none⟩) n cap] w fun e w' => ∃ g cap', e = .returned (.slice (some ⟨g, 0, none⟩) n cap') ∧ w'.ownsRow w.heap.size 29 2 (.slice (some ⟨g, 0, none⟩) n cap') n (cellsOf ts) ∧ w.grownBy w' none :=
  clone_row b n cap (cellsOf ts) w ho.1 hn (fun j u hj => by
    have hl := (List.getElem?_eq_some_iff.1 hj).1
    rw [Nat.zero_add, ho.cellAt j (by rw [← ho.1]; exact hl)]
    exact hj) (cellsOf_one ts)

set_option maxHeartbeats 1000000 in
theorem zeroed_nil (c y : Int) (w : World) :
    Calls Try.prog 10 #[.agg #[.int .i64 c, .slice none 0 0], .int .i64 y] w fun e w' => e = .returned (.agg #[.int .i64 c, .slice none 0 0]) ∧ w.grownBy w' none := by
  go_enter Try.func10, Try.ntmps10
  go_wp2_with fail
  go_region_held (fun w' => w'.cell? ⟨w.heap.size, 0, none⟩ = some (.int .i64 c) ∧ w'.cell? ⟨w.heap.size, 1, none⟩ = some (.slice none 0 0)) (go_keep)
    (first | (go_at_call 21; refine (clone_nil _).mono ?_; rintro e w' ⟨rfl, rfl⟩) | (go_at_call 20; refine (delete_nil _ _).mono ?_; rintro e w' ⟨rfl, rfl⟩))
  all_goals
    go_wp2
    refine bodyPost_ret (v := .agg #[.int .i64 c, .slice none 0 0]) (by simp [results, Try.results10, go_sem]) rfl ⟨rfl, ?_⟩
    exact gb_drew (gb_alloc (gb_alloc (gb_alloc (World.grownBy.refl _ _) _) _) _)

/-- What is kept of a world from the region on. -/
structure Keep (w w1 : World) (c y : Int) (v : Value) : Prop where
  k0 : w1.cell? ⟨w.heap.size, 0, none⟩ = some (.int .i64 c)
  k1 : w1.cell? ⟨w.heap.size, 1, none⟩ = some v
  cB : w1.cell? ⟨w.heap.size + 1, 0, none⟩ = some (.int .i64 y)
  r0 : w1.cell? ⟨w.heap.size + 1 + 1, 0, none⟩ = some (.int .i64 0)
  r1 : w1.cell? ⟨w.heap.size + 1 + 1, 1, none⟩ = some (.slice none 0 0)
  f0 : w1.frozen? ⟨w.heap.size + 1 + 1, 0, none⟩ = false
  f1 : w1.frozen? ⟨w.heap.size + 1 + 1, 1, none⟩ = false
  sz : w.heap.size + 3 ≤ w1.heap.size
  gr : w.grownBy w1 none

theorem Keep.on {w w1 w2 : World} {c y : Int} {v : Value} {r : Option Nat} (h : Keep w w1 c y v) (hg : w1.grownBy w2 r) (hr : ∀ k, r = some k → w.heap.size + 3 ≤ k) : Keep w w2 c y v := by
  have sz := h.sz
  have ne : ∀ k, k < w.heap.size + 3 → some k ≠ r := fun k hk e => by have := hr k e.symm; omega
  exact ⟨hg.cell h.k0 (ne w.heap.size (by omega)), hg.cell h.k1 (ne w.heap.size (by omega)), hg.cell h.cB (ne (w.heap.size + 1) (by omega)), hg.cell h.r0 (ne (w.heap.size + 1 + 1) (by omega)), hg.cell h.r1 (ne (w.heap.size + 1 + 1) (by omega)),
    (hg.frozen_far _ (show w.heap.size + 1 + 1 < _ by omega) (ne (w.heap.size + 1 + 1) (by omega))).trans h.f0, (hg.frozen_far _ (show w.heap.size + 1 + 1 < _ by omega) (ne (w.heap.size + 1 + 1) (by omega))).trans h.f1, Nat.le_trans sz hg.size,
    h.gr.andThen hg (fun k hk => .inl (by have := hr k hk; omega))⟩

theorem Keep.start (w : World) (c y : Int) (v : Value) :
    Keep w (((w.alloc (.cells #[.int .i64 c, v] 25)).alloc (.cells #[.int .i64 y] 22)).alloc (.cells #[.int .i64 0, .slice none 0 0] 25)).drew c y v :=
  ⟨by go_simp, by go_simp, by go_simp, by go_simp, by go_simp, by go_simp, by go_simp, by simp, gb_drew (gb_alloc (gb_alloc (gb_alloc (World.grownBy.refl _ _) _) _) _)⟩

set_option maxHeartbeats 2000000 in
theorem zeroed_row (base b n cap : Nat) (c y : Int) (ts : List (Int × Int)) (w : World) (hn : n ≤ 8796093022208)
    (ho : w.ownsRow base 29 2 (.slice (some ⟨b, 0, none⟩) n cap) n (cellsOf ts)) :
    Calls Try.prog 10 #[.agg #[.int .i64 c, .slice (some ⟨b, 0, none⟩) n cap], .int .i64 y] w fun e w' => ∃ g m cap', e = .returned (.agg #[.int .i64 c, .slice (some ⟨g, 0, none⟩) m cap']) ∧
      w'.ownsRow w.heap.size 29 2 (.slice (some ⟨g, 0, none⟩) m cap') m (cellsOf (zeroed y ts)) ∧ w.grownBy w' none := by
  have hC : Calls Try.prog 21 #[.slice (some ⟨b, 0, none⟩) n cap] (((w.alloc (.cells #[.int .i64 c, .slice (some ⟨b, 0, none⟩) n cap] 25)).alloc (.cells #[.int .i64 y] 22)).alloc (.cells #[.int .i64 0, .slice none 0 0] 25)).drew
      fun e w1 => ∃ g cap', e = .returned (.slice (some ⟨g, 0, none⟩) n cap') ∧ Aside (w1.ownsRow (w.heap.size + 3) 29 2 (.slice (some ⟨g, 0, none⟩) n cap') n (cellsOf ts)) ∧ w.heap.size + 3 ≤ g ∧ Aside (Keep w w1 c y (.slice (some ⟨b, 0, none⟩) n cap)) := by
    refine (clone_own base b n cap ts _ hn (ho.kept (Keep.start w c y _).gr (.inr (by simp [Value.ownBlock])))).mono ?_
    rintro e w1 ⟨g, cap', rfl, h1, h2⟩
    have h3 : w1.ownsRow (w.heap.size + 3) 29 2 (.slice (some ⟨g, 0, none⟩) n cap') n (cellsOf ts) := owns_mono h1 (by simp)
    exact ⟨g, cap', rfl, h3, (owns_lt h3).1, (Keep.start w c y _).on h2 (fun k hk => by simp at hk)⟩
  have hD : ∀ (g cap' : Nat) (w1 : World), Aside (w1.ownsRow (w.heap.size + 3) 29 2 (.slice (some ⟨g, 0, none⟩) n cap') n (cellsOf ts)) → w.heap.size + 3 ≤ g → Aside (Keep w w1 c y (.slice (some ⟨b, 0, none⟩) n cap)) →
      Calls Try.prog 20 #[.slice (some ⟨g, 0, none⟩) n cap', .func (.func 22) #[] #[.pointer (some ⟨w.heap.size + 1, 0, none⟩)]] w1 fun e w2 =>
        ∃ m, e = .returned (.slice (some ⟨g, 0, none⟩) m cap') ∧ Aside (w2.ownsRow (w.heap.size + 3) 29 2 (.slice (some ⟨g, 0, none⟩) m cap') m (cellsOf (zeroed y ts))) ∧ Aside (Keep w w2 c y (.slice (some ⟨b, 0, none⟩) n cap)) := fun g cap' w1 h1 h2 h3 => by
    refine (delete_row (w.heap.size + 3) g n cap' ts y (w.heap.size + 1) w1 (by have := h3.out.sz; omega) (by omega) h3.out.cB h1.out).mono ?_
    rintro e w2 ⟨m, rfl, h4, h5⟩
    exact ⟨m, rfl, h4, h3.out.on h5 (fun k hk => by simp at hk; omega)⟩
  have HD : Aside _ := hD
  clear ho hD
  go_enter Try.func10, Try.ntmps10
  go_wp2_with fail
  go_region_held (fun w' => w'.cell? ⟨w.heap.size, 0, none⟩ = some (.int .i64 c) ∧ w'.cell? ⟨w.heap.size, 1, none⟩ = some (.slice (some ⟨b, 0, none⟩) n cap)) ((first | go_keep | (constructor <;> go_simp)))
    (first
      | (go_at_call 21; go_must (refine hC.mono ?_; rintro e w1 ⟨g, cap', rfl, h1, h2, h3⟩; have k0 := h3.out.k0; have k1 := h3.out.k1))
      | (go_at_call 20; go_must (refine (HD.out g cap' w1 h1 h2 h3).mono ?_; rintro e w2 ⟨m, rfl, h4, h5⟩; have k0' := h5.out.k0; have k1' := h5.out.k1; have r0 := h5.out.r0; have r1 := h5.out.r1; have f0 := h5.out.f0; have f1 := h5.out.f1)))
  all_goals
    go_wp2
    refine bodyPost_ret (v := .agg #[.int .i64 c, .slice (some ⟨g, 0, none⟩) m cap']) (by simp [results, Try.results10, go_sem, r0, r1]) rfl ⟨g, m, cap', rfl, ?_, ?_⟩
    · exact owns_mono (h4.out.kept ((gset w2 (w.heap.size + 1 + 1) 0 _).trans (gset _ (w.heap.size + 1 + 1) 1 _)) (.inr (by simp [Value.ownBlock]; omega))) (by omega)
    · exact gb_set (gb_set h5.out.gr _ (by show w.heap.size ≤ w.heap.size + 1 + 1; omega) _) _ (by show w.heap.size ≤ w.heap.size + 1 + 1; omega) _
end Go.Proofs.Qxb6616764a
