import Derived.Test.Qxb6616764aHas
namespace Go.Proofs.Qxb6616764a
open Go.RowKit

theorem zeroed_self (x : Int) : zeroed x [(x, 1)] = [] := by simp [zeroed]
theorem zeroed_other (x y : Int) (h : x ≠ y) : zeroed y [(x, 1)] = [(x, 1)] := by simp [zeroed, h]

/-- Zeroing x in 1*x. -/
theorem zero_same (g cap : Nat) (x : Int) (w : World) (h : Has w (some ⟨g, 0, none⟩) 1 cap [(x, 1)]) :
    Calls Try.prog 10 #[.agg #[.int .i64 0, .slice (some ⟨g, 0, none⟩) 1 cap], .int .i64 x] w fun e w' => ∃ a' cap', e = .returned (.agg #[.int .i64 0, .slice a' 0 cap']) ∧ w.grownBy w' none := by
  refine (zeroed_any _ _ _ 0 x [(x, 1)] w (by omega) h).mono ?_
  rintro e w' ⟨a', m, cap', rfl, h1, h2⟩
  rw [zeroed_self] at h1
  obtain rfl : m = 0 := h1.len
  exact ⟨a', cap', rfl, h2⟩
theorem zero_diff (g cap : Nat) (x y : Int) (hne : x ≠ y) (w : World) (h : Has w (some ⟨g, 0, none⟩) 1 cap [(x, 1)]) :
    Calls Try.prog 10 #[.agg #[.int .i64 0, .slice (some ⟨g, 0, none⟩) 1 cap], .int .i64 y] w fun e w' => ∃ g' cap', e = .returned (.agg #[.int .i64 0, .slice (some ⟨g', 0, none⟩) 1 cap']) ∧ w'.cell? ⟨g', 0, none⟩ = some (.int .i64 x) ∧ w'.cell? ⟨g', 1, none⟩ = some (.int .i64 1) ∧ w.grownBy w' none := by
  refine (zeroed_any _ _ _ 0 y [(x, 1)] w (by omega) h).mono ?_
  rintro e w' ⟨a', m, cap', rfl, h1, h2⟩
  rw [zeroed_other x y hne] at h1
  obtain rfl : m = 1 := h1.len
  rcases h1.cases with ⟨_, h, _⟩ | ⟨g', rfl, _⟩
  · simp at h
  · have := h1.term (j := 0) (x := (x, 1)) rfl
    exact ⟨g', cap', rfl, by simpa using this.1, by simpa using this.2, h2⟩

set_option maxHeartbeats 1000000 in
theorem walk_same (x : Int) (w : World) :
    Calls Try.prog 3 #[.int .i64 x, .int .i64 x] w fun e w' => e = .returned (.bool true) ∧ w.grownBy w' none := by
  go_enter Try.func3, Try.ntmps3
  go_wp2_with fail
  refine (var_any x _).mono ?_
  rintro e w1 ⟨g, cap, rfl, h1, g1⟩
  have H1 : Aside (Has w1 (some ⟨g, 0, none⟩) 1 cap [(x, 1)]) := h1
  have G1 : Aside (w.grownBy w1 none) := g1
  clear h1 g1
  go_wp2_with fail
  refine (isConst_no _ _ _ _ (by decide) _).mono ?_
  rintro e w2 ⟨rfl, g2⟩
  obtain ⟨b0, b1, bl⟩ := (Box.new w1 0 (.slice (some ⟨g, 0, none⟩) 1 cap)).on g2
  have G2 : Aside (w.grownBy w2 none) := (gb_alloc G1.out _).trans g2
  have H2 : Aside (Has w2 (some ⟨g, 0, none⟩) 1 cap [(x, 1)]) := (H1.out.on (World.grownBy_alloc _ _ _)).on g2
  clear g2 H1 G1
  go_wp2_with fail
  refine (zero_same g cap x _ H2.out).mono ?_
  rintro e w3 ⟨a', cap', rfl, g3⟩
  have G3 : Aside (w.grownBy w3 none) := G2.out.trans g3
  clear g3 G2 b0 b1 bl H2
  go_wp2_with fail
  refine (isConst_yes _ _ _ _).mono ?_
  rintro e w4 ⟨rfl, g4⟩
  have G4 : Aside (w.grownBy w4 none) := (gb_alloc G3.out _).trans g4
  clear g4 G3
  go_wp2
  go_ret
  exact ⟨rfl, G4.out⟩

set_option maxHeartbeats 1000000 in
theorem walk_diff (x y : Int) (hxy : x ≠ y) (w : World) :
    Calls Try.prog 3 #[.int .i64 x, .int .i64 y] w fun e w' => e = .returned (.bool true) ∧ w.grownBy w' none := by
  have hb : (x != y) = true := by simp [hxy]
  go_enter Try.func3, Try.ntmps3
  go_wp2_with fail
  refine (var_any x _).mono ?_
  rintro e w1 ⟨g, cap, rfl, h1, g1⟩
  have H1 : Aside (Has w1 (some ⟨g, 0, none⟩) 1 cap [(x, 1)]) := h1
  have G1 : Aside (w.grownBy w1 none) := g1
  clear h1 g1
  go_wp2_with fail
  refine (isConst_no _ _ _ _ (by decide) _).mono ?_
  rintro e w2 ⟨rfl, g2⟩
  obtain ⟨b0, b1, bl⟩ := (Box.new w1 0 (.slice (some ⟨g, 0, none⟩) 1 cap)).on g2
  have G2 : Aside (w.grownBy w2 none) := (gb_alloc G1.out _).trans g2
  have H2 : Aside (Has w2 (some ⟨g, 0, none⟩) 1 cap [(x, 1)]) := (H1.out.on (World.grownBy_alloc _ _ _)).on g2
  have B2 : Aside (Box w2 w1.heap.size 0 (.slice (some ⟨g, 0, none⟩) 1 cap)) := ⟨b0, b1, bl⟩
  clear g2 H1 G1
  go_wp2_with fail
  refine (zero_same g cap x _ H2.out).mono ?_
  rintro e w3 ⟨a', cap', rfl, g3⟩
  have G3 : Aside (w.grownBy w3 none) := G2.out.trans g3
  have H3 : Aside (Has w3 (some ⟨g, 0, none⟩) 1 cap [(x, 1)]) := H2.out.on g3
  have B3 : Aside (Box w3 w1.heap.size 0 (.slice (some ⟨g, 0, none⟩) 1 cap)) := B2.out.on g3
  clear g3 G2 b0 b1 bl H2 B2
  go_wp2_with fail
  refine (isConst_yes _ _ _ _).mono ?_
  rintro e w4 ⟨rfl, g4⟩
  have g34 : w3.grownBy w4 none := (World.grownBy_alloc _ _ _).trans g4
  have G4 : Aside (w.grownBy w4 none) := G3.out.trans g34
  have H4 : Aside (Has w4 (some ⟨g, 0, none⟩) 1 cap [(x, 1)]) := H3.out.on g34
  obtain ⟨b0, b1, bl⟩ := B3.out.on g34
  clear g4 G3 g34 H3 B3
  go_wp2_with fail
  refine (zero_diff g cap x y hxy _ H4.out).mono ?_
  rintro e w5 ⟨g', cap5, rfl, c0, c1, g5⟩
  have G5 : Aside (w.grownBy w5 none) := G4.out.trans g5
  clear g5 G4 H4 b0 b1 bl
  have d0 : (w5.alloc (.cells #[.int .i64 0, .slice (some ⟨g', 0, none⟩) 1 cap5] 25)).cell? ⟨g', 0, none⟩ = some (.int .i64 x) := Lib.cell?_alloc_some _ c0
  have d1 : (w5.alloc (.cells #[.int .i64 0, .slice (some ⟨g', 0, none⟩) 1 cap5] 25)).cell? ⟨g', 1, none⟩ = some (.int .i64 1) := Lib.cell?_alloc_some _ c1
  go_wp2_with fail
  refine (isConst_no _ _ _ _ (by decide) _).mono ?_
  rintro e w6 ⟨rfl, g6⟩
  have G6 : Aside (w.grownBy w6 none) := (gb_alloc G5.out _).trans g6
  clear g6 G5 d0 d1 c0 c1
  go_wp2
  go_ret
  exact ⟨rfl, G6.out⟩
end Go.Proofs.Qxb6616764a
