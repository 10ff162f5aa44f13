import Derived.Test.Qxb6616764aForm
namespace Go.Proofs.Qxb6616764a
open Go.RowKit

/-- Is every term on x? -/
def onlyOn (x : Int) (ts : List (Int × Int)) : Bool := ts.all fun y => y.1 == x
theorem onlyOn_snoc (x : Int) (ts : List (Int × Int)) (y : Int × Int) : onlyOn x (ts ++ [y]) = (onlyOn x ts && (y.1 == x)) := by simp [onlyOn]
theorem onlyOn_iff (x : Int) (ts : List (Int × Int)) : decide ((zeroed x ts).length = 0) = onlyOn x ts := by
  rw [Bool.eq_iff_iff, decide_eq_true_iff, List.length_eq_zero_iff]
  unfold zeroed onlyOn
  rw [List.filter_eq_nil_iff, List.all_eq_true]
  simp

set_option maxHeartbeats 400000 in
theorem after_big (c x : Int) (a : Option Addr) (n cap : Nat) (hn : n ≤ 9223372036854775807) (hb : 32768 < n) (w : World) :
    Calls Try.prog 4 #[.int .i64 c, .slice a n cap, .int .i64 x] w fun e w' => e = .returned (.bool true) ∧ w.grownBy w' none := by
  have hz := zz11 c x a n cap hn w
  by_cases h : n ≤ 1048576
  · rw [decide_eq_true h] at hz
    go_enter Try.func4, Try.ntmps4
    go_wp2_with fail
    refine hz.mono ?_
    rintro e w' ⟨rfl, rfl⟩
    go_wp2
    go_ret
    exact ⟨rfl, World.grownBy.refl _ _⟩
  · rw [decide_eq_false h] at hz
    go_enter Try.func4, Try.ntmps4
    go_wp2_with fail
    refine hz.mono ?_
    rintro e w' ⟨rfl, rfl⟩
    go_wp2
    go_ret
    exact ⟨rfl, World.grownBy.refl _ _⟩

set_option maxHeartbeats 2000000 in
theorem after_small (c x : Int) (a : Option Addr) (n cap : Nat) (ts : List (Int × Int)) (hb : n ≤ 32768) (w : World) (ht : Terms w a n ts) :
    Calls Try.prog 4 #[.int .i64 c, .slice a n cap, .int .i64 x] w fun e w' => e = .returned (.bool true) ∧ w.grownBy w' none := by
  have hz := zz11 c x a n cap (by omega) w
  rw [decide_eq_true (by omega)] at hz
  have T : Aside (Terms w a n ts) := ht
  have hz0 : ¬ (32768 : Int) < (n : Int) := by omega
  clear ht
  go_enter Try.func4, Try.ntmps4
  go_wp2_with fail
  refine hz.mono ?_
  rintro e w' ⟨rfl, rfl⟩
  clear hz
  go_wp2
  go_loopg [7, 8] n (fun gg s7 s8 wr => ∃ k : Nat, k ≤ n ∧ n - k ≤ gg ∧ s8 = .int .i64 k ∧ s7 = .bool (onlyOn x (ts.take k)) ∧ wr = w')
  case atStart => exact ⟨0, Nat.zero_le _, by omega, rfl, by simp [onlyOn], rfl⟩
  case round =>
    obtain ⟨k, hk, hgg, rfl, rfl, rfl⟩ := hrel
    by_cases hlt : k < n
    · have hltz : (k : Int) < (n : Int) := by omega
      obtain ⟨y, b, off, hy, rfl, hbw, c0, c1⟩ := T.out.get hlt
      have S : Aside (onlyOn x (ts.take (k + 1)) = (onlyOn x (ts.take k) && (y.1 == x))) := by
        rw [List.take_add_one, hy]; exact onlyOn_snoc _ _ _
      generalize hS : onlyOn x (ts.take k) = sj at *
      clear hS hy c1
      cases hq : y.1 == x with
      | true =>
        have hne : (y.1 != x) = false := by rw [bne, hq]; rfl
        have Q : Aside ((y.1 == x) = true) := hq
        clear hq
        go_wp2
        go_roundg (n - (k + 1))
        case measure => omega
        case rel => exact ⟨k + 1, by omega, Nat.le_refl _, by go_num, by rw [S.out, Q.out]; simp, rfl⟩
      | false =>
        have hne : (y.1 != x) = true := by rw [bne, hq]; rfl
        have Q : Aside ((y.1 == x) = false) := hq
        clear hq
        go_wp2
        go_roundg (n - (k + 1))
        case measure => omega
        case rel => exact ⟨k + 1, by omega, Nat.le_refl _, by go_num, by rw [S.out, Q.out]; simp, rfl⟩
    · obtain rfl : k = n := by omega
      have hltz : ¬ (k : Int) < (k : Int) := by omega
      have hO : onlyOn x (ts.take k) = onlyOn x ts := by rw [T.out.len, List.take_length]
      rw [hO]
      clear hO
      generalize hS : onlyOn x ts = sj at *
      have HS : Aside (onlyOn x ts = sj) := hS
      clear hS
      go_wp2_with fail
      refine (toForm_any c a k cap ts (by omega) _ T.out).mono ?_
      rintro e w3 ⟨a3, cap3, rfl, h3, g3⟩
      have G3 : Aside (wr.grownBy w3 none) := g3
      have H3 : Aside (Has w3 a3 k cap3 ts) := h3
      clear h3 g3 T
      go_wp2_with fail
      refine (zeroed_any _ _ _ c x ts _ (by omega) (H3.out.on (World.grownBy_alloc _ _ _))).mono ?_
      rintro e w4 ⟨a4, m4, cap4, rfl, h4, g4⟩
      have G4 : Aside (wr.grownBy w4 none) := (gb_alloc G3.out _).trans g4
      have HM : Aside (decide (m4 = 0) = sj) := by show decide (m4 = 0) = sj; rw [h4.len, onlyOn_iff, HS.out]
      clear h4 g4 H3 G3
      go_wp2_with fail
      refine (isConst c a4 m4 cap4 _).mono ?_
      rintro e w5 ⟨rfl, g5⟩
      have G5 : Aside (wr.grownBy w5 none) := G4.out.trans g5
      clear g5 G4
      rw [HM.out]
      clear HM HS
      cases sj
      all_goals
        go_wp2_with fail
        refine (var_any x _).mono ?_
        rintro e w6 ⟨g6, cap6, rfl, _, g6'⟩
        have G6 : Aside (wr.grownBy w6 none) := G5.out.trans g6'
        clear g6' G5
        go_wp2_with fail
        refine (isConst_no _ _ _ _ (by decide) _).mono ?_
        rintro e w7 ⟨rfl, g7⟩
        have G7 : Aside (wr.grownBy w7 none) := G6.out.trans g7
        clear g7 G6
        go_wp2
        go_ret
        exact ⟨rfl, G7.out⟩
end Go.Proofs.Qxb6616764a
