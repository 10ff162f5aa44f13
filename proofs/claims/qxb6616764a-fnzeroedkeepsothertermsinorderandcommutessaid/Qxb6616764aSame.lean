import Derived.Test.Qxb6616764aForm
import Derived.Deep.QuietTactic
import Derived.BigQuiet
namespace Go.Proofs.Qxb6616764a
open Go.RowKit

theorem gb_drewN' {a w : World} {r : Option Nat} (h : a.grownBy w r) (n : Nat) : a.grownBy (w.drewN n) r := ⟨h.os, h.tape, h.output, h.size, h.block⟩

set_option maxHeartbeats 1000000 in
/-- sameForm at two forms of the same constant and the same terms. -/
theorem same_eq (c : Int) (a a' : Option Addr) (n cap cap' : Nat) (ts : List (Int × Int)) (w : World) (hn : n ≤ 9223372036854775807) (h1 : Has w a n cap ts) (h2 : Has w a' n cap' ts) :
    Calls Try.prog 17 #[.agg #[.int .i64 c, .slice a n cap], .agg #[.int .i64 c, .slice a' n cap']] w fun e w' => e = .returned (.bool true) ∧ w.grownBy w' none := by
  have H1 : Aside (Has w a n cap ts) := h1
  have H2 : Aside (Has w a' n cap' ts) := h2
  clear h1 h2
  go_enter Try.func17, Try.ntmps17
  go_wp2
  go_loopg [5] n (fun gg s5 wr => ∃ k : Nat, k ≤ n ∧ n - k ≤ gg ∧ s5 = .int .i64 k ∧ Aside (w.grownBy wr none) ∧ Aside (((w.alloc (.cells #[.int .i64 c, .slice a n cap] 25)).alloc (.cells #[.int .i64 c, .slice a' n cap'] 25)).grownBy wr none))
  case atStart => exact ⟨0, Nat.zero_le _, by omega, rfl, gb_alloc (gb_alloc (World.grownBy.refl _ _) _) _, World.grownBy.refl _ _⟩
  case round =>
    obtain ⟨k, hk, hgg, rfl, G1, G2⟩ := hrel
    have b1 : wr.cell? ⟨w.heap.size, 1, none⟩ = some (.slice a n cap) := G2.out.cell (by go_simp) (by simp)
    have b2 : wr.cell? ⟨w.heap.size + 1, 1, none⟩ = some (.slice a' n cap') := G2.out.cell (by go_simp) (by simp)
    by_cases hlt : k < n
    · have hltz : (k : Int) < (n : Int) := by omega
      rcases H1.out.cases with ⟨_, h0, _⟩ | ⟨g, rfl, _⟩
      · omega
      rcases H2.out.cases with ⟨_, h0, _⟩ | ⟨g', rfl, _⟩
      · omega
      obtain ⟨x, hx⟩ : ∃ x, ts[k]? = some x := ⟨ts[k]'(by rw [← H1.out.len]; exact hlt), List.getElem?_eq_getElem _⟩
      obtain ⟨p0, p1⟩ := (H1.out.on G1.out).term hx
      obtain ⟨q0, q1⟩ := (H2.out.on G1.out).term hx
      clear hx
      go_wp2
      go_quiet (fail)
      go_wp2
      go_roundg (n - (k + 1))
      case measure => omega
      case rel => exact ⟨k + 1, by omega, Nat.le_refl _, by go_num, gb_drewN' G1.out _, gb_drewN' G2.out _⟩
    · have hltz : ¬ (k : Int) < (n : Int) := by omega
      go_wp2
      go_ret
      exact ⟨rfl, G1.out⟩

/-- A sym's value. -/
def symv (s x vx w d : Int) : Int := if s = x then vx else wrap64 (wrap64 (s * w) + d)

set_option maxHeartbeats 400000 in
theorem symVal_any (s x vx u d : Int) (w : World) :
    Calls Try.prog 23 #[.int .i64 s, .int .i64 x, .int .i64 vx, .int .i64 u, .int .i64 d] w fun e w' => e = .returned (.int .i64 (symv s x vx u d)) ∧ w' = w := by
  by_cases h : s = x
  · have hb : (s == x) = true := by simp [h]
    have e1 : symv s x vx u d = vx := if_pos h
    rw [e1]
    clear h e1
    go_enter Try.func23, Try.ntmps23
    go_wp2
    go_ret
    exact ⟨rfl, rfl⟩
  · have hb : (s == x) = false := by simp [h]
    have e1 : symv s x vx u d = wrap64 (wrap64 (s * u) + d) := if_neg h
    rw [e1]
    clear h e1
    go_enter Try.func23, Try.ntmps23
    go_wp2
    go_ret
    exact ⟨ret_int (by simp), rfl⟩
end Go.Proofs.Qxb6616764a
