import Derived.Test.Qxb6616764aSame
namespace Go.Proofs.Qxb6616764a
open Go.RowKit

/-- The value of a form. -/
def ev (x vx u d : Int) (c : Int) (ts : List (Int × Int)) : Int := ts.foldl (fun s t => wrap64 (s + wrap64 (t.2 * symv t.1 x vx u d))) c
theorem ev_snoc (x vx u d c : Int) (ts : List (Int × Int)) (t : Int × Int) : ev x vx u d c (ts ++ [t]) = wrap64 (ev x vx u d c ts + wrap64 (t.2 * symv t.1 x vx u d)) := by simp [ev]

set_option maxHeartbeats 1000000 in
theorem eval_any (c x vx u d : Int) (a : Option Addr) (n cap : Nat) (ts : List (Int × Int)) (w : World) (hn : n ≤ 9223372036854775807) (h1 : Has w a n cap ts) :
    Calls Try.prog 19 #[.agg #[.int .i64 c, .slice a n cap], .int .i64 x, .int .i64 vx, .int .i64 u, .int .i64 d] w fun e w' => e = .returned (.int .i64 (ev x vx u d c ts)) ∧ w.grownBy w' none := by
  have H1 : Aside (Has w a n cap ts) := h1
  clear h1
  go_enter Try.func19, Try.ntmps19
  go_wp2
  go_loopg [11, 12] n (fun gg s11 s12 wr => ∃ k : Nat, k ≤ n ∧ n - k ≤ gg ∧ s12 = .int .i64 k ∧ s11 = .int .i64 (ev x vx u d c (ts.take k)) ∧ Aside ((w.alloc (.cells #[.int .i64 c, .slice a n cap] 25)).grownBy wr none))
  case atStart => exact ⟨0, Nat.zero_le _, by omega, rfl, by simp [ev], World.grownBy.refl _ _⟩
  case round =>
    obtain ⟨k, hk, hgg, rfl, rfl, G2⟩ := hrel
    have b1 : wr.cell? ⟨w.heap.size, 1, none⟩ = some (.slice a n cap) := G2.out.cell (by go_simp) (by simp)
    by_cases hlt : k < n
    · have hltz : (k : Int) < (n : Int) := by omega
      rcases H1.out.cases with ⟨_, h0, _⟩ | ⟨g, rfl, _⟩
      · omega
      obtain ⟨t, hx⟩ : ∃ x, ts[k]? = some x := ⟨ts[k]'(by rw [← H1.out.len]; exact hlt), List.getElem?_eq_getElem _⟩
      obtain ⟨p0, p1⟩ := ((H1.out.on (World.grownBy_alloc _ _ _)).on G2.out).term hx
      have S : Aside (ev x vx u d c (ts.take (k + 1)) = wrap64 (ev x vx u d c (ts.take k) + wrap64 (t.2 * symv t.1 x vx u d))) := by
        rw [List.take_add_one, hx]; exact ev_snoc _ _ _ _ _ _ _
      generalize hS : ev x vx u d c (ts.take k) = sj at *
      have hsy := fun W => symVal_any t.1 x vx u d W
      generalize symv t.1 x vx u d = sv at *
      clear hx hS
      go_wp2
      go_quiet ((go_at_call 23; exact Calls.quiet_of_same (hsy _)))
      go_wp2
      go_roundg (n - (k + 1))
      case measure => omega
      case rel => exact ⟨k + 1, by omega, Nat.le_refl _, by go_num, by rw [S.out], gb_drewN' G2.out _⟩
    · obtain rfl : k = n := by omega
      have hltz : ¬ (k : Int) < (k : Int) := by omega
      have hO : ev x vx u d c (ts.take k) = ev x vx u d c ts := by rw [H1.out.len, List.take_length]
      rw [hO]
      clear hO
      generalize hr : ev x vx u d c ts = r
      have HR : Aside (ev x vx u d c ts = r) := hr
      clear hr
      go_wp2
      go_ret
      exact ⟨ret_int HR.out.symm, (World.grownBy_alloc w _ none).trans G2.out⟩

/-! ### Plain: zeroing x is setting it to 0 -/
theorem ev_zeroed (x vx u d : Int) : ∀ (ts : List (Int × Int)) (c : Int), wrap64 c = c → ev x vx u d c (zeroed x ts) = ev x 0 u d c ts
  | [], c, _ => rfl
  | t :: r, c, hc => by
    by_cases h : t.1 = x
    · have e1 : zeroed x (t :: r) = zeroed x r := by simp [zeroed, h]
      rw [e1, ev_zeroed x vx u d r c hc]
      show _ = ev x 0 u d (wrap64 (c + wrap64 (t.2 * symv t.1 x 0 u d))) r
      have e2 : symv t.1 x 0 u d = 0 := if_pos h
      have e3 : wrap64 (t.2 * 0) = 0 := by rw [Int.mul_zero]; exact IntWalk.wrap64_in 0 (by omega)
      rw [e2, e3, Int.add_zero, hc]
    · have e1 : zeroed x (t :: r) = t :: zeroed x r := by simp [zeroed, h]
      rw [e1]
      show ev x vx u d (wrap64 (c + wrap64 (t.2 * symv t.1 x vx u d))) (zeroed x r) = ev x 0 u d (wrap64 (c + wrap64 (t.2 * symv t.1 x 0 u d))) r
      have e2 : symv t.1 x vx u d = symv t.1 x 0 u d := by unfold symv; rw [if_neg h, if_neg h]
      rw [e2]
      exact ev_zeroed x vx u d r _ (IntWalk.wrap64_in _ (by unfold wrap64; omega))
end Go.Proofs.Qxb6616764a
