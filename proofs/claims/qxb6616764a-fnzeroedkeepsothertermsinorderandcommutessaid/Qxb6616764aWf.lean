import Derived.Test.Qxb6616764aForm
import Derived.Deep.QuietTactic
import Derived.BigQuiet
namespace Go.Proofs.Qxb6616764a
open Go.RowKit

/-- No coefficient is 0; the syms rise. -/
def WFq (ts : List (Int × Int)) : Prop := (∀ x ∈ ts, x.2 ≠ 0) ∧ ts.Pairwise fun a b => a.1 < b.1

theorem WFq.nil : WFq [] := ⟨fun x hx => by simp at hx, List.Pairwise.nil⟩
theorem WFq.one (x : Int × Int) (h : x.2 ≠ 0) : WFq [x] := ⟨fun y hy => by simp at hy; subst hy; exact h, List.pairwise_singleton _ _⟩
theorem WFq.snoc {l : List (Int × Int)} {y x : Int × Int} (h : WFq (l ++ [y])) (hx : x.2 ≠ 0) (hl : y.1 < x.1) : WFq (l ++ [y] ++ [x]) := by
  refine ⟨fun z hz => ?_, ?_⟩
  · rcases List.mem_append.1 hz with hz | hz
    · exact h.1 z hz
    · simp at hz; subst hz; exact hx
  · rw [List.pairwise_append]
    refine ⟨h.2, List.pairwise_singleton _ _, fun a ha b hb => ?_⟩
    simp at hb
    subst hb
    rcases List.mem_append.1 ha with ha | ha
    · have := (List.pairwise_append.1 h.2).2.2 a ha y (by simp)
      omega
    · simp at ha; subst ha; exact hl
theorem WFq.zeroed {ts : List (Int × Int)} (h : WFq ts) (x : Int) : WFq (zeroed x ts) :=
  ⟨fun y hy => h.1 y (List.mem_filter.1 hy).1, h.2.filter _⟩
theorem WFq.lt {ts : List (Int × Int)} (h : WFq ts) {j : Nat} {y x : Int × Int} (hy : ts[j]? = some y) (hx : ts[j + 1]? = some x) : y.1 < x.1 := by
  obtain ⟨h1, rfl⟩ := List.getElem?_eq_some_iff.1 hy
  obtain ⟨h2, rfl⟩ := List.getElem?_eq_some_iff.1 hx
  exact (List.pairwise_iff_getElem.1 h.2) j (j + 1) h1 h2 (by omega)

theorem gb_drewN2 {a w : World} {r : Option Nat} (h : a.grownBy w r) (n : Nat) : a.grownBy (w.drewN n) r := ⟨h.os, h.tape, h.output, h.size, h.block⟩

/-- What wellFormedInput hands back. -/
def WfRet (ts : List (Int × Int)) (e : Ending) : Prop := ∃ b, e = .returned (.bool b) ∧ (b = true → WFq ts)

set_option maxHeartbeats 1000000 in
theorem wfInput_any (a : Option Addr) (n cap : Nat) (ts : List (Int × Int)) (hn : n ≤ 9223372036854775807) (w : World) (ht : Terms w a n ts) :
    Calls Try.prog 15 #[.slice a n cap] w fun e w' => WfRet ts e ∧ w.grownBy w' none := by
  have T : Aside (Terms w a n ts) := ht
  clear ht
  go_enter Try.func15, Try.ntmps15
  go_wp2
  go_loopg [3] n (fun gg s3 wr => ∃ k : Nat, k ≤ n ∧ n - k ≤ gg ∧ s3 = .int .i64 k ∧ Aside (WFq (ts.take k)) ∧ Aside (w.grownBy wr none))
  case atStart => exact ⟨0, Nat.zero_le _, by omega, rfl, by rw [List.take_zero]; exact WFq.nil, World.grownBy.refl _ _⟩
  case round =>
    obtain ⟨k, hk, hgg, rfl, WQ, G1⟩ := hrel
    by_cases hlt : k < n
    · have hltz : (k : Int) < (n : Int) := by omega
      obtain ⟨x, b, off, hx, rfl, hbw, c0, c1⟩ := T.out.get hlt
      have g0 : wr.cell? ⟨b, off + k * 2, none⟩ = some (.int .i64 x.1) := G1.out.cell c0 (by simp)
      have g1 : wr.cell? ⟨b, off + k * 2 + 1, none⟩ = some (.int .i64 x.2) := G1.out.cell c1 (by simp)
      have X : Aside (ts[k]? = some x) := hx
      clear hx c0 c1
      by_cases hz : x.2 = 0
      · have hzb : (x.2 == 0) = true := by simp [hz]
        clear hz
        go_wp2
        go_ret
        exact ⟨⟨false, rfl, fun h => by cases h⟩, G1.out⟩
      · have hzb : (x.2 == 0) = false := by simp [hz]
        have HZ : Aside (x.2 ≠ 0) := hz
        clear hz
        cases k with
        | zero =>
          go_wp2
          go_quiet (fail)
          go_wp2
          go_roundg (n - 1)
          case measure => omega
          case rel => exact ⟨1, by omega, Nat.le_refl _, rfl, by rw [show ts.take 1 = [x] by rw [List.take_add_one, X.out]; rfl]; exact WFq.one x HZ.out, gb_drewN2 G1.out _⟩
        | succ j =>
          have hj0 : (0 : Int) < (j : Int) + 1 := by omega
          have hjn : (j : Int) < (n : Int) := by omega
          obtain ⟨y, b', off', hy, hbo, _, d0, _⟩ := T.out.get (show j < n by omega)
          simp only [Option.some.injEq, Addr.mk.injEq, and_true] at hbo
          obtain ⟨rfl, rfl⟩ := hbo
          have e0 : wr.cell? ⟨b, off + j * 2, none⟩ = some (.int .i64 y.1) := G1.out.cell d0 (by simp)
          have Y : Aside (ts[j]? = some y) := hy
          clear hy d0
          by_cases hq : x.1 ≤ y.1
          · have hqd : decide (x.1 ≤ y.1) = true := decide_eq_true hq
            go_wp2
            go_quiet (fail)
            go_wp2
            go_ret
            exact ⟨⟨false, rfl, fun h => by cases h⟩, gb_drewN2 G1.out _⟩
          · have hqd : decide (x.1 ≤ y.1) = false := decide_eq_false hq
            go_wp2
            go_quiet (fail)
            go_wp2
            go_roundg (n - (j + 1 + 1))
            case measure => omega
            case rel =>
              refine ⟨j + 1 + 1, by omega, Nat.le_refl _, by go_num, ?_, gb_drewN2 G1.out _⟩
              have q := WQ.out
              rw [List.take_add_one, Y.out] at q
              rw [List.take_add_one, X.out, List.take_add_one, Y.out]
              exact q.snoc HZ.out (by omega)
    · obtain rfl : k = n := by omega
      have hltz : ¬ (k : Int) < (k : Int) := by omega
      go_wp2
      go_ret
      exact ⟨⟨true, rfl, fun _ => by have q := WQ.out; rwa [T.out.len, List.take_length] at q⟩, G1.out⟩

set_option maxHeartbeats 1000000 in
theorem wfForm_any (a : Option Addr) (n cap : Nat) (ts : List (Int × Int)) (hn : n ≤ 9223372036854775807) (hq : WFq ts) (w : World) (h1 : Has w a n cap ts) :
    Calls Try.prog 16 #[.slice a n cap] w fun e w' => e = .returned (.bool true) ∧ w.grownBy w' none := by
  have H1 : Aside (Has w a n cap ts) := h1
  have WQ : Aside (WFq ts) := hq
  clear h1 hq
  go_enter Try.func16, Try.ntmps16
  go_wp2
  go_loopg [3] n (fun gg s3 wr => ∃ k : Nat, k ≤ n ∧ n - k ≤ gg ∧ s3 = .int .i64 k ∧ Aside (w.grownBy wr none))
  case atStart => exact ⟨0, Nat.zero_le _, by omega, rfl, World.grownBy.refl _ _⟩
  case round =>
    obtain ⟨k, hk, hgg, rfl, G1⟩ := hrel
    by_cases hlt : k < n
    · have hltz : (k : Int) < (n : Int) := by omega
      rcases H1.out.cases with ⟨_, h0, _⟩ | ⟨g, rfl, _⟩
      · omega
      obtain ⟨x, hx⟩ : ∃ x, ts[k]? = some x := ⟨ts[k]'(by rw [← H1.out.len]; exact hlt), List.getElem?_eq_getElem _⟩
      obtain ⟨g0, g1⟩ := (H1.out.on G1.out).term hx
      have hzb : (x.2 == 0) = false := by simpa using WQ.out.1 x (List.mem_of_getElem? hx)
      cases k with
      | zero =>
        clear hx
        go_wp2
        go_quiet (fail)
        go_wp2
        go_roundg (n - 1)
        case measure => omega
        case rel => exact ⟨1, by omega, Nat.le_refl _, rfl, gb_drewN2 G1.out _⟩
      | succ j =>
        have hj0 : (0 : Int) < (j : Int) + 1 := by omega
        have hjn : (j : Int) < (n : Int) := by omega
        obtain ⟨y, hy⟩ : ∃ y, ts[j]? = some y := ⟨ts[j]'(by rw [← H1.out.len]; omega), List.getElem?_eq_getElem _⟩
        obtain ⟨e0, _⟩ := (H1.out.on G1.out).term hy
        have hqd : decide (x.1 ≤ y.1) = false := decide_eq_false (by have := WQ.out.lt hy hx; omega)
        clear hx hy
        go_wp2
        go_quiet (fail)
        go_wp2
        go_roundg (n - (j + 1 + 1))
        case measure => omega
        case rel => exact ⟨j + 1 + 1, by omega, Nat.le_refl _, by go_num, gb_drewN2 G1.out _⟩
    · obtain rfl : k = n := by omega
      have hltz : ¬ (k : Int) < (k : Int) := by omega
      go_wp2
      go_ret
      exact ⟨rfl, G1.out⟩
end Go.Proofs.Qxb6616764a
