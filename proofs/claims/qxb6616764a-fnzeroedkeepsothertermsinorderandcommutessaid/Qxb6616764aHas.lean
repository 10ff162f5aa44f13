import Derived.Test.Qxb6616764aZero
namespace Go.Proofs.Qxb6616764a
open Go.RowKit

/-- A slice value that holds the terms ts. -/
def Has (w : World) (a : Option Addr) (n cap : Nat) (ts : List (Int × Int)) : Prop := w.ownsRow 0 29 2 (.slice a n cap) n (cellsOf ts)

theorem Has.len {w : World} {a : Option Addr} {n cap : Nat} {ts : List (Int × Int)} (h : Has w a n cap ts) : n = ts.length := by
  have := h.1; rw [length_cellsOf] at this; omega
theorem Has.on {w w' : World} {a : Option Addr} {n cap : Nat} {ts : List (Int × Int)} (h : Has w a n cap ts) (hg : w.grownBy w' none) : Has w' a n cap ts :=
  h.kept hg (by cases h : (Value.slice a n cap).ownBlock <;> simp)
theorem Has.cases {w : World} {a : Option Addr} {n cap : Nat} {ts : List (Int × Int)} (h : Has w a n cap ts) : (a = none ∧ n = 0 ∧ cap = 0 ∧ ts = []) ∨ ∃ g, a = some ⟨g, 0, none⟩ ∧ g < w.heap.size ∧ n ≤ cap ∧ cap ≤ maxLen := by
  have hl := h.len
  rcases h.2 with ⟨hv, hn⟩ | ⟨g, cap', cur, hv, _⟩
  · simp at hv
    refine .inl ⟨hv.1, hn, hv.2.2, ?_⟩
    rw [hn] at hl
    exact List.eq_nil_of_length_eq_zero hl.symm
  · simp at hv
    obtain ⟨rfl, rfl⟩ := hv
    exact .inr ⟨g, rfl, (owns_lt h).2.1, (owns_lt h).2.2⟩
theorem Has.term {w : World} {g n cap : Nat} {ts : List (Int × Int)} (h : Has w (some ⟨g, 0, none⟩) n cap ts) {j : Nat} {x : Int × Int} (hx : ts[j]? = some x) :
    w.cell? ⟨g, j * 2, none⟩ = some (.int .i64 x.1) ∧ w.cell? ⟨g, j * 2 + 1, none⟩ = some (.int .i64 x.2) := owns_term h hx

theorem zeroed_any (a : Option Addr) (n cap : Nat) (c y : Int) (ts : List (Int × Int)) (w : World) (hn : n ≤ 8796093022208) (ho : Has w a n cap ts) :
    Calls Try.prog 10 #[.agg #[.int .i64 c, .slice a n cap], .int .i64 y] w fun e w' => ∃ a' m cap', e = .returned (.agg #[.int .i64 c, .slice a' m cap']) ∧ Has w' a' m cap' (zeroed y ts) ∧ w.grownBy w' none := by
  rcases ho.cases with ⟨rfl, rfl, rfl, rfl⟩ | ⟨g, rfl, _⟩
  · refine (zeroed_nil c y w).mono ?_
    rintro e w' ⟨rfl, hg⟩
    exact ⟨none, 0, 0, rfl, ho.on hg, hg⟩
  · refine (zeroed_row 0 g n cap c y ts w hn ho).mono ?_
    rintro e w' ⟨g', m, cap', rfl, h1, h2⟩
    exact ⟨some ⟨g', 0, none⟩, m, cap', rfl, owns_mono h1 (Nat.zero_le _), h2⟩

theorem var_any (x : Int) (w : World) :
    Calls Try.prog 8 #[.int .i64 x] w fun e w' => ∃ g cap, e = .returned (.agg #[.int .i64 0, .slice (some ⟨g, 0, none⟩) 1 cap]) ∧ Has w' (some ⟨g, 0, none⟩) 1 cap [(x, 1)] ∧ w.grownBy w' none := by
  refine (var x w).mono ?_
  rintro e w' ⟨v, rfl, h1, h2⟩
  rcases h1.2 with ⟨_, h⟩ | ⟨g, cap, _, rfl, _⟩
  · simp at h
  · exact ⟨g, cap, rfl, owns_mono h1 (Nat.zero_le _), h2⟩

theorem isConst_yes (c : Int) (a : Option Addr) (cap : Nat) (w : World) :
    Calls Try.prog 9 #[.agg #[.int .i64 c, .slice a 0 cap]] w fun e w' => e = .returned (.bool true) ∧ w.grownBy w' none := isConst c a 0 cap w
theorem isConst_no (c : Int) (a : Option Addr) (n cap : Nat) (hn : n ≠ 0) (w : World) :
    Calls Try.prog 9 #[.agg #[.int .i64 c, .slice a n cap]] w fun e w' => e = .returned (.bool false) ∧ w.grownBy w' none := by
  have := isConst c a n cap w
  rwa [decide_eq_false hn] at this

/-- A form in a variable's block. -/
structure Box (w : World) (b : Nat) (c : Int) (v : Value) : Prop where
  c0 : w.cell? ⟨b, 0, none⟩ = some (.int .i64 c)
  c1 : w.cell? ⟨b, 1, none⟩ = some v
  lt : b < w.heap.size
theorem Box.on {w w' : World} {b : Nat} {c : Int} {v : Value} (h : Box w b c v) (hg : w.grownBy w' none) : Box w' b c v :=
  ⟨hg.cell h.c0 (by simp), hg.cell h.c1 (by simp), Nat.lt_of_lt_of_le h.lt hg.size⟩
theorem Box.new (w : World) (c : Int) (v : Value) : Box (w.alloc (.cells #[.int .i64 c, v] 25)) w.heap.size c v := ⟨by go_simp, by go_simp, by simp⟩
theorem zeroed_length_le (y : Int) (ts : List (Int × Int)) : (zeroed y ts).length ≤ ts.length := List.length_filter_le _ _
end Go.Proofs.Qxb6616764a
