import Derived.Test.Qxb6617126aOrig
namespace Go.Proofs.Qxb6617126a
open Go.RowKit

/-- What zzAddBytes hands back. -/
def AddRet (t n : Int) (e : Ending) : Prop := ∃ r, e = .returned (.int .i64 r) ∧ (r = 1048577 ∨ (r = t + n ∧ 0 ≤ n ∧ t ≤ 1048576))

set_option maxHeartbeats 400000 in
theorem addBytes2 (t n : Int) (ht : 0 ≤ t) (hn : n ≤ 9223372036854775807) (w : World) : Calls Try.prog 6 #[.int .i64 t, .int .i64 n] w fun e w' => AddRet t n e ∧ w' = w := by
  by_cases h1 : n < 0
  · go_enter Try.func6, Try.ntmps6
    go_wp2
    go_ret
    exact ⟨⟨_, rfl, .inl rfl⟩, rfl⟩
  by_cases h2 : 1048576 < n
  · go_enter Try.func6, Try.ntmps6
    go_wp2
    go_ret
    exact ⟨⟨_, rfl, .inl rfl⟩, rfl⟩
  by_cases h3 : 1048576 < t
  · go_enter Try.func6, Try.ntmps6
    go_wp2
    go_ret
    exact ⟨⟨_, rfl, .inl rfl⟩, rfl⟩
  have H : Aside (0 ≤ n ∧ t ≤ 1048576) := ⟨by omega, by omega⟩
  have h4 : t ≤ 1048576 := by omega
  have h5 : n ≤ 1048576 := by omega
  go_enter Try.func6, Try.ntmps6
  go_wp2
  go_ret
  exact ⟨⟨_, rfl, .inr ⟨rfl, H.out⟩⟩, rfl⟩

/-- The running count. -/
def Inv (z : Int) (lg c : Nat) : Prop := z ≤ 1048576 → lg = c ∧ (lg : Int) ≤ z
theorem Inv.step {z z1 z2 n m : Int} {lg c : Nat} (h : Inv z lg c) (hz : z ≤ 1048576) (h1 : z1 = 1048577 ∨ (z1 = z + n ∧ 0 ≤ n ∧ z ≤ 1048576)) (h2 : z2 = 1048577 ∨ (z2 = z1 + m ∧ 0 ≤ m ∧ z1 ≤ 1048576)) (hn : 1 ≤ n) :
    Inv z2 (lg + 1) (c + 1) ∧ lg + 1 ≤ 1048577 ∧ 0 ≤ z2 := by
  obtain ⟨e1, e2⟩ := h hz
  refine ⟨fun hz2 => ⟨by omega, ?_⟩, by omega, by omega⟩
  push_cast
  omega
theorem Inv.add {z z1 n : Int} {lg c : Nat} (h : Inv z lg c) (hz : z ≤ 1048576) (h0 : 0 ≤ z) (h1 : z1 = 1048577 ∨ (z1 = z + n ∧ 0 ≤ n ∧ z ≤ 1048576)) : Inv z1 lg c ∧ 0 ≤ z1 := by
  obtain ⟨e1, e2⟩ := h hz
  exact ⟨fun hz2 => ⟨e1, by omega⟩, by omega⟩

theorem cnt_take (ps : List (List ByteArray)) (i : Nat) (r : List ByteArray) (h : ps[i]? = some r) : (ps.take (i + 1)).flatten.length = (ps.take i).flatten.length + r.length := by
  rw [List.take_add_one, h]; simp

theorem policies_any (a : Option Addr) (n cap : Nat) (rs : List (List ByteArray)) (w : World) (hn : n ≤ 8192) (hl : ∀ r ∈ rs, r.length ≤ 1048576) (hM : Mat w a n rs) :
    Calls Try.prog 8 #[.slice a n cap] w fun e w' => PolRet w' n rs e ∧ w.grownBy w' none := by
  cases a with
  | none =>
    obtain rfl := hM.2.1 rfl
    refine (policies_nil 0 cap w).mono ?_
    rintro e w' ⟨rfl, rfl⟩
    exact ⟨⟨none, 0, rfl, hM.len, fun j r hr => by
      have := (List.getElem?_eq_some_iff.1 hr).1
      rw [← hM.len] at this; omega⟩, World.grownBy.refl _ _⟩
  | some x => exact policies_row x n cap rs w hn hl hM

/-- Slice values that lead to the rows of rs. -/
def RowsAt (W : World) (vs : List Value) (rs : List (List ByteArray)) : Prop := vs.length = rs.length ∧ ∀ (j : Nat) (v : Value) (r : List ByteArray), vs[j]? = some v → rs[j]? = some r → ∃ a' n' c', v = .slice a' n' c' ∧ Strs W a' n' r
theorem RowsAt.snoc {W : World} {vs : List Value} {rs : List (List ByteArray)} {v : Value} {r : List ByteArray} (h : RowsAt W vs rs) (hv : ∃ a' n' c', v = .slice a' n' c' ∧ Strs W a' n' r) : RowsAt W (vs ++ [v]) (rs ++ [r]) := by
  refine ⟨by simp [h.1], fun j v' r' h1 h2 => ?_⟩
  by_cases hj : j < vs.length
  · rw [List.getElem?_append_left hj] at h1
    rw [List.getElem?_append_left (by rw [← h.1]; exact hj)] at h2
    exact h.2 j v' r' h1 h2
  · rw [List.getElem?_append_right (by omega)] at h1
    rw [List.getElem?_append_right (by rw [← h.1]; omega)] at h2
    have hz : j - vs.length = 0 := by
      have := (List.getElem?_eq_some_iff.1 h1).1
      simp at this; omega
    rw [hz] at h1
    rw [← h.1, hz] at h2
    simp at h1 h2
    subst h1 h2
    exact hv
theorem RowsAt.mat {w W : World} {base g n cap : Nat} {vs : List Value} {rs : List (List ByteArray)} (h : RowsAt w vs rs) (hg : w.grownBy W none) (ho : W.ownsRow base 25 1 (.slice (some ⟨g, 0, none⟩) n cap) n vs) : Mat W (some ⟨g, 0, none⟩) n rs := by
  have hl : n = vs.length := by have := ho.1; omega
  refine ⟨by rw [hl, h.1], fun e => by simp at e, fun j r hr => ?_⟩
  have hj : j < rs.length := (List.getElem?_eq_some_iff.1 hr).1
  have hv : j < vs.length := by rw [h.1]; exact hj
  obtain ⟨a', n', c', e1, e2⟩ := h.2 j vs[j] r (List.getElem?_eq_getElem hv) hr
  refine ⟨g, 0, a', n', c', rfl, (owns_lt ho).2.1, ?_, e2.on hg⟩
  rw [Nat.zero_add, ho.cellAt j (by omega), List.getElem?_eq_getElem hv, e1]
theorem row_le (rs : List (List ByteArray)) (r : List ByteArray) (h : r ∈ rs) : r.length ≤ rs.flatten.length := by
  obtain ⟨a, b, rfl⟩ := List.append_of_mem h
  simp; omega

/-- What is kept in prev lies ahead of the next first place. -/
def PrevOk (F A : List ByteArray) (i : Nat) (pr : Int) : Prop := ∀ (t : ByteArray) (k : Nat), A[i]? = some t → First F t k → pr < k
end Go.Proofs.Qxb6617126a
