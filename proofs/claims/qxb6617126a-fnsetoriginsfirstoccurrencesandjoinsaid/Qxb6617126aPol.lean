import Derived.Test.Qxb6617126aRow
namespace Go.Proofs.Qxb6617126a
open Go.RowKit

/-- The cells of a row of logs. -/
def logCells (ss : List ByteArray) : List Value := ss.flatMap fun s => [.pointer none, .string s, .string ByteArray.empty]
theorem logCells_cons (s : ByteArray) (r : List ByteArray) : logCells (s :: r) = .pointer none :: .string s :: .string ByteArray.empty :: logCells r := by simp [logCells]
theorem length_logCells (ss : List ByteArray) : (logCells ss).length = ss.length * 3 := by
  induction ss with
  | nil => rfl
  | cons x r ih => rw [logCells_cons]; simp; omega
theorem logCells_get (ss : List ByteArray) (j : Nat) (s : ByteArray) (h : ss[j]? = some s) : (logCells ss)[j * 3]? = some (.pointer none) ∧ (logCells ss)[j * 3 + 1]? = some (.string s) ∧ (logCells ss)[j * 3 + 2]? = some (.string ByteArray.empty) := by
  induction ss generalizing j with
  | nil => simp at h
  | cons y r ih =>
    rw [logCells_cons]
    cases j with
    | zero => simp at h; subst h; simp
    | succ j =>
      have := ih j (by simpa using h)
      rw [show (j + 1) * 3 = j * 3 + 3 by omega]
      simpa using this
theorem logCells_set (ss : List ByteArray) (j : Nat) (s : ByteArray) : (logCells ss).set (j * 3 + 1) (.string s) = logCells (ss.set j s) := by
  induction ss generalizing j with
  | nil => simp [logCells]
  | cons y r ih =>
    cases j with
    | zero => simp [logCells_cons]
    | succ j =>
      rw [show (j + 1) * 3 + 1 = (j * 3 + 1) + 3 by omega]
      simp [logCells_cons, ih j]
theorem made_logs (n : Nat) : (madeCells (Value.agg #[.pointer none, .string ByteArray.empty, .string ByteArray.empty]).cells (n * 3)).toList = logCells (List.replicate n ByteArray.empty) := by
  apply List.ext_getElem?
  intro i
  have hl : (logCells (List.replicate n ByteArray.empty)).length = n * 3 := by rw [length_logCells]; simp
  by_cases h : i < n * 3
  · obtain ⟨j, hj⟩ : ∃ j, i = j * 3 ∨ i = j * 3 + 1 ∨ i = j * 3 + 2 := ⟨i / 3, by omega⟩
    have hjn : j < n := by omega
    have hg := logCells_get (List.replicate n ByteArray.empty) j ByteArray.empty (by simp [hjn])
    rcases hj with rfl | rfl | rfl
    · rw [hg.1]; simp [madeCells, Value.cells, h]
    · rw [hg.2.1]; simp [madeCells, Value.cells, h, Nat.add_mod]
    · rw [hg.2.2]; simp [madeCells, Value.cells, h, Nat.add_mod]
  · rw [List.getElem?_eq_none (by simp [madeCells]; omega), List.getElem?_eq_none (by omega)]

/-- j origins laid. -/
def laid (ss : List ByteArray) (k : Nat) : List ByteArray := ss.take k ++ List.replicate (ss.length - k) ByteArray.empty
theorem laid_zero (ss : List ByteArray) : laid ss 0 = List.replicate ss.length ByteArray.empty := by simp [laid]
theorem laid_all (ss : List ByteArray) : laid ss ss.length = ss := by simp [laid]
theorem laid_get (ss : List ByteArray) (k : Nat) (h : k < ss.length) : (laid ss k)[k]? = some ByteArray.empty := by
  unfold laid
  rw [List.getElem?_append_right (by rw [List.length_take]; omega), List.length_take, Nat.min_eq_left (by omega), Nat.sub_self, List.getElem?_replicate, if_pos (by omega)]
theorem laid_succ (ss : List ByteArray) (k : Nat) (x : ByteArray) (h : ss[k]? = some x) : (laid ss k).set k x = laid ss (k + 1) := by
  have hk : k < ss.length := (List.getElem?_eq_some_iff.1 h).1
  unfold laid
  rw [List.set_append_right _ _ (by rw [List.length_take]; omega), List.take_add_one, h]
  obtain ⟨m, hm⟩ : ∃ m, ss.length - k = m + 1 := ⟨ss.length - k - 1, by omega⟩
  rw [hm, show ss.length - (k + 1) = m by omega, List.length_take, Nat.min_eq_left (by omega), Nat.sub_self, List.replicate_succ]
  simp

/-- A pointer to a policy whose logs' origins are r; its blocks are not g. -/
def PolAt (w : World) (g : Nat) (pv : Value) (r : List ByteArray) : Prop :=
  ∃ pb lb, pv = .pointer (some ⟨pb, 0, none⟩) ∧ pb < w.heap.size ∧ lb < w.heap.size ∧ pb ≠ g ∧ lb ≠ g ∧ w.cell? ⟨pb, 0, none⟩ = some (.slice (some ⟨lb, 0, none⟩) r.length r.length) ∧
    ∀ t s, r[t]? = some s → w.cell? ⟨lb, t * 3, none⟩ = some (.pointer none) ∧ w.cell? ⟨lb, t * 3 + 1, none⟩ = some (.string s) ∧ w.cell? ⟨lb, t * 3 + 2, none⟩ = some (.string ByteArray.empty)
theorem PolAt.on {w w' : World} {g : Nat} {pv : Value} {r : List ByteArray} (h : PolAt w g pv r) (hg : w.grownBy w' (some g)) : PolAt w' g pv r := by
  obtain ⟨pb, lb, h1, h2, h3, h4, h5, h6, h7⟩ := h
  refine ⟨pb, lb, h1, Nat.lt_of_lt_of_le h2 hg.size, Nat.lt_of_lt_of_le h3 hg.size, h4, h5, hg.cell h6 (by simpa using h4), fun t s hs => ?_⟩
  obtain ⟨a, b, c⟩ := h7 t s hs
  exact ⟨hg.cell a (by simpa using h5), hg.cell b (by simpa using h5), hg.cell c (by simpa using h5)⟩

/-- Pointers to the policies of rs. -/
def PtrsAt (w : World) (g : Nat) (pvs : List Value) (rs : List (List ByteArray)) : Prop := pvs.length = rs.length ∧ ∀ (j : Nat) (pv : Value) (r : List ByteArray), pvs[j]? = some pv → rs[j]? = some r → PolAt w g pv r
theorem PtrsAt.on {w w' : World} {g : Nat} {pvs : List Value} {rs : List (List ByteArray)} (h : PtrsAt w g pvs rs) (hg : w.grownBy w' (some g)) : PtrsAt w' g pvs rs :=
  ⟨h.1, fun j pv r h1 h2 => (h.2 j pv r h1 h2).on hg⟩
theorem PtrsAt.snoc {w : World} {g : Nat} {pvs : List Value} {rs : List (List ByteArray)} {pv : Value} {r : List ByteArray} (h : PtrsAt w g pvs rs) (hp : PolAt w g pv r) : PtrsAt w g (pvs ++ [pv]) (rs ++ [r]) := by
  refine ⟨by simp [h.1], fun j pv' r' h1 h2 => ?_⟩
  by_cases hj : j < pvs.length
  · rw [List.getElem?_append_left hj] at h1
    rw [List.getElem?_append_left (by rw [← h.1]; exact hj)] at h2
    exact h.2 j pv' r' h1 h2
  · rw [List.getElem?_append_right (by omega)] at h1
    rw [List.getElem?_append_right (by rw [← h.1]; omega)] at h2
    have hz : j - pvs.length = 0 := by
      have := (List.getElem?_eq_some_iff.1 h1).1
      simp at this; omega
    rw [hz] at h1
    rw [← h.1, hz] at h2
    simp at h1 h2
    subst h1 h2
    exact hp

/-- A slice of pointers to the policies of rs. -/
def Pols (w : World) (a : Option Addr) (n : Nat) (rs : List (List ByteArray)) : Prop :=
  n = rs.length ∧ ∀ j r, rs[j]? = some r → ∃ g pv, a = some ⟨g, 0, none⟩ ∧ g < w.heap.size ∧ w.cell? ⟨g, j, none⟩ = some pv ∧ PolAt w g pv r
theorem Pols.on {w w' : World} {a : Option Addr} {n : Nat} {rs : List (List ByteArray)} (h : Pols w a n rs) (hg : w.grownBy w' none) : Pols w' a n rs :=
  ⟨h.1, fun j r hr => by
    obtain ⟨g, pv, h1, h2, h3, h4⟩ := h.2 j r hr
    exact ⟨g, pv, h1, Nat.lt_of_lt_of_le h2 hg.size, hg.cell h3 (by simp), h4.on (hg.but _)⟩⟩
end Go.Proofs.Qxb6617126a
