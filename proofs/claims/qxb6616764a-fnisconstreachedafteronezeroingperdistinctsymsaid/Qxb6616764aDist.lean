import Derived.Test.Qxb6616764aDel
namespace Go.Proofs.Qxb6616764a

/-- How many distinct syms. -/
def dist (ts : List (Int × Int)) : Nat := ((ts.map (·.1)).eraseDups).length

/-- Is the sym of x among those of ts? -/
def seenIn (s : Int) (ts : List (Int × Int)) : Bool := ts.any fun y => y.1 == s

theorem dist_nil : dist [] = 0 := by simp [dist]
theorem dist_cons (x : Int × Int) (r : List (Int × Int)) : dist (x :: r) = dist (zeroed x.1 (x :: r)) + 1 := by
  unfold dist zeroed
  rw [List.map_cons, List.eraseDups_cons, List.length_cons, List.filter_map]
  simp [Function.comp_def]
theorem dist_snoc (ts : List (Int × Int)) (x : Int × Int) : dist (ts ++ [x]) = dist ts + if seenIn x.1 ts then 0 else 1 := by
  unfold dist
  rw [List.map_append, List.eraseDups_append, List.length_append]
  congr 1
  by_cases h : x.1 ∈ ts.map (·.1)
  · have : seenIn x.1 ts = true := by
      simp only [List.mem_map] at h
      obtain ⟨y, hy, he⟩ := h
      exact List.any_eq_true.2 ⟨y, hy, by simpa using he⟩
    rw [this]
    simp only [List.map_cons, List.map_nil, List.removeAll, List.filter_cons, List.filter_nil]
    simp [List.mem_map.1 h]
  · have : seenIn x.1 ts = false := by
      rw [Bool.eq_false_iff]
      intro hs
      obtain ⟨y, hy, he⟩ := List.any_eq_true.1 hs
      exact h (List.mem_map.2 ⟨y, hy, by simpa using he⟩)
    rw [this]
    simp only [List.map_cons, List.map_nil, List.removeAll, List.filter_cons, List.filter_nil]
    simp [h, List.eraseDups_cons]
theorem zeroed_head (x : Int × Int) (r : List (Int × Int)) : zeroed x.1 (x :: r) = zeroed x.1 r := by simp [zeroed]
theorem dist_le_aux : ∀ (n : Nat) (ts : List (Int × Int)), ts.length ≤ n → dist ts ≤ ts.length
  | 0, ts, h => by rw [List.eq_nil_of_length_eq_zero (Nat.le_zero.1 h)]; simp [dist_nil]
  | n + 1, [], _ => by simp [dist_nil]
  | n + 1, x :: r, h => by
    have hl : (zeroed x.1 r).length ≤ r.length := List.length_filter_le _ _
    have := dist_le_aux n (zeroed x.1 r) (by simp at h; omega)
    rw [dist_cons, zeroed_head, List.length_cons]
    omega
theorem dist_le (ts : List (Int × Int)) : dist ts ≤ ts.length := dist_le_aux _ ts (Nat.le_refl _)
theorem dist_pos (x : Int × Int) (r : List (Int × Int)) : 0 < dist (x :: r) := by rw [dist_cons]; omega
theorem seenIn_snoc (s : Int) (ts : List (Int × Int)) (y : Int × Int) : seenIn s (ts ++ [y]) = (seenIn s ts || (y.1 == s)) := by simp [seenIn]
theorem seenIn_nil (s : Int) : seenIn s [] = false := rfl
end Go.Proofs.Qxb6616764a
