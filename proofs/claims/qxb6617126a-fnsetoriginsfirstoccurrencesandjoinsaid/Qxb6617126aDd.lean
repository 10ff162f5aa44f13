import Derived.Test.Qxb6617126aIdx
namespace Go.Proofs.Qxb6617126a

/-- Each once, in the order of first appearance. -/
def dd (l : List ByteArray) : List ByteArray := l.foldl (fun acc s => if has acc s then acc else acc ++ [s]) []
theorem dd_nil : dd [] = [] := rfl
theorem dd_snoc (l : List ByteArray) (s : ByteArray) : dd (l ++ [s]) = if has (dd l) s then dd l else dd l ++ [s] := by
  unfold dd; rw [List.foldl_append]; rfl

theorem snoc_ind {P : List ByteArray → Prop} (h0 : P []) (h1 : ∀ l s, P l → P (l ++ [s])) (l : List ByteArray) : P l := by
  have : ∀ n (l : List ByteArray), l.length = n → P l := by
    intro n
    induction n with
    | zero => intro l hl; rw [List.eq_nil_of_length_eq_zero hl]; exact h0
    | succ n ih =>
      intro l hl
      have hne : l ≠ [] := fun e => by rw [e] at hl; simp at hl
      rw [← List.dropLast_concat_getLast hne]
      exact h1 _ _ (ih _ (by rw [List.length_dropLast]; omega))
  exact this _ l rfl

theorem mem_dd (l : List ByteArray) (s : ByteArray) : s ∈ dd l ↔ s ∈ l := by
  induction l using snoc_ind with
  | h0 => rfl
  | h1 l t ih =>
    rw [dd_snoc]
    by_cases h : has (dd l) t = true
    · rw [if_pos h, ih]
      constructor
      · intro hs; exact List.mem_append_left _ hs
      · intro hs
        rcases List.mem_append.1 hs with hs | hs
        · exact hs
        · simp at hs; subst hs; exact ih.1 ((has_iff _ _).1 h)
    · rw [if_neg h, List.mem_append, List.mem_append, ih]
theorem has_dd (l : List ByteArray) (s : ByteArray) : has (dd l) s = has l s := by
  rw [Bool.eq_iff_iff, has_iff, has_iff, mem_dd]
theorem dd_len (l : List ByteArray) : (dd l).length ≤ l.length := by
  induction l using snoc_ind with
  | h0 => simp [dd_nil]
  | h1 l t ih =>
    rw [dd_snoc]
    split
    · simp; omega
    · simp; omega

/-- Those of l that are not among m. -/
def minus (l m : List ByteArray) : List ByteArray := l.filter fun s => !(has m s)
theorem dd_join (p q : List ByteArray) : dd (p ++ q) = dd p ++ minus (dd q) (dd p) := by
  induction q using snoc_ind with
  | h0 => simp [dd_nil, minus]
  | h1 q s ih =>
    rw [← List.append_assoc, dd_snoc, ih, dd_snoc]
    by_cases hp : has (dd p) s = true
    · have h1 : has (dd p ++ minus (dd q) (dd p)) s = true := (has_iff _ _).2 (List.mem_append_left _ ((has_iff _ _).1 hp))
      rw [if_pos h1]
      by_cases hq : has (dd q) s = true
      · rw [if_pos hq]
      · rw [if_neg hq]
        unfold minus
        rw [List.filter_append]
        simp [hp]
    · have hp' : has (dd p) s = false := by simpa using hp
      by_cases hq : has (dd q) s = true
      · have h1 : has (dd p ++ minus (dd q) (dd p)) s = true := (has_iff _ _).2 (List.mem_append_right _ (List.mem_filter.2 ⟨(has_iff _ _).1 hq, by rw [hp']; rfl⟩))
        rw [if_pos h1, if_pos hq]
      · have h1 : ¬ has (dd p ++ minus (dd q) (dd p)) s = true := fun h => by
          rcases List.mem_append.1 ((has_iff _ _).1 h) with h | h
          · exact hp ((has_iff _ _).2 h)
          · exact hq ((has_iff _ _).2 (List.mem_filter.1 h).1)
        rw [if_neg h1, if_neg hq]
        unfold minus
        rw [List.filter_append]
        simp [hp']

theorem First.lt {l : List ByteArray} {s : ByteArray} {k : Nat} (h : First l s k) : k < l.length := (List.getElem?_eq_some_iff.1 h.1).1
theorem First.head {l : List ByteArray} {u s : ByteArray} {k : Nat} (h : First (l ++ [u]) s k) (hs : s ∈ l) : First l s k := by
  have hk : k < l.length := by
    obtain ⟨j, hj⟩ := List.getElem?_of_mem hs
    have hjl := (List.getElem?_eq_some_iff.1 hj).1
    refine Nat.lt_of_not_le fun hge => h.2 j (by omega) ?_
    rw [List.getElem?_append_left hjl]; exact hj
  refine ⟨by rw [← List.getElem?_append_left hk]; exact h.1, fun j hj => ?_⟩
  have := h.2 j hj
  rwa [List.getElem?_append_left (by omega)] at this

/-- First places rise along dd. -/
theorem dd_rise (l : List ByteArray) : ∀ (i j : Nat) (s t : ByteArray) (ki kj : Nat), i < j → (dd l)[i]? = some s → (dd l)[j]? = some t → First l s ki → First l t kj → ki < kj := by
  induction l using snoc_ind with
  | h0 => intro i j s t ki kj _ h; simp [dd_nil] at h
  | h1 l u ih =>
    intro i j s t ki kj hij hs ht hfs hft
    rw [dd_snoc] at hs ht
    by_cases h : has (dd l) u = true
    · rw [if_pos h] at hs ht
      exact ih i j s t ki kj hij hs ht (hfs.head ((mem_dd l s).1 (List.mem_of_getElem? hs))) (hft.head ((mem_dd l t).1 (List.mem_of_getElem? ht)))
    · rw [if_neg h] at hs ht
      have hu : u ∉ l := fun hu => h (by rw [has_dd]; exact (has_iff _ _).2 hu)
      have hjl := (List.getElem?_eq_some_iff.1 ht).1
      simp at hjl
      have hi : i < (dd l).length := by omega
      rw [List.getElem?_append_left hi] at hs
      have hsl := (mem_dd l s).1 (List.mem_of_getElem? hs)
      by_cases hj : j < (dd l).length
      · rw [List.getElem?_append_left hj] at ht
        exact ih i j s t ki kj hij hs ht (hfs.head hsl) (hft.head ((mem_dd l t).1 (List.mem_of_getElem? ht)))
      · have e : j = (dd l).length := by omega
        subst e
        rw [List.getElem?_append_right (Nat.le_refl _)] at ht
        simp at ht
        subst ht
        have k1 := (hfs.head hsl).lt
        refine Nat.lt_of_lt_of_le k1 (Nat.le_of_not_lt fun hlt => hu ?_)
        have := hft.1
        rw [List.getElem?_append_left hlt] at this
        exact List.mem_of_getElem? this
end Go.Proofs.Qxb6617126a
