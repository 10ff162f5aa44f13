import Derived.Test.Qxb6617126aBase
namespace Go.Proofs.Qxb6617126a
open Go.RowKit

theorem str_eq (s x : ByteArray) : (s.toList == x.toList) = decide (s = x) := by
  rw [Lib.toList_data, Lib.toList_data, Bool.eq_iff_iff]
  simp only [beq_iff_eq, decide_eq_true_iff]
  constructor
  · intro h
    cases s; cases x
    simp at h
    simp [h]
  · intro h; rw [h]

/-- Is x among ss? -/
def has (ss : List ByteArray) (x : ByteArray) : Bool := ss.any fun s => decide (s = x)
theorem has_iff (ss : List ByteArray) (x : ByteArray) : has ss x = true ↔ x ∈ ss := by
  unfold has
  rw [List.any_eq_true]
  constructor
  · rintro ⟨y, hy, he⟩
    rw [← of_decide_eq_true he]; exact hy
  · intro h; exact ⟨x, h, decide_eq_true rfl⟩
theorem has_not (ss : List ByteArray) (x : ByteArray) : has ss x = false ↔ x ∉ ss := by
  rw [← has_iff, Bool.not_eq_true]

/-- Where x stands first in ss. -/
def First (ss : List ByteArray) (x : ByteArray) (k : Nat) : Prop := ss[k]? = some x ∧ ∀ j, j < k → ss[j]? ≠ some x
/-- What a search for x in ss hands back. -/
def IdxIs (ss : List ByteArray) (x : ByteArray) (r : Int) : Prop := (r = -1 ∧ x ∉ ss) ∨ ∃ k : Nat, First ss x k ∧ r = k
def IdxRet (ss : List ByteArray) (x : ByteArray) (e : Ending) : Prop := ∃ r, e = .returned (.int .i64 r) ∧ IdxIs ss x r

theorem IdxIs.none {ss : List ByteArray} {x : ByteArray} (h : ∀ j, j < ss.length → ss[j]? ≠ some x) : IdxIs ss x (-1) :=
  .inl ⟨rfl, fun hx => by
    obtain ⟨j, hj⟩ := List.getElem?_of_mem hx
    exact h j (List.getElem?_eq_some_iff.1 hj).1 hj⟩

set_option maxHeartbeats 400000 in
theorem zzIndex_any (a : Option Addr) (n cap : Nat) (ss : List ByteArray) (x : ByteArray) (hn : n ≤ 9223372036854775807) (w : World) (h : Strs w a n ss) :
    Calls Try.prog 10 #[.slice a n cap, .string x] w fun e w' => IdxRet ss x e ∧ w' = w := by
  have M : Aside (Strs w a n ss) := h
  clear h
  go_enter Try.func10, Try.ntmps10
  go_wp2
  go_loopg [5] n (fun gg s5 wr => ∃ i : Nat, i ≤ n ∧ n - i ≤ gg ∧ s5 = .int .i64 i ∧ Aside (∀ j, j < i → ss[j]? ≠ some x) ∧ w = wr)
  case atStart => exact ⟨0, Nat.zero_le _, by omega, rfl, fun j hj => absurd hj (Nat.not_lt_zero _), rfl⟩
  case round =>
    obtain ⟨i, hi, hgg, rfl, A, rfl⟩ := hrel
    by_cases hlt : i < n
    · have hltz : (i : Int) < (n : Int) := by omega
      obtain ⟨s, b, off, hs, rfl, hb, c0⟩ := M.out.get hlt
      have S : Aside (ss[i]? = some s) := hs
      clear hs
      cases hq : s.toList == x.toList with
      | true =>
        have e : s = x := by rw [str_eq] at hq; exact of_decide_eq_true hq
        have E : Aside (s = x) := e
        clear e
        go_wp2
        go_ret
        exact ⟨⟨_, rfl, .inr ⟨i, ⟨by rw [← E.out]; exact S.out, A.out⟩, rfl⟩⟩, rfl⟩
      | false =>
        have e : s ≠ x := by rw [str_eq] at hq; exact of_decide_eq_false hq
        have E : Aside (s ≠ x) := e
        clear e
        go_wp2
        go_roundg (n - (i + 1))
        case measure => omega
        case rel =>
          refine ⟨i + 1, by omega, Nat.le_refl _, by go_num, (show Aside _ from fun j hj => ?_), rfl⟩
          by_cases e : j = i
          · subst e; rw [S.out]; simpa using E.out
          · exact A.out j (by omega)
    · obtain rfl : i = n := by omega
      have hltz : ¬ (i : Int) < (i : Int) := by omega
      go_wp2
      go_ret
      exact ⟨⟨_, rfl, IdxIs.none (by rw [← M.out.len]; exact A.out)⟩, rfl⟩

set_option maxHeartbeats 400000 in
theorem index_any (a : Option Addr) (n cap : Nat) (ss : List ByteArray) (x : ByteArray) (hn : n ≤ 9223372036854775807) (w : World) (h : Strs w a n ss) :
    Calls Try.prog 16 #[.slice a n cap, .string x] w fun e w' => IdxRet ss x e ∧ w' = w := by
  have M : Aside (Strs w a n ss) := h
  clear h
  go_enter Try.func16, Try.ntmps16
  go_wp2
  go_loopg [5, 8] n (fun gg _ s8 wr => ∃ i : Nat, i ≤ n ∧ n - i ≤ gg ∧ s8 = .int .i64 i ∧ Aside (∀ j, j < i → ss[j]? ≠ some x) ∧ w = wr)
  case atStart => exact ⟨0, Nat.zero_le _, by omega, rfl, fun j hj => absurd hj (Nat.not_lt_zero _), rfl⟩
  case round =>
    obtain ⟨i, hi, hgg, rfl, A, rfl⟩ := hrel
    by_cases hlt : i < n
    · have hltz : (i : Int) < (n : Int) := by omega
      obtain ⟨s, b, off, hs, rfl, hb, c0⟩ := M.out.get hlt
      have S : Aside (ss[i]? = some s) := hs
      clear hs
      cases hq : x.toList == s.toList with
      | true =>
        have e : x = s := by rw [str_eq] at hq; exact of_decide_eq_true hq
        have E : Aside (x = s) := e
        clear e
        go_wp2
        go_ret
        exact ⟨⟨_, rfl, .inr ⟨i, ⟨by rw [E.out]; exact S.out, by exact A.out⟩, rfl⟩⟩, rfl⟩
      | false =>
        have e : x ≠ s := by rw [str_eq] at hq; exact of_decide_eq_false hq
        have E : Aside (x ≠ s) := e
        clear e
        go_wp2
        go_roundg (n - (i + 1))
        case measure => omega
        case rel =>
          refine ⟨i + 1, by omega, Nat.le_refl _, by go_num, (show Aside _ from fun j hj => ?_), rfl⟩
          by_cases e : j = i
          · subst e; rw [S.out]; simpa using E.out.symm
          · exact A.out j (by omega)
    · obtain rfl : i = n := by omega
      have hltz : ¬ (i : Int) < (i : Int) := by omega
      go_wp2
      go_ret
      exact ⟨⟨_, rfl, IdxIs.none (by rw [← M.out.len]; exact A.out)⟩, rfl⟩

theorem IdxIs.dec {ss : List ByteArray} {x : ByteArray} {r : Int} (h : IdxIs ss x r) : decide (0 ≤ r) = has ss x := by
  rcases h with ⟨rfl, h⟩ | ⟨k, h, rfl⟩
  · rw [(has_not ss x).2 h]; rfl
  · rw [(has_iff ss x).2 (List.mem_of_getElem? h.1)]; exact decide_eq_true (by omega)

set_option maxHeartbeats 400000 in
theorem contains_any (a : Option Addr) (n cap : Nat) (ss : List ByteArray) (x : ByteArray) (hn : n ≤ 9223372036854775807) (w : World) (h : Strs w a n ss) :
    Calls Try.prog 14 #[.slice a n cap, .string x] w fun e w' => e = .returned (.bool (has ss x)) ∧ w' = w := by
  have hI := index_any a n cap ss x hn w h
  generalize hD : has ss x = D
  have HD : Aside (has ss x = D) := hD
  clear hD h
  go_enter Try.func14, Try.ntmps14
  go_wp2_with fail
  refine hI.mono ?_
  rintro e w' ⟨⟨r, rfl, hr⟩, rfl⟩
  have HR : Aside (decide (0 ≤ r) = D) := hr.dec.trans HD.out
  clear hr hI HD
  go_wp2
  go_ret
  exact ⟨ret_bool HR.out, rfl⟩
end Go.Proofs.Qxb6617126a
