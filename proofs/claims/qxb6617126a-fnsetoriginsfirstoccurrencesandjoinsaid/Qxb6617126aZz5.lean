import Derived.Test.Qxb6617126aBase
namespace Go.Proofs.Qxb6617126a
open Go.RowKit

/-- A slice of slices of strings. -/
def Mat (w : World) (a : Option Addr) (n : Nat) (rs : List (List ByteArray)) : Prop :=
  n = rs.length ∧ (a = none → n = 0) ∧ ∀ j r, rs[j]? = some r → ∃ b off a' n' c', a = some ⟨b, off, none⟩ ∧ b < w.heap.size ∧ w.cell? ⟨b, off + j, none⟩ = some (.slice a' n' c') ∧ Strs w a' n' r
theorem Mat.len {w : World} {a : Option Addr} {n : Nat} {rs : List (List ByteArray)} (h : Mat w a n rs) : n = rs.length := h.1
theorem Mat.on {w w' : World} {a : Option Addr} {n : Nat} {rs : List (List ByteArray)} (h : Mat w a n rs) (hg : w.grownBy w' none) : Mat w' a n rs :=
  ⟨h.1, h.2.1, fun j x hx => by
    obtain ⟨b, off, a', n', c', h1, h2, h3, h4⟩ := h.2.2 j x hx
    exact ⟨b, off, a', n', c', h1, Nat.lt_of_lt_of_le h2 hg.size, hg.cell h3 (by simp), h4.on hg⟩⟩
theorem Mat.get {w : World} {a : Option Addr} {n : Nat} {rs : List (List ByteArray)} (h : Mat w a n rs) {j : Nat} (hj : j < n) : ∃ r b off a' n' c', rs[j]? = some r ∧ a = some ⟨b, off, none⟩ ∧ b < w.heap.size ∧ w.cell? ⟨b, off + j, none⟩ = some (.slice a' n' c') ∧ Strs w a' n' r := by
  have hj' : j < rs.length := by rw [← h.1]; exact hj
  obtain ⟨b, off, a', n', c', h1⟩ := h.2.2 j rs[j] (List.getElem?_eq_getElem hj')
  exact ⟨_, b, off, a', n', c', List.getElem?_eq_getElem hj', h1⟩
/-- Every row's length is an int. -/
def MatOk (rs : List (List ByteArray)) : Prop := ∀ r ∈ rs, r.length ≤ 9223372036854775807

set_option maxHeartbeats 2000000 in
set_option maxRecDepth 100000 in
theorem zz5 (ap aq : Option Addr) (np cp nq cq : Nat) (ps qs : List (List ByteArray)) (w : World) (hp : np ≤ 9223372036854775807) (hq : nq ≤ 9223372036854775807) (okP : MatOk ps) (okQ : MatOk qs)
    (hP : Mat w ap np ps) (hQ : Mat w aq nq qs) :
    Calls Try.prog 5 #[.slice ap np cp, .slice aq nq cq] w fun e w' => BoolRet e ∧ w' = w := by
  have P : Aside (Mat w ap np ps ∧ MatOk ps) := ⟨hP, okP⟩
  have Q : Aside (Mat w aq nq qs ∧ MatOk qs) := ⟨hQ, okQ⟩
  clear hP hQ okP okQ
  go_enter Try.func5, Try.ntmps5
  go_wp2
  any_goals (go_ret; exact ⟨⟨_, rfl⟩, rfl⟩)
  go_loopg [4, 5, 6, 7] np (fun gg _ s5 s6 _ wr => ∃ (i : Nat) (z : Int), i ≤ np ∧ np - i ≤ gg ∧ s6 = .int .i64 i ∧ s5 = .int .i64 z ∧ w = wr)
  case atStart => exact ⟨0, _, Nat.zero_le _, by omega, rfl, rfl, rfl⟩
  case round =>
    obtain ⟨i, z, hi, hgi, rfl, rfl, rfl⟩ := hrel
    by_cases hlt : i < np
    · have hltz : (i : Int) < (np : Int) := by omega
      obtain ⟨r, b, off, a', n', c', hr, rfl, _, c0, hS⟩ := P.out.1.get hlt
      have hn' : n' ≤ 9223372036854775807 := by rw [hS.len]; exact P.out.2 r (List.mem_of_getElem? hr)
      have S : Aside (Strs w a' n' r) := hS
      clear hS hr
      go_wp2
      any_goals (go_ret; exact ⟨⟨_, rfl⟩, rfl⟩)
      go_loopg [4, 5, 7] n' (fun gg _ s5 s7 wr => ∃ (j : Nat) (z : Int), j ≤ n' ∧ n' - j ≤ gg ∧ s7 = .int .i64 j ∧ s5 = .int .i64 z ∧ w = wr)
      case atStart => exact ⟨0, _, Nat.zero_le _, by omega, rfl, rfl, rfl⟩
      case round =>
        obtain ⟨j, z', hj, hgj, rfl, rfl, rfl⟩ := hrel
        by_cases hlj : j < n'
        · have hljz : (j : Int) < (n' : Int) := by omega
          obtain ⟨s, b', off', _, rfl, _, d0⟩ := S.out.get hlj
          go_wp2
          any_goals (go_ret; exact ⟨⟨_, rfl⟩, rfl⟩)
          go_roundg (n' - (j + 1))
          case measure => omega
          case rel => exact ⟨j + 1, _, by omega, Nat.le_refl _, by go_num, rfl, rfl⟩
        · have hljz : ¬ (j : Int) < (n' : Int) := by omega
          go_wp2
          go_roundg (np - (i + 1))
          case measure => omega
          case rel => exact ⟨i + 1, _, by omega, Nat.le_refl _, by go_num, rfl, rfl⟩
    · have hltz : ¬ (i : Int) < (np : Int) := by omega
      go_wp2
      any_goals (go_ret; exact ⟨⟨_, rfl⟩, rfl⟩)
      go_loopg [4, 5, 8, 9] nq (fun gg _ s5 s6 _ wr => ∃ (i : Nat) (z : Int), i ≤ nq ∧ nq - i ≤ gg ∧ s6 = .int .i64 i ∧ s5 = .int .i64 z ∧ w = wr)
      case atStart => exact ⟨0, _, Nat.zero_le _, by omega, rfl, rfl, rfl⟩
      case round =>
        obtain ⟨i, z, hi, hgi, rfl, rfl, rfl⟩ := hrel
        by_cases hlt : i < nq
        · have hltz : (i : Int) < (nq : Int) := by omega
          obtain ⟨r, b, off, a', n', c', hr, rfl, _, c0, hS⟩ := Q.out.1.get hlt
          have hn' : n' ≤ 9223372036854775807 := by rw [hS.len]; exact Q.out.2 r (List.mem_of_getElem? hr)
          have S : Aside (Strs w a' n' r) := hS
          clear hS hr
          go_wp2
          any_goals (go_ret; exact ⟨⟨_, rfl⟩, rfl⟩)
          go_loopg [4, 5, 9] n' (fun gg _ s5 s7 wr => ∃ (j : Nat) (z : Int), j ≤ n' ∧ n' - j ≤ gg ∧ s7 = .int .i64 j ∧ s5 = .int .i64 z ∧ w = wr)
          case atStart => exact ⟨0, _, Nat.zero_le _, by omega, rfl, rfl, rfl⟩
          case round =>
            obtain ⟨j, z', hj, hgj, rfl, rfl, rfl⟩ := hrel
            by_cases hlj : j < n'
            · have hljz : (j : Int) < (n' : Int) := by omega
              obtain ⟨s, b', off', _, rfl, _, d0⟩ := S.out.get hlj
              go_wp2
              any_goals (go_ret; exact ⟨⟨_, rfl⟩, rfl⟩)
              go_roundg (n' - (j + 1))
              case measure => omega
              case rel => exact ⟨j + 1, _, by omega, Nat.le_refl _, by go_num, rfl, rfl⟩
            · have hljz : ¬ (j : Int) < (n' : Int) := by omega
              go_wp2
              go_roundg (nq - (i + 1))
              case measure => omega
              case rel => exact ⟨i + 1, _, by omega, Nat.le_refl _, by go_num, rfl, rfl⟩
        · have hltz : ¬ (i : Int) < (nq : Int) := by omega
          go_wp2
          all_goals (go_ret; exact ⟨⟨_, rfl⟩, rfl⟩)
end Go.Proofs.Qxb6617126a
