import Derived.Test.Qxb6617126aPolWalk
import Derived.Test.Qxb6617126aDd
namespace Go.Proofs.Qxb6617126a
open Go.RowKit

/-- A slice of strings in a row of the call's own. -/
def Own (base : Nat) (w : World) (a : Option Addr) (n cap : Nat) (ss : List ByteArray) : Prop := w.ownsRow base 9 1 (.slice a n cap) n (ss.map Value.string)
theorem Own.len {base : Nat} {w : World} {a : Option Addr} {n cap : Nat} {ss : List ByteArray} (h : Own base w a n cap ss) : n = ss.length := by
  have := h.1; simp at this; omega
theorem Own.on {base : Nat} {w w' : World} {a : Option Addr} {n cap : Nat} {ss : List ByteArray} (h : Own base w a n cap ss) (hg : w.grownBy w' none) : Own base w' a n cap ss :=
  h.kept hg (by cases h : (Value.slice a n cap).ownBlock <;> simp)
theorem Own.strs {base : Nat} {w : World} {a : Option Addr} {n cap : Nat} {ss : List ByteArray} (h : Own base w a n cap ss) : Strs w a n ss := by
  refine ⟨h.len, fun j s hs => ?_⟩
  have hj : j < ss.length := (List.getElem?_eq_some_iff.1 hs).1
  have hl := h.len
  rcases h.2 with ⟨_, h0⟩ | ⟨g, cap', cur, hv, _⟩
  · omega
  · simp at hv
    obtain ⟨rfl, rfl⟩ := hv
    refine ⟨g, 0, rfl, (owns_lt h).2.1, ?_⟩
    rw [Nat.zero_add, World.ownsRow.cellAt h j (by omega), List.getElem?_map, hs]
    rfl
theorem Own.nil (base : Nat) (w : World) : Own base w none 0 0 [] := World.ownsRow_nil _ _ _ _
theorem Own.add {base : Nat} {w : World} {a : Option Addr} {n cap : Nat} {ss : List ByteArray} (h : Own base w a n cap ss) (hb : base ≤ w.heap.size) (hn : n ≤ 1048576) (s : ByteArray) :
    ∃ a' n' cap' w', (Builtin.append_ #[25, 25] 25 #[.slice a n cap, .slice (some ⟨w.heap.size, 0, none⟩) 1 1]).run Try.prog (w.alloc (.cells #[.string s] 9)) = .ok (.slice a' n' cap') w' ∧
      Own base w' a' n' cap' (ss ++ [s]) ∧ w.grownBy w' (Value.slice a n cap).ownBlock := by
  obtain ⟨v', w', hr, ho, hg⟩ := appendAny Try.underlying25 info9 rfl h hb (by unfold maxLen; omega) (by omega) (.string s) rfl
  obtain ⟨a', n', cap', rfl, hn'⟩ : ∃ a' n' cap', v' = .slice a' n' cap' ∧ n' = n + 1 := by
    rcases ho.2 with ⟨h, h0⟩ | ⟨g, c, _, h, _⟩
    · omega
    · exact ⟨_, _, _, h, rfl⟩
  subst hn'
  exact ⟨a', n + 1, cap', w', hr, by unfold Own; simpa using ho, hg⟩

/-- What Origins hands back. -/
def OrigRet (base : Nat) (w' : World) (ss : List ByteArray) (e : Ending) : Prop := ∃ a n cap, e = .returned (.slice a n cap) ∧ Own base w' a n cap ss

theorem grown_own {w W W' : World} {a : Option Addr} {n cap : Nat} {ss : List ByteArray} (h : Own w.heap.size W a n cap ss) (hg : w.grownBy W none) (hg' : W.grownBy W' (Value.slice a n cap).ownBlock) : w.grownBy W' none :=
  hg.andThen hg' (fun j hj => .inl (World.ownsRow.lt h j hj).1)

theorem newSet (a : Option Addr) (n cap : Nat) (w : World) : Calls Try.prog 7 #[.slice a n cap] w fun e w' => e = .returned (.pointer (some ⟨w.heap.size, 0, none⟩)) ∧ w' = w.alloc (.cells #[.slice a n cap] 40) := by
  go_enter Try.func7, Try.ntmps7
  go_wp2
  go_ret
  exact ⟨rfl, rfl⟩

set_option maxHeartbeats 4000000 in
set_option maxRecDepth 100000 in
theorem origins_any (sb : Nat) (a : Option Addr) (n cap : Nat) (rs : List (List ByteArray)) (w : World) (hn : n ≤ 9223372036854775807) (hl : rs.flatten.length ≤ 1048576) (hc : w.cell? ⟨sb, 0, none⟩ = some (.slice a n cap)) (hP : Pols w a n rs) :
    Calls Try.prog 9 #[.pointer (some ⟨sb, 0, none⟩)] w fun e w' => OrigRet w.heap.size w' (dd rs.flatten) e ∧ w.grownBy w' none := by
  have P : Aside (Pols w a n rs) := hP
  have L : Aside (rs.flatten.length ≤ 1048576) := hl
  clear hP hl
  go_enter Try.func9, Try.ntmps9
  go_wp2
  go_loopg [3, 5, 7, 13, 22] n (fun gg s3 _ _ s13 _ wr => ∃ (i : Nat) (ao : Option Addr) (mo co : Nat), i ≤ n ∧ n - i ≤ gg ∧ s13 = .int .i64 i ∧ s3 = .slice ao mo co ∧ Aside (Own w.heap.size wr ao mo co (dd (rs.take i).flatten)) ∧ Aside (w.grownBy wr none))
  case atStart => exact ⟨0, none, 0, 0, Nat.zero_le _, by omega, rfl, rfl, Own.nil w.heap.size w, World.grownBy.refl _ _⟩
  case round =>
    obtain ⟨i, ao, mo, co, hi, hgg, rfl, rfl, O1, G1⟩ := hrel
    by_cases hlt : i < n
    · have hltz : (i : Int) < (n : Int) := by omega
      obtain ⟨r, hr⟩ : ∃ r, rs[i]? = some r := ⟨rs[i]'(by rw [← P.out.1]; exact hlt), List.getElem?_eq_getElem _⟩
      obtain ⟨g, pv, rfl, hgl, gc, pb, lb, rfl, hpb, hlb, _, _, pc, lc⟩ := P.out.2 i r hr
      obtain ⟨n', hn'⟩ : ∃ n', n' = r.length := ⟨_, rfl⟩
      rw [← hn'] at pc
      have N : Aside (n' = r.length) := hn'
      have LC : Aside (∀ t s, r[t]? = some s → w.cell? ⟨lb, t * 3, none⟩ = some (.pointer none) ∧ w.cell? ⟨lb, t * 3 + 1, none⟩ = some (.string s) ∧ w.cell? ⟨lb, t * 3 + 2, none⟩ = some (.string ByteArray.empty)) := lc
      have g0 : wr.cell? ⟨g, i, none⟩ = some (.pointer (some ⟨pb, 0, none⟩)) := G1.out.cell gc (by simp)
      have g1 : wr.cell? ⟨pb, 0, none⟩ = some (.slice (some ⟨lb, 0, none⟩) n' n') := G1.out.cell pc (by simp)
      have R : Aside (rs[i]? = some r) := hr
      have F : Aside ((rs.take (i + 1)).flatten = (rs.take i).flatten ++ r) := by
        show (rs.take (i + 1)).flatten = (rs.take i).flatten ++ r
        rw [List.take_add_one, hr]; simp
      have FL : Aside ((rs.take (i + 1)).flatten.length ≤ 1048576) := by
        show (rs.take (i + 1)).flatten.length ≤ 1048576
        have e : rs.flatten = (rs.take (i + 1)).flatten ++ (rs.drop (i + 1)).flatten := by rw [← List.flatten_append, List.take_append_drop]
        have := L.out
        rw [e, List.length_append] at this
        omega
      have hn2 : n' ≤ 1048576 := by
        have := FL.out
        rw [F.out, List.length_append] at this
        omega
      clear hr hn' gc pc lc
      go_wp2
      go_loopg [3, 7, 22] n' (fun gg s3 _ s22 wq => ∃ (j : Nat) (ao : Option Addr) (mo co : Nat), j ≤ n' ∧ n' - j ≤ gg ∧ s22 = .int .i64 j ∧ s3 = .slice ao mo co ∧ Aside (Own w.heap.size wq ao mo co (dd ((rs.take i).flatten ++ r.take j))) ∧ Aside (w.grownBy wq none))
      case atStart => exact ⟨0, ao, mo, co, Nat.zero_le _, by omega, rfl, rfl, by rw [List.take_zero, List.append_nil]; exact O1.out, G1.out⟩
      case round =>
        clear O1 g0 g1
        obtain ⟨j, ao, mo, co, hj, hgj, rfl, rfl, O2, G2⟩ := hrel
        by_cases hlj : j < n'
        · have hljz : (j : Int) < (n' : Int) := by omega
          obtain ⟨s, hs⟩ : ∃ s, r[j]? = some s := ⟨r[j]'(by rw [← N.out]; exact hlj), List.getElem?_eq_getElem _⟩
          obtain ⟨c0, c1, c2⟩ := LC.out j s hs
          have d0 := G2.out.cell c0 (by simp)
          have d1 := G2.out.cell c1 (by simp)
          have d2 := G2.out.cell c2 (by simp)
          have DS : Aside (dd ((rs.take i).flatten ++ r.take (j + 1)) = if has (dd ((rs.take i).flatten ++ r.take j)) s then dd ((rs.take i).flatten ++ r.take j) else dd ((rs.take i).flatten ++ r.take j) ++ [s]) := by
            show dd ((rs.take i).flatten ++ r.take (j + 1)) = _
            rw [List.take_add_one, hs, ← List.append_assoc]; exact dd_snoc _ _
          have hmo : mo ≤ 1048576 := by
            have e1 := O2.out.len
            have e2 := dd_len ((rs.take i).flatten ++ r.take j)
            have e3 := FL.out
            rw [F.out] at e3
            rw [List.length_append] at e2 e3
            have := List.length_take_le j r
            have : (r.take j).length ≤ r.length := by rw [List.length_take]; omega
            omega
          have hg1 := World.grownBy_alloc wr (.cells #[.pointer none, .string s, .string ByteArray.empty] 44) none
          have OA := O2.out.on hg1
          have hC := contains_any ao mo co _ s (by omega) _ OA.strs
          clear hs c0 c1 c2
          generalize dd ((rs.take i).flatten ++ r.take j) = os at *
          cases hq : has os s with
          | true =>
            rw [hq] at hC DS
            have ON : Aside (Own w.heap.size (wr.alloc (.cells #[.pointer none, .string s, .string ByteArray.empty] 44)) ao mo co os) := OA
            clear OA hg1 hq
            go_wp2_with fail
            refine hC.mono ?_
            rintro e w2 ⟨rfl, rfl⟩
            clear hC
            go_wp2
            go_roundg (n' - (j + 1))
            case measure => omega
            case rel => exact ⟨j + 1, ao, mo, co, by omega, Nat.le_refl _, by go_num, rfl, by rw [DS.out]; exact ON.out, gb_alloc G2.out _⟩
          | false =>
            rw [hq] at hC DS
            obtain ⟨a3, n3, c3, w3, happ, O3, g3⟩ := OA.add (by have := G2.out.size; simp; omega) hmo s
            rw [World.size_alloc] at happ
            have HAP : Aside _ := happ
            have ON : Aside (Own w.heap.size w3 a3 n3 c3 (os ++ [s])) := O3
            have GN : Aside (w.grownBy w3 none) := grown_own OA (gb_alloc G2.out _) g3
            clear OA hg1 hq happ O3 g3
            go_wp2_with fail
            refine hC.mono ?_
            rintro e w2 ⟨rfl, rfl⟩
            clear hC
            go_wp2_with (at_builtin; go_must (refine wpList_app rfl _ _ 25 rfl rfl _ _ _ _ rfl rfl HAP.out ?_))
            go_roundg (n' - (j + 1))
            case measure => omega
            case rel => exact ⟨j + 1, a3, n3, c3, by omega, Nat.le_refl _, by go_num, rfl, by rw [DS.out]; exact ON.out, GN.out⟩
        · obtain rfl : j = n' := by omega
          have hljz : ¬ (j : Int) < (j : Int) := by omega
          go_wp2
          go_roundg (n - (i + 1))
          case measure => omega
          case rel => exact ⟨i + 1, ao, mo, co, by omega, Nat.le_refl _, by go_num, rfl, by rw [F.out]; have := O2.out; rwa [show r.take j = r from List.take_of_length_le (by rw [← N.out]; exact Nat.le_refl _)] at this, G2.out⟩
    · obtain rfl : i = n := by omega
      have hltz : ¬ (i : Int) < (i : Int) := by omega
      have HR : Aside (OrigRet w.heap.size wr (dd rs.flatten) (.returned (.slice ao mo co))) := by
        have := O1.out
        rw [List.take_of_length_le (by rw [← P.out.1]; exact Nat.le_refl _)] at this
        exact ⟨_, _, _, rfl, this⟩
      go_wp2
      go_ret
      exact ⟨HR.out, G1.out⟩
end Go.Proofs.Qxb6617126a
