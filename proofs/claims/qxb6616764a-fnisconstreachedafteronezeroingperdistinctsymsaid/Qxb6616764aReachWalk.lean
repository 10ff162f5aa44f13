import Derived.Test.Qxb6616764aForm
import Derived.Test.Qxb6616764aDist
import Derived.Deep.QuietTactic
import Derived.BigQuiet
namespace Go.Proofs.Qxb6616764a
open Go.RowKit

theorem gb_drewN {a w : World} {r : Option Nat} (h : a.grownBy w r) (n : Nat) : a.grownBy (w.drewN n) r := ⟨h.os, h.tape, h.output, h.size, h.block⟩

/-- Zeroed, its new row's place told. -/
theorem zeroed_new (a : Option Addr) (n cap : Nat) (c y : Int) (ts : List (Int × Int)) (w : World) (hn : n ≤ 8796093022208) (ho : Has w a n cap ts) :
    Calls Try.prog 10 #[.agg #[.int .i64 c, .slice a n cap], .int .i64 y] w fun e w' => ∃ a' m cap', e = .returned (.agg #[.int .i64 c, .slice a' m cap']) ∧ Has w' a' m cap' (zeroed y ts) ∧ (∀ k, (Value.slice a' m cap').ownBlock = some k → w.heap.size ≤ k) ∧ w.grownBy w' none := by
  rcases ho.cases with ⟨rfl, rfl, rfl, rfl⟩ | ⟨g, rfl, _⟩
  · refine (zeroed_nil c y w).mono ?_
    rintro e w' ⟨rfl, hg⟩
    exact ⟨none, 0, 0, rfl, ho.on hg, fun k hk => by simp [Value.ownBlock] at hk, hg⟩
  · refine (zeroed_row 0 g n cap c y ts w hn ho).mono ?_
    rintro e w' ⟨g', m, cap', rfl, h1, h2⟩
    exact ⟨some ⟨g', 0, none⟩, m, cap', rfl, owns_mono h1 (Nat.zero_le _), fun k hk => (h1.lt k hk).1, h2⟩

/-- A form in a variable's block that may be written. -/
structure BoxF (w : World) (b : Nat) (c : Int) (v : Value) : Prop where
  c0 : w.cell? ⟨b, 0, none⟩ = some (.int .i64 c)
  c1 : w.cell? ⟨b, 1, none⟩ = some v
  lt : b < w.heap.size
  f0 : w.frozen? ⟨b, 0, none⟩ = false
  f1 : w.frozen? ⟨b, 1, none⟩ = false
theorem BoxF.on {w w' : World} {b : Nat} {c : Int} {v : Value} (h : BoxF w b c v) (hg : w.grownBy w' none) : BoxF w' b c v :=
  ⟨hg.cell h.c0 (by simp), hg.cell h.c1 (by simp), Nat.lt_of_lt_of_le h.lt hg.size, (hg.frozen_far _ h.lt (by simp)).trans h.f0, (hg.frozen_far _ h.lt (by simp)).trans h.f1⟩
theorem BoxF.new (w : World) (c : Int) (v : Value) : BoxF (w.alloc (.cells #[.int .i64 c, v] 25)) w.heap.size c v := ⟨by go_simp, by go_simp, by simp, by go_simp, by go_simp⟩
theorem BoxF.set {w : World} {b : Nat} {c : Int} {v : Value} (h : BoxF w b c v) (v' : Value) : BoxF ((w.setCell ⟨b, 0, none⟩ (.int .i64 c)).setCell ⟨b, 1, none⟩ v') b c v' := by
  obtain ⟨c0, c1, lt, f0, f1⟩ := h
  exact ⟨by go_simp, by go_simp, by simpa using lt, by go_simp, by go_simp⟩

set_option maxHeartbeats 400000 in
theorem reach_big (c : Int) (a : Option Addr) (n cap : Nat) (hn : n ≤ 9223372036854775807) (hb : 4096 < n) (w : World) :
    Calls Try.prog 5 #[.int .i64 c, .slice a n cap] w fun e w' => e = .returned (.bool true) ∧ w.grownBy w' none := by
  have hz := zz13 c a n cap hn w
  by_cases h : n ≤ 1048576
  · rw [decide_eq_true h] at hz
    go_enter Try.func5, Try.ntmps5
    go_wp2_with fail
    refine hz.mono ?_
    rintro e w' ⟨rfl, rfl⟩
    go_wp2
    go_ret
    exact ⟨rfl, World.grownBy.refl _ _⟩
  · rw [decide_eq_false h] at hz
    go_enter Try.func5, Try.ntmps5
    go_wp2_with fail
    refine hz.mono ?_
    rintro e w' ⟨rfl, rfl⟩
    go_wp2
    go_ret
    exact ⟨rfl, World.grownBy.refl _ _⟩

set_option maxHeartbeats 2000000 in
theorem reach_small (c : Int) (a : Option Addr) (n cap : Nat) (ts : List (Int × Int)) (hb : n ≤ 4096) (w : World) (ht : Terms w a n ts) :
    Calls Try.prog 5 #[.int .i64 c, .slice a n cap] w fun e w' => e = .returned (.bool true) ∧ w.grownBy w' none := by
  have hz := zz13 c a n cap (by omega) w
  rw [decide_eq_true (by omega)] at hz
  have T : Aside (Terms w a n ts) := ht
  have hz0 : ¬ (4096 : Int) < (n : Int) := by omega
  clear ht
  go_enter Try.func5, Try.ntmps5
  go_wp2_with fail
  refine hz.mono ?_
  rintro e w' ⟨rfl, rfl⟩
  clear hz
  go_wp2
  go_loopg [5, 6, 7, 8] n (fun gg s5 s6 _ _ wr => ∃ k : Nat, k ≤ n ∧ n - k ≤ gg ∧ s6 = .int .i64 k ∧ s5 = .int .i64 (dist (ts.take k)) ∧ Aside (w'.grownBy wr none))
  case atStart => exact ⟨0, Nat.zero_le _, by omega, rfl, by simp [dist_nil], World.grownBy.refl _ _⟩
  case round =>
    obtain ⟨k, hk, hgg, rfl, rfl, G1⟩ := hrel
    by_cases hlt : k < n
    · have hltz : (k : Int) < (n : Int) := by omega
      obtain ⟨x, b, off, hx, rfl, hbw, c0, c1⟩ := T.out.get hlt
      have X : Aside (ts[k]? = some x ∧ w'.cell? ⟨b, off + k * 2, none⟩ = some (.int .i64 x.1)) := ⟨hx, c0⟩
      have hd := dist_le (ts.take k)
      have hl : (ts.take k).length ≤ k := List.length_take_le _ _
      generalize hD : dist (ts.take k) = D at *
      have HD : Aside (dist (ts.take k) = D) := hD
      have hD' : D ≤ k := by omega
      clear hx c0 c1 hd hl hD
      go_wp2
      go_loopg [7, 8] k (fun gg s7 s8 wr => ∃ j : Nat, j ≤ k ∧ k - j ≤ gg ∧ s8 = .int .i64 j ∧ s7 = .bool (seenIn x.1 (ts.take j)) ∧ Aside (w'.grownBy wr none))
      case atStart => exact ⟨0, Nat.zero_le _, by omega, rfl, by simp [seenIn_nil], G1.out⟩
      case round =>
        obtain ⟨j, hj, hgj, rfl, rfl, G2⟩ := hrel
        by_cases hjk : j < k
        · have hjkz : (j : Int) < (k : Int) := by omega
          have hjnz : (j : Int) < (n : Int) := by omega
          obtain ⟨y, b', off', hy, hbo, _, c0, _⟩ := T.out.get (show j < n by omega)
          simp only [Option.some.injEq, Addr.mk.injEq, and_true] at hbo
          obtain ⟨rfl, rfl⟩ := hbo
          have g0 : wr.cell? ⟨b, off + j * 2, none⟩ = some (.int .i64 y.1) := G2.out.cell c0 (by simp)
          have g1 : wr.cell? ⟨b, off + k * 2, none⟩ = some (.int .i64 x.1) := G2.out.cell X.out.2 (by simp)
          have S : Aside (seenIn x.1 (ts.take (j + 1)) = (seenIn x.1 (ts.take j) || (y.1 == x.1))) := by
            rw [List.take_add_one, hy]; exact seenIn_snoc _ _ _
          clear c0 hy
          generalize hS : seenIn x.1 (ts.take j) = sj at *
          have HS : Aside (seenIn x.1 (ts.take j) = sj) := hS
          clear hS
          cases hq : y.1 == x.1 with
          | true =>
            go_wp2
            go_quiet (fail)
            go_wp2
            go_roundg (k - (j + 1))
            case measure => omega
            case rel => exact ⟨j + 1, by omega, Nat.le_refl _, by go_num, by rw [S.out, hq]; simp, gb_drewN G2.out _⟩
          | false =>
            go_wp2
            go_quiet (fail)
            go_wp2
            go_roundg (k - (j + 1))
            case measure => omega
            case rel => exact ⟨j + 1, by omega, Nat.le_refl _, by go_num, by rw [S.out, hq]; simp, gb_drewN G2.out _⟩
        · obtain rfl : j = k := by omega
          have hjkz : ¬ (j : Int) < (j : Int) := by omega
          have DS : Aside (dist (ts.take (j + 1)) = D + if seenIn x.1 (ts.take j) then 0 else 1) := by
            rw [List.take_add_one, X.out.1, ← HD.out]; exact dist_snoc _ _
          generalize hS : seenIn x.1 (ts.take j) = sj at *
          cases sj with
          | true =>
            go_wp2
            go_roundg (n - (j + 1))
            case measure => omega
            case rel => exact ⟨j + 1, by omega, Nat.le_refl _, by go_num, by rw [DS.out]; simp, G2.out⟩
          | false =>
            go_wp2
            go_roundg (n - (j + 1))
            case measure => omega
            case rel => exact ⟨j + 1, by omega, Nat.le_refl _, by go_num, by rw [DS.out]; simp, G2.out⟩
    · obtain rfl : k = n := by omega
      have hltz : ¬ (k : Int) < (k : Int) := by omega
      have hDD : dist (ts.take k) = dist ts := by rw [T.out.len, List.take_length]
      rw [hDD]
      have hd := dist_le ts
      rw [← T.out.len] at hd
      clear hDD
      generalize hD : dist ts = D at *
      have HD : Aside (dist ts = D) := hD
      clear hD
      go_wp2_with fail
      refine (toForm_any c a k cap ts (by omega) _ (T.out.on G1.out)).mono ?_
      rintro e w3 ⟨a3, cap3, rfl, h3, g3⟩
      have G3 : Aside (w'.grownBy w3 none) := G1.out.trans g3
      have H3 : Aside (Has w3 a3 k cap3 ts) := h3
      clear h3 g3 G1 T
      go_wp2
      go_loopg [10] k (fun gg s10 wr => ∃ (s : Nat) (cur : List (Int × Int)) (a' : Option Addr) (m cap' : Nat), s10 = .int .i64 s ∧ cur.length ≤ gg ∧ m ≤ k ∧ s ≤ D ∧ Aside (s + dist cur = D) ∧ Aside (BoxF wr w3.heap.size c (.slice a' m cap')) ∧ Aside (Has wr a' m cap' cur) ∧ Aside (w'.grownBy wr none))
      case atStart => exact ⟨0, ts, a3, k, cap3, rfl, by rw [← H3.out.len]; omega, Nat.le_refl _, Nat.zero_le _, by show 0 + _ = _; rw [HD.out, Nat.zero_add], BoxF.new _ _ _, H3.out.on (World.grownBy_alloc _ _ _), gb_alloc G3.out _⟩
      case round =>
        obtain ⟨s, cur, a', m, cap', rfl, hgg, hm, hsD, SD, BX, HC, GC⟩ := hrel
        have hsz : (s : Int) ≤ (k : Int) := by omega
        obtain ⟨b0, b1, bl, f0, f1⟩ := BX.out
        cases cur with
        | nil =>
          obtain rfl : m = 0 := HC.out.len
          obtain rfl : s = D := by have := SD.out; rw [dist_nil] at this; omega
          go_wp2_with fail
          refine (isConst_yes _ _ _ _).mono ?_
          rintro e w4 ⟨rfl, g4⟩
          obtain ⟨b0', b1', bl', f0', f1'⟩ := BX.out.on g4
          have G4 : Aside (w'.grownBy w4 none) := GC.out.trans g4
          clear g4 b0 b1 bl f0 f1
          go_wp2_with fail
          refine (isConst_yes _ _ _ _).mono ?_
          rintro e w5 ⟨rfl, g5⟩
          have b0 := g5.cell b0' (by simp)
          have b1 := g5.cell b1' (by simp)
          have G5 : Aside (w'.grownBy w5 none) := G4.out.trans g5
          clear g5 b0' b1' bl' f0' f1'
          go_wp2
          go_ret
          exact ⟨ret_bool (by simp), G5.out⟩
        | cons x r =>
          have hm0 : m ≠ 0 := by have := HC.out.len; simp at this; omega
          rcases HC.out.cases with ⟨_, h0, _⟩ | ⟨g, rfl, hg0, _⟩
          · exact absurd h0 hm0
          have hmz : ((m : Int) == 0) = false := beq_eq_false_iff_ne.2 (by omega)
          have hm1 : (0 : Int) < (m : Int) := by omega
          go_wp2_with fail
          refine (isConst_no _ _ _ _ hm0 _).mono ?_
          rintro e w4 ⟨rfl, g4⟩
          obtain ⟨b0', b1', bl', f0', f1'⟩ := BX.out.on g4
          have t0 : w4.cell? ⟨g, 0, none⟩ = some (.int .i64 x.1) := by
            have := ((HC.out.on g4).term (j := 0) (x := x) rfl).1
            simpa using this
          have hZ : Calls Try.prog 10 #[.agg #[.int .i64 c, .slice (some ⟨g, 0, none⟩) m cap'], .int .i64 x.1] w4.drew fun e w5 => ∃ a5 m5 cap5, e = .returned (.agg #[.int .i64 c, .slice a5 m5 cap5]) ∧ m5 ≤ k ∧ Aside (∀ k, (Value.slice a5 m5 cap5).ownBlock = some k → w4.heap.size ≤ k) ∧ Aside (Has w5 a5 m5 cap5 (zeroed x.1 (x :: r))) ∧ Aside (BoxF w5 w3.heap.size c (.slice (some ⟨g, 0, none⟩) m cap')) ∧ Aside (w'.grownBy w5 none) := by
            have hgd : wr.grownBy w4.drew none := gb_drew g4
            refine (zeroed_new _ _ _ c x.1 (x :: r) w4.drew (by omega) (HC.out.on hgd)).mono ?_
            rintro e w5 ⟨a5, m5, cap5, rfl, h5, hf5, g5⟩
            refine ⟨a5, m5, cap5, rfl, ?_, hf5, h5, BX.out.on (hgd.trans g5), GC.out.trans (hgd.trans g5)⟩
            have e1 := h5.len
            have e2 := zeroed_length_le x.1 (x :: r)
            have e3 := HC.out.len
            omega
          clear g4 b0 b1 bl f0 f1
          go_wp2_with fail
          go_region_with (go_at_call 10; go_must (refine hZ.mono ?_; rintro e w5 ⟨a5, m5, cap5, rfl, hm5, F5, H5, B5, G5⟩; obtain ⟨z0, z1, zl, y0, y1⟩ := B5.out))
          all_goals
            go_wp2
            go_roundg r.length
            case measure => simp at hgg; omega
            case rel =>
              have hd := SD.out
              rw [dist_cons] at hd
              refine ⟨s + 1, zeroed x.1 (x :: r), a5, m5, cap5, by go_num, ?_, hm5, by omega, (show Aside _ from (by omega : s + 1 + dist (zeroed x.1 (x :: r)) = D)), B5.out.set _, ?_, ?_⟩
              · rw [zeroed_head]; exact zeroed_length_le _ _
              · exact H5.out.kept ((gset w5 w3.heap.size 0 _).trans (gset _ w3.heap.size 1 _)) (.inr (fun e => by have := F5.out _ e; omega))
              · exact gb_set (gb_set G5.out _ G3.out.size _) _ G3.out.size _
end Go.Proofs.Qxb6616764a
