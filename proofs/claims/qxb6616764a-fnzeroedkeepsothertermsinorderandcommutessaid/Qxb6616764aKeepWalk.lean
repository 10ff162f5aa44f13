import Derived.Test.Qxb6616764aWf
import Derived.Test.Qxb6616764aSame
namespace Go.Proofs.Qxb6616764a
open Go.RowKit

theorem zeroed_isOff (x : Int) (ts : List (Int × Int)) (y : Int × Int) (h : y ∈ zeroed x ts) : (y.1 == x) = false := by
  unfold zeroed at h
  simpa using (List.mem_filter.1 h).2
theorem zeroed_comm (x y : Int) (ts : List (Int × Int)) : zeroed y (zeroed x ts) = zeroed x (zeroed y ts) := by
  unfold zeroed
  rw [List.filter_filter, List.filter_filter]
  congr 1
  funext t
  exact Bool.and_comm _ _
theorem zeroed_hit (x : Int) (ts : List (Int × Int)) (k : Nat) (t : Int × Int) (h : ts[k]? = some t) (hq : (t.1 == x) = true) : zeroed x (ts.take (k + 1)) = zeroed x (ts.take k) := by
  rw [List.take_add_one, h]
  unfold zeroed
  rw [List.filter_append]
  simp [hq]
theorem zeroed_miss (x : Int) (ts : List (Int × Int)) (k : Nat) (t : Int × Int) (h : ts[k]? = some t) (hq : (t.1 == x) = false) : zeroed x (ts.take (k + 1)) = zeroed x (ts.take k) ++ [t] := by
  rw [List.take_add_one, h]
  unfold zeroed
  rw [List.filter_append]
  simp [hq]
/-- The next kept term lies where the kept ones so far end. -/
theorem zeroed_next (x : Int) (ts : List (Int × Int)) (k : Nat) (t : Int × Int) (h : ts[k]? = some t) (hq : (t.1 == x) = false) : (zeroed x ts)[(zeroed x (ts.take k)).length]? = some t := by
  have e : zeroed x ts = zeroed x (ts.take (k + 1)) ++ zeroed x (ts.drop (k + 1)) := by
    unfold zeroed
    rw [← List.filter_append, List.take_append_drop]
  rw [e, zeroed_miss x ts k t h hq]
  simp
theorem zeroed_take_le (x : Int) (ts : List (Int × Int)) (k : Nat) : (zeroed x (ts.take k)).length ≤ (zeroed x ts).length := by
  have e : zeroed x ts = zeroed x (ts.take k) ++ zeroed x (ts.drop k) := by
    unfold zeroed
    rw [← List.filter_append, List.take_append_drop]
  rw [e, List.length_append]; omega

set_option maxHeartbeats 400000 in
theorem keep_big (c x y : Int) (a : Option Addr) (n cap : Nat) (hn : n ≤ 9223372036854775807) (hb : 32768 < n) (w : World) :
    Calls Try.prog 6 #[.int .i64 c, .slice a n cap, .int .i64 x, .int .i64 y] w fun e w' => e = .returned (.bool true) ∧ w.grownBy w' none := by
  have hz := zz14 c x y a n cap hn w
  by_cases h : n ≤ 1048576
  · rw [decide_eq_true h] at hz
    go_enter Try.func6, Try.ntmps6
    go_wp2_with fail
    refine hz.mono ?_
    rintro e w' ⟨rfl, rfl⟩
    go_wp2
    go_ret
    exact ⟨rfl, World.grownBy.refl _ _⟩
  · rw [decide_eq_false h] at hz
    go_enter Try.func6, Try.ntmps6
    go_wp2_with fail
    refine hz.mono ?_
    rintro e w' ⟨rfl, rfl⟩
    go_wp2
    go_ret
    exact ⟨rfl, World.grownBy.refl _ _⟩

/-- What holds once both forms lie in their boxes. -/
structure Duo (w W : World) (c : Int) (ba br : Nat) (a a3 a4 : Option Addr) (n cap3 m cap4 : Nat) (ts zs : List (Int × Int)) : Prop where
  g : w.grownBy W none
  t : Terms W a n ts
  xa : Box W ba c (.slice a3 n cap3)
  xr : Box W br c (.slice a4 m cap4)
  ha : Has W a3 n cap3 ts
  hr : Has W a4 m cap4 zs
theorem Duo.on {w W W' : World} {c : Int} {ba br : Nat} {a a3 a4 : Option Addr} {n cap3 m cap4 : Nat} {ts zs : List (Int × Int)} (h : Duo w W c ba br a a3 a4 n cap3 m cap4 ts zs) (hg : W.grownBy W' none) : Duo w W' c ba br a a3 a4 n cap3 m cap4 ts zs :=
  ⟨h.g.trans hg, h.t.on hg, h.xa.on hg, h.xr.on hg, h.ha.on hg, h.hr.on hg⟩

set_option maxHeartbeats 4000000 in
set_option maxRecDepth 100000 in
theorem keep_small (c x y : Int) (a : Option Addr) (n cap : Nat) (ts : List (Int × Int)) (hb : n ≤ 32768) (w : World) (ht : Terms w a n ts) :
    Calls Try.prog 6 #[.int .i64 c, .slice a n cap, .int .i64 x, .int .i64 y] w fun e w' => e = .returned (.bool true) ∧ w.grownBy w' none := by
  have hz := zz14 c x y a n cap (by omega) w
  rw [decide_eq_true (by omega)] at hz
  have T : Aside (Terms w a n ts) := ht
  have hz0 : ¬ (32768 : Int) < (n : Int) := by omega
  clear ht
  go_enter Try.func6, Try.ntmps6
  go_wp2_with fail
  refine hz.mono ?_
  rintro e w' ⟨rfl, rfl⟩
  clear hz
  go_wp2
  go_loopg [11, 12] n (fun gg s11 s12 wr => ∃ k : Nat, k ≤ n ∧ n - k ≤ gg ∧ s12 = .int .i64 k ∧ s11 = .int .i64 ((zeroed x (ts.take k)).length : Nat) ∧ w' = wr)
  case atStart => exact ⟨0, Nat.zero_le _, by omega, rfl, by simp [zeroed], rfl⟩
  case round =>
    obtain ⟨k, hk, hgg, rfl, rfl, rfl⟩ := hrel
    by_cases hlt : k < n
    · have hltz : (k : Int) < (n : Int) := by omega
      obtain ⟨t, b, off, hx, rfl, hbw, c0, c1⟩ := T.out.get hlt
      have hl : (zeroed x (ts.take k)).length ≤ k := Nat.le_trans (zeroed_length_le _ _) (List.length_take_le _ _)
      cases hq : t.1 == x with
      | true =>
        have S := show Aside _ from congrArg List.length (zeroed_hit x ts k t hx hq)
        have hne : (t.1 != x) = false := by rw [bne, hq]; rfl
        generalize (zeroed x (ts.take k)).length = D at *
        clear hq hx c1
        go_wp2
        go_roundg (n - (k + 1))
        case measure => omega
        case rel => exact ⟨k + 1, by omega, Nat.le_refl _, by go_num, by rw [S.out], rfl⟩
      | false =>
        have S := show Aside _ from congrArg List.length (zeroed_miss x ts k t hx hq)
        rw [List.length_append] at S
        have hne : (t.1 != x) = true := by rw [bne, hq]; rfl
        generalize (zeroed x (ts.take k)).length = D at *
        clear hq hx c1
        go_wp2
        go_roundg (n - (k + 1))
        case measure => omega
        case rel => exact ⟨k + 1, by omega, Nat.le_refl _, by go_num, by rw [S.out]; rfl, rfl⟩
    · obtain rfl : k = n := by omega
      have hltz : ¬ (k : Int) < (k : Int) := by omega
      have hO : (zeroed x (ts.take k)).length = (zeroed x ts).length := by rw [T.out.len, List.take_length]
      rw [hO]
      clear hO
      have hml : (zeroed x ts).length ≤ k := by rw [T.out.len]; exact zeroed_length_le _ _
      generalize hM : (zeroed x ts).length = m at *
      have HM : Aside ((zeroed x ts).length = m) := hM
      clear hM
      go_wp2_with fail
      refine (wfInput_any a k cap ts (by omega) _ T.out).mono ?_
      rintro e w2 ⟨⟨wfb, rfl, hwf⟩, g2⟩
      have WF : Aside (wfb = true → WFq ts) := hwf
      have G2 : Aside (w'.grownBy w2 none) := g2
      clear hwf g2
      go_wp2_with fail
      refine (toForm_any c a k cap ts (by omega) _ (T.out.on G2.out)).mono ?_
      rintro e w3 ⟨a3, cap3, rfl, h3, g3⟩
      have H3 : Aside (Has w3 a3 k cap3 ts) := h3
      have G3 : Aside (w'.grownBy w3 none) := G2.out.trans g3
      clear h3 g3 G2
      go_wp2_with fail
      refine (zeroed_any _ _ _ c x ts _ (by omega) (H3.out.on (World.grownBy_alloc _ _ _))).mono ?_
      rintro e w4 ⟨a4, m', cap4, rfl, h4, g4⟩
      obtain rfl : m' = m := by rw [h4.len]; exact HM.out
      have gA : (w3.alloc (.cells #[.int .i64 c, .slice a3 k cap3] 25)).grownBy (w4.alloc (.cells #[.int .i64 c, .slice a4 m' cap4] 25)) none := gb_alloc g4 _
      have W0 : Aside (Duo w' (w4.alloc (.cells #[.int .i64 c, .slice a4 m' cap4] 25)) c w3.heap.size w4.heap.size a a3 a4 k cap3 m' cap4 ts (zeroed x ts)) :=
        ⟨(gb_alloc G3.out _).trans gA, T.out.on ((gb_alloc G3.out _).trans gA), (Box.new w3 c _).on gA, Box.new w4 c _, (H3.out.on (World.grownBy_alloc _ _ _)).on gA, h4.on (World.grownBy_alloc _ _ _)⟩
      clear h4 g4 gA H3 G3 T
      have hm63 : m' ≤ 32768 := by omega
      have hxr := W0.out.xr.c1
      go_wp2
      generalize hW : w4.alloc (.cells #[.int .i64 c, .slice a4 m' cap4] 25) = W at *
      clear hW
      go_loopg [16] m' (fun gg s16 wq => ∃ q : Nat, q ≤ m' ∧ m' - q ≤ gg ∧ s16 = .int .i64 q ∧ W = wq)
      case atStart => exact ⟨0, Nat.zero_le _, by omega, rfl, rfl⟩
      case round =>
        obtain ⟨q, hq, hgq, rfl, rfl⟩ := hrel
        by_cases hlq : q < m'
        · have hlqz : (q : Int) < (m' : Int) := by omega
          rcases W0.out.hr.cases with ⟨_, h0, _⟩ | ⟨g, rfl, _⟩
          · omega
          obtain ⟨z, hz⟩ : ∃ z, (zeroed x ts)[q]? = some z := ⟨(zeroed x ts)[q]'(by rw [← W0.out.hr.len]; exact hlq), List.getElem?_eq_getElem _⟩
          obtain ⟨p0, p1⟩ := W0.out.hr.term hz
          have hne : (z.1 == x) = false := zeroed_isOff x ts z (List.mem_of_getElem? hz)
          clear hz p1
          go_wp2
          go_roundg (m' - (q + 1))
          case measure => omega
          case rel => exact ⟨q + 1, by omega, Nat.le_refl _, by go_num, rfl⟩
        · obtain rfl : q = m' := by omega
          have hlqz : ¬ (q : Int) < (q : Int) := by omega
          go_wp2
          go_loopg [17, 18] k (fun gg s17 s18 wq => ∃ i : Nat, i ≤ k ∧ k - i ≤ gg ∧ s18 = .int .i64 i ∧ s17 = .int .i64 ((zeroed x (ts.take i)).length : Nat) ∧ Aside (Duo w' wq c w3.heap.size w4.heap.size a a3 a4 k cap3 q cap4 ts (zeroed x ts)))
          case atStart => exact ⟨0, Nat.zero_le _, by omega, rfl, by simp [zeroed], W0.out⟩
          case round =>
            clear W0 hxr
            obtain ⟨i, hi, hgi, rfl, rfl, D1⟩ := hrel
            have hxr := D1.out.xr.c1
            by_cases hli : i < k
            · have hliz : (i : Int) < (k : Int) := by omega
              obtain ⟨t, b, off, ht, rfl, hbw, c0, c1⟩ := D1.out.t.get hli
              have hjq := zeroed_take_le x ts i
              rw [HM.out] at hjq
              have hji : (zeroed x (ts.take i)).length ≤ i := Nat.le_trans (zeroed_length_le _ _) (List.length_take_le _ _)
              cases hq : t.1 == x with
              | true =>
                have S := show Aside _ from congrArg List.length (zeroed_hit x ts i t ht hq)
                by_cases hjm : (zeroed x (ts.take i)).length < q
                · rcases D1.out.hr.cases with ⟨_, h0, _⟩ | ⟨g, rfl, _⟩
                  · omega
                  obtain ⟨z, hz⟩ : ∃ z, (zeroed x ts)[(zeroed x (ts.take i)).length]? = some z := ⟨(zeroed x ts)[(zeroed x (ts.take i)).length]'(by rw [HM.out]; exact hjm), List.getElem?_eq_getElem _⟩
                  obtain ⟨p0, p1⟩ := D1.out.hr.term hz
                  have hzx : (z.1 == t.1) = false := by
                    have := zeroed_isOff x ts z (List.mem_of_getElem? hz)
                    simp at this hq ⊢
                    rw [hq]; exact this
                  have hjmz : (((zeroed x (ts.take i)).length : Nat) : Int) < (q : Int) := by omega
                  clear hz hq ht
                  generalize (zeroed x (ts.take i)).length = j at *
                  go_wp2
                  go_quiet (fail)
                  go_wp2
                  go_roundg (k - (i + 1))
                  case measure => omega
                  case rel => exact ⟨i + 1, by omega, Nat.le_refl _, by go_num, by rw [S.out], D1.out.on (gb_drewN2 (World.grownBy.refl _ _) _)⟩
                · have hjmd : decide ((((zeroed x (ts.take i)).length : Nat) : Int) < (q : Int)) = false := decide_eq_false (by omega)
                  clear hq ht
                  generalize (zeroed x (ts.take i)).length = j at *
                  go_wp2
                  go_quiet (fail)
                  go_wp2
                  go_roundg (k - (i + 1))
                  case measure => omega
                  case rel => exact ⟨i + 1, by omega, Nat.le_refl _, by go_num, by rw [S.out], D1.out.on (gb_drewN2 (World.grownBy.refl _ _) _)⟩
              | false =>
                have S := show Aside _ from congrArg List.length (zeroed_miss x ts i t ht hq)
                rw [List.length_append] at S
                have hz := zeroed_next x ts i t ht hq
                have hjm : (zeroed x (ts.take i)).length < q := by rw [← HM.out]; exact (List.getElem?_eq_some_iff.1 hz).1
                rcases D1.out.hr.cases with ⟨_, h0, _⟩ | ⟨g, rfl, _⟩
                · omega
                obtain ⟨p0, p1⟩ := D1.out.hr.term hz
                have hjmz : (((zeroed x (ts.take i)).length : Nat) : Int) < (q : Int) := by omega
                clear hz hq ht
                generalize (zeroed x (ts.take i)).length = j at *
                go_wp2
                go_quiet (fail)
                go_wp2
                go_roundg (k - (i + 1))
                case measure => omega
                case rel => exact ⟨i + 1, by omega, Nat.le_refl _, by go_num, by rw [S.out]; rfl, D1.out.on (gb_drewN2 (World.grownBy.refl _ _) _)⟩
            · obtain rfl : i = k := by omega
              have hliz : ¬ (i : Int) < (i : Int) := by omega
              have hO : (zeroed x (ts.take i)).length = q := by rw [D1.out.t.len, List.take_length]; exact HM.out
              rw [hO]
              clear hO
              have hxa := D1.out.xa.c1
              have hra := D1.out.xa.c0
              have hrr := D1.out.xr.c0
              cases wfb with
              | false =>
                have D2 := show Aside _ from D1.out
                go_wp2_with fail
                refine (zeroed_any _ _ _ c y (zeroed x ts) _ (by omega) D2.out.hr).mono ?_
                rintro e w6 ⟨a6, m6, cap6, rfl, h6, g6⟩
                have hm6 : m6 ≤ q := by have e1 := h6.len; have e2 := zeroed_length_le y (zeroed x ts); rw [HM.out] at e2; omega
                have E6 := show Aside _ from D2.out.on (gb_alloc g6 (.cells #[.int .i64 c, .slice a6 m6 cap6] 25))
                have H6 : Aside (Has (w6.alloc (.cells #[.int .i64 c, .slice a6 m6 cap6] 25)) a6 m6 cap6 (zeroed y (zeroed x ts))) := h6.on (World.grownBy_alloc _ _ _)
                have B6 : Aside (Box (w6.alloc (.cells #[.int .i64 c, .slice a6 m6 cap6] 25)) w6.heap.size c (.slice a6 m6 cap6)) := Box.new _ _ _
                clear h6 g6 D2 hxa hra hrr hxr
                have hxa := E6.out.xa.c1
                have hra := E6.out.xa.c0
                go_wp2_with fail
                refine (zeroed_any _ _ _ c y ts _ (by omega) E6.out.ha).mono ?_
                rintro e w7 ⟨a7, m7, cap7, rfl, h7, g7⟩
                have hm7 : m7 ≤ i := by have e1 := h7.len; have e2 := zeroed_length_le y ts; have e3 := E6.out.t.len; omega
                have E7 := show Aside _ from E6.out.on g7
                have H7 : Aside (Has w7 a7 m7 cap7 (zeroed y ts)) := h7
                have H6' : Aside (Has w7 a6 m6 cap6 (zeroed y (zeroed x ts))) := H6.out.on g7
                have B6' := show Aside _ from B6.out.on g7
                clear h7 g7 E6 H6 B6 hxa hra
                go_wp2_with fail
                refine (zeroed_any _ _ _ c x (zeroed y ts) _ (by omega) H7.out).mono ?_
                rintro e w8 ⟨a8, m8, cap8, rfl, h8, g8⟩
                have e8 := h8.len
                rw [← zeroed_comm, ← H6'.out.len] at e8
                subst e8
                have E8 := show Aside _ from E7.out.on (gb_alloc g8 (.cells #[.int .i64 c, .slice a8 m8 cap8] 25))
                have H8 : Aside (Has (w8.alloc (.cells #[.int .i64 c, .slice a8 m8 cap8] 25)) a8 m8 cap8 (zeroed y (zeroed x ts))) := by
                  have := h8.on (World.grownBy_alloc w8 (.cells #[.int .i64 c, .slice a8 m8 cap8] 25) none)
                  rw [← zeroed_comm] at this
                  exact this
                have H9 : Aside (Has (w8.alloc (.cells #[.int .i64 c, .slice a8 m8 cap8] 25)) a6 m8 cap6 (zeroed y (zeroed x ts))) := H6'.out.on (gb_alloc g8 _)
                have b0 := (B6'.out.on (gb_alloc g8 (.cells #[.int .i64 c, .slice a8 m8 cap8] 25))).c0
                have b1 := (B6'.out.on (gb_alloc g8 (.cells #[.int .i64 c, .slice a8 m8 cap8] 25))).c1
                clear h8 g8 E7 H7 H6' B6'
                go_wp2_with fail
                refine (same_eq c a6 a8 m8 cap6 cap8 _ _ (by omega) H9.out H8.out).mono ?_
                rintro e w9 ⟨rfl, g9⟩
                have G9 : Aside (w'.grownBy w9 none) := E8.out.g.trans g9
                clear g9 E8 H9 H8 b0 b1
                go_wp2
                go_ret
                exact ⟨rfl, G9.out⟩
              | true =>
                have hW := wfForm_any a4 q cap4 (zeroed x ts) (by omega) ((WF.out rfl).zeroed x) _ D1.out.hr
                go_wp2_with fail
                refine hW.mono ?_
                rintro e w5 ⟨rfl, g5⟩
                have D2 := show Aside _ from D1.out.on g5
                clear hW g5 D1 hxa hra hrr hxr
                have hxa := D2.out.xa.c1
                have hra := D2.out.xa.c0
                have hrr := D2.out.xr.c0
                have hxr := D2.out.xr.c1
                go_wp2_with fail
                refine (zeroed_any _ _ _ c y (zeroed x ts) _ (by omega) D2.out.hr).mono ?_
                rintro e w6 ⟨a6, m6, cap6, rfl, h6, g6⟩
                have hm6 : m6 ≤ q := by have e1 := h6.len; have e2 := zeroed_length_le y (zeroed x ts); rw [HM.out] at e2; omega
                have E6 := show Aside _ from D2.out.on (gb_alloc g6 (.cells #[.int .i64 c, .slice a6 m6 cap6] 25))
                have H6 : Aside (Has (w6.alloc (.cells #[.int .i64 c, .slice a6 m6 cap6] 25)) a6 m6 cap6 (zeroed y (zeroed x ts))) := h6.on (World.grownBy_alloc _ _ _)
                have B6 : Aside (Box (w6.alloc (.cells #[.int .i64 c, .slice a6 m6 cap6] 25)) w6.heap.size c (.slice a6 m6 cap6)) := Box.new _ _ _
                clear h6 g6 D2 hxa hra hrr hxr
                have hxa := E6.out.xa.c1
                have hra := E6.out.xa.c0
                go_wp2_with fail
                refine (zeroed_any _ _ _ c y ts _ (by omega) E6.out.ha).mono ?_
                rintro e w7 ⟨a7, m7, cap7, rfl, h7, g7⟩
                have hm7 : m7 ≤ i := by have e1 := h7.len; have e2 := zeroed_length_le y ts; have e3 := E6.out.t.len; omega
                have E7 := show Aside _ from E6.out.on g7
                have H7 : Aside (Has w7 a7 m7 cap7 (zeroed y ts)) := h7
                have H6' : Aside (Has w7 a6 m6 cap6 (zeroed y (zeroed x ts))) := H6.out.on g7
                have B6' := show Aside _ from B6.out.on g7
                clear h7 g7 E6 H6 B6 hxa hra
                go_wp2_with fail
                refine (zeroed_any _ _ _ c x (zeroed y ts) _ (by omega) H7.out).mono ?_
                rintro e w8 ⟨a8, m8, cap8, rfl, h8, g8⟩
                have e8 := h8.len
                rw [← zeroed_comm, ← H6'.out.len] at e8
                subst e8
                have E8 := show Aside _ from E7.out.on (gb_alloc g8 (.cells #[.int .i64 c, .slice a8 m8 cap8] 25))
                have H8 : Aside (Has (w8.alloc (.cells #[.int .i64 c, .slice a8 m8 cap8] 25)) a8 m8 cap8 (zeroed y (zeroed x ts))) := by
                  have := h8.on (World.grownBy_alloc w8 (.cells #[.int .i64 c, .slice a8 m8 cap8] 25) none)
                  rw [← zeroed_comm] at this
                  exact this
                have H9 : Aside (Has (w8.alloc (.cells #[.int .i64 c, .slice a8 m8 cap8] 25)) a6 m8 cap6 (zeroed y (zeroed x ts))) := H6'.out.on (gb_alloc g8 _)
                have b0 := (B6'.out.on (gb_alloc g8 (.cells #[.int .i64 c, .slice a8 m8 cap8] 25))).c0
                have b1 := (B6'.out.on (gb_alloc g8 (.cells #[.int .i64 c, .slice a8 m8 cap8] 25))).c1
                clear h8 g8 E7 H7 H6' B6'
                go_wp2_with fail
                refine (same_eq c a6 a8 m8 cap6 cap8 _ _ (by omega) H9.out H8.out).mono ?_
                rintro e w9 ⟨rfl, g9⟩
                have G9 : Aside (w'.grownBy w9 none) := E8.out.g.trans g9
                clear g9 E8 H9 H8 b0 b1
                go_wp2
                go_ret
                exact ⟨rfl, G9.out⟩
end Go.Proofs.Qxb6616764a
