import Derived.Test.Qxb6616764aEval
import Derived.Deep.RegionHeld
namespace Go.Proofs.Qxb6616764a
open Go.RowKit

theorem zeroed_off (x : Int) (ts : List (Int × Int)) (y : Int × Int) (h : y ∈ zeroed x ts) : (y.1 == x) = false := by
  unfold zeroed at h
  simpa using (List.mem_filter.1 h).2
theorem zeroed_twice (x : Int) (ts : List (Int × Int)) : zeroed x (zeroed x ts) = zeroed x ts := zeroed_noHit fun y hy => zeroed_off x ts y hy

set_option maxHeartbeats 400000 in
theorem subst_big (c x vx u d : Int) (a : Option Addr) (n cap : Nat) (hn : n ≤ 9223372036854775807) (hb : 32768 < n) (w : World) :
    Calls Try.prog 7 #[.int .i64 c, .slice a n cap, .int .i64 x, .int .i64 vx, .int .i64 u, .int .i64 d] w fun e w' => e = .returned (.bool true) ∧ w.grownBy w' none := by
  have hz := zz18 c x vx u d a n cap hn w
  by_cases h : n ≤ 1048576
  · rw [decide_eq_true h] at hz
    go_enter Try.func7, Try.ntmps7
    go_wp2_with fail
    refine hz.mono ?_
    rintro e w' ⟨rfl, rfl⟩
    go_wp2
    go_ret
    exact ⟨rfl, World.grownBy.refl _ _⟩
  · rw [decide_eq_false h] at hz
    go_enter Try.func7, Try.ntmps7
    go_wp2_with fail
    refine hz.mono ?_
    rintro e w' ⟨rfl, rfl⟩
    go_wp2
    go_ret
    exact ⟨rfl, World.grownBy.refl _ _⟩

/-- What holds once both forms lie in their boxes. -/
structure Two (w W : World) (c : Int) (ba br : Nat) (a a3 a4 : Option Addr) (n cap3 m cap4 : Nat) (ts zs : List (Int × Int)) : Prop where
  g : w.grownBy W none
  t : Terms W a n ts
  xa : Box W ba c (.slice a3 n cap3)
  xr : Box W br c (.slice a4 m cap4)
  ha : Has W a3 n cap3 ts
  hr : Has W a4 m cap4 zs
theorem Two.on {w W W' : World} {c : Int} {ba br : Nat} {a a3 a4 : Option Addr} {n cap3 m cap4 : Nat} {ts zs : List (Int × Int)} (h : Two w W c ba br a a3 a4 n cap3 m cap4 ts zs) (hg : W.grownBy W' none) : Two w W' c ba br a a3 a4 n cap3 m cap4 ts zs :=
  ⟨h.g.trans hg, h.t.on hg, h.xa.on hg, h.xr.on hg, h.ha.on hg, h.hr.on hg⟩

set_option maxHeartbeats 4000000 in
theorem subst_small (c x vx u d : Int) (hc : wrap64 c = c) (a : Option Addr) (n cap : Nat) (ts : List (Int × Int)) (hb : n ≤ 32768) (w : World) (ht : Terms w a n ts) :
    Calls Try.prog 7 #[.int .i64 c, .slice a n cap, .int .i64 x, .int .i64 vx, .int .i64 u, .int .i64 d] w fun e w' => e = .returned (.bool true) ∧ w.grownBy w' none := by
  have hz := zz18 c x vx u d a n cap (by omega) w
  rw [decide_eq_true (by omega)] at hz
  have T : Aside (Terms w a n ts) := ht
  have EV : Aside (ev x vx u d c (zeroed x ts) = ev x 0 u d c ts) := ev_zeroed x vx u d ts c hc
  have hz0 : ¬ (32768 : Int) < (n : Int) := by omega
  clear ht hc
  go_enter Try.func7, Try.ntmps7
  go_wp2_with fail
  refine hz.mono ?_
  rintro e w' ⟨rfl, rfl⟩
  clear hz
  go_wp2_with fail
  refine (toForm_any c a n cap ts (by omega) _ T.out).mono ?_
  rintro e w3 ⟨a3, cap3, rfl, h3, g3⟩
  have H3 : Aside (Has w3 a3 n cap3 ts) := h3
  have G3 : Aside (w'.grownBy w3 none) := g3
  clear h3 g3
  go_wp2_with fail
  refine (zeroed_any _ _ _ c x ts _ (by omega) (H3.out.on (World.grownBy_alloc _ _ _))).mono ?_
  rintro e w4 ⟨a4, m, cap4, rfl, h4, g4⟩
  have hm : m ≤ 32768 := by have e1 := h4.len; have e2 := zeroed_length_le x ts; have e3 := H3.out.len; omega
  have gA : (w3.alloc (.cells #[.int .i64 c, .slice a3 n cap3] 25)).grownBy (w4.alloc (.cells #[.int .i64 c, .slice a4 m cap4] 25)) none := gb_alloc g4 _
  have W0 : Aside (Two w' (w4.alloc (.cells #[.int .i64 c, .slice a4 m cap4] 25)) c w3.heap.size w4.heap.size a a3 a4 n cap3 m cap4 ts (zeroed x ts)) :=
    ⟨(gb_alloc G3.out _).trans gA, T.out.on ((gb_alloc G3.out _).trans gA), (Box.new w3 c _).on gA, Box.new w4 c _, (H3.out.on (World.grownBy_alloc _ _ _)).on gA, h4.on (World.grownBy_alloc _ _ _)⟩
  have hm63 : m ≤ 9223372036854775807 := by omega
  clear h4 g4 gA H3 G3 T
  go_wp2_with fail
  refine (eval_any c x vx u d a4 m cap4 (zeroed x ts) _ hm63 W0.out.hr).mono ?_
  rintro e w5 ⟨rfl, g5⟩
  have W1 := show Aside _ from W0.out.on g5
  clear g5 W0
  go_wp2_with fail
  refine (toForm_any c a n cap ts (by omega) _ W1.out.t).mono ?_
  rintro e w6 ⟨a6, cap6, rfl, h6, g6⟩
  have W2 := show Aside _ from W1.out.on g6
  have H6 : Aside (Has w6 a6 n cap6 ts) := h6
  clear h6 g6 W1
  go_wp2_with fail
  refine (eval_any c x 0 u d a6 n cap6 ts _ (by omega) H6.out).mono ?_
  rintro e w7 ⟨rfl, g7⟩
  have W3 := show Aside _ from W2.out.on g7
  clear g7 W2 H6
  rw [EV.out]
  clear EV
  generalize ev x 0 u d c ts = val
  generalize hzs : zeroed x ts = zs at *
  have HZ : Aside (zeroed x ts = zs) := hzs
  have hxr := W3.out.xr.c1
  clear hzs
  go_wp2
  go_loopg [16] m (fun gg s16 wr => ∃ k : Nat, k ≤ m ∧ m - k ≤ gg ∧ s16 = .int .i64 k ∧ wr = w7)
  case atStart => exact ⟨0, Nat.zero_le _, by omega, rfl, rfl⟩
  case round =>
    obtain ⟨k, hk, hgg, rfl, rfl⟩ := hrel
    by_cases hlt : k < m
    · have hltz : (k : Int) < (m : Int) := by omega
      rcases W3.out.hr.cases with ⟨_, h0, _⟩ | ⟨g, rfl, _⟩
      · omega
      obtain ⟨y, hy⟩ : ∃ y, zs[k]? = some y := ⟨zs[k]'(by rw [← W3.out.hr.len]; exact hlt), List.getElem?_eq_getElem _⟩
      obtain ⟨p0, p1⟩ := W3.out.hr.term hy
      have hq : (y.1 == x) = false := zeroed_off x ts y (by rw [HZ.out]; exact List.mem_of_getElem? hy)
      clear hy p1
      go_wp2
      go_roundg (m - (k + 1))
      case measure => omega
      case rel => exact ⟨k + 1, by omega, Nat.le_refl _, by go_num, rfl⟩
    · obtain rfl : k = m := by omega
      have hltz : ¬ (k : Int) < (k : Int) := by omega
      have x0 := W3.out.xr.c0
      have x1 := W3.out.xr.c1
      have hZ : Calls Try.prog 10 #[.agg #[.int .i64 c, .slice a4 k cap4], .int .i64 x] wr.drew fun e w8 => ∃ a8 cap8, e = .returned (.agg #[.int .i64 c, .slice a8 k cap8]) ∧ Aside (Has w8 a8 k cap8 zs) ∧ Aside (Two w' w8 c w3.heap.size w4.heap.size a a3 a4 n cap3 k cap4 ts zs) := by
        have gd : wr.grownBy wr.drew none := gb_drew (World.grownBy.refl _ _)
        refine (zeroed_any _ _ _ c x zs wr.drew (by omega) (W3.out.hr.on gd)).mono ?_
        rintro e w8 ⟨a8, m8, cap8, rfl, h8, g8⟩
        have e1 : zeroed x zs = zs := by rw [← HZ.out]; exact zeroed_twice x ts
        rw [e1] at h8
        obtain rfl : m8 = k := by rw [h8.len, W3.out.hr.len]
        exact ⟨a8, cap8, rfl, h8, W3.out.on (gd.trans g8)⟩
      have hS : ∀ (a8 : Option Addr) (cap8 : Nat) (w8 : World), Aside (Has w8 a8 k cap8 zs) → Aside (Two w' w8 c w3.heap.size w4.heap.size a a3 a4 n cap3 k cap4 ts zs) →
          Calls Try.prog 17 #[.agg #[.int .i64 c, .slice a8 k cap8], .agg #[.int .i64 c, .slice a4 k cap4]] w8 fun e w9 => e = .returned (.bool true) ∧ Aside (Two w' w9 c w3.heap.size w4.heap.size a a3 a4 n cap3 k cap4 ts zs) := fun a8 cap8 w8 h8 t8 => by
        refine (same_eq c a8 a4 k cap8 cap4 zs w8 hm63 h8.out t8.out.hr).mono ?_
        rintro e w9 ⟨rfl, g9⟩
        exact ⟨rfl, t8.out.on g9⟩
      have HS : Aside _ := hS
      clear hS hxr
      go_wp2_with fail
      go_region_held (fun W => W.cell? ⟨w4.heap.size, 0, none⟩ = some (.int .i64 c) ∧ W.cell? ⟨w4.heap.size, 1, none⟩ = some (.slice a4 k cap4)) (go_keep)
        (first
          | (go_at_call 10; go_must (refine hZ.mono ?_; rintro e w8 ⟨a8, cap8, rfl, H8, T8⟩; have y0 := T8.out.xr.c0; have y1 := T8.out.xr.c1))
          | (go_at_call 17; go_must (refine (HS.out a8 cap8 w8 H8 T8).mono ?_; rintro e w9 ⟨rfl, T9⟩; have z0 := T9.out.xr.c0; have z1 := T9.out.xr.c1)))
      go_wp2_with fail
      have v0 := T9.out.xa.c0
      have v1 := T9.out.xa.c1
      have hF : Calls Try.prog 12 #[.int .i64 c, .slice a n cap] w9.drew fun e wa => ∃ aa capa, e = .returned (.agg #[.int .i64 c, .slice aa n capa]) ∧ Aside (Has wa aa n capa ts) ∧ Aside (Two w' wa c w3.heap.size w4.heap.size a a3 a4 n cap3 k cap4 ts zs) := by
        have gd : w9.grownBy w9.drew none := gb_drew (World.grownBy.refl _ _)
        refine (toForm_any c a n cap ts (by omega) w9.drew (T9.out.t.on gd)).mono ?_
        rintro e wa ⟨aa, capa, rfl, ha, ga⟩
        exact ⟨aa, capa, rfl, ha, T9.out.on (gd.trans ga)⟩
      have hS : ∀ (aa : Option Addr) (capa : Nat) (wa : World), Aside (Has wa aa n capa ts) → Aside (Two w' wa c w3.heap.size w4.heap.size a a3 a4 n cap3 k cap4 ts zs) →
          Calls Try.prog 17 #[.agg #[.int .i64 c, .slice a3 n cap3], .agg #[.int .i64 c, .slice aa n capa]] wa fun e wb => e = .returned (.bool true) ∧ Aside (Two w' wb c w3.heap.size w4.heap.size a a3 a4 n cap3 k cap4 ts zs) := fun aa capa wa ha ta => by
        refine (same_eq c a3 aa n cap3 capa ts wa (by omega) ta.out.ha ha.out).mono ?_
        rintro e wb ⟨rfl, gb⟩
        exact ⟨rfl, ta.out.on gb⟩
      have HS2 : Aside _ := hS
      clear hS hZ HS x0 x1 z0 z1 y0 y1 H8 T8 W3
      go_region_held (fun W => W.cell? ⟨w3.heap.size, 0, none⟩ = some (.int .i64 c) ∧ W.cell? ⟨w3.heap.size, 1, none⟩ = some (.slice a3 n cap3)) (go_keep)
        (first
          | (go_at_call 12; go_must (refine hF.mono ?_; rintro e wa ⟨aa, capa, rfl, HA, TA⟩; have y0 := TA.out.xa.c0; have y1 := TA.out.xa.c1))
          | (go_at_call 17; go_must (refine (HS2.out aa capa wa HA TA).mono ?_; rintro e wb ⟨rfl, TB⟩; have z0 := TB.out.xa.c0; have z1 := TB.out.xa.c1)))
      go_wp2
      go_ret
      exact ⟨rfl, TB.out.g⟩
end Go.Proofs.Qxb6616764a
