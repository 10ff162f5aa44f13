import Derived.Test.Qxb6617126aCount
import Derived.Test.Qxb6617126aZz11
namespace Go.Proofs.Qxb6617126a
open Go.RowKit

/-! ### Plain -/
theorem cnt_cut (f : List UInt8 → Bool) (ms : List ByteArray) (c : Nat) : cnt f ms = cnt f (ms.take c) + cnt f (ms.drop c) := by
  unfold cnt
  rw [← List.length_append, ← List.filter_append, List.take_append_drop]
theorem cnt_on_off (f : List UInt8 → Bool) (x : List UInt8) : ∀ ms : List ByteArray, cnt (upd f x true) ms = cnt (upd f x false) ms + cnt (upd (fun _ => false) x true) ms ∧ cnt f ms ≤ cnt (upd f x true) ms ∧ cnt (upd f x false) ms ≤ cnt f ms
  | [] => by simp [cnt]
  | m :: r => by
    have ih := cnt_on_off f x r
    unfold cnt at ih ⊢
    simp only [List.filter_cons]
    by_cases e : m.data.toList = x
    · by_cases hf : f x = true
      · simp [upd, e, hf] at ih ⊢; omega
      · simp [upd, e, hf] at ih ⊢; omega
    · by_cases hf : f m.data.toList = true
      · simp [upd, e, hf] at ih ⊢; omega
      · simp [upd, e, hf] at ih ⊢; omega

theorem Strs.head {w : World} {a : Option Addr} {n : Nat} {ss : List ByteArray} (h : Strs w a n ss) {c : Nat} (hc : c ≤ n) : Strs w a c (ss.take c) :=
  ⟨by rw [List.length_take, ← h.1]; omega, fun j s hs => by
    rw [List.getElem?_take] at hs
    split at hs
    · exact h.2 j s hs
    · simp at hs⟩

theorem Strs.tail {w : World} {a : Option Addr} {n : Nat} {ss : List ByteArray} (h : Strs w a n ss) (c : Nat) : Strs w (Option.map (fun x => x.add c) a) (n - c) (ss.drop c) :=
  ⟨by rw [List.length_drop, ← h.1], fun j s hs => by
    rw [List.getElem?_drop] at hs
    obtain ⟨b, off, rfl, h2, h3⟩ := h.2 (c + j) s hs
    refine ⟨b, off + c, by simp [Addr.add_lit], h2, ?_⟩
    rw [Nat.add_assoc]; exact h3⟩
theorem Strs.none {w : World} {a : Option Addr} {n : Nat} (h : n = 0) : Strs w a n [] := ⟨h, fun j s hs => by simp at hs⟩

/-- The group in its box. -/
structure Box3 (w : World) (b : Nat) (name : ByteArray) (k : Int) (v : Value) : Prop where
  c0 : w.cell? ⟨b, 0, none⟩ = some (.string name)
  c1 : w.cell? ⟨b, 1, none⟩ = some (.int .i64 k)
  c2 : w.cell? ⟨b, 2, none⟩ = some v
theorem Box3.on {w w' : World} {b : Nat} {name : ByteArray} {k : Int} {v : Value} (h : Box3 w b name k v) (hg : w.grownBy w' none) : Box3 w' b name k v :=
  ⟨hg.cell h.c0 (by simp), hg.cell h.c1 (by simp), hg.cell h.c2 (by simp)⟩
theorem Box3.new (w : World) (name : ByteArray) (k : Int) (v : Value) : Box3 (w.alloc (.cells #[.string name, .int .i64 k, v] 37)) w.heap.size name k v := ⟨by go_simp, by go_simp, by go_simp⟩

/-- The four maps. -/
structure Four (w W : World) (ob1 : Option Nat) (b2 b3 b4 : Nat) (f : List UInt8 → Bool) (x : List UInt8) : Prop where
  g : w.grownBy W none
  m1 : MapIs W ob1 4097 f
  m2 : MapIs W (some b2) 4097 (upd f x true)
  m3 : MapIs W (some b3) 4097 (upd f x false)
  m4 : MapIs W (some b4) 4097 (upd (fun _ => false) x true)
theorem Four.on {w W W' : World} {ob1 : Option Nat} {b2 b3 b4 : Nat} {f : List UInt8 → Bool} {x : List UInt8} (h : Four w W ob1 b2 b3 b4 f x) (hg : W.grownBy W' none) : Four w W' ob1 b2 b3 b4 f x :=
  ⟨h.g.trans hg, h.m1.on hg, h.m2.on hg, h.m3.on hg, h.m4.on hg⟩
theorem fo_eq (s x : ByteArray) : (s.toList == x.toList) = upd (fun _ => false) x.data.toList true s.data.toList := by
  rw [Lib.toList_data, Lib.toList_data]
  unfold upd
  by_cases h : s.data.toList = x.data.toList
  · rw [if_pos h, h]; simp
  · rw [if_neg h]; exact beq_eq_false_iff_ne.2 h

set_option maxHeartbeats 4000000 in
set_option maxRecDepth 100000 in
theorem group_row (name x : ByteArray) (k cut : Int) (am av : Option Addr) (xk : Addr) (nm cm nk ck nv cv : Nat) (ms ks : List ByteArray) (vs : List Bool) (w : World) (hcm : nm ≤ cm) (hcm2 : cm ≤ 9223372036854775807) (hk : nk ≤ 9223372036854775807)
    (hx : x.size ≤ maxLen) (hzm : ∀ s ∈ ms, s.size ≤ maxLen) (hzk : ∀ s ∈ ks, s.size ≤ maxLen) (hM : Strs w am nm ms) (hK : Strs w (some xk) nk ks) (hV : Bls w av nv vs) :
    Calls Try.prog 4 #[.string name, .int .i64 k, .slice am nm cm, .slice (some xk) nk ck, .slice av nv cv, .string x, .int .i64 cut] w fun e w' => e = .returned (.bool true) ∧ w.grownBy w' none := by
  have hm : nm ≤ 9223372036854775807 := by omega
  have M : Aside (Strs w am nm ms) := hM
  have K : Aside (Strs w (some xk) nk ks) := hK
  have V : Aside (Bls w av nv vs) := hV
  have ZM : Aside (∀ s ∈ ms, s.size ≤ maxLen) := hzm
  have ZK : Aside (∀ s ∈ ks, s.size ≤ maxLen) := hzk
  have ZX : Aside (x.size ≤ maxLen) := hx
  have hz := zz11 name x k cut am (some xk) av nm cm nk ck nv cv ms ks w hm hk hM hK
  have hA : ∀ t n W, Calls Try.prog 6 #[.int .i64 t, .int .i64 n] W fun e w' => IntRet e ∧ w' = W := addBytes
  have HA : Aside _ := hA
  have q34 : ∀ (w : World) (r : Option Nat), (binOp .eql 34 (.map r) (.map none)).run Try.prog w = .ok (.bool r.isNone) w := fun w r => run_eql_map_nil w _ _ _ r Try.underlying34
  have hmm := @run_makeMap Try.prog
  clear hM hK hV hzm hzk hx hA
  go_enter Try.func4, Try.ntmps4
  go_wp2_with fail
  refine hz.mono ?_
  rintro e w' ⟨⟨r, rfl⟩, rfl⟩
  clear hz
  cases r with
  | false =>
    go_wp2
    go_ret
    exact ⟨rfl, World.grownBy.refl _ _⟩
  | true =>
    by_cases h1 : 4096 < nm
    · go_wp2
      go_ret
      exact ⟨rfl, World.grownBy.refl _ _⟩
    by_cases h2 : 4096 < nk
    · go_wp2
      go_ret
      exact ⟨rfl, World.grownBy.refl _ _⟩
    by_cases h3 : 4096 < nv
    · go_wp2
      go_ret
      exact ⟨rfl, World.grownBy.refl _ _⟩
    go_wp2_with fail
    refine (HA.out _ _ _).mono ?_
    rintro e w1 ⟨⟨t1, rfl⟩, rfl⟩
    go_wp2_with fail
    refine (HA.out _ _ _).mono ?_
    rintro e w2 ⟨⟨t2, rfl⟩, rfl⟩
    go_wp2_with fail
    refine (HA.out _ _ _).mono ?_
    rintro e w3 ⟨⟨t3, rfl⟩, rfl⟩
    go_wp2
    go_loopg [15, 16] nm (fun gg s15 s16 wr => ∃ (i : Nat) (z : Int), i ≤ nm ∧ nm - i ≤ gg ∧ s16 = .int .i64 i ∧ s15 = .int .i64 z ∧ w3 = wr)
    case atStart => exact ⟨0, _, Nat.zero_le _, by omega, rfl, rfl, rfl⟩
    case round =>
      obtain ⟨i, z, hi, hgi, rfl, rfl, rfl⟩ := hrel
      by_cases hlt : i < nm ∧ z ≤ 1048576
      · obtain ⟨hlt, hz1⟩ := hlt
        have hltz : (i : Int) < (nm : Int) := by omega
        obtain ⟨s, b, off, _, rfl, _, c0⟩ := M.out.get hlt
        go_wp2_with fail
        refine (HA.out _ _ _).mono ?_
        rintro e w4 ⟨⟨t4, rfl⟩, rfl⟩
        go_wp2_with fail
        refine (HA.out _ _ _).mono ?_
        rintro e w5 ⟨⟨t5, rfl⟩, rfl⟩
        go_wp2
        go_roundg (nm - (i + 1))
        case measure => omega
        case rel => exact ⟨i + 1, _, by omega, Nat.le_refl _, by go_num, rfl, rfl⟩
      · by_cases hz1 : z ≤ 1048576
        · have hnl : ¬ i < nm := fun h => hlt ⟨h, hz1⟩
          have hltz : ¬ (i : Int) < (nm : Int) := by omega
          clear hlt
          go_wp2
          go_loopg [15, 17] nk (fun gg s15 s17 wr => ∃ (j : Nat) (z : Int), j ≤ nk ∧ nk - j ≤ gg ∧ s17 = .int .i64 j ∧ s15 = .int .i64 z ∧ w3 = wr)
          case atStart => exact ⟨0, _, Nat.zero_le _, by omega, rfl, rfl, rfl⟩
          case round =>
            obtain ⟨j, z', hj, hgj, rfl, rfl, rfl⟩ := hrel
            by_cases hz2 : z' ≤ 1048576
            · by_cases hlj : j < nk
              · have hljz : (j : Int) < (nk : Int) := by omega
                obtain ⟨s, b, off, _, hxk, _, c0⟩ := K.out.get hlj
                simp only [Option.some.injEq] at hxk
                subst hxk
                go_wp2_with fail
                refine (HA.out _ _ _).mono ?_
                rintro e w4 ⟨⟨t4, rfl⟩, rfl⟩
                go_wp2_with fail
                refine (HA.out _ _ _).mono ?_
                rintro e w5 ⟨⟨t5, rfl⟩, rfl⟩
                go_wp2
                go_roundg (nk - (j + 1))
                case measure => omega
                case rel => exact ⟨j + 1, _, by omega, Nat.le_refl _, by go_num, rfl, rfl⟩
              · have hljz : ¬ (j : Int) < (nk : Int) := by omega
                by_cases hc0 : cut < 0
                · go_wp2
                  go_ret
                  exact ⟨rfl, World.grownBy.refl _ _⟩
                by_cases hc1 : (nm : Int) < cut
                · go_wp2
                  go_ret
                  exact ⟨rfl, World.grownBy.refl _ _⟩
                obtain ⟨c, rfl⟩ := Int.eq_ofNat_of_zero_le (Int.not_lt.1 hc0)
                have hcn : c ≤ nm := by omega
                have hcc : c ≤ cm := by omega
                obtain ⟨f, hf⟩ : ∃ f, f = mapTo ks vs (ks.length + vs.length) := ⟨_, rfl⟩
                have hMp : ∀ W, w3.grownBy W none → Calls Try.prog 12 #[.slice (some xk) nk ck, .slice av nv cv] W fun e w' => e = .returned (.map (some W.heap.size)) ∧ Aside (MapIs w' (some W.heap.size) 4096 f) ∧ Aside (W.grownBy w' none) := fun W hW => by
                  refine (mapOf_row xk av nk ck nv cv ks vs W (by omega) (by omega) ZK.out (K.out.on hW) (V.out.on hW)).mono ?_
                  rintro e w' ⟨⟨rfl, h1⟩, h2⟩
                  rw [← hf] at h1
                  exact ⟨rfl, h1, h2⟩
                have HMp : Aside _ := hMp
                clear hMp hf HA hgi hgj hi hj hnl
                go_wp2_with fail
                refine (HMp.out w3 (World.grownBy.refl _ _)).mono ?_
                rintro e wa ⟨rfl, Ma, ga⟩
                go_wp2_with fail
                refine (HMp.out wa ga.out).mono ?_
                rintro e wb ⟨rfl, Mb, gb⟩
                obtain ⟨wc, hupc, Mc, gc⟩ := Mb.out.store (by unfold maxLen; omega) x ZX.out true
                have hlt1 : w3.heap.size < wa.heap.size := Ma.out.lt
                have gwc : Aside (w3.grownBy wc none) := (ga.out.trans gb.out).andThen gc (fun j hj => by simp at hj; subst hj; exact .inl (by omega))
                have Mac : Aside (MapIs wc (some w3.heap.size) 4096 f) := (Ma.out.on gb.out).kept gc (.inr (by simp; omega))
                have Mc' : Aside (MapIs wc (some wa.heap.size) 4097 (upd f x.data.toList true)) := Mc
                clear Mc gc Ma Mb gb
                go_wp2_with fail
                refine (HMp.out wc gwc.out).mono ?_
                rintro e wd ⟨rfl, Md, gd⟩
                obtain ⟨we, hupe, Me, ge⟩ := Md.out.store (by unfold maxLen; omega) x ZX.out false
                have hltc : wa.heap.size < wc.heap.size := Mc'.out.lt
                obtain ⟨wf, hupf, Mf, gf⟩ := (MapIs.made we).store (by unfold maxLen; omega) x ZX.out true
                have hlte : wc.heap.size < we.heap.size := MapIs.lt Me
                have gde : wc.grownBy we none := gd.out.andThen ge (fun j hj => by simp at hj; subst hj; exact .inl (Nat.le_refl _))
                have gef : we.grownBy wf none := (World.grownBy_alloc we (.map #[] 0) none).andThen gf (fun j hj => by simp at hj; subst hj; exact .inl (Nat.le_refl _))
                have F4 : Aside (Four w3 wf (some w3.heap.size) wa.heap.size wc.heap.size we.heap.size f x.data.toList) :=
                  ⟨(gwc.out.trans gde).trans gef, ((Mac.out.mono (by omega)).on gde).on gef, (Mc'.out.on gde).on gef, (show MapIs we _ _ _ from Me).on gef, Mf.mono (by omega)⟩
                clear Me ge Mf gf gde gef Mac Mc' Md gd
                go_wp2
                go_loopg [22, 23] nm (fun gg s22 s23 wr => ∃ q : Nat, q ≤ nm ∧ nm - q ≤ gg ∧ s23 = .int .i64 q ∧ s22 = .int .i64 (cnt (upd (fun _ => false) x.data.toList true) (ms.take q)) ∧ wf = wr)
                case atStart => exact ⟨0, Nat.zero_le _, by omega, rfl, by simp [cnt], rfl⟩
                case round =>
                  obtain ⟨q, hq, hgq, rfl, rfl, rfl⟩ := hrel
                  by_cases hlq : q < nm
                  · have hlqz : (q : Int) < (nm : Int) := by omega
                    obtain ⟨s, b, off, hs, rfl, _, c0⟩ := (M.out.on F4.out.g).get hlq
                    have S : Aside (cnt (upd (fun _ => false) x.data.toList true) (ms.take (q + 1)) = cnt (upd (fun _ => false) x.data.toList true) (ms.take q) + if (s.toList == x.toList) then 1 else 0) := by rw [fo_eq]; exact cnt_snoc _ ms q s hs
                    have hc : cnt (upd (fun _ => false) x.data.toList true) (ms.take q) ≤ q := Nat.le_trans (cnt_le _ _) (List.length_take_le _ _)
                    generalize cnt (upd (fun _ => false) x.data.toList true) (ms.take q) = C at *
                    clear hs
                    cases hsx : s.toList == x.toList with
                    | true =>
                      rw [hsx] at S
                      go_wp2
                      go_roundg (nm - (q + 1))
                      case measure => omega
                      case rel => exact ⟨q + 1, by omega, Nat.le_refl _, by go_num, by rw [S.out]; simp, rfl⟩
                    | false =>
                      rw [hsx] at S
                      go_wp2
                      go_roundg (nm - (q + 1))
                      case measure => omega
                      case rel => exact ⟨q + 1, by omega, Nat.le_refl _, by go_num, by rw [S.out]; simp, rfl⟩
                  · obtain rfl : q = nm := by omega
                    have hlqz : ¬ (q : Int) < (q : Int) := by omega
                    have hO : cnt (upd (fun _ => false) x.data.toList true) (ms.take q) = cnt (upd (fun _ => false) x.data.toList true) ms := by rw [M.out.len, List.take_length]
                    rw [hO]
                    clear hO
                    have hZ : ∀ (am : Option Addr) (n cp : Nat) (mm : List ByteArray) (ob : Option Nat) (f : List UInt8 → Bool) (W : World), n ≤ 4096 → (∀ s ∈ mm, s.size ≤ maxLen) → Strs W am n mm → MapIs W ob 4097 f →
                        Calls Try.prog 13 #[.agg #[.string name, .int .i64 k, .slice am n cp], .map ob] W fun e w' => e = .returned (.int .i64 (cnt f mm)) ∧ W.grownBy w' none := fun am n cp mm ob f W h1 h2 h3 h4 =>
                      zzCount_any name k am n cp mm ob 4097 f W (by omega) h2 h3 h4
                    have HZ : Aside _ := hZ
                    clear hZ hupc hupe hupf HMp
                    go_wp2_with fail
                    have F5 := show Aside _ from F4.out.on (World.grownBy_alloc wf (.cells #[.string name, .int .i64 k, .slice am q cm] 37) none)
                    refine (HZ.out am q cm ms _ f _ (by omega) ZM.out (M.out.on F5.out.g) F5.out.m1).mono ?_
                    rintro e wg ⟨rfl, g5⟩
                    have F6 := show Aside _ from F5.out.on g5
                    clear F5 F4
                    go_wp2_with fail
                    refine (HZ.out am c cm (ms.take c) _ f _ (by omega) (fun s hs => ZM.out s (List.mem_of_mem_take hs)) ((M.out.on F6.out.g).head hcn) F6.out.m1).mono ?_
                    rintro e wh ⟨rfl, g6⟩
                    have F7 := show Aside _ from F6.out.on g6
                    have X7 := show Aside _ from ((Box3.new wf name k (.slice am q cm)).on g5).on g6
                    clear F6 g5 g6
                    by_cases hcq : cm = c
                    · have hcq' := hcq.symm
                      subst hcq'
                      go_wp2_with fail
                      refine (HZ.out _ _ _ (ms.drop c) _ f _ (by omega) (fun s hs => ZM.out s (List.mem_of_mem_drop hs)) (by rw [List.drop_of_length_le (by rw [← M.out.len]; omega)]; exact Strs.none (by omega)) F7.out.m1).mono ?_
                      rintro e wi ⟨rfl, g7⟩
                      have F8 := show Aside _ from F7.out.on g7
                      have X8 := show Aside _ from X7.out.on g7
                      obtain ⟨x0, x1, x2⟩ := X7.out.on g7
                      clear F7 X7 g7
                      go_wp2_with fail
                      refine (HZ.out am q c ms _ _ _ (by omega) ZM.out (M.out.on F8.out.g) F8.out.m2).mono ?_
                      rintro e wj ⟨rfl, g8⟩
                      have F9 := show Aside _ from F8.out.on g8
                      have X9 := show Aside _ from X8.out.on g8
                      clear x0 x1 x2
                      obtain ⟨x0, x1, x2⟩ := X8.out.on g8
                      clear F8 X8 g8
                      go_wp2_with fail
                      refine (HZ.out am q c ms _ _ _ (by omega) ZM.out (M.out.on F9.out.g) F9.out.m3).mono ?_
                      rintro e wl ⟨rfl, g9⟩
                      have Fa := show Aside _ from F9.out.on g9
                      clear x0 x1 x2
                      obtain ⟨x0, x1, x2⟩ := X9.out.on g9
                      clear F9 X9 g9
                      go_wp2_with fail
                      refine (HZ.out am q c ms _ _ _ (by omega) ZM.out (M.out.on Fa.out.g) Fa.out.m4).mono ?_
                      rintro e wm ⟨rfl, ga'⟩
                      have Gm : Aside (w3.grownBy wm none) := (Fa.out.on ga').g
                      clear x0 x1 x2 ga' Fa HZ
                      have e1 := cnt_cut f ms c
                      have e2 := cnt_on_off f x.data.toList ms
                      have e3 := cnt_le f ms
                      have e6 := cnt_le (upd (fun _ => false) x.data.toList true) ms
                      rw [← M.out.len] at e3 e6
                      generalize cnt (upd f x.data.toList true) ms = ON at *
                      generalize cnt (upd f x.data.toList false) ms = OFF at *
                      generalize cnt (upd (fun _ => false) x.data.toList true) ms = OCC at *
                      generalize cnt f (ms.take c) = L at *
                      generalize cnt f (ms.drop c) = R at *
                      generalize cnt f ms = WH at *
                      obtain ⟨e2, e4, e5⟩ := e2
                      subst e1
                      subst e2
                      have y1 : (((L : Int) + (R : Int)) != (L : Int) + (R : Int)) = false := by simp
                      have y2 : ((OFF : Int) + (OCC : Int) - (OFF : Int) != (OCC : Int)) = false := by rw [show (OFF : Int) + (OCC : Int) - (OFF : Int) = (OCC : Int) by omega]; simp
                      have z1 : (L : Int) + (R : Int) ≤ (q : Int) := by omega
                      have z2 : (L : Int) + (R : Int) ≤ (OFF : Int) + (OCC : Int) := by omega
                      have z3 : (OFF : Int) ≤ (L : Int) + (R : Int) := by omega
                      have z4 : (L : Int) ≤ 4096 := by omega
                      have z5 : (R : Int) ≤ 4096 := by omega
                      have z6 : (OFF : Int) ≤ 4096 := by omega
                      have z7 : (OCC : Int) ≤ 4096 := by omega
                      go_wp2
                      go_ret
                      exact ⟨rfl, Gm.out⟩
                    · go_wp2_with fail
                      refine (HZ.out _ (q - c) _ (ms.drop c) _ f _ (by omega) (fun s hs => ZM.out s (List.mem_of_mem_drop hs)) ((M.out.on F7.out.g).tail c) F7.out.m1).mono ?_
                      rintro e wi ⟨rfl, g7⟩
                      have F8 := show Aside _ from F7.out.on g7
                      have X8 := show Aside _ from X7.out.on g7
                      obtain ⟨x0, x1, x2⟩ := X7.out.on g7
                      clear F7 X7 g7
                      go_wp2_with fail
                      refine (HZ.out am q cm ms _ _ _ (by omega) ZM.out (M.out.on F8.out.g) F8.out.m2).mono ?_
                      rintro e wj ⟨rfl, g8⟩
                      have F9 := show Aside _ from F8.out.on g8
                      have X9 := show Aside _ from X8.out.on g8
                      clear x0 x1 x2
                      obtain ⟨x0, x1, x2⟩ := X8.out.on g8
                      clear F8 X8 g8
                      go_wp2_with fail
                      refine (HZ.out am q cm ms _ _ _ (by omega) ZM.out (M.out.on F9.out.g) F9.out.m3).mono ?_
                      rintro e wl ⟨rfl, g9⟩
                      have Fa := show Aside _ from F9.out.on g9
                      clear x0 x1 x2
                      obtain ⟨x0, x1, x2⟩ := X9.out.on g9
                      clear F9 X9 g9
                      go_wp2_with fail
                      refine (HZ.out am q cm ms _ _ _ (by omega) ZM.out (M.out.on Fa.out.g) Fa.out.m4).mono ?_
                      rintro e wm ⟨rfl, ga'⟩
                      have Gm : Aside (w3.grownBy wm none) := (Fa.out.on ga').g
                      clear x0 x1 x2 ga' Fa HZ
                      have e1 := cnt_cut f ms c
                      have e2 := cnt_on_off f x.data.toList ms
                      have e3 := cnt_le f ms
                      have e6 := cnt_le (upd (fun _ => false) x.data.toList true) ms
                      rw [← M.out.len] at e3 e6
                      generalize cnt (upd f x.data.toList true) ms = ON at *
                      generalize cnt (upd f x.data.toList false) ms = OFF at *
                      generalize cnt (upd (fun _ => false) x.data.toList true) ms = OCC at *
                      generalize cnt f (ms.take c) = L at *
                      generalize cnt f (ms.drop c) = R at *
                      generalize cnt f ms = WH at *
                      obtain ⟨e2, e4, e5⟩ := e2
                      subst e1
                      subst e2
                      have y1 : (((L : Int) + (R : Int)) != (L : Int) + (R : Int)) = false := by simp
                      have y2 : ((OFF : Int) + (OCC : Int) - (OFF : Int) != (OCC : Int)) = false := by rw [show (OFF : Int) + (OCC : Int) - (OFF : Int) = (OCC : Int) by omega]; simp
                      have z1 : (L : Int) + (R : Int) ≤ (q : Int) := by omega
                      have z2 : (L : Int) + (R : Int) ≤ (OFF : Int) + (OCC : Int) := by omega
                      have z3 : (OFF : Int) ≤ (L : Int) + (R : Int) := by omega
                      have z4 : (L : Int) ≤ 4096 := by omega
                      have z5 : (R : Int) ≤ 4096 := by omega
                      have z6 : (OFF : Int) ≤ 4096 := by omega
                      have z7 : (OCC : Int) ≤ 4096 := by omega
                      go_wp2
                      go_ret
                      exact ⟨rfl, Gm.out⟩
            · by_cases hlj : j < nk
              · have hljz : (j : Int) < (nk : Int) := by omega
                go_wp2
                go_ret
                exact ⟨rfl, World.grownBy.refl _ _⟩
              · have hljz : ¬ (j : Int) < (nk : Int) := by omega
                go_wp2
                go_ret
                exact ⟨rfl, World.grownBy.refl _ _⟩
        · by_cases hli : i < nm
          · have hliz : (i : Int) < (nm : Int) := by omega
            clear hlt
            go_wp2
            go_loopg [15, 17] 0 (fun _ s15 s17 wr => s17 = .int .i64 0 ∧ s15 = .int .i64 z ∧ w3 = wr)
            case atStart => exact ⟨rfl, rfl, rfl⟩
            case round =>
              obtain ⟨rfl, rfl, rfl⟩ := hrel
              by_cases h0 : 0 < nk
              · have h0z : (0 : Int) < (nk : Int) := by omega
                go_wp2
                go_ret
                exact ⟨rfl, World.grownBy.refl _ _⟩
              · obtain rfl : nk = 0 := by omega
                go_wp2
                go_ret
                exact ⟨rfl, World.grownBy.refl _ _⟩
          · have hliz : ¬ (i : Int) < (nm : Int) := by omega
            clear hlt
            go_wp2
            go_loopg [15, 17] 0 (fun _ s15 s17 wr => s17 = .int .i64 0 ∧ s15 = .int .i64 z ∧ w3 = wr)
            case atStart => exact ⟨rfl, rfl, rfl⟩
            case round =>
              obtain ⟨rfl, rfl, rfl⟩ := hrel
              by_cases h0 : 0 < nk
              · have h0z : (0 : Int) < (nk : Int) := by omega
                go_wp2
                go_ret
                exact ⟨rfl, World.grownBy.refl _ _⟩
              · obtain rfl : nk = 0 := by omega
                go_wp2
                go_ret
                exact ⟨rfl, World.grownBy.refl _ _⟩
end Go.Proofs.Qxb6617126a
