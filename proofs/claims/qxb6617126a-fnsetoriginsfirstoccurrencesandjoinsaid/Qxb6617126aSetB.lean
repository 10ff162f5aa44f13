import Derived.Test.Qxb6617126aSetA
namespace Go.Proofs.Qxb6617126a
open Go.RowKit

set_option maxHeartbeats 8000000 in
set_option maxRecDepth 100000 in
theorem set_walk (ap aq : Option Addr) (np cp nq cq : Nat) (ps qs : List (List ByteArray)) (w : World) (hp : np ≤ 9223372036854775807) (hq : nq ≤ 9223372036854775807) (okP : MatOk ps) (okQ : MatOk qs)
    (szP : ∀ r ∈ ps, ∀ s ∈ r, s.size ≤ 9223372036854775807) (szQ : ∀ r ∈ qs, ∀ s ∈ r, s.size ≤ 9223372036854775807) (hP : Mat w ap np ps) (hQ : Mat w aq nq qs) :
    Calls Try.prog 3 #[.slice ap np cp, .slice aq nq cq] w fun e w' => e = .returned (.bool true) ∧ w.grownBy w' none := by
  have hz := zz5 ap aq np cp nq cq ps qs w hp hq okP okQ hP hQ
  have P : Aside (Mat w ap np ps ∧ MatOk ps ∧ ∀ r ∈ ps, ∀ s ∈ r, s.size ≤ 9223372036854775807) := ⟨hP, okP, szP⟩
  have Q : Aside (Mat w aq nq qs ∧ MatOk qs ∧ ∀ r ∈ qs, ∀ s ∈ r, s.size ≤ 9223372036854775807) := ⟨hQ, okQ, szQ⟩
  clear hP hQ okP okQ szP szQ
  go_enter Try.func3, Try.ntmps3
  go_wp2_with fail
  refine hz.mono ?_
  rintro e w' ⟨⟨r, rfl⟩, rfl⟩
  clear hz
  cases r with
  | false =>
    go_wp2
    go_ret
    exact ⟨rfl, World.grownBy.refl _ _⟩
  | true =>
    by_cases h1 : 4096 < np
    · go_wp2
      go_ret
      exact ⟨rfl, World.grownBy.refl _ _⟩
    by_cases h2 : 4096 < nq
    · go_wp2
      go_ret
      exact ⟨rfl, World.grownBy.refl _ _⟩
    go_wp2
    go_loopg [5, 6, 7, 8] np (fun gg s5 s6 si _ wr => ∃ (i lg : Nat) (z : Int), i ≤ np ∧ np - i ≤ gg ∧ si = .int .i64 i ∧ s5 = .int .i64 z ∧ s6 = .int .i64 lg ∧ 0 ≤ z ∧ lg ≤ 1048577 ∧ Aside (Inv z lg ((ps.take i).flatten.length)) ∧ w' = wr)
    case atStart => exact ⟨0, 0, 0, Nat.zero_le _, by omega, rfl, rfl, rfl, by omega, by omega, (show Aside _ from fun _ => ⟨rfl, by decide⟩), rfl⟩
    case round =>
      obtain ⟨i, lg, z, hi, hgi, rfl, rfl, rfl, hz0, hlg, I1, rfl⟩ := hrel
      by_cases hzc : z ≤ 1048576
      · by_cases hlt : i < np
        · have hltz : (i : Int) < (np : Int) := by omega
          obtain ⟨r, b, off, a', n', c', hr, rfl, _, c0, hS⟩ := P.out.1.get hlt
          have hn' : n' ≤ 9223372036854775807 := by rw [hS.len]; exact P.out.2.1 r (List.mem_of_getElem? hr)
          have S : Aside (Strs w' a' n' r) := hS
          have R : Aside (ps[i]? = some r) := hr
          clear hS hr
          go_wp2_with fail
          refine (addBytes2 z 24 hz0 (by omega) _).mono ?_
          rintro e w4 ⟨⟨t4, rfl, ht4⟩, rfl⟩
          obtain ⟨I2', ht4z⟩ := I1.out.add hzc hz0 ht4
          have I2 : Aside (Inv t4 lg ((ps.take i).flatten.length)) := I2'
          clear ht4 I2'
          go_wp2
          go_loopg [5, 6, 8] n' (fun gg s5 s6 sj wr => ∃ (j lg : Nat) (z : Int), j ≤ n' ∧ n' - j ≤ gg ∧ sj = .int .i64 j ∧ s5 = .int .i64 z ∧ s6 = .int .i64 lg ∧ 0 ≤ z ∧ lg ≤ 1048577 ∧ Aside (Inv z lg ((ps.take i).flatten.length + j)) ∧ w4 = wr)
          case atStart => exact ⟨0, lg, t4, Nat.zero_le _, by omega, rfl, rfl, rfl, ht4z, hlg, I2.out, rfl⟩
          case round =>
            obtain ⟨j, lg, z, hj, hgj, rfl, rfl, rfl, hz0, hlg, I3, rfl⟩ := hrel
            by_cases hzj : z ≤ 1048576
            · by_cases hlj : j < n'
              · have hljz : (j : Int) < (n' : Int) := by omega
                obtain ⟨s, b', off', hs, rfl, _, d0⟩ := S.out.get hlj
                have hsz : s.size ≤ 9223372036854775807 := P.out.2.2 r (List.mem_of_getElem? R.out) s (List.mem_of_getElem? hs)
                clear hs
                go_wp2_with fail
                refine (addBytes2 z 16 hz0 (by omega) _).mono ?_
                rintro e w5 ⟨⟨t5, rfl, ht5⟩, rfl⟩
                have ht5z : 0 ≤ t5 := (I3.out.add hzj hz0 ht5).2
                have H5 : Aside (t5 = 1048577 ∨ (t5 = z + 16 ∧ 0 ≤ (16 : Int) ∧ z ≤ 1048576)) := ht5
                clear ht5
                go_wp2_with fail
                refine (addBytes2 t5 (s.size : Int) ht5z (by omega) _).mono ?_
                rintro e w6 ⟨⟨t6, rfl, ht6⟩, rfl⟩
                obtain ⟨I4', hlg4, ht6z⟩ := I3.out.step hzj H5.out ht6 (by omega)
                have I4 : Aside (Inv t6 (lg + 1) ((ps.take i).flatten.length + j + 1)) := I4'
                clear ht6 I4'
                go_wp2
                go_roundg (n' - (j + 1))
                case measure => omega
                case rel => exact ⟨j + 1, lg + 1, t6, by omega, Nat.le_refl _, by go_num, rfl, by go_num, ht6z, hlg4, I4.out, rfl⟩
              · obtain rfl : j = n' := by omega
                have hljz : ¬ (j : Int) < (j : Int) := by omega
                have I4 : Aside (Inv z lg ((ps.take (i + 1)).flatten.length)) := by
                  have e := I3.out
                  have ee : (ps.take i).flatten.length + j = (ps.take (i + 1)).flatten.length := by
                    have e1 := cnt_take ps i r R.out
                    have e2 := S.out.len
                    omega
                  rw [ee] at e
                  exact e
                go_wp2
                go_roundg (np - (i + 1))
                case measure => omega
                case rel => exact ⟨i + 1, lg, z, by omega, Nat.le_refl _, by go_num, rfl, rfl, hz0, hlg, I4.out, rfl⟩
            · have IV : Aside (Inv z lg ((ps.take (i + 1)).flatten.length)) := fun h => absurd h hzj
              by_cases hlj : j < n'
              · have hljz : (j : Int) < (n' : Int) := by omega
                go_wp2
                go_roundg (np - (i + 1))
                case measure => omega
                case rel => exact ⟨i + 1, lg, z, by omega, Nat.le_refl _, by go_num, rfl, rfl, hz0, hlg, IV.out, rfl⟩
              · have hljz : ¬ (j : Int) < (n' : Int) := by omega
                go_wp2
                go_roundg (np - (i + 1))
                case measure => omega
                case rel => exact ⟨i + 1, lg, z, by omega, Nat.le_refl _, by go_num, rfl, rfl, hz0, hlg, IV.out, rfl⟩
        · have hinx : np = i := by omega
          subst hinx
          have hltz : ¬ (np : Int) < (np : Int) := by omega
          have hlgc : lg = ps.flatten.length := by
            have e := (I1.out hzc).1
            rwa [List.take_of_length_le (by rw [← P.out.1.len]; exact Nat.le_refl _)] at e
          have HLG : Aside (lg = ps.flatten.length ∧ (lg : Int) ≤ z) := ⟨hlgc, (I1.out hzc).2⟩
          clear hlgc I1
          go_wp2
          go_loopg [5, 6, 9, 10] nq (fun gg s5 s6 si _ wr => ∃ (i lg : Nat) (z : Int), i ≤ nq ∧ nq - i ≤ gg ∧ si = .int .i64 i ∧ s5 = .int .i64 z ∧ s6 = .int .i64 lg ∧ 0 ≤ z ∧ lg ≤ 1048577 ∧ Aside (Inv z lg (ps.flatten.length + (qs.take i).flatten.length)) ∧ w' = wr)
          case atStart => exact ⟨0, lg, z, Nat.zero_le _, by omega, rfl, rfl, rfl, hz0, hlg, (show Aside _ from fun _ => by simpa using HLG.out), rfl⟩
          case round =>
            obtain ⟨i, lg, z, hi, hgi, rfl, rfl, rfl, hz0, hlg, I1, rfl⟩ := hrel
            by_cases hzc : z ≤ 1048576
            · by_cases hlt : i < nq
              · have hltz : (i : Int) < (nq : Int) := by omega
                obtain ⟨r, b, off, a', n', c', hr, rfl, _, c0, hS⟩ := Q.out.1.get hlt
                have hn' : n' ≤ 9223372036854775807 := by rw [hS.len]; exact Q.out.2.1 r (List.mem_of_getElem? hr)
                have S : Aside (Strs w' a' n' r) := hS
                have R : Aside (qs[i]? = some r) := hr
                clear hS hr
                go_wp2_with fail
                refine (addBytes2 z 24 hz0 (by omega) _).mono ?_
                rintro e w4 ⟨⟨t4, rfl, ht4⟩, rfl⟩
                obtain ⟨I2', ht4z⟩ := I1.out.add hzc hz0 ht4
                have I2 : Aside (Inv t4 lg (ps.flatten.length + (qs.take i).flatten.length)) := I2'
                clear ht4 I2'
                go_wp2
                go_loopg [5, 6, 10] n' (fun gg s5 s6 sj wr => ∃ (j lg : Nat) (z : Int), j ≤ n' ∧ n' - j ≤ gg ∧ sj = .int .i64 j ∧ s5 = .int .i64 z ∧ s6 = .int .i64 lg ∧ 0 ≤ z ∧ lg ≤ 1048577 ∧ Aside (Inv z lg (ps.flatten.length + (qs.take i).flatten.length + j)) ∧ w4 = wr)
                case atStart => exact ⟨0, lg, t4, Nat.zero_le _, by omega, rfl, rfl, rfl, ht4z, hlg, I2.out, rfl⟩
                case round =>
                  obtain ⟨j, lg, z, hj, hgj, rfl, rfl, rfl, hz0, hlg, I3, rfl⟩ := hrel
                  by_cases hzj : z ≤ 1048576
                  · by_cases hlj : j < n'
                    · have hljz : (j : Int) < (n' : Int) := by omega
                      obtain ⟨s, b', off', hs, rfl, _, d0⟩ := S.out.get hlj
                      have hsz : s.size ≤ 9223372036854775807 := Q.out.2.2 r (List.mem_of_getElem? R.out) s (List.mem_of_getElem? hs)
                      clear hs
                      go_wp2_with fail
                      refine (addBytes2 z 16 hz0 (by omega) _).mono ?_
                      rintro e w5 ⟨⟨t5, rfl, ht5⟩, rfl⟩
                      have ht5z : 0 ≤ t5 := (I3.out.add hzj hz0 ht5).2
                      have H5 : Aside (t5 = 1048577 ∨ (t5 = z + 16 ∧ 0 ≤ (16 : Int) ∧ z ≤ 1048576)) := ht5
                      clear ht5
                      go_wp2_with fail
                      refine (addBytes2 t5 (s.size : Int) ht5z (by omega) _).mono ?_
                      rintro e w6 ⟨⟨t6, rfl, ht6⟩, rfl⟩
                      obtain ⟨I4', hlg4, ht6z⟩ := I3.out.step hzj H5.out ht6 (by omega)
                      have I4 : Aside (Inv t6 (lg + 1) (ps.flatten.length + (qs.take i).flatten.length + j + 1)) := I4'
                      clear ht6 I4'
                      go_wp2
                      go_roundg (n' - (j + 1))
                      case measure => omega
                      case rel => exact ⟨j + 1, lg + 1, t6, by omega, Nat.le_refl _, by go_num, rfl, by go_num, ht6z, hlg4, I4.out, rfl⟩
                    · obtain rfl : j = n' := by omega
                      have hljz : ¬ (j : Int) < (j : Int) := by omega
                      have I4 : Aside (Inv z lg (ps.flatten.length + (qs.take (i + 1)).flatten.length)) := by
                        have e := I3.out
                        have ee : ps.flatten.length + (qs.take i).flatten.length + j = ps.flatten.length + (qs.take (i + 1)).flatten.length := by
                          have e1 := cnt_take qs i r R.out
                          have e2 := S.out.len
                          omega
                        rw [ee] at e
                        exact e
                      go_wp2
                      go_roundg (nq - (i + 1))
                      case measure => omega
                      case rel => exact ⟨i + 1, lg, z, by omega, Nat.le_refl _, by go_num, rfl, rfl, hz0, hlg, I4.out, rfl⟩
                  · have IV : Aside (Inv z lg (ps.flatten.length + (qs.take (i + 1)).flatten.length)) := fun h => absurd h hzj
                    by_cases hlj : j < n'
                    · have hljz : (j : Int) < (n' : Int) := by omega
                      go_wp2
                      go_roundg (nq - (i + 1))
                      case measure => omega
                      case rel => exact ⟨i + 1, lg, z, by omega, Nat.le_refl _, by go_num, rfl, rfl, hz0, hlg, IV.out, rfl⟩
                    · have hljz : ¬ (j : Int) < (n' : Int) := by omega
                      go_wp2
                      go_roundg (nq - (i + 1))
                      case measure => omega
                      case rel => exact ⟨i + 1, lg, z, by omega, Nat.le_refl _, by go_num, rfl, rfl, hz0, hlg, IV.out, rfl⟩
              · have hinx : nq = i := by omega
                subst hinx
                have hltz : ¬ (nq : Int) < (nq : Int) := by omega
                have hlgc : lg = ps.flatten.length + qs.flatten.length := by
                  have e := (I1.out hzc).1
                  rwa [List.take_of_length_le (by rw [← Q.out.1.len]; exact Nat.le_refl _)] at e
                have HLG : Aside (lg = ps.flatten.length + qs.flatten.length ∧ (lg : Int) ≤ z) := ⟨hlgc, (I1.out hzc).2⟩
                clear hlgc I1
                by_cases h24 : 1024 < lg
                · go_wp2
                  go_ret
                  exact ⟨rfl, World.grownBy.refl _ _⟩
                have hlg24 : lg ≤ 1024 := by omega
                have hnp4 : np ≤ 4096 := by omega
                have hnq4 : nq ≤ 4096 := by omega
                obtain ⟨i0, k1, k2, k3, k4⟩ := info_of info25
                obtain ⟨w1, hmk, hown, hg1⟩ := run_make_own (P := Try.prog) w' w'.heap.size 22 25 i0 _ 1 Try.underlying22 k1 k2 k3 .i64 .i64 (np + nq) (by rw [k4]; omega) (by unfold maxLen; omega) (Nat.le_refl _)
                rw [Int.natCast_add] at hmk
                have O1 : Aside (w1.ownsRow w'.heap.size 25 1 (.slice (some ⟨w'.heap.size, 0, none⟩) 0 (np + nq)) 0 []) := hown
                have G1 : Aside (w'.grownBy w1 none) := hg1
                clear hown hg1 k1 k2 k3 k4 hp hq
                go_wp2
                go_loopg [11, 12] np (fun gg s11 s12 wq => ∃ (i : Nat) (vs : List Value), i ≤ np ∧ np - i ≤ gg ∧ s12 = .int .i64 i ∧ s11 = .slice (some ⟨w'.heap.size, 0, none⟩) i (np + nq) ∧ Aside (wq.ownsRow w'.heap.size 25 1 (.slice (some ⟨w'.heap.size, 0, none⟩) i (np + nq)) i vs) ∧ Aside (RowsAt w' vs (ps.take i)) ∧ Aside (w'.grownBy wq none))
                case atStart => exact ⟨0, [], Nat.zero_le _, by omega, rfl, rfl, O1.out, ⟨by simp, fun j v r h => by simp at h⟩, G1.out⟩
                case round =>
                  clear hmk O1 G1
                  obtain ⟨i, vs, hi, hgi, rfl, rfl, O2, V2, G2⟩ := hrel
                  by_cases hlt : i < np
                  · have hltz : (i : Int) < (np : Int) := by omega
                    obtain ⟨r, b, off, a', n', c', hr, rfl, _, c0, hS⟩ := P.out.1.get hlt
                    have g0 : wr.cell? ⟨b, off + i, none⟩ = some (.slice a' n' c') := G2.out.cell c0 (by simp)
                    obtain ⟨w3, happ, O3, g3⟩ := append1 Try.underlying22 info25 O2.out (by omega) (.slice a' n' c') rfl
                    have HAP : Aside _ := happ
                    have ON : Aside (w3.ownsRow w'.heap.size 25 1 (.slice (some ⟨w'.heap.size, 0, none⟩) (i + 1) (np + nq)) (i + 1) (vs ++ [.slice a' n' c'])) := O3
                    have GN : Aside (w'.grownBy w3 none) := G2.out.andThen g3 (fun q hq => .inl (by simp at hq; omega))
                    have VN : Aside (RowsAt w' (vs ++ [.slice a' n' c']) (ps.take (i + 1))) := by
                      show RowsAt w' (vs ++ [.slice a' n' c']) (ps.take (i + 1))
                      rw [List.take_add_one, hr]
                      exact V2.out.snoc ⟨a', n', c', rfl, hS⟩
                    clear happ O3 g3 c0 hS hr
                    go_wp2_with (at_builtin; go_must (refine wpList_app rfl _ _ 22 rfl rfl _ _ _ _ rfl rfl HAP.out ?_))
                    go_roundg (np - (i + 1))
                    case measure => omega
                    case rel => exact ⟨i + 1, _, by omega, Nat.le_refl _, by go_num, rfl, ON.out, VN.out, GN.out⟩
                  · have hinx : np = i := by omega
                    subst hinx
                    have hltz : ¬ (np : Int) < (np : Int) := by omega
                    have V3 : Aside (RowsAt w' vs ps) := by
                      have e := V2.out
                      rwa [List.take_of_length_le (by rw [← P.out.1.len]; exact Nat.le_refl _)] at e
                    clear V2
                    go_wp2
                    go_loopg [11, 13] nq (fun gg s11 s13 wq => ∃ (i : Nat) (vs : List Value), i ≤ nq ∧ nq - i ≤ gg ∧ s13 = .int .i64 i ∧ s11 = .slice (some ⟨w'.heap.size, 0, none⟩) (np + i) (np + nq) ∧ Aside (wq.ownsRow w'.heap.size 25 1 (.slice (some ⟨w'.heap.size, 0, none⟩) (np + i) (np + nq)) (np + i) vs) ∧ Aside (RowsAt w' vs (ps ++ qs.take i)) ∧ Aside (w'.grownBy wq none))
                    case atStart => exact ⟨0, vs, Nat.zero_le _, by omega, rfl, rfl, O2.out, by rw [List.take_zero, List.append_nil]; exact V3.out, G2.out⟩
                    case round =>
                      clear O2 V3 G2
                      obtain ⟨i, vs, hi, hgi, rfl, rfl, O2, V2, G2⟩ := hrel
                      by_cases hlt : i < nq
                      · have hltz : (i : Int) < (nq : Int) := by omega
                        obtain ⟨r, b, off, a', n', c', hr, rfl, _, c0, hS⟩ := Q.out.1.get hlt
                        have g0 : wr.cell? ⟨b, off + i, none⟩ = some (.slice a' n' c') := G2.out.cell c0 (by simp)
                        obtain ⟨w3, happ, O3, g3⟩ := append1 Try.underlying22 info25 O2.out (by omega) (.slice a' n' c') rfl
                        have HAP : Aside _ := happ
                        have ON : Aside (w3.ownsRow w'.heap.size 25 1 (.slice (some ⟨w'.heap.size, 0, none⟩) (np + i + 1) (np + nq)) (np + i + 1) (vs ++ [.slice a' n' c'])) := O3
                        have GN : Aside (w'.grownBy w3 none) := G2.out.andThen g3 (fun q hq => .inl (by simp at hq; omega))
                        have VN : Aside (RowsAt w' (vs ++ [.slice a' n' c']) (ps ++ qs.take (i + 1))) := by
                          show RowsAt w' (vs ++ [.slice a' n' c']) (ps ++ qs.take (i + 1))
                          rw [List.take_add_one, hr, ← List.append_assoc]
                          exact V2.out.snoc ⟨a', n', c', rfl, hS⟩
                        clear happ O3 g3 c0 hS hr
                        go_wp2_with (at_builtin; go_must (refine wpList_app rfl _ _ 22 rfl rfl _ _ _ _ rfl rfl HAP.out ?_))
                        go_roundg (nq - (i + 1))
                        case measure => omega
                        case rel => exact ⟨i + 1, _, by omega, Nat.le_refl _, by go_num, rfl, ON.out, VN.out, GN.out⟩
                      · have hinx : nq = i := by omega
                        subst hinx
                        have hltz : ¬ (nq : Int) < (nq : Int) := by omega
                        have MJ : Aside (Mat wr (some ⟨w'.heap.size, 0, none⟩) (np + nq) (ps ++ qs)) := by
                          have e := V2.out
                          rw [List.take_of_length_le (by rw [← Q.out.1.len]; exact Nat.le_refl _)] at e
                          exact e.mat G2.out O2.out
                        clear V2 O2
                        have FL : Aside (ps.flatten.length + qs.flatten.length ≤ 1024) := by have := HLG.out.1; show _ ≤ _; omega
                        have FP : Aside (ps.flatten.length ≤ 1048576) := by have := FL.out; show _ ≤ _; omega
                        have FQ : Aside (qs.flatten.length ≤ 1048576) := by have := FL.out; show _ ≤ _; omega
                        have FJ : Aside ((ps ++ qs).flatten.length ≤ 1048576) := by have := FL.out; show _ ≤ _; rw [List.flatten_append, List.length_append]; omega
                        have LP : Aside (∀ r ∈ ps, r.length ≤ 1048576) := fun r hr => Nat.le_trans (row_le ps r hr) FP.out
                        have LQ : Aside (∀ r ∈ qs, r.length ≤ 1048576) := fun r hr => Nat.le_trans (row_le qs r hr) FQ.out
                        have LJ : Aside (∀ r ∈ ps ++ qs, r.length ≤ 1048576) := fun r hr => Nat.le_trans (row_le _ r hr) FJ.out
                        clear h1 h2 hi hgi hlt
                        go_wp2_with fail
                        refine (policies_any ap np cp ps wr (by omega) LP.out (P.out.1.on G2.out)).mono ?_
                        rintro e wA1 ⟨⟨pA, kA, rfl, hPl⟩, gA⟩
                        have PL : Aside (Pols wA1 pA (np) ps) := hPl
                        have GAA : Aside (wr.grownBy wA1 none) := gA
                        clear hPl gA
                        go_wp2_with fail
                        refine (newSet pA (np) kA _).mono ?_
                        rintro e wA2 ⟨rfl, rfl⟩
                        go_wp2_with fail
                        refine (origins_any wA1.heap.size pA (np) kA ps _ (by omega) FP.out (by go_simp) (PL.out.on (World.grownBy_alloc _ _ _))).mono ?_
                        rintro e wA3 ⟨⟨aA, nA, cA, rfl, OA⟩, gC⟩
                        have GGA : Aside (wr.grownBy wA3 none) := (gb_alloc GAA.out _).trans gC
                        have SA : Aside (Strs wA3 aA nA (dd ps.flatten)) := OA.strs
                        have hnA : nA ≤ 1024 := by
                          have e1 := OA.len
                          have e2 := dd_len ps.flatten
                          have e3 := FP.out
                          have e4 := FL.out
                          simp at e1 e2 e3 e4
                          omega
                        clear OA gC PL GAA
                        have GWA : Aside (w'.grownBy wA3 none) := G2.out.trans GGA.out
                        go_wp2_with fail
                        refine (policies_any aq nq cq qs wA3 (by omega) LQ.out (Q.out.1.on GWA.out)).mono ?_
                        rintro e wB1 ⟨⟨pB, kB, rfl, hPl⟩, gA⟩
                        have PL : Aside (Pols wB1 pB (nq) qs) := hPl
                        have GAB : Aside (wA3.grownBy wB1 none) := gA
                        clear hPl gA
                        go_wp2_with fail
                        refine (newSet pB (nq) kB _).mono ?_
                        rintro e wB2 ⟨rfl, rfl⟩
                        go_wp2_with fail
                        refine (origins_any wB1.heap.size pB (nq) kB qs _ (by omega) FQ.out (by go_simp) (PL.out.on (World.grownBy_alloc _ _ _))).mono ?_
                        rintro e wB3 ⟨⟨aB, nB, cB, rfl, OA⟩, gC⟩
                        have GGB : Aside (wA3.grownBy wB3 none) := (gb_alloc GAB.out _).trans gC
                        have SB : Aside (Strs wB3 aB nB (dd qs.flatten)) := OA.strs
                        have hnB : nB ≤ 1024 := by
                          have e1 := OA.len
                          have e2 := dd_len qs.flatten
                          have e3 := FQ.out
                          have e4 := FL.out
                          simp at e1 e2 e3 e4
                          omega
                        clear OA gC PL GAB
                        have GWB : Aside (w'.grownBy wB3 none) := GWA.out.trans GGB.out
                        have MJ3 : Aside (Mat wB3 (some ⟨w'.heap.size, 0, none⟩) (np + nq) (ps ++ qs)) := (MJ.out.on GGA.out).on GGB.out
                        go_wp2_with fail
                        refine (policies_any (some ⟨w'.heap.size, 0, none⟩) (np + nq) (np + nq) (ps ++ qs) wB3 (by omega) LJ.out MJ3.out).mono ?_
                        rintro e wC1 ⟨⟨pC, kC, rfl, hPl⟩, gA⟩
                        have PL : Aside (Pols wC1 pC ((np + nq)) (ps ++ qs)) := hPl
                        have GAC : Aside (wB3.grownBy wC1 none) := gA
                        clear hPl gA
                        go_wp2_with fail
                        refine (newSet pC ((np + nq)) kC _).mono ?_
                        rintro e wC2 ⟨rfl, rfl⟩
                        go_wp2_with fail
                        refine (origins_any wC1.heap.size pC ((np + nq)) kC (ps ++ qs) _ (by omega) FJ.out (by go_simp) (PL.out.on (World.grownBy_alloc _ _ _))).mono ?_
                        rintro e wC3 ⟨⟨aC, nC, cC, rfl, OA⟩, gC⟩
                        have GGC : Aside (wB3.grownBy wC3 none) := (gb_alloc GAC.out _).trans gC
                        have SC : Aside (Strs wC3 aC nC (dd (ps ++ qs).flatten)) := OA.strs
                        have hnC : nC ≤ 1024 := by
                          have e1 := OA.len
                          have e2 := dd_len (ps ++ qs).flatten
                          have e3 := FJ.out
                          have e4 := FL.out
                          simp at e1 e2 e3 e4
                          omega
                        clear OA gC PL GAC
                        have GWC : Aside (w'.grownBy wC3 none) := GWB.out.trans GGC.out
                        have SA3 : Aside (Strs wC3 aA nA (dd ps.flatten)) := (SA.out.on GGB.out).on GGC.out
                        have SB3 : Aside (Strs wC3 aB nB (dd qs.flatten)) := SB.out.on GGC.out
                        clear MJ MJ3 GGA GGB GGC GWA GWB SA SB LJ LQ LP FP FQ FJ
                        obtain ⟨i9, k1, k2, k3, k4⟩ := info_of info9
                        obtain ⟨wF, hmkF, hownF, hgF⟩ := run_make_own (P := Try.prog) wC3 wC3.heap.size 25 9 i9 _ 1 Try.underlying25 k1 k2 k3 .i64 .i64 lg (by rw [k4]; omega) (by unfold maxLen; omega) (Nat.le_refl _)
                        have OF : Aside (Own wC3.heap.size wF (some ⟨wC3.heap.size, 0, none⟩) 0 lg []) := hownF
                        have GF : Aside (wC3.grownBy wF none) := hgF
                        clear hownF hgF k1 k2 k3 k4
                        go_wp2
                        go_loopg [17, 18, 19] np (fun gg s17 s18 _ wq => ∃ (i m : Nat), i ≤ np ∧ np - i ≤ gg ∧ s18 = .int .i64 i ∧ s17 = .slice (some ⟨wC3.heap.size, 0, none⟩) m lg ∧ Aside (Own wC3.heap.size wq (some ⟨wC3.heap.size, 0, none⟩) m lg (ps.take i).flatten) ∧ Aside (wC3.grownBy wq none))
                        case atStart => exact ⟨0, 0, Nat.zero_le _, by omega, rfl, rfl, OF.out, GF.out⟩
                        case round =>
                          clear hmkF OF GF
                          obtain ⟨i, m, hi, hgi, rfl, rfl, O2, G3⟩ := hrel
                          by_cases hlt : i < np
                          · have hltz : (i : Int) < (np : Int) := by omega
                            obtain ⟨r, b, off, a', n', c', hr, rfl, _, c0, hS⟩ := P.out.1.get hlt
                            have C0 : Aside (w'.cell? ⟨b, off + i, none⟩ = some (.slice a' n' c')) := c0
                            have S : Aside (Strs w' a' n' r) := hS
                            have R : Aside (ps[i]? = some r) := hr
                            have FT : Aside ((ps.take (i + 1)).flatten = (ps.take i).flatten ++ r) := by
                              show (ps.take (i + 1)).flatten = (ps.take i).flatten ++ r
                              rw [List.take_add_one, hr]; simp
                            have FTL : Aside ((ps.take (i + 1)).flatten.length ≤ lg) := by
                              show (ps.take (i + 1)).flatten.length ≤ lg
                              have e : ps.flatten = (ps.take (i + 1)).flatten ++ (ps.drop (i + 1)).flatten := by rw [← List.flatten_append, List.take_append_drop]
                              have e2 := HLG.out.1
                              have e3 := congrArg List.length e
                              rw [List.length_append] at e3
                              omega
                            have hn' : n' ≤ 1024 := by
                              have e1 := FTL.out
                              rw [FT.out, List.length_append] at e1
                              have e2 := S.out.len
                              omega
                            clear hr hS c0
                            go_wp2
                            go_loopg [17, 19] n' (fun gg s17 s19 wq => ∃ (j m : Nat), j ≤ n' ∧ n' - j ≤ gg ∧ s19 = .int .i64 j ∧ s17 = .slice (some ⟨wC3.heap.size, 0, none⟩) m lg ∧ Aside (Own wC3.heap.size wq (some ⟨wC3.heap.size, 0, none⟩) m lg ((ps.take i).flatten ++ r.take j)) ∧ Aside (wC3.grownBy wq none))
                            case atStart => exact ⟨0, m, Nat.zero_le _, by omega, rfl, rfl, by rw [List.take_zero, List.append_nil]; exact O2.out, G3.out⟩
                            case round =>
                              clear O2 G3
                              obtain ⟨j, m, hj, hgj, rfl, rfl, O2, G3⟩ := hrel
                              have gw : w'.grownBy wr none := GWC.out.trans G3.out
                              have g0 : wr.cell? ⟨b, off + i, none⟩ = some (.slice a' n' c') := gw.cell C0.out (by simp)
                              by_cases hlj : j < n'
                              · have hljz : (j : Int) < (n' : Int) := by omega
                                obtain ⟨s, b', off', hs, rfl, _, d0⟩ := S.out.get hlj
                                have g1 : wr.cell? ⟨b', off' + j, none⟩ = some (.string s) := gw.cell d0 (by simp)
                                have hroom : m + 1 ≤ lg := by
                                  have e1 := O2.out.len
                                  have e2 := FTL.out
                                  rw [FT.out] at e2
                                  rw [List.length_append] at e1 e2
                                  have e3 : (r.take j).length = j := by rw [List.length_take]; have := S.out.len; omega
                                  have e4 := S.out.len
                                  omega
                                obtain ⟨w3, happ, O3, g3⟩ := append1 Try.underlying25 info9 O2.out hroom (.string s) rfl
                                have HAP : Aside _ := happ
                                have ON : Aside (Own wC3.heap.size w3 (some ⟨wC3.heap.size, 0, none⟩) (m + 1) lg ((ps.take i).flatten ++ r.take (j + 1))) := by
                                  show Own wC3.heap.size w3 (some ⟨wC3.heap.size, 0, none⟩) (m + 1) lg ((ps.take i).flatten ++ r.take (j + 1))
                                  rw [List.take_add_one, hs, ← List.append_assoc]
                                  unfold Own
                                  simpa using O3
                                have GN : Aside (wC3.grownBy w3 none) := G3.out.andThen g3 (fun q hq => .inl (by simp at hq; omega))
                                clear happ O3 g3 hs d0 gw
                                go_wp2_with (at_builtin; go_must (refine wpList_app rfl _ _ 25 rfl rfl _ _ _ _ rfl rfl HAP.out ?_))
                                go_roundg (n' - (j + 1))
                                case measure => omega
                                case rel => exact ⟨j + 1, m + 1, by omega, Nat.le_refl _, by go_num, rfl, ON.out, GN.out⟩
                              · have hinj : n' = j := by omega
                                subst hinj
                                have hljz : ¬ (n' : Int) < (n' : Int) := by omega
                                have ON : Aside (Own wC3.heap.size wr (some ⟨wC3.heap.size, 0, none⟩) m lg (ps.take (i + 1)).flatten) := by
                                  have e := O2.out
                                  rw [show r.take n' = r from List.take_of_length_le (by rw [← S.out.len]; exact Nat.le_refl _), ← FT.out] at e
                                  exact e
                                clear gw O2
                                go_wp2
                                go_roundg (np - (i + 1))
                                case measure => omega
                                case rel => exact ⟨i + 1, m, by omega, Nat.le_refl _, by go_num, rfl, ON.out, G3.out⟩
                          · have hinx : np = i := by omega
                            subst hinx
                            have hltz : ¬ (np : Int) < (np : Int) := by omega
                            have SF : Aside (Strs wr (some ⟨wC3.heap.size, 0, none⟩) m ps.flatten) := by
                              have e := O2.out.strs
                              rwa [show ps.take np = ps from List.take_of_length_le (by rw [← P.out.1.len]; exact Nat.le_refl _)] at e
                            have hm24 : m ≤ 1024 := by
                              have e1 := SF.out.len
                              have e2 := FL.out
                              omega
                            have SA4 : Aside (Strs wr aA nA (dd ps.flatten)) := SA3.out.on G3.out
                            have SB4 : Aside (Strs wr aB nB (dd qs.flatten)) := SB3.out.on G3.out
                            have SC4 : Aside (Strs wr aC nC (dd (ps ++ qs).flatten)) := SC.out.on G3.out
                            have GW : Aside (w'.grownBy wr none) := GWC.out.trans G3.out
                            obtain ⟨Wk, hWk⟩ : ∃ Wk, Wk = wr := ⟨_, rfl⟩
                            subst hWk
                            clear O2 G3 SA3 SB3 SC GWC P Q
                            go_wp2
                            go_loopg [20, 21, 22] nA (fun gg s20 s21 _ wq => ∃ (i : Nat) (pr : Int), i ≤ nA ∧ nA - i ≤ gg ∧ s21 = .int .i64 i ∧ s20 = .int .i64 pr ∧ Aside (PrevOk ps.flatten (dd ps.flatten) i pr) ∧ Wk = wq)
                            case atStart => exact ⟨0, -1, Nat.zero_le _, by omega, rfl, rfl, (show Aside _ from fun t k _ _ => by omega), rfl⟩
                            case round =>
                              obtain ⟨i, pr, hi, hgi, rfl, rfl, PV, rfl⟩ := hrel
                              by_cases hlt : i < nA
                              · have hltz : (i : Int) < (nA : Int) := by omega
                                obtain ⟨t, b, off, ht, rfl, _, c0⟩ := SA4.out.get hlt
                                have hI := zzIndex_any (some ⟨wC3.heap.size, 0, none⟩) m lg ps.flatten t (by omega) Wk SF.out
                                have T : Aside ((dd ps.flatten)[i]? = some t) := ht
                                clear ht
                                go_wp2_with fail
                                refine hI.mono ?_
                                rintro e w5 ⟨⟨r, rfl, hr⟩, hw5⟩
                                have hw5' := hw5.symm
                                subst hw5'
                                obtain ⟨k, hF, rfl⟩ : ∃ k : Nat, First ps.flatten t k ∧ r = k := by
                                  rcases hr with ⟨_, h⟩ | h
                                  · exact absurd ((mem_dd _ _).1 (List.mem_of_getElem? T.out)) h
                                  · exact h
                                have hnot : ¬ (k : Int) ≤ pr := by have := PV.out t k T.out hF; omega
                                have PN : Aside (PrevOk ps.flatten (dd ps.flatten) (i + 1) k) := fun t' k' h1 h2 => by
                                  have := dd_rise ps.flatten i (i + 1) t t' k k' (by omega) T.out h1 hF h2
                                  omega
                                clear hr hF hI hw5
                                go_wp2
                                go_roundg (nA - (i + 1))
                                case measure => omega
                                case rel => exact ⟨i + 1, k, by omega, Nat.le_refl _, by go_num, rfl, PN.out, rfl⟩
                              · have hinx : nA = i := by omega
                                subst hinx
                                have hltz : ¬ (nA : Int) < (nA : Int) := by omega
                                clear PV
                                go_wp2
                                go_loopg [23] m (fun gg s23 wq => ∃ i : Nat, i ≤ m ∧ m - i ≤ gg ∧ s23 = .int .i64 i ∧ Wk = wq)
                                case atStart => exact ⟨0, Nat.zero_le _, by omega, rfl, rfl⟩
                                case round =>
                                  obtain ⟨i, hi, hgi, rfl, rfl⟩ := hrel
                                  by_cases hlt : i < m
                                  · have hltz : (i : Int) < (m : Int) := by omega
                                    obtain ⟨t, b, off, ht, hbo, _, c0⟩ := SF.out.get hlt
                                    simp only [Option.some.injEq, Addr.mk.injEq, and_true] at hbo
                                    obtain ⟨rfl, rfl⟩ := hbo
                                    rw [Nat.zero_add] at c0
                                    have hI := zzIndex_any aA nA cA (dd ps.flatten) t (by omega) Wk SA4.out
                                    have T : Aside (t ∈ ps.flatten) := List.mem_of_getElem? ht
                                    clear ht
                                    go_wp2_with fail
                                    refine hI.mono ?_
                                    rintro e w5 ⟨⟨r, rfl, hr⟩, hw5⟩
                                    have hw5' := hw5.symm
                                    subst hw5'
                                    have hr0 : 0 ≤ r := by
                                      rcases hr with ⟨_, h⟩ | ⟨k, _, rfl⟩
                                      · exact absurd ((mem_dd _ _).2 T.out) h
                                      · omega
                                    clear hr hI hw5
                                    go_wp2
                                    go_roundg (m - (i + 1))
                                    case measure => omega
                                    case rel => exact ⟨i + 1, by omega, Nat.le_refl _, by go_num, rfl⟩
                                  · have hinx : m = i := by omega
                                    subst hinx
                                    have hltz : ¬ (m : Int) < (m : Int) := by omega
                                    obtain ⟨i9, k1, k2, k3, k4⟩ := info_of info9
                                    obtain ⟨wF2, hmkF, hownF, hgF⟩ := run_make_own (P := Try.prog) Wk Wk.heap.size 25 9 i9 _ 1 Try.underlying25 k1 k2 k3 .i64 .i64 (nA + nB) (by rw [k4]; omega) (by unfold maxLen; omega) (Nat.le_refl _)
                                    rw [Int.natCast_add] at hmkF
                                    have OF : Aside (Own Wk.heap.size wF2 (some ⟨Wk.heap.size, 0, none⟩) 0 (nA + nB) []) := hownF
                                    have GF : Aside (Wk.grownBy wF2 none) := hgF
                                    clear hownF hgF k1 k2 k3 k4 SF
                                    go_wp2
                                    go_loopg [24, 25] nA (fun gg s24 s25 wq => ∃ i : Nat, i ≤ nA ∧ nA - i ≤ gg ∧ s25 = .int .i64 i ∧ s24 = .slice (some ⟨Wk.heap.size, 0, none⟩) i (nA + nB) ∧ Aside (Own Wk.heap.size wq (some ⟨Wk.heap.size, 0, none⟩) i (nA + nB) ((dd ps.flatten).take i)) ∧ Aside (Wk.grownBy wq none))
                                    case atStart => exact ⟨0, Nat.zero_le _, by omega, rfl, rfl, by rw [List.take_zero]; exact OF.out, GF.out⟩
                                    case round =>
                                      clear hmkF OF GF
                                      obtain ⟨i, hi, hgi, rfl, rfl, O2, G3⟩ := hrel
                                      by_cases hlt : i < nA
                                      · have hltz : (i : Int) < (nA : Int) := by omega
                                        obtain ⟨s, b, off, hs, rfl, _, c0⟩ := SA4.out.get hlt
                                        have g0 : wr.cell? ⟨b, off + i, none⟩ = some (.string s) := G3.out.cell c0 (by simp)
                                        obtain ⟨w3, happ, O3, g3⟩ := append1 Try.underlying25 info9 O2.out (by omega) (.string s) rfl
                                        have HAP : Aside _ := happ
                                        have ON : Aside (Own Wk.heap.size w3 (some ⟨Wk.heap.size, 0, none⟩) (i + 1) (nA + nB) ((dd ps.flatten).take (i + 1))) := by
                                          show Own Wk.heap.size w3 (some ⟨Wk.heap.size, 0, none⟩) (i + 1) (nA + nB) ((dd ps.flatten).take (i + 1))
                                          rw [List.take_add_one, hs]
                                          unfold Own
                                          simpa using O3
                                        have GN : Aside (Wk.grownBy w3 none) := G3.out.andThen g3 (fun q hq => .inl (by simp at hq; omega))
                                        clear happ O3 g3 hs c0
                                        go_wp2_with (at_builtin; go_must (refine wpList_app rfl _ _ 25 rfl rfl _ _ _ _ rfl rfl HAP.out ?_))
                                        go_roundg (nA - (i + 1))
                                        case measure => omega
                                        case rel => exact ⟨i + 1, by omega, Nat.le_refl _, by go_num, rfl, ON.out, GN.out⟩
                                      · have hinx : nA = i := by omega
                                        subst hinx
                                        have hltz : ¬ (nA : Int) < (nA : Int) := by omega
                                        have OW : Aside (Own Wk.heap.size wr (some ⟨Wk.heap.size, 0, none⟩) nA (nA + nB) (dd ps.flatten)) := by
                                          have e := O2.out
                                          rwa [show (dd ps.flatten).take nA = dd ps.flatten from List.take_of_length_le (by rw [← SA4.out.len]; exact Nat.le_refl _)] at e
                                        clear O2
                                        go_wp2
                                        go_loopg [24, 26] nB (fun gg s24 s26 wq => ∃ (i m : Nat), i ≤ nB ∧ nB - i ≤ gg ∧ m ≤ nA + i ∧ s26 = .int .i64 i ∧ s24 = .slice (some ⟨Wk.heap.size, 0, none⟩) m (nA + nB) ∧ Aside (Own Wk.heap.size wq (some ⟨Wk.heap.size, 0, none⟩) m (nA + nB) (dd ps.flatten ++ minus ((dd qs.flatten).take i) (dd ps.flatten))) ∧ Aside (Wk.grownBy wq none))
                                        case atStart => exact ⟨0, nA, Nat.zero_le _, by omega, by omega, rfl, rfl, by rw [List.take_zero, show minus [] (dd ps.flatten) = [] from rfl, List.append_nil]; exact OW.out, G3.out⟩
                                        case round =>
                                          clear OW G3
                                          obtain ⟨i, m2, hi, hgi, hm2, rfl, rfl, O2, G3⟩ := hrel
                                          by_cases hlt : i < nB
                                          · have hltz : (i : Int) < (nB : Int) := by omega
                                            obtain ⟨s, b, off, hs, rfl, _, c0⟩ := SB4.out.get hlt
                                            have g0 : wr.cell? ⟨b, off + i, none⟩ = some (.string s) := G3.out.cell c0 (by simp)
                                            have hI := zzIndex_any aA nA cA (dd ps.flatten) s (by omega) wr (SA4.out.on G3.out)
                                            have MS : Aside (minus ((dd qs.flatten).take (i + 1)) (dd ps.flatten) = minus ((dd qs.flatten).take i) (dd ps.flatten) ++ if has (dd ps.flatten) s then [] else [s]) := by
                                              show minus ((dd qs.flatten).take (i + 1)) (dd ps.flatten) = _
                                              rw [List.take_add_one, hs]
                                              unfold minus
                                              rw [List.filter_append]
                                              by_cases h : has (dd ps.flatten) s = true <;> simp [h]
                                            obtain ⟨w3, happ, O3, g3⟩ := append1 Try.underlying25 info9 O2.out (by omega) (.string s) rfl
                                            have HAP : Aside _ := happ
                                            have O3' : Aside (Own Wk.heap.size w3 (some ⟨Wk.heap.size, 0, none⟩) (m2 + 1) (nA + nB) (dd ps.flatten ++ minus ((dd qs.flatten).take i) (dd ps.flatten) ++ [s])) := by
                                              show Own Wk.heap.size w3 (some ⟨Wk.heap.size, 0, none⟩) (m2 + 1) (nA + nB) _
                                              unfold Own
                                              simpa using O3
                                            have GN : Aside (Wk.grownBy w3 none) := G3.out.andThen g3 (fun q hq => .inl (by simp at hq; omega))
                                            clear happ O3 g3 hs c0
                                            go_wp2_with fail
                                            refine hI.mono ?_
                                            rintro e w5 ⟨⟨r, rfl, hr⟩, hw5⟩
                                            have hw5' := hw5.symm
                                            subst hw5'
                                            clear hI hw5
                                            by_cases hA : has (dd ps.flatten) s = true
                                            · have hr0 : 0 ≤ r := by
                                                rcases hr with ⟨_, h⟩ | ⟨k, _, rfl⟩
                                                · exact absurd ((has_iff _ _).1 hA) h
                                                · omega
                                              rw [if_pos hA, List.append_nil] at MS
                                              clear hr hA O3' GN HAP
                                              go_wp2
                                              go_roundg (nB - (i + 1))
                                              case measure => omega
                                              case rel => exact ⟨i + 1, m2, by omega, Nat.le_refl _, by omega, by go_num, rfl, by rw [MS.out]; exact O2.out, G3.out⟩
                                            · have hr0 : r = -1 := by
                                                rcases hr with ⟨h, _⟩ | ⟨k, h, _⟩
                                                · exact h
                                                · exact absurd ((has_iff _ _).2 (List.mem_of_getElem? h.1)) hA
                                              subst hr0
                                              rw [if_neg hA] at MS
                                              clear hr hA
                                              go_wp2_with (at_builtin; go_must (refine wpList_app rfl _ _ 25 rfl rfl _ _ _ _ rfl rfl HAP.out ?_))
                                              go_roundg (nB - (i + 1))
                                              case measure => omega
                                              case rel => exact ⟨i + 1, m2 + 1, by omega, Nat.le_refl _, by omega, by go_num, rfl, by rw [MS.out, ← List.append_assoc]; exact O3'.out, GN.out⟩
                                          · have hinx : nB = i := by omega
                                            subst hinx
                                            have hltz : ¬ (nB : Int) < (nB : Int) := by omega
                                            have SW : Aside (Strs wr (some ⟨Wk.heap.size, 0, none⟩) m2 (dd (ps ++ qs).flatten)) := by
                                              have e := O2.out.strs
                                              rw [show (dd qs.flatten).take nB = dd qs.flatten from List.take_of_length_le (by rw [← SB4.out.len]; exact Nat.le_refl _), ← dd_join, ← List.flatten_append] at e
                                              exact e
                                            have hCm : nC = m2 := by rw [SC4.out.len, SW.out.len]
                                            subst hCm
                                            have SC5 : Aside (Strs wr aC nC (dd (ps ++ qs).flatten)) := SC4.out.on G3.out
                                            have GE : Aside (w'.grownBy wr none) := GW.out.trans G3.out
                                            obtain ⟨We, hWe⟩ : ∃ We, We = wr := ⟨_, rfl⟩
                                            subst hWe
                                            clear O2 SC4 SB4 SA4 GW G3
                                            go_wp2
                                            go_loopg [27] nC (fun gg s27 wq => ∃ i : Nat, i ≤ nC ∧ nC - i ≤ gg ∧ s27 = .int .i64 i ∧ Aside (We.grownBy wq none))
                                            case atStart => exact ⟨0, Nat.zero_le _, by omega, rfl, World.grownBy.refl _ _⟩
                                            case round =>
                                              obtain ⟨i, hi, hgi, rfl, G4⟩ := hrel
                                              by_cases hlt : i < nC
                                              · have hltz : (i : Int) < (nC : Int) := by omega
                                                obtain ⟨s, b, off, hs, rfl, _, c0⟩ := (SC5.out.on G4.out).get hlt
                                                obtain ⟨s', b', off', hs', hbo, _, d0⟩ := (SW.out.on G4.out).get hlt
                                                simp only [Option.some.injEq, Addr.mk.injEq, and_true] at hbo
                                                obtain ⟨rfl, rfl⟩ := hbo
                                                rw [Nat.zero_add] at d0
                                                have hss : s = s' := by rw [hs] at hs'; simpa using hs'
                                                subst hss
                                                clear hs hs'
                                                go_wp2
                                                go_quiet (fail)
                                                go_wp2
                                                go_roundg (nC - (i + 1))
                                                case measure => omega
                                                case rel => exact ⟨i + 1, by omega, Nat.le_refl _, by go_num, gb_drewN G4.out _⟩
                                              · have hltz : ¬ (i : Int) < (nC : Int) := by omega
                                                go_wp2
                                                go_ret
                                                exact ⟨rfl, GE.out.trans G4.out⟩
            · by_cases hlt : i < nq
              · have hltz : (i : Int) < (nq : Int) := by omega
                clear I1
                go_wp2
                go_ret
                exact ⟨rfl, World.grownBy.refl _ _⟩
              · have hltz : ¬ (i : Int) < (nq : Int) := by omega
                clear I1
                go_wp2
                go_ret
                exact ⟨rfl, World.grownBy.refl _ _⟩
      · by_cases hlt : i < np
        · have hltz : (i : Int) < (np : Int) := by omega
          clear I1
          go_wp2
          go_loopg [5, 6, 9, 10] 0 (fun _ s5 _ s9 _ wr => s9 = .int .i64 0 ∧ s5 = .int .i64 z ∧ w' = wr)
          case atStart => exact ⟨rfl, rfl, rfl⟩
          case round =>
            obtain ⟨rfl, rfl, rfl⟩ := hrel
            by_cases h0 : 0 < nq
            · have h0z : (0 : Int) < (nq : Int) := by omega
              go_wp2
              go_ret
              exact ⟨rfl, World.grownBy.refl _ _⟩
            · obtain rfl : nq = 0 := by omega
              go_wp2
              go_ret
              exact ⟨rfl, World.grownBy.refl _ _⟩
        · have hltz : ¬ (i : Int) < (np : Int) := by omega
          clear I1
          go_wp2
          go_loopg [5, 6, 9, 10] 0 (fun _ s5 _ s9 _ wr => s9 = .int .i64 0 ∧ s5 = .int .i64 z ∧ w' = wr)
          case atStart => exact ⟨rfl, rfl, rfl⟩
          case round =>
            obtain ⟨rfl, rfl, rfl⟩ := hrel
            by_cases h0 : 0 < nq
            · have h0z : (0 : Int) < (nq : Int) := by omega
              go_wp2
              go_ret
              exact ⟨rfl, World.grownBy.refl _ _⟩
            · obtain rfl : nq = 0 := by omega
              go_wp2
              go_ret
              exact ⟨rfl, World.grownBy.refl _ _⟩
end Go.Proofs.Qxb6617126a
