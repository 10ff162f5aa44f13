import Derived.Test.Qxb6617126aPol
namespace Go.Proofs.Qxb6617126a
open Go.RowKit

set_option maxHeartbeats 400000 in
theorem policies_nil (n cap : Nat) (w : World) : Calls Try.prog 8 #[.slice none n cap] w fun e w' => e = .returned (.slice none 0 0) ∧ w' = w := by
  have q22 : ∀ (w : World) (a : Option Addr) (n c n' c' : Nat), (binOp .eql 22 (.slice a n c) (.slice none n' c')).run Try.prog w = .ok (.bool a.isNone) w := fun w a n c n' c' => Lib.run_eql_slice_nil w _ _ a n c n' c' Try.underlying22
  go_enter Try.func8, Try.ntmps8
  go_wp2
  go_ret
  exact ⟨rfl, rfl⟩

/-- What zzPolicies hands back. -/
def PolRet (w' : World) (n : Nat) (rs : List (List ByteArray)) (e : Ending) : Prop := ∃ a cap, e = .returned (.slice a n cap) ∧ Pols w' a n rs

set_option maxHeartbeats 4000000 in
set_option maxRecDepth 100000 in
theorem policies_row (x : Addr) (n cap : Nat) (rs : List (List ByteArray)) (w : World) (hn : n ≤ 8192) (hl : ∀ r ∈ rs, r.length ≤ 1048576) (hM : Mat w (some x) n rs) :
    Calls Try.prog 8 #[.slice (some x) n cap] w fun e w' => PolRet w' n rs e ∧ w.grownBy w' none := by
  have q22 : ∀ (w : World) (a : Option Addr) (n c n' c' : Nat), (binOp .eql 22 (.slice a n c) (.slice none n' c')).run Try.prog w = .ok (.bool a.isNone) w := fun w a n c n' c' => Lib.run_eql_slice_nil w _ _ a n c n' c' Try.underlying22
  obtain ⟨i0, k1, k2, k3, k4⟩ := info_of info45
  obtain ⟨w1, hmk, hown, hg1⟩ := run_make_own (P := Try.prog) w w.heap.size 28 45 i0 _ 1 Try.underlying28 k1 k2 k3 .i64 .i64 n (by rw [k4]; omega) (by unfold maxLen; omega) (Nat.le_refl _)
  have M : Aside (Mat w (some x) n rs) := hM
  have L : Aside (∀ r ∈ rs, r.length ≤ 1048576) := hl
  have O1 : Aside (w1.ownsRow w.heap.size 45 1 (.slice (some ⟨w.heap.size, 0, none⟩) 0 n) 0 []) := hown
  have G1 : Aside (w.grownBy w1 none) := hg1
  clear hM hl hown hg1 k1 k2 k3 k4
  go_enter Try.func8, Try.ntmps8
  go_wp2
  go_loopg [3, 4, 5, 6] n (fun gg s3 s4 _ _ wr => ∃ (i : Nat) (pvs : List Value), i ≤ n ∧ n - i ≤ gg ∧ s4 = .int .i64 i ∧ s3 = .slice (some ⟨w.heap.size, 0, none⟩) i n ∧ Aside (wr.ownsRow w.heap.size 45 1 (.slice (some ⟨w.heap.size, 0, none⟩) i n) i pvs) ∧ Aside (PtrsAt wr w.heap.size pvs (rs.take i)) ∧ Aside (w.grownBy wr none))
  case atStart => exact ⟨0, [], Nat.zero_le _, by omega, rfl, rfl, O1.out, ⟨by simp, fun j pv r h => by simp at h⟩, G1.out⟩
  case round =>
    obtain ⟨wo, hwo⟩ : ∃ wo, wo = wr := ⟨_, rfl⟩
    subst hwo
    obtain ⟨i, pvs, hi, hgg, rfl, rfl, O2, P2, G2⟩ := hrel
    by_cases hlt : i < n
    · have hltz : (i : Int) < (n : Int) := by omega
      obtain ⟨r, b, off, a', n', c', hr, hx, hb, c0, hS⟩ := M.out.get hlt
      simp only [Option.some.injEq] at hx
      subst hx
      have hn' : n' ≤ 1048576 := by rw [hS.len]; exact L.out r (List.mem_of_getElem? hr)
      obtain ⟨i1, k1, k2, k3, k4⟩ := info_of info44
      obtain ⟨w2, hmk2, hown2, hg2⟩ := run_make_full (P := Try.prog) wo wo.heap.size 41 44 i1 _ 3 Try.underlying41 k1 k2 k3 .i64 .i64 n' (by rw [k4]; omega) (by unfold maxLen; omega) (Nat.le_refl _)
      rw [made_logs] at hown2
      have R : Aside (rs[i]? = some r) := hr
      have S : Aside (Strs w a' n' r) := hS
      have O3 : Aside (w2.ownsRow wo.heap.size 44 3 (.slice (some ⟨wo.heap.size, 0, none⟩) n' n') n' (logCells (List.replicate n' ByteArray.empty))) := hown2
      have G3 : Aside (wo.grownBy w2 none) := hg2
      have g0 : wo.cell? ⟨b, off + i, none⟩ = some (.slice a' n' c') := G2.out.cell c0 (by simp)
      have C0 : Aside (w.cell? ⟨b, off + i, none⟩ = some (.slice a' n' c')) := c0
      clear hr hS hown2 hg2 c0 k1 k2 k3 k4 q22 hmk
      go_wp2
      go_loopg [6] n' (fun gg s6 wq => ∃ j : Nat, j ≤ n' ∧ n' - j ≤ gg ∧ s6 = .int .i64 j ∧ Aside (wq.ownsRow wo.heap.size 44 3 (.slice (some ⟨wo.heap.size, 0, none⟩) n' n') n' (logCells (laid r j))) ∧ Aside (w2.grownBy wq (some wo.heap.size)))
      case atStart => exact ⟨0, Nat.zero_le _, by omega, rfl, by rw [laid_zero, ← S.out.len]; exact O3.out, World.grownBy.refl _ _⟩
      case round =>
        clear g0 hmk2
        obtain ⟨j, hj, hgj, rfl, O4, G4⟩ := hrel
        have hbl : w.heap.size ≤ wo.heap.size := G2.out.size
        have g0 : wr.cell? ⟨b, off + i, none⟩ = some (.slice a' n' c') := G4.out.cell (G3.out.cell (G2.out.cell C0.out (by simp)) (by simp)) (by simp; omega)
        by_cases hlj : j < n'
        · have hljz : (j : Int) < (n' : Int) := by omega
          obtain ⟨s, b2, off2, hs, rfl, hb2, d0⟩ := S.out.get hlj
          have g1 : wr.cell? ⟨b2, off2 + j, none⟩ = some (.string s) := G4.out.cell (G3.out.cell (G2.out.cell d0 (by simp)) (by simp)) (by simp; omega)
          have hjr : j < r.length := by rw [← S.out.len]; exact hlj
          have e1 : wr.cell? ⟨wo.heap.size, j * 3 + 1, none⟩ = some (.string ByteArray.empty) := by
            rw [O4.out.cellAt (j * 3 + 1) (by omega)]; exact (logCells_get _ j _ (laid_get r j hjr)).2.1
          have f1 := O4.out.frozenAt (j * 3 + 1)
          have SS : Aside (r[j]? = some s) := hs
          clear hs d0
          go_wp2
          go_roundg (n' - (j + 1))
          case measure => omega
          case rel =>
            obtain ⟨o5, s5⟩ := O4.out.stored (j * 3 + 1) (.string s)
            rw [logCells_set, laid_succ r j s SS.out] at o5
            exact ⟨j + 1, by omega, Nat.le_refl _, by go_num, o5, G4.out.trans s5⟩
        · obtain rfl : j = n' := by omega
          have hljz : ¬ (j : Int) < (j : Int) := by omega
          have hlo := owns_lt O2.out
          have gwo : wo.grownBy wr none := G3.out.andThen G4.out (fun q hq => .inl (by simp at hq; omega))
          have gwb : wo.grownBy (wr.alloc (.cells #[.slice (some ⟨wo.heap.size, 0, none⟩) j j, .slice none 0 0, .slice none 0 0, .string ByteArray.empty] 49)) none := gb_alloc gwo _
          have ob := O2.out.kept gwb (.inr (by simp [Value.ownBlock]))
          obtain ⟨w3, happ, O5, g5⟩ := append1 Try.underlying28 info45 ob (by omega) (.pointer (some ⟨wr.heap.size, 0, none⟩)) rfl
          rw [World.size_alloc] at happ
          have hrz := gwo.size
          have hpol : PolAt w3 w.heap.size (.pointer (some ⟨wr.heap.size, 0, none⟩)) r := by
            have hz5 := g5.size
            rw [World.size_alloc] at hz5
            refine ⟨wr.heap.size, wo.heap.size, rfl, by omega, ?_, by omega, by omega, ?_, fun t s hs => ?_⟩
            · have := owns_lt O4.out; omega
            · rw [← S.out.len]
              exact g5.cell (by go_simp) (by simp; omega)
            · have ol := O4.out
              rw [S.out.len, laid_all, ← S.out.len] at ol
              have hts : t < r.length := (List.getElem?_eq_some_iff.1 hs).1
              rw [← S.out.len] at hts
              obtain ⟨l0, l1, l2⟩ := logCells_get r t s hs
              refine ⟨g5.cell (Lib.cell?_alloc_some _ ?_) (by simp; omega), g5.cell (Lib.cell?_alloc_some _ ?_) (by simp; omega), g5.cell (Lib.cell?_alloc_some _ ?_) (by simp; omega)⟩
              · rw [ol.cellAt (t * 3) (by omega)]; exact l0
              · rw [ol.cellAt (t * 3 + 1) (by omega)]; exact l1
              · rw [ol.cellAt (t * 3 + 2) (by omega)]; exact l2
          have PN : Aside (PtrsAt w3 w.heap.size (pvs ++ [.pointer (some ⟨wr.heap.size, 0, none⟩)]) (rs.take (i + 1))) := by
            have := (P2.out.on ((gwb.but _).trans g5)).snoc hpol
            rw [List.take_add_one, R.out]
            exact this
          have ON : Aside (w3.ownsRow w.heap.size 45 1 (.slice (some ⟨w.heap.size, 0, none⟩) (i + 1) n) (i + 1) (pvs ++ [.pointer (some ⟨wr.heap.size, 0, none⟩)])) := O5
          have GN : Aside (w.grownBy w3 none) := (G2.out.trans gwb).andThen g5 (fun q hq => .inl (by simp at hq; omega))
          have HAP : Aside _ := happ
          clear hpol O5 g5 ob gwb gwo hlo O4 G4 happ
          go_wp2_with (at_builtin; go_must (refine wpList_app rfl _ _ 28 rfl rfl _ _ _ _ rfl rfl HAP.out ?_))
          go_roundg (n - (i + 1))
          case measure => omega
          case rel => exact ⟨i + 1, _, by omega, Nat.le_refl _, by go_num, rfl, ON.out, PN.out, GN.out⟩
    · obtain rfl : i = n := by omega
      have hltz : ¬ (i : Int) < (i : Int) := by omega
      have HR : Aside (PolRet wo i rs (.returned (.slice (some ⟨w.heap.size, 0, none⟩) i i))) := by
        have hP := P2.out
        rw [List.take_of_length_le (by rw [← M.out.len]; exact Nat.le_refl _)] at hP
        refine ⟨_, _, rfl, M.out.len, fun j r hr => ?_⟩
        have hj : j < rs.length := (List.getElem?_eq_some_iff.1 hr).1
        have hpv : j < pvs.length := by rw [hP.1]; exact hj
        refine ⟨w.heap.size, pvs[j], rfl, (owns_lt O2.out).2.1, ?_, hP.2 j _ r (List.getElem?_eq_getElem hpv) hr⟩
        rw [O2.out.cellAt j (by rw [M.out.len]; omega)]
        exact List.getElem?_eq_getElem hpv
      clear q22 hmk
      go_wp2
      go_ret
      exact ⟨HR.out, G2.out⟩
end Go.Proofs.Qxb6617126a
