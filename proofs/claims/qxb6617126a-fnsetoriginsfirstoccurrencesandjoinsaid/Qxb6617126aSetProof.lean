import Derived.Test.Qxb6617126aOpen
import Derived.Test.Qxb6617126aSetB
import Derived.Deep.Slices
namespace Go.Proofs.Qxb6617126a.fnSet
open Go.ChangeShapes Go.WideShapes Go.ChangeAt Go.RowKit Go.Deep

/-- One row, opened. -/
theorem row_of {H : Type} {enc : TypeId × Value → H} {W : World} {n : Nat} {v : Value} {d : DataW H} {p : List MemPlace}
    (h : DataW.trod enc Try.prog W 0 (fun _ => true) true n 25 [v] = some (d, p)) : ∃ y : Option Addr × Nat × Nat × List ByteArray, v = .slice y.1 y.2.1 y.2.2.1 ∧ Strs W y.1 y.2.1 y.2.2.2 ∧ (∀ s ∈ y.2.2.2, s.size ≤ 9223372036854775807) ∧ y.2.1 ≤ 9223372036854775807 := by
  obtain ⟨a, l, c, rfl⟩ : ∃ a l c, v = .slice a l c := by
    rcases open_strings Try.underlying25 Try.underlying9 (by kernel_rfl) h with ⟨hcs, _⟩ | ⟨x, l, c, ss, hcs, _⟩
    · exact ⟨none, 0, 0, by simpa using hcs⟩
    · exact ⟨some x, l, c, by simpa using hcs⟩
  obtain ⟨ss, h1, h2, h3, h4⟩ := strs_of (enc := enc) (W := W) (a := a) (len := l) (cap := c) (d := d) (p := p) ⟨n, by simpa [Value.cells] using h⟩
  exact ⟨(a, l, c, ss), rfl, h1, fun s hs => by have := h2 s hs; unfold maxLen at this; omega, by show l ≤ _; omega⟩

/-- A slice of slices of strings that came in, opened. -/
theorem mat_of {H : Type} {enc : TypeId × Value → H} {W : World} {a : Option Addr} {len cap : Nat} {d : DataW H} {p : List MemPlace}
    (h : DataW.Trod enc Try.prog W 0 (fun _ => true) true 22 (.slice a len cap) d p) : ∃ rs, Mat W a len rs ∧ MatOk rs ∧ (∀ r ∈ rs, ∀ s ∈ r, s.size ≤ 9223372036854775807) ∧ len ≤ 9223372036854775807 := by
  obtain ⟨fuel, hf⟩ := h
  rcases open_slice1 Try.underlying22 (by kernel_rfl) hf with ⟨hcs, _⟩ | ⟨x, l, c, m, n, V, D, Pl, hcs, _, hl, hm, hmm, _, hx⟩
  · simp [Value.cells] at hcs
    obtain ⟨rfl, rfl, rfl⟩ := hcs
    exact ⟨[], ⟨rfl, fun _ => rfl, fun j r hr => by simp at hr⟩, fun r hr => by simp at hr, fun r hr => by simp at hr, by omega⟩
  · simp [Value.cells] at hcs
    obtain ⟨rfl, rfl, rfl⟩ := hcs
    simp only [if_true] at hmm
    subst hmm
    have each : ∀ i, i < len → ∃ y : Option Addr × Nat × Nat × List ByteArray, V i = .slice y.1 y.2.1 y.2.2.1 ∧ Strs W y.1 y.2.1 y.2.2.2 ∧ (∀ s ∈ y.2.2.2, s.size ≤ 9223372036854775807) ∧ y.2.1 ≤ 9223372036854775807 := fun i hi => row_of (hx i (by omega)).2
    obtain ⟨q, hq⟩ := choose_lt each
    refine ⟨(List.range len).map fun i => (q i).2.2.2, ⟨by simp, fun e => by simp at e, fun j r hr => ?_⟩, fun r hr => ?_, fun r hr => ?_, by unfold maxLen at hm; omega⟩
    · rw [List.getElem?_map] at hr
      by_cases hj : j < len
      · rw [List.getElem?_range hj] at hr
        simp at hr
        subst hr
        obtain ⟨c0, _⟩ := hx j (by omega)
        obtain ⟨b, off, spot⟩ := x
        have hs : spot = none := by
          have c00 := (hx 0 (by omega)).1
          simpa [Addr.add] using World.cell?_spot c00
        subst hs
        rw [add_plain, (hq j hj).1] at c0
        exact ⟨b, off, _, _, _, rfl, lt_of_cell c0, c0, (hq j hj).2.1⟩
      · rw [List.getElem?_eq_none (by simp; omega)] at hr
        simp at hr
    · obtain ⟨j, hj, rfl⟩ := List.mem_map.1 hr
      have h1 := hq j (List.mem_range.1 hj)
      rw [← h1.2.1.len]; exact h1.2.2.2
    · obtain ⟨j, hj, rfl⟩ := List.mem_map.1 hr
      exact (hq j (List.mem_range.1 hj)).2.2.1

set_option maxRecDepth 100000 in
theorem lifted (os : Os) (started : os.Started) (H : Type) (enc : TypeId × Value → H) :
    ReturnsInHanded {} Try.checked os 3 .any (Rows.fnSetOriginsFirstOccurrencesAndJoinSpec.pre6 enc Try.prog Try.f3 Rows.fnSetOriginsFirstOccurrencesAndJoinRow.domain false) (Rows.fnSetOriginsFirstOccurrencesAndJoinSpec.post enc Try.prog Try.f3 false true false false) := by
  refine returnsInHanded_of_change (C := Try.checked) own started (by kernel_rfl) Try.func3
    (ChangeSpec.witness6 (enc := enc) (C := Try.checked) false ⟨#[], #[.slice none 0 0, .slice none 0 0], []⟩ 8 (by kernel_rfl) (by kernel_rfl) (by kernel_rfl) (by kernel_rfl)) ?_
  intro W base args ds gs before hval0 hW _ _
  have hval : ∀ (j : Nat) t v, Try.f3.params[j]? = some t → args[j]? = some v → Value.okWide Try.prog W .any base t v := hval0
  have hW' := hW
  obtain ⟨p, q, hA0, hV, rfl, hfz, hnd⟩ := hW
  have hA : DataW.TrodAll enc Try.prog W 0 (fun _ => true) true Try.f3.params.toList args.toList ds p := hA0
  rw [Try.params3] at hA hval
  obtain ⟨v0, vs0, d0, ds0, p0, q0, hargs, rfl, rfl, h0, r0⟩ := trodAll_cons hA
  obtain ⟨v1, vs1, d1, ds1, p1, q1, rfl, rfl, rfl, h1, r1⟩ := trodAll_cons r0
  obtain ⟨rfl, rfl, rfl⟩ := trodAll_nil r1
  obtain rfl : args = #[v0, v1] := by cases args; simp_all
  obtain ⟨rfl, rfl⟩ := trodVars_none hV
  obtain ⟨a0, len0, cap0, rfl⟩ := okWide_slice Try.underlying22 (hval 0 22 v0 rfl rfl)
  obtain ⟨a1, len1, cap1, rfl⟩ := okWide_slice Try.underlying22 (hval 1 22 v1 rfl rfl)
  have lt0 : ∀ x ∈ p0, x.block < W.heap.size := by obtain ⟨m, hm⟩ := h0; exact DataW.trod_lt m _ _ _ hm
  have lt1 : ∀ x ∈ p1, x.block < W.heap.size := by obtain ⟨m, hm⟩ := h1; exact DataW.trod_lt m _ _ _ hm
  obtain ⟨ps, hP, okP, szP, lP⟩ := mat_of h0
  obtain ⟨qs, hQ, okQ, szQ, lQ⟩ := mat_of h1
  clear hA0 hval0
  refine (set_walk a0 a1 len0 cap0 len1 cap1 ps qs W lP lQ okP okQ szP szQ hP hQ).mono fun e W' ⟨he, hg⟩ => ?_
  have bel := gb_below hg
  subst he
  exact ⟨_, rfl, _, _, _, [], _, [], hW', trodAll_mk1 (shut_bool Try.underlying4 _),
    (trodAll_cons_mk (Below.trod laidOut (by kernel_rfl) (of_decide_eq_true (by kernel_rfl)) h0 bel lt0) (trodAll_cons_mk (Below.trod laidOut (by kernel_rfl) (of_decide_eq_true (by kernel_rfl)) h1 bel lt1) trodAll_mk0)), rfl, bel.frame _, fun h => by cases h⟩

theorem over : Rows.fnSetOriginsFirstOccurrencesAndJoinRow.holds Try.pinned (OpenSpec.ofChange Rows.fnSetOriginsFirstOccurrencesAndJoinSpec) :=
  OpenClaim.holds_of_wide 3 Try.f3 rfl rfl rfl rfl rfl rfl rfl ⟨rfl, rfl, rfl, rfl, rfl⟩ rfl rfl rfl rfl rfl (by kernel_rfl) Try.func3 (by kernel_rfl)
    (of_decide_eq_true (by kernel_rfl)) (by unfold Func.isWrapper; first | (rw [if_pos (by decide +kernel)]; kernel_rfl) | (rw [if_neg (by decide +kernel)]; exact ⟨rfl, rfl⟩))
    (fun os started H enc _ => lifted os started H enc)
end Go.Proofs.Qxb6617126a.fnSet
namespace Go.Proofs.Qxb6617126a
theorem fnSet_proved : Rows.FnSetOriginsFirstOccurrencesAndJoinSaid := fnSet.over
end Go.Proofs.Qxb6617126a
