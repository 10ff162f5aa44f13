import Derived.Test.Qxb6616764aRows
import Derived.Test.Qxb6616764aForm
import Derived.ProofKit
import Derived.OpenShut
import Derived.ChangeOld
import Derived.Below
import Derived.Deep.SlicePairs
namespace Go.Proofs.Qxb6616764a
open Go.ChangeShapes Go.WideShapes Go.ChangeAt Go.RowKit Go.Deep

theorem own : ownKnob Try.prog.godebug = none := by kernel_rfl
theorem laidOut : laidOutB Try.prog = true := by kernel_rfl

/-- The terms that came in, opened. -/
theorem terms_of {H : Type} {enc : TypeId × Value → H} {W : World} {a : Option Addr} {len cap : Nat} {d : DataW H} {p : List MemPlace}
    (h : DataW.Trod enc Try.prog W 0 (fun _ => true) true 31 (.slice a len cap) d p) : ∃ ts, Terms W a len ts ∧ len ≤ 9223372036854775807 ∧ ∀ x ∈ ts, (Lit.int .i64 x.1).wf = true ∧ (Lit.int .i64 x.2).wf = true := by
  obtain ⟨fuel, hf⟩ := h
  rcases open_slice_pairs Try.underlying31 Try.underlying34 (by kernel_rfl) rfl rfl (by kernel_rfl) (by kernel_rfl) hf with ⟨hcs, _⟩ | ⟨x, len', cap', m, n, V0, V1, D0, D1, P0, P1, hcs, _, hl, hm, hmm, _, hx⟩
  · simp [Value.cells] at hcs
    obtain ⟨rfl, rfl, rfl⟩ := hcs
    exact ⟨[], ⟨rfl, fun _ => rfl, fun j x hx => by simp at hx⟩, by omega, fun x hx => by simp at hx⟩
  · simp [Value.cells] at hcs
    obtain ⟨rfl, rfl, rfl⟩ := hcs
    simp only [if_true] at hmm
    subst hmm
    have each : ∀ i, i < len → ∃ y : Int × Int, V0 i = .int .i64 y.1 ∧ V1 i = .int .i64 y.2 ∧ (Lit.int .i64 y.1).wf = true ∧ (Lit.int .i64 y.2).wf = true := by
      intro i hi
      obtain ⟨_, _, t0, t1⟩ := hx i (by omega)
      obtain ⟨y0, e0, _, wf0⟩ := DataW.trod_int Try.underlying3 t0
      obtain ⟨y1, e1, _, wf1⟩ := DataW.trod_int Try.underlying2 t1
      simp at e0 e1
      exact ⟨(y0, y1), e0, e1, wf0, wf1⟩
    obtain ⟨q, hq⟩ := choose_lt each
    refine ⟨(List.range len).map q, ⟨by simp, fun h => by simp at h, fun j y hy => ?_⟩, by unfold maxLen at hm; omega, ?_⟩
    · rw [List.getElem?_map] at hy
      by_cases hj : j < len
      · rw [List.getElem?_range hj] at hy
        simp at hy
        subst hy
        obtain ⟨c0, c1, _, _⟩ := hx j (by omega)
        obtain ⟨b, off, spot⟩ := x
        have hs : spot = none := by
          have c00 := (hx 0 (by omega)).1
          simpa [Addr.add] using World.cell?_spot c00
        subst hs
        rw [add_plain] at c0 c1
        rw [(hq j hj).1] at c0
        rw [(hq j hj).2.1] at c1
        refine ⟨b, off, rfl, ?_, c0, by rw [Nat.add_assoc]; exact c1⟩
        exact Nat.lt_of_not_le fun hge => by
          have : W.heap[b]? = none := Array.getElem?_eq_none hge
          simp [World.cell?, this] at c0
      · rw [List.getElem?_eq_none (by simp; omega)] at hy
        simp at hy
    · intro y hy
      obtain ⟨j, hj, rfl⟩ := List.mem_map.1 hy
      exact (hq j (List.mem_range.1 hj)).2.2
end Go.Proofs.Qxb6616764a
