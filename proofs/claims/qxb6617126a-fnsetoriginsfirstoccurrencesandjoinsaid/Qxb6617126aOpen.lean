import Derived.Test.Qxb6617126aRows
import Derived.Test.Qxb6617126aMapOf
import Derived.ProofKit
import Derived.OpenShut
import Derived.ShutString
import Derived.ChangeOld
import Derived.Below
import Derived.SliceStrings
import Derived.Deep.Grids
namespace Go.Proofs.Qxb6617126a
open Go.ChangeShapes Go.WideShapes Go.ChangeAt Go.RowKit Go.Deep

theorem own : ownKnob Try.prog.godebug = none := by kernel_rfl
theorem laidOut : laidOutB Try.prog = true := by kernel_rfl

theorem lt_of_cell {W : World} {b o : Nat} {v : Value} (h : W.cell? ⟨b, o, none⟩ = some v) : b < W.heap.size :=
  Nat.lt_of_not_le fun hge => by
    have : W.heap[b]? = none := Array.getElem?_eq_none hge
    simp [World.cell?, this] at h

/-- A slice of strings that came in, opened. -/
theorem strs_of {H : Type} {enc : TypeId × Value → H} {W : World} {a : Option Addr} {len cap : Nat} {d : DataW H} {p : List MemPlace}
    (h : DataW.Trod enc Try.prog W 0 (fun _ => true) true 25 (.slice a len cap) d p) : ∃ ss, Strs W a len ss ∧ (∀ s ∈ ss, s.size ≤ maxLen) ∧ len ≤ cap ∧ cap ≤ 9223372036854775807 := by
  obtain ⟨fuel, hf⟩ := h
  rcases open_strings Try.underlying25 Try.underlying9 (by kernel_rfl) hf with ⟨hcs, _⟩ | ⟨x, l, c, ss, hcs, _, hl, hm, hz, _, hcell, hws⟩
  · simp [Value.cells] at hcs
    obtain ⟨rfl, rfl, rfl⟩ := hcs
    exact ⟨[], ⟨rfl, fun j s hs => by simp at hs⟩, fun s hs => by simp at hs, Nat.le_refl _, by omega⟩
  · simp [Value.cells] at hcs
    obtain ⟨rfl, rfl, rfl⟩ := hcs
    simp only [if_true] at hz
    refine ⟨ss.take len, ⟨by rw [List.length_take]; omega, fun j s hs => ?_⟩, fun s hs => hws s (List.mem_of_mem_take hs), hl, by unfold maxLen at hm; omega⟩
    rw [List.getElem?_take] at hs
    split at hs
    case isFalse => simp at hs
    case isTrue hj =>
      have hj' : j < ss.length := by omega
      have c0 := hcell j hj'
      rw [List.getD_eq_getElem?_getD, hs] at c0
      obtain ⟨b, off, spot⟩ := x
      have hsp : spot = none := by
        have c00 := hcell 0 (by omega)
        simpa [Addr.add] using World.cell?_spot c00
      subst hsp
      rw [add_plain] at c0
      exact ⟨b, off, rfl, lt_of_cell c0, c0⟩

/-- A slice of bools that came in, opened. -/
theorem bls_of {H : Type} {enc : TypeId × Value → H} {W : World} {a : Option Addr} {len cap : Nat} {d : DataW H} {p : List MemPlace}
    (h : DataW.Trod enc Try.prog W 0 (fun _ => true) true 32 (.slice a len cap) d p) : ∃ ss, Bls W a len ss := by
  obtain ⟨fuel, hf⟩ := h
  rcases open_bools Try.underlying32 Try.underlying4 (by kernel_rfl) hf with ⟨hcs, _⟩ | ⟨x, l, c, B, hcs, _, hl, hm, _, hcell⟩
  · simp [Value.cells] at hcs
    obtain ⟨rfl, rfl, rfl⟩ := hcs
    exact ⟨[], rfl, fun j s hs => by simp at hs⟩
  · simp [Value.cells] at hcs
    obtain ⟨rfl, rfl, rfl⟩ := hcs
    refine ⟨(List.range len).map B, by simp, fun j s hs => ?_⟩
    rw [List.getElem?_map] at hs
    by_cases hj : j < len
    · rw [List.getElem?_range hj] at hs
      simp at hs
      subst hs
      have c0 := hcell j (by omega)
      obtain ⟨b, off, spot⟩ := x
      have hsp : spot = none := by
        have c00 := hcell 0 (by omega)
        simpa [Addr.add] using World.cell?_spot c00
      subst hsp
      rw [add_plain] at c0
      exact ⟨b, off, rfl, lt_of_cell c0, c0⟩
    · rw [List.getElem?_eq_none (by simp; omega)] at hs
      simp at hs
end Go.Proofs.Qxb6617126a
