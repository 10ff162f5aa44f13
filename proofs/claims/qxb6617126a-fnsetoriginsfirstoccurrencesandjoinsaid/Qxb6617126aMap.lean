import Derived.Test.Qxb6617126aBase
import Derived.Maps.Own
import Derived.Maps.OwnSet
import Derived.Maps.Views
namespace Go.Proofs.Qxb6617126a
open Go.RowKit Go.Maps Go.ChangeMaps Go.WideMaps

theorem law : Keyed Try.prog 9 := string_keyed Try.underlying9
theorem zero4 (w : World) : (zeroValue 4).run Try.prog w = .ok (.bool false) w := by kernel_rfl
theorem plainElem_bool_inv {P : Program} {e : TypeId} {H : Type} (he : P.underlying e = some .bool) {v : Value} {z : DataW H × List MemPlace} (h : plainElem P e v = some z) : ∃ x, v = .bool x ∧ z = (.lit (.bool x), []) := by
  unfold plainElem at h
  rw [he] at h
  cases v <;> simp at h
  exact ⟨_, rfl, h.symm⟩

/-- A map of strings to bools, told by what each key finds. -/
def MapIs (w : World) (ob : Option Nat) (n : Nat) (f : List UInt8 → Bool) : Prop :=
  (ob = none ∧ ∀ s, f s = false) ∨ ∃ b D, ob = some b ∧ w.ownsMap Try.prog 9 (plainElem (H := Unit) Try.prog 4) b n D ∧ Maps.IsMap D ∧ ∀ s, D.atKey (.string s) (.lit (.bool false)) = .lit (.bool (f s))

/-- One pair stored. -/
def upd (f : List UInt8 → Bool) (k : List UInt8) (v : Bool) : List UInt8 → Bool := fun s => if s = k then v else f s

theorem MapIs.kept {w w' : World} {ob : Option Nat} {n : Nat} {f : List UInt8 → Bool} {row : Option Nat} (h : MapIs w ob n f) (hg : w.grownBy w' row) (hne : ob = none ∨ ob ≠ row) : MapIs w' ob n f := by
  rcases h with h | ⟨b, D, rfl, h1, h2, h3⟩
  · exact .inl h
  · exact .inr ⟨b, D, rfl, h1.kept hg (by simpa using hne), h2, h3⟩
theorem MapIs.on {w w' : World} {ob : Option Nat} {n : Nat} {f : List UInt8 → Bool} (h : MapIs w ob n f) (hg : w.grownBy w' none) : MapIs w' ob n f := by
  cases ob with
  | none => exact h.kept hg (.inl rfl)
  | some b => exact h.kept hg (.inr (by simp))
theorem MapIs.mono {w : World} {ob : Option Nat} {n n' : Nat} {f : List UInt8 → Bool} (h : MapIs w ob n f) (hn : n ≤ n') : MapIs w ob n' f := by
  rcases h with h | ⟨b, D, rfl, h1, h2, h3⟩
  · exact .inl h
  · exact .inr ⟨b, D, rfl, h1.mono hn, h2, h3⟩
theorem MapIs.lt {w : World} {b n : Nat} {f : List UInt8 → Bool} (h : MapIs w (some b) n f) : b < w.heap.size := by
  rcases h with ⟨h, _⟩ | ⟨b', D, hb, h1, _⟩
  · simp at h
  · simp at hb; subst hb; exact h1.lt
theorem MapIs.made (w : World) : MapIs (w.alloc (.map #[] 0)) (some w.heap.size) 0 (fun _ => false) :=
  .inr ⟨_, _, rfl, World.ownsMap_made w _ _ _, Maps.isMap_empty, fun _ => rfl⟩
theorem MapIs.look {w : World} {ob : Option Nat} {n : Nat} {f : List UInt8 → Bool} (h : MapIs w ob n f) (s : ByteArray) (hs : s.size ≤ maxLen) :
    (Instr.lookup 34 (.map ob) (.string s) false).run Try.prog w = .ok (.bool (f s.data.toList)) w := by
  rcases h with ⟨rfl, h⟩ | ⟨b, D, rfl, h1, h2, h3⟩
  · rw [h]
    exact Maps.look_nil false law Try.underlying34 (zero4 w) (WideMaps.keyOf_string_mk Try.underlying9 hs)
  · obtain ⟨v, ps, hrun, hv⟩ := h1.lookup law Try.underlying34 (zero4 w) (plainElem_bool Try.underlying4 false) (WideMaps.keyOf_string_mk Try.underlying9 hs)
    obtain ⟨x, rfl, hx⟩ := plainElem_bool_inv Try.underlying4 hv
    rw [hrun]
    simp only [Prod.mk.injEq] at hx
    rw [h3] at hx
    simp at hx
    rw [hx.1]
theorem MapIs.store {w : World} {b n : Nat} {f : List UInt8 → Bool} (h : MapIs w (some b) n f) (hn : n < maxLen) (s : ByteArray) (hs : s.size ≤ maxLen) (v : Bool) :
    ∃ w', (Instr.mapUpdate 34 (.map (some b)) (.string s) (.bool v)).run Try.prog w = .ok () w' ∧ MapIs w' (some b) (n + 1) (upd f s.data.toList v) ∧ w.grownBy w' (some b) := by
  rcases h with ⟨h, _⟩ | ⟨b', D, hb, h1, h2, h3⟩
  · simp at h
  · simp at hb
    subst hb
    obtain ⟨w', hrun, ho, hg⟩ := h1.update law Try.underlying34 hn (WideMaps.keyOf_string_mk Try.underlying9 hs) (plainElem_bool Try.underlying4 v)
    refine ⟨w', hrun, .inr ⟨b, _, rfl, ho, h2.put _ _, fun t => ?_⟩, hg⟩
    unfold upd
    by_cases e : t = s.data.toList
    · subst e
      rw [if_pos rfl]
      exact Maps.atKey_put_same h2 (show WideAt.IsKeyLit (.string s.data.toList) from trivial) _ _
    · rw [if_neg e, Maps.atKey_put_other (fun h => e (by simpa using h))]
      exact h3 t
end Go.Proofs.Qxb6617126a
