import Derived.Test.Qxb6617126aProg
import Derived.WalkKit
import Derived.WalkSpells
import Derived.WalkLawsBesides
import Derived.Deep.LoopGhost
import Derived.Deep.Heap
import Derived.Deep.AppendLies
import Derived.Lib.SliceRun
import Derived.Lib.Strings
import Derived.Maps.RangeWalk
import Derived.Deep.QuietTactic
import Derived.BigQuiet
import Derived.RegionTactic
namespace Go.Proofs.Qxb6617126a
open Go.RowKit

theorem ret_bool {a b : Bool} (h : a = b) : Ending.returned (.bool a) = .returned (.bool b) := by rw [h]
theorem ret_int {k : IntKind} {a b : Int} (h : a = b) : Ending.returned (.int k a) = .returned (.int k b) := by rw [h]

theorem gb_alloc {a w : World} {r : Option Nat} (h : a.grownBy w r) (o : Obj) : a.grownBy (w.alloc o) r := h.trans (World.grownBy_alloc w o r)
theorem gb_drew {a w : World} {r : Option Nat} (h : a.grownBy w r) : a.grownBy w.drew r := ⟨h.os, h.tape, h.output, h.size, h.block⟩
theorem gb_drewN {a w : World} {r : Option Nat} (h : a.grownBy w r) (n : Nat) : a.grownBy (w.drewN n) r := ⟨h.os, h.tape, h.output, h.size, h.block⟩
theorem gb_set {a w : World} (h : a.grownBy w none) (p : Addr) (hp : a.heap.size ≤ p.block) (u : Value) : a.grownBy (w.setCell p u) none :=
  ⟨h.os, h.tape, h.output, by simpa [World.setCell] using h.size, fun k hk hn => by rw [Deep.blk_setCell_other _ _ _ _ (by omega)]; exact h.block k hk hn⟩
theorem gset (w : World) (b i : Nat) (v : Value) : w.grownBy (w.setCell ⟨b, i, none⟩ v) (some b) :=
  ⟨rfl, rfl, rfl, by simp [World.setCell], fun k _ hk => Deep.blk_setCell_other _ _ _ _ (fun e => hk (by simp [e]))⟩
theorem gb_below {a w : World} (h : a.grownBy w none) : Below a.heap.size a w := ⟨h.os, h.tape, h.output, h.size, fun k hk => h.block k hk (by simp)⟩

/-- A slice of strings, told by its elements. -/
def Strs (w : World) (a : Option Addr) (n : Nat) (ss : List ByteArray) : Prop :=
  n = ss.length ∧ ∀ j s, ss[j]? = some s → ∃ b off, a = some ⟨b, off, none⟩ ∧ b < w.heap.size ∧ w.cell? ⟨b, off + j, none⟩ = some (.string s)
theorem Strs.len {w : World} {a : Option Addr} {n : Nat} {ss : List ByteArray} (h : Strs w a n ss) : n = ss.length := h.1
theorem Strs.on {w w' : World} {a : Option Addr} {n : Nat} {ss : List ByteArray} (h : Strs w a n ss) (hg : w.grownBy w' none) : Strs w' a n ss :=
  ⟨h.1, fun j x hx => by
    obtain ⟨b, off, h1, h2, h3⟩ := h.2 j x hx
    exact ⟨b, off, h1, Nat.lt_of_lt_of_le h2 hg.size, hg.cell h3 (by simp)⟩⟩
theorem Strs.get {w : World} {a : Option Addr} {n : Nat} {ss : List ByteArray} (h : Strs w a n ss) {j : Nat} (hj : j < n) : ∃ s b off, ss[j]? = some s ∧ a = some ⟨b, off, none⟩ ∧ b < w.heap.size ∧ w.cell? ⟨b, off + j, none⟩ = some (.string s) := by
  have hj' : j < ss.length := by rw [← h.1]; exact hj
  obtain ⟨b, off, h1⟩ := h.2 j ss[j] (List.getElem?_eq_getElem hj')
  exact ⟨_, b, off, List.getElem?_eq_getElem hj', h1⟩

/-- An int comes back. -/
def IntRet (e : Ending) : Prop := ∃ r, e = .returned (.int .i64 r)
/-- A bool comes back. -/
def BoolRet (e : Ending) : Prop := ∃ r, e = .returned (.bool r)

set_option maxHeartbeats 400000 in
theorem addBytes (t n : Int) (w : World) : Calls Try.prog 6 #[.int .i64 t, .int .i64 n] w fun e w' => IntRet e ∧ w' = w := by
  go_enter Try.func6, Try.ntmps6
  go_wp2
  all_goals (go_ret; exact ⟨⟨_, rfl⟩, rfl⟩)
end Go.Proofs.Qxb6617126a
