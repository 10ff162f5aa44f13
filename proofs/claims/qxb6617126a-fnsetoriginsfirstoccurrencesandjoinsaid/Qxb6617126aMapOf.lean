import Derived.Test.Qxb6617126aMap
namespace Go.Proofs.Qxb6617126a
open Go.RowKit

/-- A slice of bools, told by its elements. -/
def Bls (w : World) (a : Option Addr) (n : Nat) (bs : List Bool) : Prop :=
  n = bs.length ∧ ∀ j s, bs[j]? = some s → ∃ b off, a = some ⟨b, off, none⟩ ∧ b < w.heap.size ∧ w.cell? ⟨b, off + j, none⟩ = some (.bool s)
theorem Bls.len {w : World} {a : Option Addr} {n : Nat} {ss : List Bool} (h : Bls w a n ss) : n = ss.length := h.1
theorem Bls.on {w w' : World} {a : Option Addr} {n : Nat} {ss : List Bool} (h : Bls w a n ss) (hg : w.grownBy w' none) : Bls w' a n ss :=
  ⟨h.1, fun j x hx => by
    obtain ⟨b, off, h1, h2, h3⟩ := h.2 j x hx
    exact ⟨b, off, h1, Nat.lt_of_lt_of_le h2 hg.size, hg.cell h3 (by simp)⟩⟩
theorem Bls.get {w : World} {a : Option Addr} {n : Nat} {ss : List Bool} (h : Bls w a n ss) {j : Nat} (hj : j < n) : ∃ s b off, ss[j]? = some s ∧ a = some ⟨b, off, none⟩ ∧ b < w.heap.size ∧ w.cell? ⟨b, off + j, none⟩ = some (.bool s) := by
  have hj' : j < ss.length := by rw [← h.1]; exact hj
  obtain ⟨b, off, h1⟩ := h.2 j ss[j] (List.getElem?_eq_getElem hj')
  exact ⟨_, b, off, List.getElem?_eq_getElem hj', h1⟩

/-- The map of the first i pairs. -/
def mapTo (ks : List ByteArray) (vs : List Bool) (i : Nat) : List UInt8 → Bool := ((ks.zip vs).take i).foldl (fun f p => upd f p.1.data.toList p.2) (fun _ => false)
theorem mapTo_zero (ks : List ByteArray) (vs : List Bool) : mapTo ks vs 0 = fun _ => false := by simp [mapTo]
theorem mapTo_succ (ks : List ByteArray) (vs : List Bool) (i : Nat) (s : ByteArray) (v : Bool) (hs : ks[i]? = some s) (hv : vs[i]? = some v) : mapTo ks vs (i + 1) = upd (mapTo ks vs i) s.data.toList v := by
  have h : (ks.zip vs)[i]? = some (s, v) := by rw [List.getElem?_zip_eq_some]; exact ⟨hs, hv⟩
  unfold mapTo
  rw [List.take_add_one, h]
  simp
theorem mapTo_full (ks : List ByteArray) (vs : List Bool) (i : Nat) (h : ¬ (i < ks.length ∧ i < vs.length)) : mapTo ks vs i = mapTo ks vs (ks.length + vs.length) := by
  unfold mapTo
  have hz : (ks.zip vs).length = min ks.length vs.length := List.length_zip
  rw [List.take_of_length_le (by omega), List.take_of_length_le (by omega)]

/-- What zzMapOf hands back. -/
def MapRow (w w' : World) (f : List UInt8 → Bool) (e : Ending) : Prop := e = .returned (.map (some w.heap.size)) ∧ MapIs w' (some w.heap.size) 4096 f

set_option maxHeartbeats 400000 in
theorem mapOf_nil (av : Option Addr) (nk ck nv cv : Nat) (w : World) :
    Calls Try.prog 12 #[.slice none nk ck, .slice av nv cv] w fun e w' => e = .returned (.map none) ∧ w' = w := by
  have q25 : ∀ (w : World) (a : Option Addr) (n c n' c' : Nat), (binOp .eql 25 (.slice a n c) (.slice none n' c')).run Try.prog w = .ok (.bool a.isNone) w := fun w a n c n' c' => Lib.run_eql_slice_nil w _ _ a n c n' c' Try.underlying25
  go_enter Try.func12, Try.ntmps12
  go_wp2
  go_ret
  exact ⟨rfl, rfl⟩

set_option maxHeartbeats 2000000 in
theorem mapOf_row (xk : Addr) (av : Option Addr) (nk ck nv cv : Nat) (ks : List ByteArray) (vs : List Bool) (w : World) (hnk : nk ≤ 4096) (hnv : nv ≤ 4096) (hsz : ∀ s ∈ ks, s.size ≤ maxLen) (hK : Strs w (some xk) nk ks) (hV : Bls w av nv vs) :
    Calls Try.prog 12 #[.slice (some xk) nk ck, .slice av nv cv] w fun e w' => MapRow w w' (mapTo ks vs (ks.length + vs.length)) e ∧ w.grownBy w' none := by
  have q25 : ∀ (w : World) (a : Option Addr) (n c n' c' : Nat), (binOp .eql 25 (.slice a n c) (.slice none n' c')).run Try.prog w = .ok (.bool a.isNone) w := fun w a n c n' c' => Lib.run_eql_slice_nil w _ _ a n c n' c' Try.underlying25
  have hmm := @run_makeMap Try.prog
  have K : Aside (Strs w (some xk) nk ks) := hK
  have V : Aside (Bls w av nv vs) := hV
  have Z : Aside (∀ s ∈ ks, s.size ≤ maxLen) := hsz
  clear hK hV hsz
  go_enter Try.func12, Try.ntmps12
  go_wp2
  go_loopg [6] nk (fun gg s6 wr => ∃ i : Nat, i ≤ nk ∧ i ≤ nv ∧ nk - i ≤ gg ∧ s6 = .int .i64 i ∧ Aside (MapIs wr (some w.heap.size) i (mapTo ks vs i)) ∧ Aside (w.grownBy wr none))
  case atStart => exact ⟨0, Nat.zero_le _, Nat.zero_le _, by omega, rfl, by rw [mapTo_zero]; exact MapIs.made w, World.grownBy_alloc _ _ _⟩
  case round =>
    obtain ⟨i, hik, hiv, hgg, rfl, M1, G1⟩ := hrel
    by_cases hlt : i < nk
    · have hltz : (i : Int) < (nk : Int) := by omega
      by_cases hlv : i < nv
      · have hlvz : (i : Int) < (nv : Int) := by omega
        obtain ⟨s, b, off, hs, hx, hb, c0⟩ := K.out.get hlt
        simp only [Option.some.injEq] at hx
        subst hx
        obtain ⟨v, b2, off2, hv, rfl, hb2, d0⟩ := V.out.get hlv
        have g0 : wr.cell? ⟨b, off + i, none⟩ = some (.string s) := G1.out.cell c0 (by simp)
        have g1 : wr.cell? ⟨b2, off2 + i, none⟩ = some (.bool v) := G1.out.cell d0 (by simp)
        have MD : MapIs wr.drew (some w.heap.size) i (mapTo ks vs i) := M1.out.on (gb_drew (World.grownBy.refl _ _))
        obtain ⟨w1, hup, M2, G2⟩ := MD.store (by unfold maxLen; omega) s (Z.out s (List.mem_of_getElem? hs)) v
        have S : Aside (mapTo ks vs (i + 1) = upd (mapTo ks vs i) s.data.toList v) := mapTo_succ ks vs i s v hs hv
        have M2' : Aside (MapIs w1 (some w.heap.size) (i + 1) (upd (mapTo ks vs i) s.data.toList v)) := M2
        have G2' : Aside (wr.drew.grownBy w1 (some w.heap.size)) := G2
        clear hs hv c0 d0 MD M2 G2 q25 hmm
        go_wp2_with fail
        go_region
        all_goals
          go_wp2
          go_roundg (nk - (i + 1))
          case measure => omega
          case rel =>
            refine ⟨i + 1, by omega, by omega, Nat.le_refl _, by go_num, by rw [S.out]; exact M2'.out, ?_⟩
            exact (gb_drew G1.out).andThen G2'.out (fun j hj => by simp at hj; subst hj; exact .inl (Nat.le_refl _))
      · have hlvz : ¬ (i : Int) < (nv : Int) := by omega
        have HR : Aside (MapRow w wr (mapTo ks vs (ks.length + vs.length)) (.returned (.map (some w.heap.size)))) := by
          refine ⟨rfl, ?_⟩
          rw [← mapTo_full ks vs i (by rw [← K.out.len, ← V.out.len]; omega)]
          exact M1.out.mono (by omega)
        clear q25 hmm
        go_wp2
        go_ret
        exact ⟨HR.out, G1.out⟩
    · have hltz : ¬ (i : Int) < (nk : Int) := by omega
      have HR : Aside (MapRow w wr (mapTo ks vs (ks.length + vs.length)) (.returned (.map (some w.heap.size)))) := by
        refine ⟨rfl, ?_⟩
        rw [← mapTo_full ks vs i (by rw [← K.out.len, ← V.out.len]; omega)]
        exact M1.out.mono (by omega)
      clear q25 hmm
      go_wp2
      go_ret
      exact ⟨HR.out, G1.out⟩
end Go.Proofs.Qxb6617126a
