import Derived.Test.Qxb6617126aZz5
namespace Go.Proofs.Qxb6617126a
open Go.RowKit

theorem info44 : (Try.prog.info? 44).map (fun i => (i.zero, i.size, i.bytes)) = some (some (.agg #[.pointer none, .string ByteArray.empty, .string ByteArray.empty]), 3, 40) := by kernel_rfl
theorem info45 : (Try.prog.info? 45).map (fun i => (i.zero, i.size, i.bytes)) = some (some (.pointer none), 1, 8) := by kernel_rfl
theorem info9 : (Try.prog.info? 9).map (fun i => (i.zero, i.size, i.bytes)) = some (some (.string ByteArray.empty), 1, 16) := by kernel_rfl
theorem info25 : (Try.prog.info? 25).map (fun i => (i.zero, i.size, i.bytes)) = some (some (.slice none 0 0), 1, 24) := by kernel_rfl
theorem info_of {t : TypeId} {z : Value} {n m : Nat} (h : (Try.prog.info? t).map (fun i => (i.zero, i.size, i.bytes)) = some (some z, n, m)) : ∃ i0, Try.prog.info? t = some i0 ∧ i0.zero = some z ∧ i0.size = n ∧ i0.bytes = m := by
  cases h' : Try.prog.info? t with
  | none => rw [h'] at h; simp at h
  | some i => rw [h'] at h; simp at h; exact ⟨i, rfl, h⟩

section
variable {w : World} {base g n cap : Nat} {e : TypeId} {size : Nat} {xs : List Value}
theorem owns_lt (h : w.ownsRow base e size (.slice (some ⟨g, 0, none⟩) n cap) n xs) : base ≤ g ∧ g < w.heap.size ∧ n ≤ cap ∧ cap ≤ maxLen := by
  have := h.lt g (by rfl)
  rcases h.2 with ⟨h', _⟩ | ⟨g', cap', cur, h', hb, hg, hnc, hcm, hcs, htake⟩
  · simp at h'
  · simp only [Value.slice.injEq, Option.some.injEq, Addr.mk.injEq, and_true, true_and] at h'
    obtain ⟨rfl, rfl⟩ := h'
    exact ⟨this.1, this.2, hnc, hcm⟩
theorem owns_mono {base' : Nat} {v : Value} (h : w.ownsRow base e size v n xs) (hb : base' ≤ base) : w.ownsRow base' e size v n xs := by
  refine ⟨h.1, ?_⟩
  rcases h.2 with h2 | ⟨g, cap, cur, hv, hg, r⟩
  · exact .inl h2
  · exact .inr ⟨g, cap, cur, hv, Nat.le_trans hb hg, r⟩
end

/-- 'append(s, x)' where there is room, the one element in a block of its own. -/
theorem append1 {t e : TypeId} {z : Value} {bytes : Nat} (ht : Try.prog.underlying t = some (.slice e)) (hi : (Try.prog.info? e).map (fun i => (i.zero, i.size, i.bytes)) = some (some z, 1, bytes))
    {w : World} {base g n cap : Nat} {xs : List Value} (h : w.ownsRow base e 1 (.slice (some ⟨g, 0, none⟩) n cap) n xs) (hroom : n + 1 ≤ cap) (v : Value) (hv : v.oneCell' = true) :
    ∃ w', (Builtin.append_ #[t, t] t #[.slice (some ⟨g, 0, none⟩) n cap, .slice (some ⟨w.heap.size, 0, none⟩) 1 1]).run Try.prog (w.alloc (.cells #[v] e)) = .ok (.slice (some ⟨g, 0, none⟩) (n + 1) cap) w' ∧
      w'.ownsRow base e 1 (.slice (some ⟨g, 0, none⟩) (n + 1) cap) (n + 1) (xs ++ [v]) ∧ w.grownBy w' (some g) := by
  obtain ⟨i0, h1, _, h3, _⟩ := info_of hi
  obtain ⟨w', hr, ho, hg⟩ := run_append_fits (P := Try.prog) (w.alloc (.cells #[v] e)) base t t e i0 1 ht h1 h3 g n cap xs (h.alloc _) ⟨w.heap.size, 0, none⟩ 1 1 [v] rfl (cell_one_new _ _ _) (by intro u hu; simp at hu; subst hu; exact hv) hroom
  exact ⟨w', hr, ho, (World.grownBy_alloc w _ (some g)).trans hg⟩
/-- .. where it may grow. -/
theorem appendAny {t e : TypeId} {z : Value} {bytes : Nat} (ht : Try.prog.underlying t = some (.slice e)) (hi : (Try.prog.info? e).map (fun i => (i.zero, i.size, i.bytes)) = some (some z, 1, bytes)) (hz : z.cells.size = 1)
    {w : World} {base n : Nat} {v0 : Value} {xs : List Value} (h : w.ownsRow base e 1 v0 n xs) (hb : base ≤ w.heap.size) (hn : n + 1 ≤ maxLen) (hby : (n + 1) * bytes ≤ 140737488355328) (v : Value) (hv : v.oneCell' = true) :
    ∃ v' w', (Builtin.append_ #[t, t] t #[v0, .slice (some ⟨w.heap.size, 0, none⟩) 1 1]).run Try.prog (w.alloc (.cells #[v] e)) = .ok v' w' ∧
      w'.ownsRow base e 1 v' (n + 1) (xs ++ [v]) ∧ w.grownBy w' v0.ownBlock := by
  obtain ⟨i0, h1, h2, h3, h4⟩ := info_of hi
  obtain ⟨v', w', hr, ho, hg, _⟩ := run_append_own (P := Try.prog) (w.alloc (.cells #[v] e)) base t t e i0 z 1 bytes ht h1 h2 h3 h4 hz (by omega) v0 n xs (h.alloc _) ⟨w.heap.size, 0, none⟩ 1 1 [v] rfl (cell_one_new _ _ _) (by intro u hu; simp at hu; subst hu; exact hv) hn hby (by simp; omega)
  exact ⟨v', w', hr, ho, (World.grownBy_alloc w _ v0.ownBlock).trans hg⟩

/-- An append whose run is known, at the operation. -/
theorem wpList_app {P : Program} {w : World} {ops : Array Oper} {rest : List Oper} {o : Oper} {a : Act} {Q : Exit → Act → World → Prop} (hg : o.guard = none) (s x : Operand) (t : TypeId)
    (hop : o.op = Op.call { callee := Callee.builtin Builtin.append, args := #[s, x], argTypes := #[t, t] }) (hty : o.type = t) (v0 v1 v' : Value) (w' : World) (hs : a.eval s = v0) (hx : a.eval x = v1)
    (hrun : (Builtin.append_ #[t, t] t #[v0, v1]).run P w = .ok v' w') (hK : wpList P ops Q rest (a.put o.dst v') w') : wpList P ops Q (o :: rest) a w := by
  refine wpList_plain hg fun K hK' => ?_
  unfold Oper.wp
  simp [execOp, hop, resolve, invoke, builtin, hs, hx, hty, hrun, Result.andThen]
  exact hK' _ _ hK
end Go.Proofs.Qxb6617126a
