import Derived.Test.Qxb6616764aLin
import Derived.Deep.AppendLies
namespace Go.Proofs.Qxb6616764a
open Go.RowKit

/-! ### Plain lists -/
/-- What zeroing y leaves. -/
def zeroed (y : Int) (ts : List (Int × Int)) : List (Int × Int) := ts.filter fun x => !(x.1 == y)

theorem zeroed_noHit {ts : List (Int × Int)} {y : Int} (h : NoHit ts y) : zeroed y ts = ts := by
  unfold zeroed
  exact List.filter_eq_self.2 fun x hx => by rw [h x hx]; rfl

/-- THE SECOND LOOP's RELATION: j terms looked at, i of them kept; from i on the row is as it was. -/
structure Mid (ts : List (Int × Int)) (y : Int) (i j : Nat) (dk : List (Int × Int)) : Prop where
  len : (zeroed y (ts.take j)).length = i
  lt : i < j
  row : dk = zeroed y (ts.take j) ++ ts.drop i

theorem Mid.size {ts dk : List (Int × Int)} {y : Int} {i j : Nat} (h : Mid ts y i j dk) (hj : j ≤ ts.length) : dk.length = ts.length := by
  have := h.lt
  rw [h.row, List.length_append, h.len, List.length_drop]; omega

theorem Mid.start {ts : List (Int × Int)} {y : Int} {k : Nat} (h : FirstHit ts y k) : Mid ts y k (k + 1) ts := by
  obtain ⟨x, hx, hq, hall⟩ := h
  have hk : k < ts.length := (List.getElem?_eq_some_iff.1 hx).1
  have e : zeroed y (ts.take (k + 1)) = ts.take k := by
    rw [List.take_add_one, hx]
    unfold zeroed
    rw [List.filter_append]
    simp only [Option.toList, List.filter_cons, hq]
    simp
    intro a b hab
    obtain ⟨j, hj⟩ := List.getElem?_of_mem hab
    rw [List.getElem?_take] at hj
    split at hj
    · have := hall j (a, b) (by assumption) hj
      simpa using this
    · simp at hj
  exact ⟨by rw [e]; simp; omega, by omega, by rw [e, List.take_append_drop]⟩

theorem Mid.get {ts dk : List (Int × Int)} {y : Int} {i j : Nat} (h : Mid ts y i j dk) : dk[j]? = ts[j]? := by
  have := h.lt
  rw [h.row, List.getElem?_append_right (by rw [h.len]; omega), h.len, List.getElem?_drop]
  congr 1; omega

theorem Mid.keep {ts dk : List (Int × Int)} {y : Int} {i j : Nat} {x : Int × Int} (h : Mid ts y i j dk) (hx : ts[j]? = some x) (hq : (x.1 == y) = false) : Mid ts y (i + 1) (j + 1) (dk.set i x) := by
  have hj : j < ts.length := (List.getElem?_eq_some_iff.1 hx).1
  have hl := h.lt
  have e : zeroed y (ts.take (j + 1)) = zeroed y (ts.take j) ++ [x] := by
    rw [List.take_add_one, hx]
    unfold zeroed
    rw [List.filter_append]
    simp [hq]
  refine ⟨by rw [e]; simp [h.len], by omega, ?_⟩
  rw [e, h.row, List.set_append_right _ _ (by rw [h.len]; omega), h.len, Nat.sub_self, List.append_assoc]
  congr 1
  rw [List.drop_eq_getElem_cons (show i < ts.length by omega)]
  rfl

theorem Mid.skip {ts dk : List (Int × Int)} {y : Int} {i j : Nat} {x : Int × Int} (h : Mid ts y i j dk) (hx : ts[j]? = some x) (hq : (x.1 == y) = true) : Mid ts y i (j + 1) dk := by
  have hl := h.lt
  have e : zeroed y (ts.take (j + 1)) = zeroed y (ts.take j) := by
    rw [List.take_add_one, hx]
    unfold zeroed
    rw [List.filter_append]
    simp [hq]
  exact ⟨by rw [e]; exact h.len, by omega, by rw [e]; exact h.row⟩

/-- Two stores: one term set. -/
theorem cellsOf_set (ts : List (Int × Int)) (i : Nat) (x : Int × Int) : ((cellsOf ts).set (i * 2) (.int .i64 x.1)).set (i * 2 + 1) (.int .i64 x.2) = cellsOf (ts.set i x) := by
  induction ts generalizing i with
  | nil => simp [cellsOf]
  | cons y r ih =>
    cases i with
    | zero => simp [cellsOf_cons]
    | succ i =>
      rw [show (i + 1) * 2 = i * 2 + 2 by omega]
      simp [cellsOf_cons, ih i]

theorem cellsOf_take (ts : List (Int × Int)) (n : Nat) : (cellsOf ts).take (n * 2) = cellsOf (ts.take n) := by
  induction ts generalizing n with
  | nil => simp [cellsOf]
  | cons y r ih =>
    cases n with
    | zero => simp [cellsOf]
    | succ n =>
      rw [show (n + 1) * 2 = n * 2 + 2 by omega]
      simp [cellsOf_cons, ih n]

/-! ### Worlds -/
section
variable {w : World} {base g n cap : Nat} {xs : List Value}

/-- A slice of an owned row cut to its head. -/
theorem owns_cut (h : w.ownsRow base 29 2 (.slice (some ⟨g, 0, none⟩) n cap) n xs) (i : Nat) (hi : i ≤ n) : w.ownsRow base 29 2 (.slice (some ⟨g, 0, none⟩) i cap) i (xs.take (i * 2)) := by
  rcases h.2 with ⟨h', _⟩ | ⟨g', cap', cur, h', hb, hg, hnc, hcm, hcs, htake⟩
  · simp at h'
  · simp only [Value.slice.injEq, Option.some.injEq, Addr.mk.injEq, and_true, true_and] at h'
    obtain ⟨rfl, rfl⟩ := h'
    have hl := h.1
    refine ⟨by rw [List.length_take, hl]; omega, .inr ⟨g, cap, cur, rfl, hb, hg, by omega, hcm, hcs, ?_⟩⟩
    rw [← htake, List.take_take]
    congr 1; omega

/-- A run of stores into an owned row. -/
theorem owns_setCells : ∀ (vs : List Value) (o : Nat) (w : World) (xs : List Value), w.ownsRow base 29 2 (.slice (some ⟨g, 0, none⟩) n cap) n xs →
    ∃ ys, (w.setCells g o vs).ownsRow base 29 2 (.slice (some ⟨g, 0, none⟩) n cap) n ys ∧ ys.take o = xs.take o ∧ w.grownBy (w.setCells g o vs) (some g)
  | [], o, w, xs, h => ⟨xs, h, rfl, World.grownBy.refl _ _⟩
  | v :: r, o, w, xs, h => by
    obtain ⟨h1, h2⟩ := h.stored o v
    obtain ⟨ys, h3, h4, h5⟩ := owns_setCells r (o + 1) _ _ h1
    refine ⟨ys, h3, ?_, h2.trans h5⟩
    have := congrArg (List.take o) h4
    rw [List.take_take, List.take_take, Nat.min_eq_left (by omega)] at this
    rw [this, List.take_set_of_le (Nat.le_refl _)]

theorem owns_lt (h : w.ownsRow base 29 2 (.slice (some ⟨g, 0, none⟩) n cap) n xs) : base ≤ g ∧ g < w.heap.size ∧ n ≤ cap ∧ cap ≤ maxLen := by
  have := h.lt g (by rfl)
  rcases h.2 with ⟨h', _⟩ | ⟨g', cap', cur, h', hb, hg, hnc, hcm, hcs, htake⟩
  · simp at h'
  · simp only [Value.slice.injEq, Option.some.injEq, Addr.mk.injEq, and_true, true_and] at h'
    obtain ⟨rfl, rfl⟩ := h'
    exact ⟨this.1, this.2, hnc, hcm⟩

theorem owns_term {ts : List (Int × Int)} (h : w.ownsRow base 29 2 (.slice (some ⟨g, 0, none⟩) n cap) n (cellsOf ts)) {j : Nat} {x : Int × Int} (hx : ts[j]? = some x) :
    w.cell? ⟨g, j * 2, none⟩ = some (.int .i64 x.1) ∧ w.cell? ⟨g, j * 2 + 1, none⟩ = some (.int .i64 x.2) := by
  have hl := h.1
  rw [length_cellsOf] at hl
  have hj : j < ts.length := (List.getElem?_eq_some_iff.1 hx).1
  rw [h.cellAt (j * 2) (by omega), h.cellAt (j * 2 + 1) (by omega)]
  exact cellsOf_get0 ts j x hx
end

/-- 'clear' of a tail that is not empty. -/
theorem run_clear2 (w : World) (ty : TypeId) (b o n c : Nat) (hn : 0 < n)
    (hc : ∀ j, j < n * 2 → (w.cell? ⟨b, o + j, none⟩).isSome = true) (hf : ∀ j, j < n * 2 → w.frozen? ⟨b, o + j, none⟩ = false) :
    (Builtin.clear_ #[23] ty #[.slice (some ⟨b, o, none⟩) n c]).run Try.prog w = .ok (.tuple #[]) (w.setCells b o (List.replicate (n * 2) (.int .i64 0))) := by
  have hzc : (Builtin.zeroCells (Value.agg #[.int .i64 0, .int .i64 0]).cells n).toList = List.replicate (n * 2) (Value.int .i64 0) := by
    simp [Builtin.zeroCells, Value.cells]
    apply List.ext_getElem
    · simp
    · intro i h1 h2
      simp
      rcases Nat.mod_two_eq_zero_or_one i with h | h <;> simp [h]
  have hst := run_storeCells_cells (P := Try.prog) b o (List.replicate (n * 2) (.int .i64 0)) 0 w (by simpa using hc) (by simpa using hf) (by intro v hv'; rw [List.eq_of_mem_replicate hv']; rfl)
  simp only [Nat.add_zero] at hst
  obtain ⟨m, rfl⟩ : ∃ m, n = m + 1 := ⟨n - 1, by omega⟩
  simp only [Value.cells] at hzc
  simp [Builtin.clear_, run_underlying Try.underlying23, Try.zeroValue29, Value.cells, hzc, hst]

set_option maxHeartbeats 1000000 in
/-- slices.DeleteFunc at no hit. -/
theorem delete_none (base b n cap : Nat) (ts : List (Int × Int)) (y : Int) (B : Nat) (w : World) (hB : B < w.heap.size) (hc : w.cell? ⟨B, 0, none⟩ = some (.int .i64 y))
    (ho : w.ownsRow base 29 2 (.slice (some ⟨b, 0, none⟩) n cap) n (cellsOf ts)) (hno : NoHit ts y) :
    Calls Try.prog 20 #[.slice (some ⟨b, 0, none⟩) n cap, .func (.func 22) #[] #[.pointer (some ⟨B, 0, none⟩)]] w fun e w' =>
      e = .returned (.slice (some ⟨b, 0, none⟩) n cap) ∧ w.grownBy w' none := by
  have hl := owns_lt ho
  unfold maxLen at hl
  have hn : n = ts.length := by have := ho.1; rw [length_cellsOf] at this; omega
  have hI := indexFunc b n cap ts y B w hn (by omega) hB hc (fun j x hx => owns_term ho hx)
  have NH : Aside (NoHit ts y) := hno
  clear ho hno hl hn hc
  go_enter Try.func20, Try.ntmps20
  go_wp2_with (go_at_call 24; refine hI.mono ?_; rintro e w' ⟨(⟨rfl, _⟩ | ⟨k, hf, rfl⟩), hg⟩)
  · go_wp2
    go_ret
    exact ⟨rfl, hg⟩
  · obtain ⟨x, hx, hq, _⟩ := hf
    have := NH.out x (List.mem_of_getElem? hx)
    rw [this] at hq; cases hq

set_option maxHeartbeats 2000000 in
/-- slices.DeleteFunc where a term is struck. -/
theorem delete_some (base b n cap : Nat) (ts : List (Int × Int)) (y : Int) (B : Nat) (w : World) (hB : B < w.heap.size) (hBb : B ≠ b) (hc : w.cell? ⟨B, 0, none⟩ = some (.int .i64 y))
    (ho : w.ownsRow base 29 2 (.slice (some ⟨b, 0, none⟩) n cap) n (cellsOf ts)) (hit : ¬ NoHit ts y) :
    Calls Try.prog 20 #[.slice (some ⟨b, 0, none⟩) n cap, .func (.func 22) #[] #[.pointer (some ⟨B, 0, none⟩)]] w fun e w' =>
      ∃ m, e = .returned (.slice (some ⟨b, 0, none⟩) m cap) ∧ w'.ownsRow base 29 2 (.slice (some ⟨b, 0, none⟩) m cap) m (cellsOf (zeroed y ts)) ∧ w.grownBy w' (some b) := by
  have hl := owns_lt ho
  unfold maxLen at hl
  have hn : n = ts.length := by have := ho.1; rw [length_cellsOf] at this; omega
  have hI := indexFunc b n cap ts y B w hn (by omega) hB hc (fun j x hx => owns_term ho hx)
  have NH : Aside (¬ NoHit ts y) := hit
  have HN : Aside (n = ts.length) := hn
  have HO : Aside (w.ownsRow base 29 2 (.slice (some ⟨b, 0, none⟩) n cap) n (cellsOf ts)) := ho
  have HC : Aside (w.cell? ⟨B, 0, none⟩ = some (.int .i64 y)) := hc
  have hncap : n ≤ cap := hl.2.2.1
  have hcapm : cap ≤ 9223372036854775807 := by omega
  have hnm : n ≤ 9223372036854775807 := by omega
  have hbw : b < w.heap.size := hl.2.1
  clear ho hit hl hn hc
  go_enter Try.func20, Try.ntmps20
  go_wp2_with fail
  refine hI.mono ?_
  rintro e w' ⟨(⟨rfl, hno⟩ | ⟨k, hf, rfl⟩), hg⟩
  · exact absurd hno NH.out
  · have hk : k < n := by obtain ⟨x, hx, _⟩ := hf; rw [HN.out]; exact (List.getElem?_eq_some_iff.1 hx).1
    have hne1 : ((k : Int) == -1) = false := beq_eq_false_iff_ne.2 (by omega)
    have HF : Aside (FirstHit ts y k) := hf
    have HG : Aside (w.grownBy w' none) := hg
    clear hf hg hI
    go_wp2
    go_loopg [5, 6, 7] n (fun gg s5 s6 _ wr => ∃ (i j : Nat) (dk : List (Int × Int)), s5 = .int .i64 i ∧ s6 = .int .i64 j ∧ j ≤ n ∧ n - j ≤ gg ∧ i < j ∧ Aside (wr.ownsRow base 29 2 (.slice (some ⟨b, 0, none⟩) n cap) n (cellsOf dk)) ∧ Aside (w.grownBy wr (some b)) ∧ Aside (Mid ts y i j dk))
    case atStart => exact ⟨k, k + 1, ts, rfl, by go_num, by omega, by omega, by omega, HO.out.kept HG.out (.inr (by simp [Value.ownBlock])), HG.out.but _, Mid.start HF.out⟩
    case round =>
      obtain ⟨i, j, dk, rfl, rfl, hjn, hgg, hij, O2, G2, M2⟩ := hrel
      by_cases hlt : j < n
      · have hltz : (j : Int) < (n : Int) := by omega
        have hiz : (i : Int) < (n : Int) := by omega
        obtain ⟨x, hx⟩ : ∃ x, ts[j]? = some x := ⟨ts[j]'(by rw [← HN.out]; exact hlt), List.getElem?_eq_getElem _⟩
        obtain ⟨g0, g1⟩ := owns_term O2.out (M2.out.get.trans hx)
        obtain ⟨old, hold⟩ : ∃ old, dk[i]? = some old := ⟨dk[i]'(by rw [M2.out.size (by rw [← HN.out]; exact hjn), ← HN.out]; omega), List.getElem?_eq_getElem _⟩
        obtain ⟨i0, i1⟩ := owns_term O2.out hold
        have f0 := O2.out.frozenAt (i * 2)
        have f1 := O2.out.frozenAt (i * 2 + 1)
        have hbr : b < wr.heap.size := Nat.lt_of_lt_of_le hbw G2.out.size
        have hbne : b ≠ wr.heap.size := by omega
        have hBr : B < wr.heap.size := Nat.lt_of_lt_of_le hB G2.out.size
        have cB : wr.cell? ⟨B, 0, none⟩ = some (.int .i64 y) := G2.out.cell HC.out (by simpa using hBb)
        have X : Aside (ts[j]? = some x) := hx
        have I01 : Aside (wr.cell? ⟨b, i * 2, none⟩ = some (.int .i64 old.1) ∧ wr.cell? ⟨b, i * 2 + 1, none⟩ = some (.int .i64 old.2) ∧ wr.frozen? ⟨b, i * 2, none⟩ = false ∧ wr.frozen? ⟨b, i * 2 + 1, none⟩ = false) := ⟨i0, i1, f0, f1⟩
        clear hx hold i0 i1 f0 f1
        have hcall := clos x.1 x.2 y B (wr.alloc (.cells #[.int .i64 x.1, .int .i64 x.2] 29)) (by simp; omega) (Lib.cell?_alloc_some _ cB)
        clear cB hBr
        cases hq : x.1 == y with
        | true =>
          rw [hq] at hcall
          have Q : Aside ((x.1 == y) = true) := hq
          clear hq
          go_wp2_with fail
          refine hcall.mono ?_
          rintro e w1 ⟨rfl, hg1⟩
          have HG1 : Aside ((wr.alloc (.cells #[.int .i64 x.1, .int .i64 x.2] 29)).grownBy w1 none) := hg1
          clear hg1 hcall g0 g1
          go_wp2
          go_roundg (n - (j + 1))
          case measure => omega
          case rel =>
            have hgg : wr.grownBy w1 none := (World.grownBy_alloc _ _ _).trans HG1.out
            exact ⟨i, j + 1, dk, rfl, by go_num, by omega, Nat.le_refl _, by omega, O2.out.kept hgg (.inr (by simp [Value.ownBlock])), G2.out.trans (hgg.but _), M2.out.skip X.out Q.out⟩
        | false =>
          rw [hq] at hcall
          have Q : Aside ((x.1 == y) = false) := hq
          clear hq
          go_wp2_with fail
          refine hcall.mono ?_
          rintro e w1 ⟨rfl, hg1⟩
          have HG1 : Aside ((wr.alloc (.cells #[.int .i64 x.1, .int .i64 x.2] 29)).grownBy w1 none) := hg1
          have hgg : wr.grownBy w1 none := (World.grownBy_alloc _ _ _).trans hg1
          have c0 : w1.cell? ⟨b, i * 2, none⟩ = some (.int .i64 old.1) := hgg.cell I01.out.1 (by simp)
          have c1 : w1.cell? ⟨b, i * 2 + 1, none⟩ = some (.int .i64 old.2) := hgg.cell I01.out.2.1 (by simp)
          have f0 : w1.frozen? ⟨b, i * 2, none⟩ = false := (hgg.frozen_far _ hbr (by simp)).trans I01.out.2.2.1
          have f1 : w1.frozen? ⟨b, i * 2 + 1, none⟩ = false := (hgg.frozen_far _ hbr (by simp)).trans I01.out.2.2.2
          have v0 : w1.cell? ⟨wr.heap.size, 0, none⟩ = some (.int .i64 x.1) := hg1.cell (by simp) (by simp)
          have v1 : w1.cell? ⟨wr.heap.size, 1, none⟩ = some (.int .i64 x.2) := hg1.cell (by simp) (by simp)
          have GG : Aside (wr.grownBy w1 none) := hgg
          clear hg1 hcall g0 g1 hgg
          go_wp2
          go_roundg (n - (j + 1))
          case measure => omega
          case rel =>
            have o1 := O2.out.kept GG.out (.inr (by simp [Value.ownBlock]))
            obtain ⟨o2, s2⟩ := o1.stored (i * 2) (.int .i64 x.1)
            obtain ⟨o3, s3⟩ := o2.stored (i * 2 + 1) (.int .i64 x.2)
            rw [cellsOf_set] at o3
            exact ⟨i + 1, j + 1, dk.set i x, by go_num, by go_num, by omega, Nat.le_refl _, by omega, o3, (G2.out.trans (GG.out.but _)).trans (s2.trans s3), M2.out.keep X.out Q.out⟩
      · obtain rfl : j = n := by omega
        have hltz : ¬ (j : Int) < (j : Int) := by omega
        have hic : (i : Int) < (cap : Int) := by omega
        have hcl : ∀ ty, (Builtin.clear_ #[23] ty #[.slice (some ⟨b, i * 2, none⟩) (j - i) (cap - i)]).run Try.prog wr = .ok (.tuple #[]) (wr.setCells b (i * 2) (List.replicate ((j - i) * 2) (.int .i64 0))) := fun ty =>
          run_clear2 wr ty b (i * 2) (j - i) _ (by omega) (fun t ht => by
            rw [O2.out.cellAt (i * 2 + t) (by omega), List.getElem?_eq_getElem (by rw [O2.out.1]; omega)]; rfl) (fun t _ => O2.out.frozenAt _)
        go_wp2
        go_ret
        obtain ⟨ys, h1, h2, h3⟩ := owns_setCells (List.replicate ((j - i) * 2) (.int .i64 0)) (i * 2) wr _ O2.out
        refine ⟨i, rfl, ?_, G2.out.trans h3⟩
        have h4 := owns_cut h1 i (by omega)
        have M := M2.out
        rw [h2, cellsOf_take, M.row, List.take_left' M.len, List.take_of_length_le (by rw [← HN.out]; omega)] at h4
        exact h4
end Go.Proofs.Qxb6616764a
