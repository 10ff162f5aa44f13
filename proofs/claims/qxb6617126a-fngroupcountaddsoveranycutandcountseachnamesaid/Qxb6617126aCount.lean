import Derived.Test.Qxb6617126aMapOf
namespace Go.Proofs.Qxb6617126a
open Go.RowKit

/-- How many of ms f holds true. -/
def cnt (f : List UInt8 → Bool) (ms : List ByteArray) : Nat := (ms.filter fun s => f s.data.toList).length
theorem cnt_le (f : List UInt8 → Bool) (ms : List ByteArray) : cnt f ms ≤ ms.length := List.length_filter_le _ _
theorem cnt_snoc (f : List UInt8 → Bool) (ms : List ByteArray) (k : Nat) (s : ByteArray) (h : ms[k]? = some s) : cnt f (ms.take (k + 1)) = cnt f (ms.take k) + if f s.data.toList then 1 else 0 := by
  unfold cnt
  rw [List.take_add_one, h, List.filter_append, List.length_append]
  by_cases e : f s.data.toList <;> simp [e]

set_option maxHeartbeats 1000000 in
theorem count_any (name : ByteArray) (kk : Int) (a : Option Addr) (n cap : Nat) (ms : List ByteArray) (ob : Option Nat) (nn : Nat) (f : List UInt8 → Bool) (w : World) (hn : n ≤ 9223372036854775806) (hsz : ∀ s ∈ ms, s.size ≤ maxLen) (hM : Strs w a n ms) (hF : MapIs w ob nn f) :
    Calls Try.prog 15 #[.agg #[.string name, .int .i64 kk, .slice a n cap], .map ob] w fun e w' => e = .returned (.int .i64 (cnt f ms)) ∧ w.grownBy w' none := by
  have M : Aside (Strs w a n ms) := hM
  have F : Aside (MapIs w ob nn f) := hF
  have Z : Aside (∀ s ∈ ms, s.size ≤ maxLen) := hsz
  clear hM hF hsz
  go_enter Try.func15, Try.ntmps15
  go_wp2
  go_loopg [5, 7, 11] n (fun gg s5 _ s11 wr => ∃ i : Nat, i ≤ n ∧ n - i ≤ gg ∧ s11 = .int .i64 i ∧ s5 = .int .i64 (cnt f (ms.take i)) ∧ Aside (w.grownBy wr none))
  case atStart => exact ⟨0, Nat.zero_le _, by omega, rfl, by simp [cnt], World.grownBy_alloc _ _ _⟩
  case round =>
    obtain ⟨i, hi, hgg, rfl, rfl, G1⟩ := hrel
    by_cases hlt : i < n
    · have hltz : (i : Int) < (n : Int) := by omega
      obtain ⟨s, b, off, hs, rfl, hb, c0⟩ := M.out.get hlt
      have g0 : wr.cell? ⟨b, off + i, none⟩ = some (.string s) := G1.out.cell c0 (by simp)
      have hl := (F.out.on G1.out).look s (Z.out s (List.mem_of_getElem? hs))
      have S : Aside (cnt f (ms.take (i + 1)) = cnt f (ms.take i) + if f s.data.toList then 1 else 0) := cnt_snoc f ms i s hs
      have hc : cnt f (ms.take i) ≤ i := Nat.le_trans (cnt_le _ _) (List.length_take_le _ _)
      generalize cnt f (ms.take i) = C at *
      clear hs c0
      cases hq : f s.data.toList with
      | true =>
        rw [hq] at hl S
        clear hq
        go_wp2
        go_roundg (n - (i + 1))
        case measure => omega
        case rel => exact ⟨i + 1, by omega, Nat.le_refl _, by go_num, by rw [S.out]; simp, G1.out⟩
      | false =>
        rw [hq] at hl S
        clear hq
        go_wp2
        go_roundg (n - (i + 1))
        case measure => omega
        case rel => exact ⟨i + 1, by omega, Nat.le_refl _, by go_num, by rw [S.out]; simp, G1.out⟩
    · obtain rfl : i = n := by omega
      have hltz : ¬ (i : Int) < (i : Int) := by omega
      have hO : cnt f (ms.take i) = cnt f ms := by rw [M.out.len, List.take_length]
      rw [hO]
      clear hO
      generalize hC : cnt f ms = C
      have HC : Aside (cnt f ms = C) := hC
      clear hC
      go_wp2
      go_ret
      exact ⟨ret_int (by rw [HC.out]), G1.out⟩

set_option maxHeartbeats 400000 in
theorem zzCount_any (name : ByteArray) (kk : Int) (a : Option Addr) (n cap : Nat) (ms : List ByteArray) (ob : Option Nat) (nn : Nat) (f : List UInt8 → Bool) (w : World) (hn : n ≤ 9223372036854775806) (hsz : ∀ s ∈ ms, s.size ≤ maxLen) (hM : Strs w a n ms) (hF : MapIs w ob nn f) :
    Calls Try.prog 13 #[.agg #[.string name, .int .i64 kk, .slice a n cap], .map ob] w fun e w' => e = .returned (.int .i64 (cnt f ms)) ∧ w.grownBy w' none := by
  have hg := World.grownBy_alloc w (.cells #[.string name, .int .i64 kk, .slice a n cap] 37) none
  have hC := count_any name kk a n cap ms ob nn f (w.alloc (.cells #[.string name, .int .i64 kk, .slice a n cap] 37)) hn hsz (hM.on hg) (hF.on hg)
  generalize cnt f ms = C at *
  clear hM hF hsz
  go_enter Try.func13, Try.ntmps13
  go_wp2_with fail
  refine hC.mono ?_
  rintro e w1 ⟨rfl, g1⟩
  have G1 : Aside (w.grownBy w1 none) := hg.trans g1
  clear hg g1 hC
  go_wp2
  go_ret
  exact ⟨rfl, G1.out⟩
end Go.Proofs.Qxb6617126a
