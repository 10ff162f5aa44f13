import Derived.Test.Qxb6617126aBase
namespace Go.Proofs.Qxb6617126a
open Go.RowKit

set_option maxHeartbeats 1000000 in
theorem zz11 (name x : ByteArray) (k cut : Int) (am ak av : Option Addr) (nm cm nk ck nv cv : Nat) (ms ks : List ByteArray) (w : World) (hm : nm ≤ 9223372036854775807) (hk : nk ≤ 9223372036854775807)
    (hM : Strs w am nm ms) (hK : Strs w ak nk ks) :
    Calls Try.prog 11 #[.string name, .int .i64 k, .slice am nm cm, .slice ak nk ck, .slice av nv cv, .string x, .int .i64 cut] w fun e w' => BoolRet e ∧ w' = w := by
  have M : Aside (Strs w am nm ms) := hM
  have K : Aside (Strs w ak nk ks) := hK
  clear hM hK
  go_enter Try.func11, Try.ntmps11
  go_wp2
  any_goals (go_ret; exact ⟨⟨_, rfl⟩, rfl⟩)
  go_loopg [14, 15, 16] nm (fun gg _ s15 s16 wr => ∃ (i : Nat) (z : Int), i ≤ nm ∧ nm - i ≤ gg ∧ s16 = .int .i64 i ∧ s15 = .int .i64 z ∧ w = wr)
  case atStart => exact ⟨0, _, Nat.zero_le _, by omega, rfl, rfl, rfl⟩
  case round =>
    obtain ⟨i, z, hi, hgi, rfl, rfl, rfl⟩ := hrel
    by_cases hlt : i < nm
    · have hltz : (i : Int) < (nm : Int) := by omega
      obtain ⟨s, b, off, _, rfl, _, c0⟩ := M.out.get hlt
      go_wp2
      any_goals (go_ret; exact ⟨⟨_, rfl⟩, rfl⟩)
      go_roundg (nm - (i + 1))
      case measure => omega
      case rel => exact ⟨i + 1, _, by omega, Nat.le_refl _, by go_num, rfl, rfl⟩
    · have hltz : ¬ (i : Int) < (nm : Int) := by omega
      go_wp2
      any_goals (go_ret; exact ⟨⟨_, rfl⟩, rfl⟩)
      go_loopg [14, 15, 17] nk (fun gg _ s15 s17 wr => ∃ (i : Nat) (z : Int), i ≤ nk ∧ nk - i ≤ gg ∧ s17 = .int .i64 i ∧ s15 = .int .i64 z ∧ w = wr)
      case atStart => exact ⟨0, _, Nat.zero_le _, by omega, rfl, rfl, rfl⟩
      case round =>
        obtain ⟨j, z, hj, hgj, rfl, rfl, rfl⟩ := hrel
        by_cases hltj : j < nk
        · have hltjz : (j : Int) < (nk : Int) := by omega
          obtain ⟨s, b, off, _, rfl, _, c0⟩ := K.out.get hltj
          go_wp2
          any_goals (go_ret; exact ⟨⟨_, rfl⟩, rfl⟩)
          go_roundg (nk - (j + 1))
          case measure => omega
          case rel => exact ⟨j + 1, _, by omega, Nat.le_refl _, by go_num, rfl, rfl⟩
        · have hltjz : ¬ (j : Int) < (nk : Int) := by omega
          go_wp2
          all_goals (go_ret; exact ⟨⟨_, rfl⟩, rfl⟩)
end Go.Proofs.Qxb6617126a
