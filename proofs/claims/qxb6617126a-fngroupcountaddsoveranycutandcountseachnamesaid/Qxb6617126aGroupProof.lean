import Derived.Test.Qxb6617126aOpen
import Derived.Test.Qxb6617126aGroupNil
namespace Go.Proofs.Qxb6617126a.fnGroup
open Go.ChangeShapes Go.WideShapes Go.ChangeAt Go.RowKit
open Go.ChangeMaps (open_string shut_string)

theorem walk (name x : ByteArray) (k cut : Int) (am ak av : Option Addr) (nm cm nk ck nv cv : Nat) (ms ks : List ByteArray) (vs : List Bool) (w : World) (hcm : nm ≤ cm) (hcm2 : cm ≤ 9223372036854775807) (hk : nk ≤ 9223372036854775807)
    (hx : x.size ≤ maxLen) (hzm : ∀ s ∈ ms, s.size ≤ maxLen) (hzk : ∀ s ∈ ks, s.size ≤ maxLen) (hM : Strs w am nm ms) (hK : Strs w ak nk ks) (hV : Bls w av nv vs) :
    Calls Try.prog 4 #[.string name, .int .i64 k, .slice am nm cm, .slice ak nk ck, .slice av nv cv, .string x, .int .i64 cut] w fun e w' => e = .returned (.bool true) ∧ Below w.heap.size w w' := by
  cases ak with
  | none => exact (group_nil name x k cut am av nm cm nk ck nv cv ms ks vs w hcm hcm2 hk hx hzm hzk hM hK hV).mono fun e w' ⟨he, hg⟩ => ⟨he, gb_below hg⟩
  | some xk => exact (group_row name x k cut am av xk nm cm nk ck nv cv ms ks vs w hcm hcm2 hk hx hzm hzk hM hK hV).mono fun e w' ⟨he, hg⟩ => ⟨he, gb_below hg⟩

set_option maxRecDepth 100000 in
theorem lifted (os : Os) (started : os.Started) (H : Type) (enc : TypeId × Value → H) :
    ReturnsInHanded {} Try.checked os 4 .any (Rows.fnGroupCountAddsOverAnyCutAndCountsEachNameSpec.pre6 enc Try.prog Try.f4 Rows.fnGroupCountAddsOverAnyCutAndCountsEachNameRow.domain false) (Rows.fnGroupCountAddsOverAnyCutAndCountsEachNameSpec.post enc Try.prog Try.f4 false true false false) := by
  refine returnsInHanded_of_change (C := Try.checked) own started (by kernel_rfl) Try.func4
    (ChangeSpec.witness6 (enc := enc) (C := Try.checked) false ⟨#[], #[.string ByteArray.empty, .int .i64 0, .slice none 0 0, .slice none 0 0, .slice none 0 0, .string ByteArray.empty, .int .i64 0], []⟩ 8 (by kernel_rfl) (by kernel_rfl) (by kernel_rfl) (by kernel_rfl)) ?_
  intro W base args ds gs before hval0 hW _ _
  have hval : ∀ (j : Nat) t v, Try.f4.params[j]? = some t → args[j]? = some v → Value.okWide Try.prog W .any base t v := hval0
  have hW' := hW
  obtain ⟨p, q, hA0, hV, rfl, hfz, hnd⟩ := hW
  have hA : DataW.TrodAll enc Try.prog W 0 (fun _ => true) true Try.f4.params.toList args.toList ds p := hA0
  rw [Try.params4] at hA hval
  obtain ⟨v0, vs0, d0, ds0, p0, q0, hargs, rfl, rfl, h0, r0⟩ := trodAll_cons hA
  obtain ⟨v1, vs1, d1, ds1, p1, q1, rfl, rfl, rfl, h1, r1⟩ := trodAll_cons r0
  obtain ⟨v2, vs2, d2, ds2, p2, q2, rfl, rfl, rfl, h2, r2⟩ := trodAll_cons r1
  obtain ⟨v3, vs3, d3, ds3, p3, q3, rfl, rfl, rfl, h3, r3⟩ := trodAll_cons r2
  obtain ⟨v4, vs4, d4, ds4, p4, q4, rfl, rfl, rfl, h4, r4⟩ := trodAll_cons r3
  obtain ⟨v5, vs5, d5, ds5, p5, q5, rfl, rfl, rfl, h5, r5⟩ := trodAll_cons r4
  obtain ⟨v6, vs6, d6, ds6, p6, q6, rfl, rfl, rfl, h6, r6⟩ := trodAll_cons r5
  obtain ⟨rfl, rfl, rfl⟩ := trodAll_nil r6
  obtain rfl : args = #[v0, v1, v2, v3, v4, v5, v6] := by cases args; simp_all
  obtain ⟨rfl, rfl⟩ := trodVars_none hV
  obtain ⟨a0, rfl, rfl, rfl, w0⟩ := open_string Try.underlying9 (hval 0 9 v0 rfl rfl) h0
  obtain ⟨a1, rfl, rfl, rfl, w1⟩ := open_int Try.underlying3 (hval 1 3 v1 rfl rfl) h1
  obtain ⟨a2, len2, cap2, rfl⟩ := okWide_slice Try.underlying25 (hval 2 25 v2 rfl rfl)
  obtain ⟨a3, len3, cap3, rfl⟩ := okWide_slice Try.underlying25 (hval 3 25 v3 rfl rfl)
  obtain ⟨a4, len4, cap4, rfl⟩ := okWide_slice Try.underlying32 (hval 4 32 v4 rfl rfl)
  obtain ⟨a5, rfl, rfl, rfl, w5⟩ := open_string Try.underlying9 (hval 5 9 v5 rfl rfl) h5
  obtain ⟨a6, rfl, rfl, rfl, w6⟩ := open_int Try.underlying3 (hval 6 3 v6 rfl rfl) h6
  have lt2 : ∀ x ∈ p2, x.block < W.heap.size := by obtain ⟨m, hm⟩ := h2; exact DataW.trod_lt m _ _ _ hm
  have lt3 : ∀ x ∈ p3, x.block < W.heap.size := by obtain ⟨m, hm⟩ := h3; exact DataW.trod_lt m _ _ _ hm
  have lt4 : ∀ x ∈ p4, x.block < W.heap.size := by obtain ⟨m, hm⟩ := h4; exact DataW.trod_lt m _ _ _ hm
  obtain ⟨ms, hM, zM, lM, cM⟩ := strs_of h2
  obtain ⟨ks, hK, zK, lK, cK⟩ := strs_of h3
  obtain ⟨bs, hB⟩ := bls_of h4
  clear hA0 hval0
  refine (walk a0 a5 a1 a6 a2 a3 a4 len2 cap2 len3 cap3 len4 cap4 ms ks bs W lM cM (Nat.le_trans lK cK) w5 zM zK hM hK hB).mono fun e W' ⟨he, bel⟩ => ?_
  subst he
  exact ⟨_, rfl, _, _, _, [], _, [], hW', trodAll_mk1 (shut_bool Try.underlying4 _),
    (trodAll_cons_mk (shut_string Try.underlying9 w0) (trodAll_cons_mk (shut_int Try.underlying3 w1) (trodAll_cons_mk (Below.trod laidOut (by kernel_rfl) (of_decide_eq_true (by kernel_rfl)) h2 bel lt2) (trodAll_cons_mk (Below.trod laidOut (by kernel_rfl) (of_decide_eq_true (by kernel_rfl)) h3 bel lt3) (trodAll_cons_mk (Below.trod laidOut (by kernel_rfl) (of_decide_eq_true (by kernel_rfl)) h4 bel lt4) (trodAll_cons_mk (shut_string Try.underlying9 w5) (trodAll_cons_mk (shut_int Try.underlying3 w6) trodAll_mk0))))))), rfl, bel.frame _, fun h => by cases h⟩

theorem over : Rows.fnGroupCountAddsOverAnyCutAndCountsEachNameRow.holds Try.pinned (OpenSpec.ofChange Rows.fnGroupCountAddsOverAnyCutAndCountsEachNameSpec) :=
  OpenClaim.holds_of_wide 4 Try.f4 rfl rfl rfl rfl rfl rfl rfl ⟨rfl, rfl, rfl, rfl, rfl⟩ rfl rfl rfl rfl rfl (by kernel_rfl) Try.func4 (by kernel_rfl)
    (of_decide_eq_true (by kernel_rfl)) (by unfold Func.isWrapper; first | (rw [if_pos (by decide +kernel)]; kernel_rfl) | (rw [if_neg (by decide +kernel)]; exact ⟨rfl, rfl⟩))
    (fun os started H enc _ => lifted os started H enc)
end Go.Proofs.Qxb6617126a.fnGroup
namespace Go.Proofs.Qxb6617126a
theorem fnGroup_proved : Rows.FnGroupCountAddsOverAnyCutAndCountsEachNameSaid := fnGroup.over
end Go.Proofs.Qxb6617126a
