/-
  No cell of these rows narrows 'for every input' (looked for: loops, veiled, ifaces, maps, wideKeys, modest, calm, conditions, laid).
  DERIVED. THE GIVEN ROWS OF THIS SEAT. 5 by the template 'for every input the law returns true; each argument reads behind the call as it read before'; 0 by the template 'total and deterministic' (their statements: Qxb6616764aTotals.lean).
  GIVEN WITH THE SEED: the statements are not yours to turn. If you find one false, say at which input.
  Laid BY PROGRAM, IN A SANDBOX (cutbox-rows.mjs): the forced cells as the released guide's own fill.sh prints them over the translation 36c31cf9b2136456… (all of the seat's roots in one cut). By AI agents, Wed Nov 11 2026. No macro, syntax, notation, axiom, sorry.
-/
import Derived.Test.Qxb6616764aChecked
import GoSem.Claim
import GoSem.ClaimJoined
import GoSem.ClaimMapViews
import Derived.JoinedTies
import Derived.KernelRfl
namespace Go.Proofs.Qxb6616764a
/- THE CELL 'sum', in the pinned program and in every row, IS THE sha256 OF THE DUMP (.gsa) THAT Qxb6616764aProg.lean LOADS. Nothing in Lean hashes anything: it is a label: what it is worth is what the hold of that sum in a sandbox is worth. -/
noncomputable def Try.pinned : Pinned := { name := "qxb6616764a", sum := "36c31cf9b21364562500e8e46860a414b4614d5979b32b930271d326f417c4f2", checked := Try.checked }
namespace Rows
def none {H : Type} : Left H := { results := [], args := [] }

/-- 'zzlaws_internal_linear_b1.FnVarIsNonConstAndVanishesWhenZeroed': WHATEVER THE INPUT: true; the input reads as it did. -/
def fnVarIsNonConstAndVanishesWhenZeroedSpec : ChangeSpec := { name := "fnVarIsNonConstAndVanishesWhenZeroed", fn := fun _ => fun
  | [d1, d2] => { results := [.lit (.bool true)], args := [d1, d2] }
  | _ => none }
def fnVarIsNonConstAndVanishesWhenZeroedRow : OpenClaim := { program := "qxb6616764a", sum := "36c31cf9b21364562500e8e46860a414b4614d5979b32b930271d326f417c4f2", func := "example.com/idiomshift/idiomshift/zzlaws_internal_linear_b1.FnVarIsNonConstAndVanishesWhenZeroed", spec := "fnVarIsNonConstAndVanishesWhenZeroed", unfollowed := true, recurses := true, apart := false }
def FnVarIsNonConstAndVanishesWhenZeroedSaid : Prop := fnVarIsNonConstAndVanishesWhenZeroedRow.holds Try.pinned (OpenSpec.ofChange fnVarIsNonConstAndVanishesWhenZeroedSpec)

/-- ITS FALSE NEIGHBOUR: 'it returns false'. Refute it at one input. -/
def fnVarIsNonConstAndVanishesWhenZeroedWrong : ChangeSpec := { name := "fnVarIsNonConstAndVanishesWhenZeroed", fn := fun _ => fun
  | [d1, d2] => { results := [.lit (.bool false)], args := [d1, d2] }
  | _ => none }
def FnVarIsNonConstAndVanishesWhenZeroedWrongFalsely : Prop := fnVarIsNonConstAndVanishesWhenZeroedRow.holds Try.pinned (OpenSpec.ofChange fnVarIsNonConstAndVanishesWhenZeroedWrong)

/-- 'zzlaws_internal_linear_b1.FnIsConstAfterZeroedIffOnlyThatSym': WHATEVER THE INPUT: true; the input reads as it did. -/
def fnIsConstAfterZeroedIffOnlyThatSymSpec : ChangeSpec := { name := "fnIsConstAfterZeroedIffOnlyThatSym", fn := fun _ => fun
  | [d1, d2, d3] => { results := [.lit (.bool true)], args := [d1, d2, d3] }
  | _ => none }
def fnIsConstAfterZeroedIffOnlyThatSymRow : OpenClaim := { program := "qxb6616764a", sum := "36c31cf9b21364562500e8e46860a414b4614d5979b32b930271d326f417c4f2", func := "example.com/idiomshift/idiomshift/zzlaws_internal_linear_b1.FnIsConstAfterZeroedIffOnlyThatSym", spec := "fnIsConstAfterZeroedIffOnlyThatSym", unfollowed := true, recurses := true, apart := false }
def FnIsConstAfterZeroedIffOnlyThatSymSaid : Prop := fnIsConstAfterZeroedIffOnlyThatSymRow.holds Try.pinned (OpenSpec.ofChange fnIsConstAfterZeroedIffOnlyThatSymSpec)

/-- ITS FALSE NEIGHBOUR: 'it returns false'. Refute it at one input. -/
def fnIsConstAfterZeroedIffOnlyThatSymWrong : ChangeSpec := { name := "fnIsConstAfterZeroedIffOnlyThatSym", fn := fun _ => fun
  | [d1, d2, d3] => { results := [.lit (.bool false)], args := [d1, d2, d3] }
  | _ => none }
def FnIsConstAfterZeroedIffOnlyThatSymWrongFalsely : Prop := fnIsConstAfterZeroedIffOnlyThatSymRow.holds Try.pinned (OpenSpec.ofChange fnIsConstAfterZeroedIffOnlyThatSymWrong)

/-- 'zzlaws_internal_linear_b1.FnIsConstReachedAfterOneZeroingPerDistinctSym': WHATEVER THE INPUT: true; the input reads as it did. -/
def fnIsConstReachedAfterOneZeroingPerDistinctSymSpec : ChangeSpec := { name := "fnIsConstReachedAfterOneZeroingPerDistinctSym", fn := fun _ => fun
  | [d1, d2] => { results := [.lit (.bool true)], args := [d1, d2] }
  | _ => none }
def fnIsConstReachedAfterOneZeroingPerDistinctSymRow : OpenClaim := { program := "qxb6616764a", sum := "36c31cf9b21364562500e8e46860a414b4614d5979b32b930271d326f417c4f2", func := "example.com/idiomshift/idiomshift/zzlaws_internal_linear_b1.FnIsConstReachedAfterOneZeroingPerDistinctSym", spec := "fnIsConstReachedAfterOneZeroingPerDistinctSym", unfollowed := true, recurses := true, apart := false }
def FnIsConstReachedAfterOneZeroingPerDistinctSymSaid : Prop := fnIsConstReachedAfterOneZeroingPerDistinctSymRow.holds Try.pinned (OpenSpec.ofChange fnIsConstReachedAfterOneZeroingPerDistinctSymSpec)

/-- ITS FALSE NEIGHBOUR: 'it returns false'. Refute it at one input. -/
def fnIsConstReachedAfterOneZeroingPerDistinctSymWrong : ChangeSpec := { name := "fnIsConstReachedAfterOneZeroingPerDistinctSym", fn := fun _ => fun
  | [d1, d2] => { results := [.lit (.bool false)], args := [d1, d2] }
  | _ => none }
def FnIsConstReachedAfterOneZeroingPerDistinctSymWrongFalsely : Prop := fnIsConstReachedAfterOneZeroingPerDistinctSymRow.holds Try.pinned (OpenSpec.ofChange fnIsConstReachedAfterOneZeroingPerDistinctSymWrong)

/-- 'zzlaws_internal_linear_b1.FnZeroedKeepsOtherTermsInOrderAndCommutes': WHATEVER THE INPUT: true; the input reads as it did. -/
def fnZeroedKeepsOtherTermsInOrderAndCommutesSpec : ChangeSpec := { name := "fnZeroedKeepsOtherTermsInOrderAndCommutes", fn := fun _ => fun
  | [d1, d2, d3, d4] => { results := [.lit (.bool true)], args := [d1, d2, d3, d4] }
  | _ => none }
def fnZeroedKeepsOtherTermsInOrderAndCommutesRow : OpenClaim := { program := "qxb6616764a", sum := "36c31cf9b21364562500e8e46860a414b4614d5979b32b930271d326f417c4f2", func := "example.com/idiomshift/idiomshift/zzlaws_internal_linear_b1.FnZeroedKeepsOtherTermsInOrderAndCommutes", spec := "fnZeroedKeepsOtherTermsInOrderAndCommutes", unfollowed := true, recurses := true, apart := false }
def FnZeroedKeepsOtherTermsInOrderAndCommutesSaid : Prop := fnZeroedKeepsOtherTermsInOrderAndCommutesRow.holds Try.pinned (OpenSpec.ofChange fnZeroedKeepsOtherTermsInOrderAndCommutesSpec)

/-- ITS FALSE NEIGHBOUR: 'it returns false'. Refute it at one input. -/
def fnZeroedKeepsOtherTermsInOrderAndCommutesWrong : ChangeSpec := { name := "fnZeroedKeepsOtherTermsInOrderAndCommutes", fn := fun _ => fun
  | [d1, d2, d3, d4] => { results := [.lit (.bool false)], args := [d1, d2, d3, d4] }
  | _ => none }
def FnZeroedKeepsOtherTermsInOrderAndCommutesWrongFalsely : Prop := fnZeroedKeepsOtherTermsInOrderAndCommutesRow.holds Try.pinned (OpenSpec.ofChange fnZeroedKeepsOtherTermsInOrderAndCommutesWrong)

/-- 'zzlaws_internal_linear_b1.FnZeroedSubstitutesZeroAndIsIdempotent': WHATEVER THE INPUT: true; the input reads as it did. -/
def fnZeroedSubstitutesZeroAndIsIdempotentSpec : ChangeSpec := { name := "fnZeroedSubstitutesZeroAndIsIdempotent", fn := fun _ => fun
  | [d1, d2, d3, d4, d5, d6] => { results := [.lit (.bool true)], args := [d1, d2, d3, d4, d5, d6] }
  | _ => none }
def fnZeroedSubstitutesZeroAndIsIdempotentRow : OpenClaim := { program := "qxb6616764a", sum := "36c31cf9b21364562500e8e46860a414b4614d5979b32b930271d326f417c4f2", func := "example.com/idiomshift/idiomshift/zzlaws_internal_linear_b1.FnZeroedSubstitutesZeroAndIsIdempotent", spec := "fnZeroedSubstitutesZeroAndIsIdempotent", unfollowed := true, recurses := true, apart := false }
def FnZeroedSubstitutesZeroAndIsIdempotentSaid : Prop := fnZeroedSubstitutesZeroAndIsIdempotentRow.holds Try.pinned (OpenSpec.ofChange fnZeroedSubstitutesZeroAndIsIdempotentSpec)

/-- ITS FALSE NEIGHBOUR: 'it returns false'. Refute it at one input. -/
def fnZeroedSubstitutesZeroAndIsIdempotentWrong : ChangeSpec := { name := "fnZeroedSubstitutesZeroAndIsIdempotent", fn := fun _ => fun
  | [d1, d2, d3, d4, d5, d6] => { results := [.lit (.bool false)], args := [d1, d2, d3, d4, d5, d6] }
  | _ => none }
def FnZeroedSubstitutesZeroAndIsIdempotentWrongFalsely : Prop := fnZeroedSubstitutesZeroAndIsIdempotentRow.holds Try.pinned (OpenSpec.ofChange fnZeroedSubstitutesZeroAndIsIdempotentWrong)

end Rows
end Go.Proofs.Qxb6616764a
