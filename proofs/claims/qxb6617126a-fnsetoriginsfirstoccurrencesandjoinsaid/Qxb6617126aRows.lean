/-
  No cell of these rows narrows 'for every input' (looked for: loops, veiled, ifaces, maps, wideKeys, modest, calm, conditions, laid).
  DERIVED. THE GIVEN ROWS OF THIS SEAT. 2 by the template 'for every input the law returns true; each argument reads behind the call as it read before'; 0 by the template 'total and deterministic' (their statements: Qxb6617126aTotals.lean).
  GIVEN WITH THE SEED: the statements are not yours to turn. If you find one false, say at which input.
  Laid BY PROGRAM, IN A SANDBOX (cutbox-rows.mjs): the forced cells as the released guide's own fill.sh prints them over the translation b407b24422e2fd19… (all of the seat's roots in one cut). By AI agents, Wed Nov 11 2026. No macro, syntax, notation, axiom, sorry.
-/
import Derived.Test.Qxb6617126aChecked
import GoSem.Claim
import GoSem.ClaimJoined
import GoSem.ClaimMapViews
import Derived.JoinedTies
import Derived.KernelRfl
namespace Go.Proofs.Qxb6617126a
/- THE CELL 'sum', in the pinned program and in every row, IS THE sha256 OF THE DUMP (.gsa) THAT Qxb6617126aProg.lean LOADS. Nothing in Lean hashes anything: it is a label: what it is worth is what the hold of that sum in a sandbox is worth. -/
noncomputable def Try.pinned : Pinned := { name := "qxb6617126a", sum := "b407b24422e2fd1919a035daf32ea57384fc9d134f1ad0562fb98a0ae41463ce", checked := Try.checked }
namespace Rows
def none {H : Type} : Left H := { results := [], args := [] }

/-- 'zzlaws_pkg_policy_b1.FnSetOriginsFirstOccurrencesAndJoin': WHATEVER THE INPUT: true; the input reads as it did. -/
def fnSetOriginsFirstOccurrencesAndJoinSpec : ChangeSpec := { name := "fnSetOriginsFirstOccurrencesAndJoin", fn := fun _ => fun
  | [d1, d2] => { results := [.lit (.bool true)], args := [d1, d2] }
  | _ => none }
def fnSetOriginsFirstOccurrencesAndJoinRow : OpenClaim := { program := "qxb6617126a", sum := "b407b24422e2fd1919a035daf32ea57384fc9d134f1ad0562fb98a0ae41463ce", func := "example.com/quorumlog/quorumlog/zzlaws_pkg_policy_b1.FnSetOriginsFirstOccurrencesAndJoin", spec := "fnSetOriginsFirstOccurrencesAndJoin", apart := false }
def FnSetOriginsFirstOccurrencesAndJoinSaid : Prop := fnSetOriginsFirstOccurrencesAndJoinRow.holds Try.pinned (OpenSpec.ofChange fnSetOriginsFirstOccurrencesAndJoinSpec)

/-- ITS FALSE NEIGHBOUR: 'it returns false'. Refute it at one input. -/
def fnSetOriginsFirstOccurrencesAndJoinWrong : ChangeSpec := { name := "fnSetOriginsFirstOccurrencesAndJoin", fn := fun _ => fun
  | [d1, d2] => { results := [.lit (.bool false)], args := [d1, d2] }
  | _ => none }
def FnSetOriginsFirstOccurrencesAndJoinWrongFalsely : Prop := fnSetOriginsFirstOccurrencesAndJoinRow.holds Try.pinned (OpenSpec.ofChange fnSetOriginsFirstOccurrencesAndJoinWrong)

/-- 'zzlaws_pkg_policy_b1.FnGroupCountAddsOverAnyCutAndCountsEachName': WHATEVER THE INPUT: true; the input reads as it did. -/
def fnGroupCountAddsOverAnyCutAndCountsEachNameSpec : ChangeSpec := { name := "fnGroupCountAddsOverAnyCutAndCountsEachName", fn := fun _ => fun
  | [d1, d2, d3, d4, d5, d6, d7] => { results := [.lit (.bool true)], args := [d1, d2, d3, d4, d5, d6, d7] }
  | _ => none }
def fnGroupCountAddsOverAnyCutAndCountsEachNameRow : OpenClaim := { program := "qxb6617126a", sum := "b407b24422e2fd1919a035daf32ea57384fc9d134f1ad0562fb98a0ae41463ce", func := "example.com/quorumlog/quorumlog/zzlaws_pkg_policy_b1.FnGroupCountAddsOverAnyCutAndCountsEachName", spec := "fnGroupCountAddsOverAnyCutAndCountsEachName", apart := false }
def FnGroupCountAddsOverAnyCutAndCountsEachNameSaid : Prop := fnGroupCountAddsOverAnyCutAndCountsEachNameRow.holds Try.pinned (OpenSpec.ofChange fnGroupCountAddsOverAnyCutAndCountsEachNameSpec)

/-- ITS FALSE NEIGHBOUR: 'it returns false'. Refute it at one input. -/
def fnGroupCountAddsOverAnyCutAndCountsEachNameWrong : ChangeSpec := { name := "fnGroupCountAddsOverAnyCutAndCountsEachName", fn := fun _ => fun
  | [d1, d2, d3, d4, d5, d6, d7] => { results := [.lit (.bool false)], args := [d1, d2, d3, d4, d5, d6, d7] }
  | _ => none }
def FnGroupCountAddsOverAnyCutAndCountsEachNameWrongFalsely : Prop := fnGroupCountAddsOverAnyCutAndCountsEachNameRow.holds Try.pinned (OpenSpec.ofChange fnGroupCountAddsOverAnyCutAndCountsEachNameWrong)

end Rows
end Go.Proofs.Qxb6617126a
