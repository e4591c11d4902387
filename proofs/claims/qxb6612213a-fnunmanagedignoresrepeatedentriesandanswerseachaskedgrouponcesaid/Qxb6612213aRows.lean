/-
  No cell of these rows narrows 'for every input' (looked for: loops, veiled, ifaces, maps, wideKeys, modest, calm, conditions, laid).
  DERIVED. THE GIVEN ROWS OF THIS SEAT. 2 by the template 'for every input the law returns true; each argument reads behind the call as it read before'; 0 by the template 'total and deterministic' (their statements: Qxb6612213aTotals.lean).
  GIVEN WITH THE SEED: the statements are not yours to turn. If you find one false, say at which input.
  Laid BY PROGRAM, IN A SANDBOX (cutbox-rows.mjs): the forced cells as the released guide's own fill.sh prints them over the translation a7f4c00dee5d5d64… (all of the seat's roots in one cut). By AI agents, Wed Nov 11 2026. No macro, syntax, notation, axiom, sorry.
-/
import Derived.Test.Qxb6612213aChecked
import GoSem.Claim
import GoSem.ClaimJoined
import GoSem.ClaimMapViews
import Derived.JoinedTies
import Derived.KernelRfl
namespace Go.Proofs.Qxb6612213a
/- THE CELL 'sum', in the pinned program and in every row, IS THE sha256 OF THE DUMP (.gsa) THAT Qxb6612213aProg.lean LOADS. Nothing in Lean hashes anything: it is a label: what it is worth is what the hold of that sum in a sandbox is worth. -/
noncomputable def Try.pinned : Pinned := { name := "qxb6612213a", sum := "a7f4c00dee5d5d64a8ec6e66aa50e8da92e20f7dc783c5a00676e87934f9d64b", checked := Try.checked }
namespace Rows
def none {H : Type} : Left H := { results := [], args := [] }

/-- 'zzlaws_charging_b1.FnUnmanagedAnswersTheFirstAskOfEachRatingGroupInOrder': WHATEVER THE INPUT: true; the input reads as it did. -/
def fnUnmanagedAnswersTheFirstAskOfEachRatingGroupInOrderSpec : ChangeSpec := { name := "fnUnmanagedAnswersTheFirstAskOfEachRatingGroupInOrder", fn := fun _ => fun
  | [d] => { results := [.lit (.bool true)], args := [d] }
  | _ => none }
def fnUnmanagedAnswersTheFirstAskOfEachRatingGroupInOrderRow : OpenClaim := { program := "qxb6612213a", sum := "a7f4c00dee5d5d64a8ec6e66aa50e8da92e20f7dc783c5a00676e87934f9d64b", func := "example.com/tallywire/tallywire/zzlaws_charging_b1.FnUnmanagedAnswersTheFirstAskOfEachRatingGroupInOrder", spec := "fnUnmanagedAnswersTheFirstAskOfEachRatingGroupInOrder", apart := false }
def FnUnmanagedAnswersTheFirstAskOfEachRatingGroupInOrderSaid : Prop := fnUnmanagedAnswersTheFirstAskOfEachRatingGroupInOrderRow.holds Try.pinned (OpenSpec.ofChange fnUnmanagedAnswersTheFirstAskOfEachRatingGroupInOrderSpec)

/-- ITS FALSE NEIGHBOUR: 'it returns false'. Refute it at one input. -/
def fnUnmanagedAnswersTheFirstAskOfEachRatingGroupInOrderWrong : ChangeSpec := { name := "fnUnmanagedAnswersTheFirstAskOfEachRatingGroupInOrder", fn := fun _ => fun
  | [d] => { results := [.lit (.bool false)], args := [d] }
  | _ => none }
def FnUnmanagedAnswersTheFirstAskOfEachRatingGroupInOrderWrongFalsely : Prop := fnUnmanagedAnswersTheFirstAskOfEachRatingGroupInOrderRow.holds Try.pinned (OpenSpec.ofChange fnUnmanagedAnswersTheFirstAskOfEachRatingGroupInOrderWrong)

/-- 'zzlaws_charging_b1.FnUnmanagedIgnoresRepeatedEntriesAndAnswersEachAskedGroupOnce': WHATEVER THE INPUT: true; the input reads as it did. -/
def fnUnmanagedIgnoresRepeatedEntriesAndAnswersEachAskedGroupOnceSpec : ChangeSpec := { name := "fnUnmanagedIgnoresRepeatedEntriesAndAnswersEachAskedGroupOnce", fn := fun _ => fun
  | [d] => { results := [.lit (.bool true)], args := [d] }
  | _ => none }
def fnUnmanagedIgnoresRepeatedEntriesAndAnswersEachAskedGroupOnceRow : OpenClaim := { program := "qxb6612213a", sum := "a7f4c00dee5d5d64a8ec6e66aa50e8da92e20f7dc783c5a00676e87934f9d64b", func := "example.com/tallywire/tallywire/zzlaws_charging_b1.FnUnmanagedIgnoresRepeatedEntriesAndAnswersEachAskedGroupOnce", spec := "fnUnmanagedIgnoresRepeatedEntriesAndAnswersEachAskedGroupOnce", apart := false }
def FnUnmanagedIgnoresRepeatedEntriesAndAnswersEachAskedGroupOnceSaid : Prop := fnUnmanagedIgnoresRepeatedEntriesAndAnswersEachAskedGroupOnceRow.holds Try.pinned (OpenSpec.ofChange fnUnmanagedIgnoresRepeatedEntriesAndAnswersEachAskedGroupOnceSpec)

/-- ITS FALSE NEIGHBOUR: 'it returns false'. Refute it at one input. -/
def fnUnmanagedIgnoresRepeatedEntriesAndAnswersEachAskedGroupOnceWrong : ChangeSpec := { name := "fnUnmanagedIgnoresRepeatedEntriesAndAnswersEachAskedGroupOnce", fn := fun _ => fun
  | [d] => { results := [.lit (.bool false)], args := [d] }
  | _ => none }
def FnUnmanagedIgnoresRepeatedEntriesAndAnswersEachAskedGroupOnceWrongFalsely : Prop := fnUnmanagedIgnoresRepeatedEntriesAndAnswersEachAskedGroupOnceRow.holds Try.pinned (OpenSpec.ofChange fnUnmanagedIgnoresRepeatedEntriesAndAnswersEachAskedGroupOnceWrong)

end Rows
end Go.Proofs.Qxb6612213a
