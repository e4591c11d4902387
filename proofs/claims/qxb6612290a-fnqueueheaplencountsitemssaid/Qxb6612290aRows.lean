/-
  No cell of these rows narrows 'for every input' (looked for: loops, veiled, ifaces, maps, wideKeys, modest, calm, conditions, laid).
  DERIVED. THE GIVEN ROWS OF THIS SEAT. 1 by the template 'for every input the law returns true; each argument reads behind the call as it read before'; 0 by the template 'total and deterministic' (their statements: Qxb6612290aTotals.lean).
  GIVEN WITH THE SEED: the statements are not yours to turn. If you find one false, say at which input.
  Laid BY PROGRAM, IN A SANDBOX (cutbox-rows.mjs): the forced cells as the released guide's own fill.sh prints them over the translation 2d4663cbc8bf8e39… (all of the seat's roots in one cut). By AI agents, Wed Nov 11 2026. No macro, syntax, notation, axiom, sorry.
-/
import Derived.Test.Qxb6612290aChecked
import GoSem.Claim
import GoSem.ClaimJoined
import GoSem.ClaimMapViews
import Derived.JoinedTies
import Derived.KernelRfl
namespace Go.Proofs.Qxb6612290a
/- THE CELL 'sum', in the pinned program and in every row, IS THE sha256 OF THE DUMP (.gsa) THAT Qxb6612290aProg.lean LOADS. Nothing in Lean hashes anything: it is a label: what it is worth is what the hold of that sum in a sandbox is worth. -/
noncomputable def Try.pinned : Pinned := { name := "qxb6612290a", sum := "2d4663cbc8bf8e39c55b00795cb1497660748d4db51c308cdf8dd85343137cad", checked := Try.checked }
namespace Rows
def none {H : Type} : Left H := { results := [], args := [] }

/-- 'zzlaws_internal_clock_b1.FnQueueHeapLenCountsItems': WHATEVER THE INPUT: true; the input reads as it did. -/
def fnQueueHeapLenCountsItemsSpec : ChangeSpec := { name := "fnQueueHeapLenCountsItems", fn := fun _ => fun
  | [d1, d2] => { results := [.lit (.bool true)], args := [d1, d2] }
  | _ => none }
def fnQueueHeapLenCountsItemsRow : OpenClaim := { program := "qxb6612290a", sum := "2d4663cbc8bf8e39c55b00795cb1497660748d4db51c308cdf8dd85343137cad", func := "example.com/tillstone/tillstone/zzlaws_internal_clock_b1.FnQueueHeapLenCountsItems", spec := "fnQueueHeapLenCountsItems", apart := false }
def FnQueueHeapLenCountsItemsSaid : Prop := fnQueueHeapLenCountsItemsRow.holds Try.pinned (OpenSpec.ofChange fnQueueHeapLenCountsItemsSpec)

/-- ITS FALSE NEIGHBOUR: 'it returns false'. Refute it at one input. -/
def fnQueueHeapLenCountsItemsWrong : ChangeSpec := { name := "fnQueueHeapLenCountsItems", fn := fun _ => fun
  | [d1, d2] => { results := [.lit (.bool false)], args := [d1, d2] }
  | _ => none }
def FnQueueHeapLenCountsItemsWrongFalsely : Prop := fnQueueHeapLenCountsItemsRow.holds Try.pinned (OpenSpec.ofChange fnQueueHeapLenCountsItemsWrong)

end Rows
end Go.Proofs.Qxb6612290a
