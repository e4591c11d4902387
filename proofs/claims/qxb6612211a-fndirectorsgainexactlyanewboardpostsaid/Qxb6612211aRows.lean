/-
  No cell of these rows narrows 'for every input' (looked for: loops, veiled, ifaces, maps, wideKeys, modest, calm, conditions, laid).
  DERIVED. THE GIVEN ROWS OF THIS SEAT. 1 by the template 'for every input the law returns true; each argument reads behind the call as it read before'; 0 by the template 'total and deterministic' (their statements: Qxb6612211aTotals.lean).
  GIVEN WITH THE SEED: the statements are not yours to turn. If you find one false, say at which input.
  Laid BY PROGRAM, IN A SANDBOX (cutbox-rows.mjs): the forced cells as the released guide's own fill.sh prints them over the translation f477e08992b3124e… (all of the seat's roots in one cut). By AI agents, Wed Nov 11 2026. No macro, syntax, notation, axiom, sorry.
-/
import Derived.Test.Qxb6612211aChecked
import GoSem.Claim
import GoSem.ClaimJoined
import GoSem.ClaimMapViews
import Derived.JoinedTies
import Derived.KernelRfl
namespace Go.Proofs.Qxb6612211a
/- THE CELL 'sum', in the pinned program and in every row, IS THE sha256 OF THE DUMP (.gsa) THAT Qxb6612211aProg.lean LOADS. Nothing in Lean hashes anything: it is a label: what it is worth is what the hold of that sum in a sandbox is worth. -/
noncomputable def Try.pinned : Pinned := { name := "qxb6612211a", sum := "f477e08992b3124e0009fd0a360dcd725cd54876ee07663f4455e1ddbe95e15b", checked := Try.checked }
namespace Rows
def none {H : Type} : Left H := { results := [], args := [] }

/-- 'zzlaws_pkg_register_b1.FnDirectorsGainExactlyANewBoardPost': WHATEVER THE INPUT: true; the input reads as it did. -/
def fnDirectorsGainExactlyANewBoardPostSpec : ChangeSpec := { name := "fnDirectorsGainExactlyANewBoardPost", fn := fun _ => fun
  | [d1, d2, d3] => { results := [.lit (.bool true)], args := [d1, d2, d3] }
  | _ => none }
def fnDirectorsGainExactlyANewBoardPostRow : OpenClaim := { program := "qxb6612211a", sum := "f477e08992b3124e0009fd0a360dcd725cd54876ee07663f4455e1ddbe95e15b", func := "example.com/ringfence/ringfence/zzlaws_pkg_register_b1.FnDirectorsGainExactlyANewBoardPost", spec := "fnDirectorsGainExactlyANewBoardPost", unfollowed := true, recurses := true, apart := false }
def FnDirectorsGainExactlyANewBoardPostSaid : Prop := fnDirectorsGainExactlyANewBoardPostRow.holds Try.pinned (OpenSpec.ofChange fnDirectorsGainExactlyANewBoardPostSpec)

/-- ITS FALSE NEIGHBOUR: 'it returns false'. Refute it at one input. -/
def fnDirectorsGainExactlyANewBoardPostWrong : ChangeSpec := { name := "fnDirectorsGainExactlyANewBoardPost", fn := fun _ => fun
  | [d1, d2, d3] => { results := [.lit (.bool false)], args := [d1, d2, d3] }
  | _ => none }
def FnDirectorsGainExactlyANewBoardPostWrongFalsely : Prop := fnDirectorsGainExactlyANewBoardPostRow.holds Try.pinned (OpenSpec.ofChange fnDirectorsGainExactlyANewBoardPostWrong)

end Rows
end Go.Proofs.Qxb6612211a
