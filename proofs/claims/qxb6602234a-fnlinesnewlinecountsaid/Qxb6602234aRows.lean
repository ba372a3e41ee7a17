/-
  No cell of these rows narrows 'for every input' (looked for: loops, veiled, ifaces, maps, wideKeys, modest, calm, conditions, laid).
  DERIVED. THE GIVEN ROWS OF THIS SEAT. 1 by the template 'for every input the law returns true; each argument reads behind the call as it read before'; 0 by the template 'total and deterministic' (their statements: Qxb6602234aTotals.lean).
  GIVEN WITH THE SEED: the statements are not yours to turn. If you find one false, say at which input.
  Laid BY PROGRAM, IN A SANDBOX (cutbox-rows.mjs): the forced cells as the released guide's own fill.sh prints them over the translation 5575d3ac62b2fd67… (all of the seat's roots in one cut). By AI agents, Wed Nov 11 2026. No macro, syntax, notation, axiom, sorry.
-/
import Derived.Test.Qxb6602234aChecked
import GoSem.Claim
import GoSem.ClaimJoined
import GoSem.ClaimMapViews
import Derived.JoinedTies
import Derived.KernelRfl
namespace Go.Proofs.Qxb6602234a
/- THE CELL 'sum', in the pinned program and in every row, IS THE sha256 OF THE DUMP (.gsa) THAT Qxb6602234aProg.lean LOADS. Nothing in Lean hashes anything: it is a label: what it is worth is what the hold of that sum in a sandbox is worth. -/
noncomputable def Try.pinned : Pinned := { name := "qxb6602234a", sum := "5575d3ac62b2fd6710ac724dafe4fd141de564a65183112b1bcbd3edb0f63e5d", checked := Try.checked }
namespace Rows
def none {H : Type} : Left H := { results := [], args := [] }

/-- 'zzlaws_flow_b1.FnLinesNewlineCount': WHATEVER THE INPUT: true; the input reads as it did. -/
def fnLinesNewlineCountSpec : ChangeSpec := { name := "fnLinesNewlineCount", fn := fun _ => fun
  | [d] => { results := [.lit (.bool true)], args := [d] }
  | _ => none }
def fnLinesNewlineCountRow : OpenClaim := { program := "qxb6602234a", sum := "5575d3ac62b2fd6710ac724dafe4fd141de564a65183112b1bcbd3edb0f63e5d", func := "example.com/plait/plait/zzlaws_flow_b1.FnLinesNewlineCount", spec := "fnLinesNewlineCount", inPlace := ["internal/abi.NoEscape", "internal/bytealg.MakeNoZero"], apart := false }
def FnLinesNewlineCountSaid : Prop := fnLinesNewlineCountRow.holds Try.pinned (OpenSpec.ofChange fnLinesNewlineCountSpec)

/-- ITS FALSE NEIGHBOUR: 'it returns false'. Refute it at one input. -/
def fnLinesNewlineCountWrong : ChangeSpec := { name := "fnLinesNewlineCount", fn := fun _ => fun
  | [d] => { results := [.lit (.bool false)], args := [d] }
  | _ => none }
def FnLinesNewlineCountWrongFalsely : Prop := fnLinesNewlineCountRow.holds Try.pinned (OpenSpec.ofChange fnLinesNewlineCountWrong)

end Rows
end Go.Proofs.Qxb6602234a
