/-
  NARROWER THAN 'FOR EVERY INPUT', by the rows' own cells (each row's printed sentence says how): FnLedgerLastConvictionsOnlyDrop: maps.
  DERIVED. THE GIVEN ROWS OF THIS SEAT. 4 by the template 'for every input the law returns true; each argument reads behind the call as it read before'; 0 by the template 'total and deterministic' (their statements: Qxb6602208aTotals.lean).
  GIVEN WITH THE SEED: the statements are not yours to turn. If you find one false, say at which input.
  Laid BY PROGRAM, IN A SANDBOX (cutbox-rows.mjs): the forced cells as the released guide's own fill.sh prints them over the translation b6bc5b49e9552143… (all of the seat's roots in one cut). By AI agents, Wed Nov 11 2026. No macro, syntax, notation, axiom, sorry.
-/
import Derived.Test.Qxb6602208aChecked
import GoSem.Claim
import GoSem.ClaimJoined
import GoSem.ClaimMapViews
import Derived.JoinedTies
import Derived.KernelRfl
namespace Go.Proofs.Qxb6602208a
/- THE CELL 'sum', in the pinned program and in every row, IS THE sha256 OF THE DUMP (.gsa) THAT Qxb6602208aProg.lean LOADS. Nothing in Lean hashes anything: it is a label: what it is worth is what the hold of that sum in a sandbox is worth. -/
noncomputable def Try.pinned : Pinned := { name := "qxb6602208a", sum := "b6bc5b49e9552143331760f94b02f79eda4e0d81d883de07bc2f9eba9316fc79", checked := Try.checked }
namespace Rows
def none {H : Type} : Left H := { results := [], args := [] }

/-- 'zzlaws_root_b1.FnGroupOfMonotone': WHATEVER THE INPUT: true; the input reads as it did. -/
def fnGroupOfMonotoneSpec : ChangeSpec := { name := "fnGroupOfMonotone", fn := fun _ => fun
  | [d1, d2] => { results := [.lit (.bool true)], args := [d1, d2] }
  | _ => none }
def fnGroupOfMonotoneRow : OpenClaim := { program := "qxb6602208a", sum := "b6bc5b49e9552143331760f94b02f79eda4e0d81d883de07bc2f9eba9316fc79", func := "example.com/credence/credence/zzlaws_root_b1.FnGroupOfMonotone", spec := "fnGroupOfMonotone", apart := false }
def FnGroupOfMonotoneSaid : Prop := fnGroupOfMonotoneRow.holds Try.pinned (OpenSpec.ofChange fnGroupOfMonotoneSpec)

/-- ITS FALSE NEIGHBOUR: 'it returns false'. Refute it at one input. -/
def fnGroupOfMonotoneWrong : ChangeSpec := { name := "fnGroupOfMonotone", fn := fun _ => fun
  | [d1, d2] => { results := [.lit (.bool false)], args := [d1, d2] }
  | _ => none }
def FnGroupOfMonotoneWrongFalsely : Prop := fnGroupOfMonotoneRow.holds Try.pinned (OpenSpec.ofChange fnGroupOfMonotoneWrong)

/-- 'zzlaws_root_b1.FnDecoderFixedWhole': WHATEVER THE INPUT: true; the input reads as it did. -/
def fnDecoderFixedWholeSpec : ChangeSpec := { name := "fnDecoderFixedWhole", fn := fun _ => fun
  | [d1, d2, d3] => { results := [.lit (.bool true)], args := [d1, d2, d3] }
  | _ => none }
def fnDecoderFixedWholeRow : OpenClaim := { program := "qxb6602208a", sum := "b6bc5b49e9552143331760f94b02f79eda4e0d81d883de07bc2f9eba9316fc79", func := "example.com/credence/credence/zzlaws_root_b1.FnDecoderFixedWhole", spec := "fnDecoderFixedWhole", apart := false }
def FnDecoderFixedWholeSaid : Prop := fnDecoderFixedWholeRow.holds Try.pinned (OpenSpec.ofChange fnDecoderFixedWholeSpec)

/-- ITS FALSE NEIGHBOUR: 'it returns false'. Refute it at one input. -/
def fnDecoderFixedWholeWrong : ChangeSpec := { name := "fnDecoderFixedWhole", fn := fun _ => fun
  | [d1, d2, d3] => { results := [.lit (.bool false)], args := [d1, d2, d3] }
  | _ => none }
def FnDecoderFixedWholeWrongFalsely : Prop := fnDecoderFixedWholeRow.holds Try.pinned (OpenSpec.ofChange fnDecoderFixedWholeWrong)

/-- 'zzlaws_root_b1.FnDecoderFixedSplit': WHATEVER THE INPUT: true; the input reads as it did. -/
def fnDecoderFixedSplitSpec : ChangeSpec := { name := "fnDecoderFixedSplit", fn := fun _ => fun
  | [d1, d2, d3, d4] => { results := [.lit (.bool true)], args := [d1, d2, d3, d4] }
  | _ => none }
def fnDecoderFixedSplitRow : OpenClaim := { program := "qxb6602208a", sum := "b6bc5b49e9552143331760f94b02f79eda4e0d81d883de07bc2f9eba9316fc79", func := "example.com/credence/credence/zzlaws_root_b1.FnDecoderFixedSplit", spec := "fnDecoderFixedSplit", apart := false }
def FnDecoderFixedSplitSaid : Prop := fnDecoderFixedSplitRow.holds Try.pinned (OpenSpec.ofChange fnDecoderFixedSplitSpec)

/-- ITS FALSE NEIGHBOUR: 'it returns false'. Refute it at one input. -/
def fnDecoderFixedSplitWrong : ChangeSpec := { name := "fnDecoderFixedSplit", fn := fun _ => fun
  | [d1, d2, d3, d4] => { results := [.lit (.bool false)], args := [d1, d2, d3, d4] }
  | _ => none }
def FnDecoderFixedSplitWrongFalsely : Prop := fnDecoderFixedSplitRow.holds Try.pinned (OpenSpec.ofChange fnDecoderFixedSplitWrong)

/-- 'zzlaws_root_b1.FnLedgerLastConvictionsOnlyDrop': WHATEVER THE INPUT: true; the input reads as it did. -/
def fnLedgerLastConvictionsOnlyDropSpec : ChangeSpec := { name := "fnLedgerLastConvictionsOnlyDrop", fn := fun _ => fun
  | [d1, d2, d3, d4, d5, d6] => { results := [.lit (.bool true)], args := [d1, d2, d3, d4, d5, d6] }
  | _ => none }
def fnLedgerLastConvictionsOnlyDropRow : OpenClaim := { program := "qxb6602208a", sum := "b6bc5b49e9552143331760f94b02f79eda4e0d81d883de07bc2f9eba9316fc79", func := "example.com/credence/credence/zzlaws_root_b1.FnLedgerLastConvictionsOnlyDrop", spec := "fnLedgerLastConvictionsOnlyDrop", maps := true, apart := false }
def FnLedgerLastConvictionsOnlyDropSaid : Prop := fnLedgerLastConvictionsOnlyDropRow.holds Try.pinned (OpenSpec.ofChange fnLedgerLastConvictionsOnlyDropSpec)

/-- ITS FALSE NEIGHBOUR: 'it returns false'. Refute it at one input. -/
def fnLedgerLastConvictionsOnlyDropWrong : ChangeSpec := { name := "fnLedgerLastConvictionsOnlyDrop", fn := fun _ => fun
  | [d1, d2, d3, d4, d5, d6] => { results := [.lit (.bool false)], args := [d1, d2, d3, d4, d5, d6] }
  | _ => none }
def FnLedgerLastConvictionsOnlyDropWrongFalsely : Prop := fnLedgerLastConvictionsOnlyDropRow.holds Try.pinned (OpenSpec.ofChange fnLedgerLastConvictionsOnlyDropWrong)

end Rows
end Go.Proofs.Qxb6602208a
