/-
  No cell of these rows narrows 'for every input' (looked for: loops, veiled, ifaces, maps, wideKeys, modest, calm, conditions, laid).
  DERIVED. THE GIVEN ROWS OF THIS SEAT. 5 by the template 'for every input the law returns true; each argument reads behind the call as it read before'; 0 by the template 'total and deterministic' (their statements: Qxb6612291aTotals.lean).
  GIVEN WITH THE SEED: the statements are not yours to turn. If you find one false, say at which input.
  Laid BY PROGRAM, IN A SANDBOX (cutbox-rows.mjs): the forced cells as the released guide's own fill.sh prints them over the translation 26f9b80fc7412619… (all of the seat's roots in one cut). By AI agents, Wed Nov 11 2026. No macro, syntax, notation, axiom, sorry.
-/
import Derived.Test.Qxb6612291aChecked
import GoSem.Claim
import GoSem.ClaimJoined
import GoSem.ClaimMapViews
import Derived.JoinedTies
import Derived.KernelRfl
namespace Go.Proofs.Qxb6612291a
/- THE CELL 'sum', in the pinned program and in every row, IS THE sha256 OF THE DUMP (.gsa) THAT Qxb6612291aProg.lean LOADS. Nothing in Lean hashes anything: it is a label: what it is worth is what the hold of that sum in a sandbox is worth. -/
noncomputable def Try.pinned : Pinned := { name := "qxb6612291a", sum := "26f9b80fc74126191b798e51258fe93014a92d94f3de5ba370a52063369519d4", checked := Try.checked }
namespace Rows
def none {H : Type} : Left H := { results := [], args := [] }

/-- 'zzlaws_internal_order_b1.FnIsBlankIsHorizontalASCIISpace': WHATEVER THE INPUT: true; the input reads as it did. -/
def fnIsBlankIsHorizontalASCIISpaceSpec : ChangeSpec := { name := "fnIsBlankIsHorizontalASCIISpace", fn := fun _ => fun
  | [d] => { results := [.lit (.bool true)], args := [d] }
  | _ => none }
def fnIsBlankIsHorizontalASCIISpaceRow : OpenClaim := { program := "qxb6612291a", sum := "26f9b80fc74126191b798e51258fe93014a92d94f3de5ba370a52063369519d4", func := "example.com/muster/muster/zzlaws_internal_order_b1.FnIsBlankIsHorizontalASCIISpace", spec := "fnIsBlankIsHorizontalASCIISpace", apart := false }
def FnIsBlankIsHorizontalASCIISpaceSaid : Prop := fnIsBlankIsHorizontalASCIISpaceRow.holds Try.pinned (OpenSpec.ofChange fnIsBlankIsHorizontalASCIISpaceSpec)

/-- ITS FALSE NEIGHBOUR: 'it returns false'. Refute it at one input. -/
def fnIsBlankIsHorizontalASCIISpaceWrong : ChangeSpec := { name := "fnIsBlankIsHorizontalASCIISpace", fn := fun _ => fun
  | [d] => { results := [.lit (.bool false)], args := [d] }
  | _ => none }
def FnIsBlankIsHorizontalASCIISpaceWrongFalsely : Prop := fnIsBlankIsHorizontalASCIISpaceRow.holds Try.pinned (OpenSpec.ofChange fnIsBlankIsHorizontalASCIISpaceWrong)

/-- 'zzlaws_internal_order_b1.FnIsBlankCountMatchesByteScan': WHATEVER THE INPUT: true; the input reads as it did. -/
def fnIsBlankCountMatchesByteScanSpec : ChangeSpec := { name := "fnIsBlankCountMatchesByteScan", fn := fun _ => fun
  | [d] => { results := [.lit (.bool true)], args := [d] }
  | _ => none }
def fnIsBlankCountMatchesByteScanRow : OpenClaim := { program := "qxb6612291a", sum := "26f9b80fc74126191b798e51258fe93014a92d94f3de5ba370a52063369519d4", func := "example.com/muster/muster/zzlaws_internal_order_b1.FnIsBlankCountMatchesByteScan", spec := "fnIsBlankCountMatchesByteScan", apart := false }
def FnIsBlankCountMatchesByteScanSaid : Prop := fnIsBlankCountMatchesByteScanRow.holds Try.pinned (OpenSpec.ofChange fnIsBlankCountMatchesByteScanSpec)

/-- ITS FALSE NEIGHBOUR: 'it returns false'. Refute it at one input. -/
def fnIsBlankCountMatchesByteScanWrong : ChangeSpec := { name := "fnIsBlankCountMatchesByteScan", fn := fun _ => fun
  | [d] => { results := [.lit (.bool false)], args := [d] }
  | _ => none }
def FnIsBlankCountMatchesByteScanWrongFalsely : Prop := fnIsBlankCountMatchesByteScanRow.holds Try.pinned (OpenSpec.ofChange fnIsBlankCountMatchesByteScanWrong)

/-- 'zzlaws_internal_order_b1.FnSwapTransposesTwoCells': WHATEVER THE INPUT: true; the input reads as it did. -/
def fnSwapTransposesTwoCellsSpec : ChangeSpec := { name := "fnSwapTransposesTwoCells", fn := fun _ => fun
  | [d1, d2, d3] => { results := [.lit (.bool true)], args := [d1, d2, d3] }
  | _ => none }
def fnSwapTransposesTwoCellsRow : OpenClaim := { program := "qxb6612291a", sum := "26f9b80fc74126191b798e51258fe93014a92d94f3de5ba370a52063369519d4", func := "example.com/muster/muster/zzlaws_internal_order_b1.FnSwapTransposesTwoCells", spec := "fnSwapTransposesTwoCells", apart := false }
def FnSwapTransposesTwoCellsSaid : Prop := fnSwapTransposesTwoCellsRow.holds Try.pinned (OpenSpec.ofChange fnSwapTransposesTwoCellsSpec)

/-- ITS FALSE NEIGHBOUR: 'it returns false'. Refute it at one input. -/
def fnSwapTransposesTwoCellsWrong : ChangeSpec := { name := "fnSwapTransposesTwoCells", fn := fun _ => fun
  | [d1, d2, d3] => { results := [.lit (.bool false)], args := [d1, d2, d3] }
  | _ => none }
def FnSwapTransposesTwoCellsWrongFalsely : Prop := fnSwapTransposesTwoCellsRow.holds Try.pinned (OpenSpec.ofChange fnSwapTransposesTwoCellsWrong)

/-- 'zzlaws_internal_order_b1.FnPushScriptConcatenates': WHATEVER THE INPUT: true; the input reads as it did. -/
def fnPushScriptConcatenatesSpec : ChangeSpec := { name := "fnPushScriptConcatenates", fn := fun _ => fun
  | [d1, d2] => { results := [.lit (.bool true)], args := [d1, d2] }
  | _ => none }
def fnPushScriptConcatenatesRow : OpenClaim := { program := "qxb6612291a", sum := "26f9b80fc74126191b798e51258fe93014a92d94f3de5ba370a52063369519d4", func := "example.com/muster/muster/zzlaws_internal_order_b1.FnPushScriptConcatenates", spec := "fnPushScriptConcatenates", apart := false }
def FnPushScriptConcatenatesSaid : Prop := fnPushScriptConcatenatesRow.holds Try.pinned (OpenSpec.ofChange fnPushScriptConcatenatesSpec)

/-- ITS FALSE NEIGHBOUR: 'it returns false'. Refute it at one input. -/
def fnPushScriptConcatenatesWrong : ChangeSpec := { name := "fnPushScriptConcatenates", fn := fun _ => fun
  | [d1, d2] => { results := [.lit (.bool false)], args := [d1, d2] }
  | _ => none }
def FnPushScriptConcatenatesWrongFalsely : Prop := fnPushScriptConcatenatesRow.holds Try.pinned (OpenSpec.ofChange fnPushScriptConcatenatesWrong)

/-- 'zzlaws_internal_order_b1.FnPushThenPopRoundTrip': WHATEVER THE INPUT: true; the input reads as it did. -/
def fnPushThenPopRoundTripSpec : ChangeSpec := { name := "fnPushThenPopRoundTrip", fn := fun _ => fun
  | [d1, d2] => { results := [.lit (.bool true)], args := [d1, d2] }
  | _ => none }
def fnPushThenPopRoundTripRow : OpenClaim := { program := "qxb6612291a", sum := "26f9b80fc74126191b798e51258fe93014a92d94f3de5ba370a52063369519d4", func := "example.com/muster/muster/zzlaws_internal_order_b1.FnPushThenPopRoundTrip", spec := "fnPushThenPopRoundTrip", apart := false }
def FnPushThenPopRoundTripSaid : Prop := fnPushThenPopRoundTripRow.holds Try.pinned (OpenSpec.ofChange fnPushThenPopRoundTripSpec)

/-- ITS FALSE NEIGHBOUR: 'it returns false'. Refute it at one input. -/
def fnPushThenPopRoundTripWrong : ChangeSpec := { name := "fnPushThenPopRoundTrip", fn := fun _ => fun
  | [d1, d2] => { results := [.lit (.bool false)], args := [d1, d2] }
  | _ => none }
def FnPushThenPopRoundTripWrongFalsely : Prop := fnPushThenPopRoundTripRow.holds Try.pinned (OpenSpec.ofChange fnPushThenPopRoundTripWrong)

end Rows
end Go.Proofs.Qxb6612291a
