/-
  No cell of these rows narrows 'for every input' (looked for: loops, veiled, ifaces, maps, wideKeys, modest, calm, conditions, laid).
  DERIVED. THE GIVEN ROWS OF THIS SEAT. 3 by the template 'for every input the law returns true; each argument reads behind the call as it read before'; 0 by the template 'total and deterministic' (their statements: Qxb6612529aFmtTotals.lean).
  GIVEN WITH THE SEED: the statements are not yours to turn. If you find one false, say at which input.
  Laid BY PROGRAM, IN A SANDBOX (cutbox-rows.mjs): the forced cells as the released guide's own fill.sh prints them over the translation 0614167575b36dbd… (all of the seat's roots in one cut). By AI agents, Wed Nov 11 2026. No macro, syntax, notation, axiom, sorry.
-/
import Derived.Test.Qxb6612529aFmtChecked
import GoSem.Claim
import GoSem.ClaimJoined
import GoSem.ClaimMapViews
import Derived.JoinedTies
import Derived.KernelRfl
namespace Go.Proofs.Qxb6612529aFmt
/- THE CELL 'sum', in the pinned program and in every row, IS THE sha256 OF THE DUMP (.gsa) THAT Qxb6612529aFmtProg.lean LOADS. Nothing in Lean hashes anything: it is a label: what it is worth is what the hold of that sum in a sandbox is worth. -/
noncomputable def Tryf.pinned : Pinned := { name := "qxb6612529afmt", sum := "0614167575b36dbdc52c1cceeb4dc8ccad55df774d5756b96e66b5266fce61ec", checked := Tryf.checked }
namespace Rows
def none {H : Type} : Left H := { results := [], args := [] }

/-- 'zzlaws_pkg_terms_b1.FnSyntaxErrorTextReadsBack': WHATEVER THE INPUT: true; the input reads as it did. -/
def fnSyntaxErrorTextReadsBackSpec : ChangeSpec := { name := "fnSyntaxErrorTextReadsBack", fn := fun _ => fun
  | [d1, d2] => { results := [.lit (.bool true)], args := [d1, d2] }
  | _ => none }
def fnSyntaxErrorTextReadsBackRow : OpenClaim := { program := "qxb6612529afmt", sum := "0614167575b36dbdc52c1cceeb4dc8ccad55df774d5756b96e66b5266fce61ec", func := "example.com/tuoguan/tuoguan/zzlaws_pkg_terms_b1.FnSyntaxErrorTextReadsBack", spec := "fnSyntaxErrorTextReadsBack", stops := ["fmt.Sprintf, its operands' methods called"], inPlace := ["fmt.Sprintf"], unfollowed := true, recurses := true, apart := false }
/-- NO THEOREM (fmt's text is open here; it may be false): for the released tool's asking of the row's closed facts alone. THE STATEMENT IS 'FnSyntaxErrorTextReadsBackToldSaid' (Qxb6612529aFmtCards.lean). -/
def FnSyntaxErrorTextReadsBackFormAsk : Prop := fnSyntaxErrorTextReadsBackRow.holds Tryf.pinned (OpenSpec.ofChange fnSyntaxErrorTextReadsBackSpec)

/-- ITS FALSE NEIGHBOUR: 'it returns false'. Refute it at one input. -/
def fnSyntaxErrorTextReadsBackWrong : ChangeSpec := { name := "fnSyntaxErrorTextReadsBack", fn := fun _ => fun
  | [d1, d2] => { results := [.lit (.bool false)], args := [d1, d2] }
  | _ => none }
def FnSyntaxErrorTextReadsBackWrongFormAsk : Prop := fnSyntaxErrorTextReadsBackRow.holds Tryf.pinned (OpenSpec.ofChange fnSyntaxErrorTextReadsBackWrong)

/-- 'zzlaws_pkg_terms_b1.FnEndOfEntryStopsWhereFlowSpaceEnds': WHATEVER THE INPUT: true; the input reads as it did. -/
def fnEndOfEntryStopsWhereFlowSpaceEndsSpec : ChangeSpec := { name := "fnEndOfEntryStopsWhereFlowSpaceEnds", fn := fun _ => fun
  | [d1, d2, d3, d4, d5] => { results := [.lit (.bool true)], args := [d1, d2, d3, d4, d5] }
  | _ => none }
def fnEndOfEntryStopsWhereFlowSpaceEndsRow : OpenClaim := { program := "qxb6612529afmt", sum := "0614167575b36dbdc52c1cceeb4dc8ccad55df774d5756b96e66b5266fce61ec", func := "example.com/tuoguan/tuoguan/zzlaws_pkg_terms_b1.FnEndOfEntryStopsWhereFlowSpaceEnds", spec := "fnEndOfEntryStopsWhereFlowSpaceEnds", stops := ["fmt.Sprintf, its operands' methods called"], inPlace := ["fmt.Sprintf"], unfollowed := true, recurses := true, apart := false }
/-- NO THEOREM (fmt's text is open here; it may be false): for the released tool's asking of the row's closed facts alone. THE STATEMENT IS 'FnEndOfEntryStopsWhereFlowSpaceEndsToldSaid' (Qxb6612529aFmtCards.lean). -/
def FnEndOfEntryStopsWhereFlowSpaceEndsFormAsk : Prop := fnEndOfEntryStopsWhereFlowSpaceEndsRow.holds Tryf.pinned (OpenSpec.ofChange fnEndOfEntryStopsWhereFlowSpaceEndsSpec)

/-- ITS FALSE NEIGHBOUR: 'it returns false'. Refute it at one input. -/
def fnEndOfEntryStopsWhereFlowSpaceEndsWrong : ChangeSpec := { name := "fnEndOfEntryStopsWhereFlowSpaceEnds", fn := fun _ => fun
  | [d1, d2, d3, d4, d5] => { results := [.lit (.bool false)], args := [d1, d2, d3, d4, d5] }
  | _ => none }
def FnEndOfEntryStopsWhereFlowSpaceEndsWrongFormAsk : Prop := fnEndOfEntryStopsWhereFlowSpaceEndsRow.holds Tryf.pinned (OpenSpec.ofChange fnEndOfEntryStopsWhereFlowSpaceEndsWrong)

/-- 'zzlaws_pkg_terms_b1.FnEndOfEntryBookkeepingMatchesPassedText': WHATEVER THE INPUT: true; the input reads as it did. -/
def fnEndOfEntryBookkeepingMatchesPassedTextSpec : ChangeSpec := { name := "fnEndOfEntryBookkeepingMatchesPassedText", fn := fun _ => fun
  | [d1, d2, d3, d4, d5] => { results := [.lit (.bool true)], args := [d1, d2, d3, d4, d5] }
  | _ => none }
def fnEndOfEntryBookkeepingMatchesPassedTextRow : OpenClaim := { program := "qxb6612529afmt", sum := "0614167575b36dbdc52c1cceeb4dc8ccad55df774d5756b96e66b5266fce61ec", func := "example.com/tuoguan/tuoguan/zzlaws_pkg_terms_b1.FnEndOfEntryBookkeepingMatchesPassedText", spec := "fnEndOfEntryBookkeepingMatchesPassedText", stops := ["fmt.Sprintf, its operands' methods called"], inPlace := ["fmt.Sprintf"], unfollowed := true, recurses := true, apart := false }
/-- NO THEOREM (fmt's text is open here; it may be false): for the released tool's asking of the row's closed facts alone. THE STATEMENT IS 'FnEndOfEntryBookkeepingMatchesPassedTextToldSaid' (Qxb6612529aFmtCards.lean). -/
def FnEndOfEntryBookkeepingMatchesPassedTextFormAsk : Prop := fnEndOfEntryBookkeepingMatchesPassedTextRow.holds Tryf.pinned (OpenSpec.ofChange fnEndOfEntryBookkeepingMatchesPassedTextSpec)

/-- ITS FALSE NEIGHBOUR: 'it returns false'. Refute it at one input. -/
def fnEndOfEntryBookkeepingMatchesPassedTextWrong : ChangeSpec := { name := "fnEndOfEntryBookkeepingMatchesPassedText", fn := fun _ => fun
  | [d1, d2, d3, d4, d5] => { results := [.lit (.bool false)], args := [d1, d2, d3, d4, d5] }
  | _ => none }
def FnEndOfEntryBookkeepingMatchesPassedTextWrongFormAsk : Prop := fnEndOfEntryBookkeepingMatchesPassedTextRow.holds Tryf.pinned (OpenSpec.ofChange fnEndOfEntryBookkeepingMatchesPassedTextWrong)

end Rows
end Go.Proofs.Qxb6612529aFmt
