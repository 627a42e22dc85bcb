/-
  No cell of these rows narrows 'for every input' (looked for: loops, veiled, ifaces, maps, wideKeys, modest, calm, conditions, laid).
  DERIVED. THE GIVEN ROWS OF THIS SEAT. 4 by the template 'for every input the law returns true; each argument reads behind the call as it read before'; 0 by the template 'total and deterministic' (their statements: Qxb6603262aTotals.lean).
  GIVEN WITH THE SEED: the statements are not yours to turn. If you find one false, say at which input.
  Laid BY PROGRAM, IN A SANDBOX (cutbox-rows.mjs): the forced cells as the released guide's own fill.sh prints them over the translation c22aff284adba454… (all of the seat's roots in one cut). By AI agents, Wed Nov 11 2026. No macro, syntax, notation, axiom, sorry.
-/
import Derived.Test.Qxb6603262aChecked
import GoSem.Claim
import GoSem.ClaimJoined
import GoSem.ClaimMapViews
import Derived.JoinedTies
import Derived.KernelRfl
namespace Go.Proofs.Qxb6603262a
/- THE CELL 'sum', in the pinned program and in every row, IS THE sha256 OF THE DUMP (.gsa) THAT Qxb6603262aProg.lean LOADS. Nothing in Lean hashes anything: it is a label: what it is worth is what the hold of that sum in a sandbox is worth. -/
noncomputable def Try.pinned : Pinned := { name := "qxb6603262a", sum := "c22aff284adba454548c53219f01f8c10256c21decd868940122d904a6987561", checked := Try.checked }
namespace Rows
def none {H : Type} : Left H := { results := [], args := [] }

/-- 'zzlaws_internal_jsonvalue_b1.FnHexDigitMatchesTable': WHATEVER THE INPUT: true; the input reads as it did. -/
def fnHexDigitMatchesTableSpec : ChangeSpec := { name := "fnHexDigitMatchesTable", fn := fun _ => fun
  | [d] => { results := [.lit (.bool true)], args := [d] }
  | _ => none }
def fnHexDigitMatchesTableRow : OpenClaim := { program := "qxb6603262a", sum := "c22aff284adba454548c53219f01f8c10256c21decd868940122d904a6987561", func := "example.com/evidra/evidra/zzlaws_internal_jsonvalue_b1.FnHexDigitMatchesTable", spec := "fnHexDigitMatchesTable", apart := false }
def FnHexDigitMatchesTableSaid : Prop := fnHexDigitMatchesTableRow.holds Try.pinned (OpenSpec.ofChange fnHexDigitMatchesTableSpec)

/-- ITS FALSE NEIGHBOUR: 'it returns false'. Refute it at one input. -/
def fnHexDigitMatchesTableWrong : ChangeSpec := { name := "fnHexDigitMatchesTable", fn := fun _ => fun
  | [d] => { results := [.lit (.bool false)], args := [d] }
  | _ => none }
def FnHexDigitMatchesTableWrongFalsely : Prop := fnHexDigitMatchesTableRow.holds Try.pinned (OpenSpec.ofChange fnHexDigitMatchesTableWrong)

/-- 'zzlaws_internal_jsonvalue_b1.FnHexDigitIgnoresCase': WHATEVER THE INPUT: true; the input reads as it did. -/
def fnHexDigitIgnoresCaseSpec : ChangeSpec := { name := "fnHexDigitIgnoresCase", fn := fun _ => fun
  | [d] => { results := [.lit (.bool true)], args := [d] }
  | _ => none }
def fnHexDigitIgnoresCaseRow : OpenClaim := { program := "qxb6603262a", sum := "c22aff284adba454548c53219f01f8c10256c21decd868940122d904a6987561", func := "example.com/evidra/evidra/zzlaws_internal_jsonvalue_b1.FnHexDigitIgnoresCase", spec := "fnHexDigitIgnoresCase", apart := false }
def FnHexDigitIgnoresCaseSaid : Prop := fnHexDigitIgnoresCaseRow.holds Try.pinned (OpenSpec.ofChange fnHexDigitIgnoresCaseSpec)

/-- ITS FALSE NEIGHBOUR: 'it returns false'. Refute it at one input. -/
def fnHexDigitIgnoresCaseWrong : ChangeSpec := { name := "fnHexDigitIgnoresCase", fn := fun _ => fun
  | [d] => { results := [.lit (.bool false)], args := [d] }
  | _ => none }
def FnHexDigitIgnoresCaseWrongFalsely : Prop := fnHexDigitIgnoresCaseRow.holds Try.pinned (OpenSpec.ofChange fnHexDigitIgnoresCaseWrong)

/-- 'zzlaws_internal_jsonvalue_b1.FnHex4MatchesModel': WHATEVER THE INPUT: true; the input reads as it did. -/
def fnHex4MatchesModelSpec : ChangeSpec := { name := "fnHex4MatchesModel", fn := fun _ => fun
  | [d] => { results := [.lit (.bool true)], args := [d] }
  | _ => none }
def fnHex4MatchesModelRow : OpenClaim := { program := "qxb6603262a", sum := "c22aff284adba454548c53219f01f8c10256c21decd868940122d904a6987561", func := "example.com/evidra/evidra/zzlaws_internal_jsonvalue_b1.FnHex4MatchesModel", spec := "fnHex4MatchesModel", apart := false }
def FnHex4MatchesModelSaid : Prop := fnHex4MatchesModelRow.holds Try.pinned (OpenSpec.ofChange fnHex4MatchesModelSpec)

/-- ITS FALSE NEIGHBOUR: 'it returns false'. Refute it at one input. -/
def fnHex4MatchesModelWrong : ChangeSpec := { name := "fnHex4MatchesModel", fn := fun _ => fun
  | [d] => { results := [.lit (.bool false)], args := [d] }
  | _ => none }
def FnHex4MatchesModelWrongFalsely : Prop := fnHex4MatchesModelRow.holds Try.pinned (OpenSpec.ofChange fnHex4MatchesModelWrong)

/-- 'zzlaws_internal_jsonvalue_b1.FnHex4InvertsFormatting': WHATEVER THE INPUT: true; the input reads as it did. -/
def fnHex4InvertsFormattingSpec : ChangeSpec := { name := "fnHex4InvertsFormatting", fn := fun _ => fun
  | [d1, d2, d3] => { results := [.lit (.bool true)], args := [d1, d2, d3] }
  | _ => none }
def fnHex4InvertsFormattingRow : OpenClaim := { program := "qxb6603262a", sum := "c22aff284adba454548c53219f01f8c10256c21decd868940122d904a6987561", func := "example.com/evidra/evidra/zzlaws_internal_jsonvalue_b1.FnHex4InvertsFormatting", spec := "fnHex4InvertsFormatting", apart := false }
def FnHex4InvertsFormattingSaid : Prop := fnHex4InvertsFormattingRow.holds Try.pinned (OpenSpec.ofChange fnHex4InvertsFormattingSpec)

/-- ITS FALSE NEIGHBOUR: 'it returns false'. Refute it at one input. -/
def fnHex4InvertsFormattingWrong : ChangeSpec := { name := "fnHex4InvertsFormatting", fn := fun _ => fun
  | [d1, d2, d3] => { results := [.lit (.bool false)], args := [d1, d2, d3] }
  | _ => none }
def FnHex4InvertsFormattingWrongFalsely : Prop := fnHex4InvertsFormattingRow.holds Try.pinned (OpenSpec.ofChange fnHex4InvertsFormattingWrong)

end Rows
end Go.Proofs.Qxb6603262a
