/-
  No cell of these rows narrows 'for every input' (looked for: loops, veiled, ifaces, maps, wideKeys, modest, calm, conditions, laid).
  DERIVED. THE GIVEN ROWS OF THIS SEAT. 2 by the template 'for every input the law returns true; each argument reads behind the call as it read before'; 0 by the template 'total and deterministic' (their statements: Qxb6630431aFmtTotals.lean).
  GIVEN WITH THE SEED: the statements are not yours to turn. If you find one false, say at which input.
  Laid BY PROGRAM, IN A SANDBOX (cutbox-rows.mjs): the forced cells as the released guide's own fill.sh prints them over the translation 39a22ffb1ef0b3a0… (all of the seat's roots in one cut). By AI agents, Wed Nov 11 2026. No macro, syntax, notation, axiom, sorry.
-/
import Derived.Test.Qxb6630431aFmtChecked
import GoSem.Claim
import GoSem.ClaimJoined
import GoSem.ClaimMapViews
import Derived.JoinedTies
import Derived.KernelRfl
namespace Go.Proofs.Qxb6630431aFmt
/- THE CELL 'sum', in the pinned program and in every row, IS THE sha256 OF THE DUMP (.gsa) THAT Qxb6630431aFmtProg.lean LOADS. Nothing in Lean hashes anything: it is a label: what it is worth is what the hold of that sum in a sandbox is worth. -/
noncomputable def Tryf.pinned : Pinned := { name := "qxb6630431afmt", sum := "39a22ffb1ef0b3a04c2e921bd61786e1b72a06205bf05fe2ce601615d5fdab4e", checked := Tryf.checked }
namespace Rows
def none {H : Type} : Left H := { results := [], args := [] }

/-- 'zzlaws_root_b1.FnUnmarshalTextMatchesCalendarModel': WHATEVER THE INPUT: true; the input reads as it did. -/
def fnUnmarshalTextMatchesCalendarModelSpec : ChangeSpec := { name := "fnUnmarshalTextMatchesCalendarModel", fn := fun _ => fun
  | [d1, d2, d3] => { results := [.lit (.bool true)], args := [d1, d2, d3] }
  | _ => none }
def fnUnmarshalTextMatchesCalendarModelRow : OpenClaim := { program := "qxb6630431afmt", sum := "39a22ffb1ef0b3a04c2e921bd61786e1b72a06205bf05fe2ce601615d5fdab4e", func := "example.com/rikin/rikin/zzlaws_root_b1.FnUnmarshalTextMatchesCalendarModel", spec := "fnUnmarshalTextMatchesCalendarModel", stops := ["fmt.errorf"], inPlace := ["fmt.errorf"], apart := false }
/-- NO THEOREM (fmt's text is open here; it may be false): for the released tool's asking of the row's closed facts alone. THE STATEMENT IS 'FnUnmarshalTextMatchesCalendarModelToldSaid' (Qxb6630431aFmtCards.lean). -/
def FnUnmarshalTextMatchesCalendarModelFormAsk : Prop := fnUnmarshalTextMatchesCalendarModelRow.holds Tryf.pinned (OpenSpec.ofChange fnUnmarshalTextMatchesCalendarModelSpec)

/-- ITS FALSE NEIGHBOUR: 'it returns false'. Refute it at one input. -/
def fnUnmarshalTextMatchesCalendarModelWrong : ChangeSpec := { name := "fnUnmarshalTextMatchesCalendarModel", fn := fun _ => fun
  | [d1, d2, d3] => { results := [.lit (.bool false)], args := [d1, d2, d3] }
  | _ => none }
def FnUnmarshalTextMatchesCalendarModelWrongFormAsk : Prop := fnUnmarshalTextMatchesCalendarModelRow.holds Tryf.pinned (OpenSpec.ofChange fnUnmarshalTextMatchesCalendarModelWrong)

/-- 'zzlaws_root_b1.FnUnmarshalTextKeepsTextOrder': WHATEVER THE INPUT: true; the input reads as it did. -/
def fnUnmarshalTextKeepsTextOrderSpec : ChangeSpec := { name := "fnUnmarshalTextKeepsTextOrder", fn := fun _ => fun
  | [d1, d2] => { results := [.lit (.bool true)], args := [d1, d2] }
  | _ => none }
def fnUnmarshalTextKeepsTextOrderRow : OpenClaim := { program := "qxb6630431afmt", sum := "39a22ffb1ef0b3a04c2e921bd61786e1b72a06205bf05fe2ce601615d5fdab4e", func := "example.com/rikin/rikin/zzlaws_root_b1.FnUnmarshalTextKeepsTextOrder", spec := "fnUnmarshalTextKeepsTextOrder", stops := ["fmt.errorf"], inPlace := ["fmt.errorf"], apart := false }
/-- NO THEOREM (fmt's text is open here; it may be false): for the released tool's asking of the row's closed facts alone. THE STATEMENT IS 'FnUnmarshalTextKeepsTextOrderToldSaid' (Qxb6630431aFmtCards.lean). -/
def FnUnmarshalTextKeepsTextOrderFormAsk : Prop := fnUnmarshalTextKeepsTextOrderRow.holds Tryf.pinned (OpenSpec.ofChange fnUnmarshalTextKeepsTextOrderSpec)

/-- ITS FALSE NEIGHBOUR: 'it returns false'. Refute it at one input. -/
def fnUnmarshalTextKeepsTextOrderWrong : ChangeSpec := { name := "fnUnmarshalTextKeepsTextOrder", fn := fun _ => fun
  | [d1, d2] => { results := [.lit (.bool false)], args := [d1, d2] }
  | _ => none }
def FnUnmarshalTextKeepsTextOrderWrongFormAsk : Prop := fnUnmarshalTextKeepsTextOrderRow.holds Tryf.pinned (OpenSpec.ofChange fnUnmarshalTextKeepsTextOrderWrong)

end Rows
end Go.Proofs.Qxb6630431aFmt
