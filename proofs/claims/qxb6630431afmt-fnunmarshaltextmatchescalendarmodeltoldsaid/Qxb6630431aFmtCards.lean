/-
  DERIVED. GIVEN WITH THE SEED: THE CARDS: each row of Qxb6630431aFmtRows.lean that lists a variable, with what it lists TIED to the program's text (the seventh form; the later family's looks); each row that meets fmt, with fmt's text TOLD by the authors' own Lean function (tested against real Go, not proved from fmt's source: count such statements apart). THE CARD IS WHAT COUNTS. Prove the row's statement (the work); the ties are given (Qxb6630431aFmtTie.lean); close each card by the builder's one call (the guide's Derived/Test/ToyasCard.lean, 'card_holds'). Laid BY PROGRAM, IN A SANDBOX (cutbox-door.mjs). By AI agents, Wed Nov 11 2026. No macro, syntax, notation, axiom, sorry.
-/
import Derived.Test.Qxb6630431aFmtRows
import GoSem.ClaimSeven
namespace Go.Proofs.Qxb6630431aFmt
namespace Rows

/-- THE TOLD CARD OF 'zzlaws_root_b1.FnUnmarshalTextMatchesCalendarModel'. -/
def fnUnmarshalTextMatchesCalendarModelCard : Claim7 := { stood := { row := fnUnmarshalTextMatchesCalendarModelRow, standIns := [], harness := (true, "e5889a7c89f0567d6f181fdcb916433c3bddbf06518fd19693bf4ed7338a5281"), looks := false }, told := true, goes := false }
def FnUnmarshalTextMatchesCalendarModelToldSaid : Prop := Claim7.holds Tryf.pinned (.plain (OpenSpec.ofChange fnUnmarshalTextMatchesCalendarModelSpec)) fnUnmarshalTextMatchesCalendarModelCard
/-- ITS FALSE NEIGHBOUR. Refute it at one input. -/
def FnUnmarshalTextMatchesCalendarModelToldWrongFalsely : Prop := Claim7.holds Tryf.pinned (.plain (OpenSpec.ofChange fnUnmarshalTextMatchesCalendarModelWrong)) fnUnmarshalTextMatchesCalendarModelCard

/-- THE TOLD CARD OF 'zzlaws_root_b1.FnUnmarshalTextKeepsTextOrder'. -/
def fnUnmarshalTextKeepsTextOrderCard : Claim7 := { stood := { row := fnUnmarshalTextKeepsTextOrderRow, standIns := [], harness := (true, "e5889a7c89f0567d6f181fdcb916433c3bddbf06518fd19693bf4ed7338a5281"), looks := false }, told := true, goes := false }
def FnUnmarshalTextKeepsTextOrderToldSaid : Prop := Claim7.holds Tryf.pinned (.plain (OpenSpec.ofChange fnUnmarshalTextKeepsTextOrderSpec)) fnUnmarshalTextKeepsTextOrderCard
/-- ITS FALSE NEIGHBOUR. Refute it at one input. -/
def FnUnmarshalTextKeepsTextOrderToldWrongFalsely : Prop := Claim7.holds Tryf.pinned (.plain (OpenSpec.ofChange fnUnmarshalTextKeepsTextOrderWrong)) fnUnmarshalTextKeepsTextOrderCard
end Rows
end Go.Proofs.Qxb6630431aFmt
