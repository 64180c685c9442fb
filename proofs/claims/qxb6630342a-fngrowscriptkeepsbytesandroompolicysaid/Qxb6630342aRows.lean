/-
  No cell of these rows narrows 'for every input' (looked for: loops, veiled, ifaces, maps, wideKeys, modest, calm, conditions, laid).
  DERIVED. THE GIVEN ROWS OF THIS SEAT. 2 by the template 'for every input the law returns true; each argument reads behind the call as it read before'; 0 by the template 'total and deterministic' (their statements: Qxb6630342aTotals.lean).
  GIVEN WITH THE SEED: the statements are not yours to turn. If you find one false, say at which input.
  Laid BY PROGRAM, IN A SANDBOX (cutbox-rows.mjs): the forced cells as the released guide's own fill.sh prints them over the translation a2c9f88831715f22… (all of the seat's roots in one cut). By AI agents, Wed Nov 11 2026. No macro, syntax, notation, axiom, sorry.
-/
import Derived.Test.Qxb6630342aChecked
import GoSem.Claim
import GoSem.ClaimJoined
import GoSem.ClaimMapViews
import Derived.JoinedTies
import Derived.KernelRfl
namespace Go.Proofs.Qxb6630342a
/- THE CELL 'sum', in the pinned program and in every row, IS THE sha256 OF THE DUMP (.gsa) THAT Qxb6630342aProg.lean LOADS. Nothing in Lean hashes anything: it is a label: what it is worth is what the hold of that sum in a sandbox is worth. -/
noncomputable def Try.pinned : Pinned := { name := "qxb6630342a", sum := "a2c9f88831715f226fcab949f2ce620a8cd98f23661256555c5b80c1665d145b", checked := Try.checked }
namespace Rows
def none {H : Type} : Left H := { results := [], args := [] }

/-- 'zzlaws_internal_textbuf_b1.FnGrowScriptKeepsBytesAndRoomPolicy': WHATEVER THE INPUT: true; the input reads as it did. -/
def fnGrowScriptKeepsBytesAndRoomPolicySpec : ChangeSpec := { name := "fnGrowScriptKeepsBytesAndRoomPolicy", fn := fun _ => fun
  | [d1, d2, d3] => { results := [.lit (.bool true)], args := [d1, d2, d3] }
  | _ => none }
def fnGrowScriptKeepsBytesAndRoomPolicyRow : OpenClaim := { program := "qxb6630342a", sum := "a2c9f88831715f226fcab949f2ce620a8cd98f23661256555c5b80c1665d145b", func := "example.com/deltaire/deltaire/zzlaws_internal_textbuf_b1.FnGrowScriptKeepsBytesAndRoomPolicy", spec := "fnGrowScriptKeepsBytesAndRoomPolicy", apart := false }
def FnGrowScriptKeepsBytesAndRoomPolicySaid : Prop := fnGrowScriptKeepsBytesAndRoomPolicyRow.holds Try.pinned (OpenSpec.ofChange fnGrowScriptKeepsBytesAndRoomPolicySpec)

/-- ITS FALSE NEIGHBOUR: 'it returns false'. Refute it at one input. -/
def fnGrowScriptKeepsBytesAndRoomPolicyWrong : ChangeSpec := { name := "fnGrowScriptKeepsBytesAndRoomPolicy", fn := fun _ => fun
  | [d1, d2, d3] => { results := [.lit (.bool false)], args := [d1, d2, d3] }
  | _ => none }
def FnGrowScriptKeepsBytesAndRoomPolicyWrongFalsely : Prop := fnGrowScriptKeepsBytesAndRoomPolicyRow.holds Try.pinned (OpenSpec.ofChange fnGrowScriptKeepsBytesAndRoomPolicyWrong)

/-- 'zzlaws_internal_textbuf_b1.FnGrowSharesOnlyWhenRoomAndSettles': WHATEVER THE INPUT: true; the input reads as it did. -/
def fnGrowSharesOnlyWhenRoomAndSettlesSpec : ChangeSpec := { name := "fnGrowSharesOnlyWhenRoomAndSettles", fn := fun _ => fun
  | [d1, d2, d3, d4] => { results := [.lit (.bool true)], args := [d1, d2, d3, d4] }
  | _ => none }
def fnGrowSharesOnlyWhenRoomAndSettlesRow : OpenClaim := { program := "qxb6630342a", sum := "a2c9f88831715f226fcab949f2ce620a8cd98f23661256555c5b80c1665d145b", func := "example.com/deltaire/deltaire/zzlaws_internal_textbuf_b1.FnGrowSharesOnlyWhenRoomAndSettles", spec := "fnGrowSharesOnlyWhenRoomAndSettles", apart := false }
def FnGrowSharesOnlyWhenRoomAndSettlesSaid : Prop := fnGrowSharesOnlyWhenRoomAndSettlesRow.holds Try.pinned (OpenSpec.ofChange fnGrowSharesOnlyWhenRoomAndSettlesSpec)

/-- ITS FALSE NEIGHBOUR: 'it returns false'. Refute it at one input. -/
def fnGrowSharesOnlyWhenRoomAndSettlesWrong : ChangeSpec := { name := "fnGrowSharesOnlyWhenRoomAndSettles", fn := fun _ => fun
  | [d1, d2, d3, d4] => { results := [.lit (.bool false)], args := [d1, d2, d3, d4] }
  | _ => none }
def FnGrowSharesOnlyWhenRoomAndSettlesWrongFalsely : Prop := fnGrowSharesOnlyWhenRoomAndSettlesRow.holds Try.pinned (OpenSpec.ofChange fnGrowSharesOnlyWhenRoomAndSettlesWrong)

end Rows
end Go.Proofs.Qxb6630342a
