/-
  No cell of these rows narrows 'for every input' (looked for: loops, veiled, ifaces, maps, wideKeys, modest, calm, conditions, laid).
  DERIVED. THE GIVEN ROWS OF THIS SEAT. 2 by the template 'for every input the law returns true; each argument reads behind the call as it read before'; 0 by the template 'total and deterministic' (their statements: Qxb6630384aTotals.lean).
  GIVEN WITH THE SEED: the statements are not yours to turn. If you find one false, say at which input.
  Laid BY PROGRAM, IN A SANDBOX (cutbox-rows.mjs): the forced cells as the released guide's own fill.sh prints them over the translation 46870aabd3b02af3… (all of the seat's roots in one cut). By AI agents, Wed Nov 11 2026. No macro, syntax, notation, axiom, sorry.
-/
import Derived.Test.Qxb6630384aChecked
import GoSem.Claim
import GoSem.ClaimJoined
import GoSem.ClaimMapViews
import Derived.JoinedTies
import Derived.KernelRfl
namespace Go.Proofs.Qxb6630384a
/- THE CELL 'sum', in the pinned program and in every row, IS THE sha256 OF THE DUMP (.gsa) THAT Qxb6630384aProg.lean LOADS. Nothing in Lean hashes anything: it is a label: what it is worth is what the hold of that sum in a sandbox is worth. -/
noncomputable def Try.pinned : Pinned := { name := "qxb6630384a", sum := "46870aabd3b02af338c0b0c9d29ef1f3814bb706afcc28ee008117807c99e49b", checked := Try.checked }
namespace Rows
def none {H : Type} : Left H := { results := [], args := [] }

/-- 'zzlaws_booth_b1.FnMovedIsStablePartitionByPosition': WHATEVER THE INPUT: true; the input reads as it did. -/
def fnMovedIsStablePartitionByPositionSpec : ChangeSpec := { name := "fnMovedIsStablePartitionByPosition", fn := fun _ => fun
  | [d1, d2, d3] => { results := [.lit (.bool true)], args := [d1, d2, d3] }
  | _ => none }
def fnMovedIsStablePartitionByPositionRow : OpenClaim := { program := "qxb6630384a", sum := "46870aabd3b02af338c0b0c9d29ef1f3814bb706afcc28ee008117807c99e49b", func := "example.com/platoon/platoon/zzlaws_booth_b1.FnMovedIsStablePartitionByPosition", spec := "fnMovedIsStablePartitionByPosition", apart := false }
def FnMovedIsStablePartitionByPositionSaid : Prop := fnMovedIsStablePartitionByPositionRow.holds Try.pinned (OpenSpec.ofChange fnMovedIsStablePartitionByPositionSpec)

/-- ITS FALSE NEIGHBOUR: 'it returns false'. Refute it at one input. -/
def fnMovedIsStablePartitionByPositionWrong : ChangeSpec := { name := "fnMovedIsStablePartitionByPosition", fn := fun _ => fun
  | [d1, d2, d3] => { results := [.lit (.bool false)], args := [d1, d2, d3] }
  | _ => none }
def FnMovedIsStablePartitionByPositionWrongFalsely : Prop := fnMovedIsStablePartitionByPositionRow.holds Try.pinned (OpenSpec.ofChange fnMovedIsStablePartitionByPositionWrong)

/-- 'zzlaws_booth_b1.FnMovedSymmetricIdempotentAndMovedLast': WHATEVER THE INPUT: true; the input reads as it did. -/
def fnMovedSymmetricIdempotentAndMovedLastSpec : ChangeSpec := { name := "fnMovedSymmetricIdempotentAndMovedLast", fn := fun _ => fun
  | [d1, d2, d3] => { results := [.lit (.bool true)], args := [d1, d2, d3] }
  | _ => none }
def fnMovedSymmetricIdempotentAndMovedLastRow : OpenClaim := { program := "qxb6630384a", sum := "46870aabd3b02af338c0b0c9d29ef1f3814bb706afcc28ee008117807c99e49b", func := "example.com/platoon/platoon/zzlaws_booth_b1.FnMovedSymmetricIdempotentAndMovedLast", spec := "fnMovedSymmetricIdempotentAndMovedLast", apart := false }
def FnMovedSymmetricIdempotentAndMovedLastSaid : Prop := fnMovedSymmetricIdempotentAndMovedLastRow.holds Try.pinned (OpenSpec.ofChange fnMovedSymmetricIdempotentAndMovedLastSpec)

/-- ITS FALSE NEIGHBOUR: 'it returns false'. Refute it at one input. -/
def fnMovedSymmetricIdempotentAndMovedLastWrong : ChangeSpec := { name := "fnMovedSymmetricIdempotentAndMovedLast", fn := fun _ => fun
  | [d1, d2, d3] => { results := [.lit (.bool false)], args := [d1, d2, d3] }
  | _ => none }
def FnMovedSymmetricIdempotentAndMovedLastWrongFalsely : Prop := fnMovedSymmetricIdempotentAndMovedLastRow.holds Try.pinned (OpenSpec.ofChange fnMovedSymmetricIdempotentAndMovedLastWrong)

end Rows
end Go.Proofs.Qxb6630384a
