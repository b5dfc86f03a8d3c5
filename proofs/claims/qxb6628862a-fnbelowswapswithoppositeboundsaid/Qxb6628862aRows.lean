/-
  No cell of these rows narrows 'for every input' (looked for: loops, veiled, ifaces, maps, wideKeys, modest, calm, conditions, laid).
  DERIVED. THE GIVEN ROWS OF THIS SEAT. 2 by the template 'for every input the law returns true; each argument reads behind the call as it read before'; 0 by the template 'total and deterministic' (their statements: Qxb6628862aTotals.lean).
  GIVEN WITH THE SEED: the statements are not yours to turn. If you find one false, say at which input.
  Laid BY PROGRAM, IN A SANDBOX (cutbox-rows.mjs): the forced cells as the released guide's own fill.sh prints them over the translation 5b23e6f819a864db… (all of the seat's roots in one cut). By AI agents, Wed Nov 11 2026. No macro, syntax, notation, axiom, sorry.
-/
import Derived.Test.Qxb6628862aChecked
import GoSem.Claim
import GoSem.ClaimJoined
import GoSem.ClaimMapViews
import Derived.JoinedTies
import Derived.KernelRfl
namespace Go.Proofs.Qxb6628862a
/- THE CELL 'sum', in the pinned program and in every row, IS THE sha256 OF THE DUMP (.gsa) THAT Qxb6628862aProg.lean LOADS. Nothing in Lean hashes anything: it is a label: what it is worth is what the hold of that sum in a sandbox is worth. -/
noncomputable def Try.pinned : Pinned := { name := "qxb6628862a", sum := "5b23e6f819a864db279bcef9af2b94255d019a59eb58b61429ddf59ae8a984ab", checked := Try.checked }
namespace Rows
def none {H : Type} : Left H := { results := [], args := [] }

/-- 'zzlaws_internal_btree_b1.FnBelowSwapsWithOppositeBound': WHATEVER THE INPUT: true; the input reads as it did. -/
def fnBelowSwapsWithOppositeBoundSpec : ChangeSpec := { name := "fnBelowSwapsWithOppositeBound", fn := fun _ => fun
  | [d1, d2, d3] => { results := [.lit (.bool true)], args := [d1, d2, d3] }
  | _ => none }
def fnBelowSwapsWithOppositeBoundRow : OpenClaim := { program := "qxb6628862a", sum := "5b23e6f819a864db279bcef9af2b94255d019a59eb58b61429ddf59ae8a984ab", func := "example.com/anchorlog/anchorlog/zzlaws_internal_btree_b1.FnBelowSwapsWithOppositeBound", spec := "fnBelowSwapsWithOppositeBound", inPlace := ["internal/bytealg.Compare"], apart := false }
def FnBelowSwapsWithOppositeBoundSaid : Prop := fnBelowSwapsWithOppositeBoundRow.holds Try.pinned (OpenSpec.ofChange fnBelowSwapsWithOppositeBoundSpec)

/-- ITS FALSE NEIGHBOUR: 'it returns false'. Refute it at one input. -/
def fnBelowSwapsWithOppositeBoundWrong : ChangeSpec := { name := "fnBelowSwapsWithOppositeBound", fn := fun _ => fun
  | [d1, d2, d3] => { results := [.lit (.bool false)], args := [d1, d2, d3] }
  | _ => none }
def FnBelowSwapsWithOppositeBoundWrongFalsely : Prop := fnBelowSwapsWithOppositeBoundRow.holds Try.pinned (OpenSpec.ofChange fnBelowSwapsWithOppositeBoundWrong)

/-- 'zzlaws_internal_btree_b1.FnBelowCutsKeyOrderAtBound': WHATEVER THE INPUT: true; the input reads as it did. -/
def fnBelowCutsKeyOrderAtBoundSpec : ChangeSpec := { name := "fnBelowCutsKeyOrderAtBound", fn := fun _ => fun
  | [d1, d2, d3] => { results := [.lit (.bool true)], args := [d1, d2, d3] }
  | _ => none }
def fnBelowCutsKeyOrderAtBoundRow : OpenClaim := { program := "qxb6628862a", sum := "5b23e6f819a864db279bcef9af2b94255d019a59eb58b61429ddf59ae8a984ab", func := "example.com/anchorlog/anchorlog/zzlaws_internal_btree_b1.FnBelowCutsKeyOrderAtBound", spec := "fnBelowCutsKeyOrderAtBound", inPlace := ["internal/bytealg.Compare"], apart := false }
def FnBelowCutsKeyOrderAtBoundSaid : Prop := fnBelowCutsKeyOrderAtBoundRow.holds Try.pinned (OpenSpec.ofChange fnBelowCutsKeyOrderAtBoundSpec)

/-- ITS FALSE NEIGHBOUR: 'it returns false'. Refute it at one input. -/
def fnBelowCutsKeyOrderAtBoundWrong : ChangeSpec := { name := "fnBelowCutsKeyOrderAtBound", fn := fun _ => fun
  | [d1, d2, d3] => { results := [.lit (.bool false)], args := [d1, d2, d3] }
  | _ => none }
def FnBelowCutsKeyOrderAtBoundWrongFalsely : Prop := fnBelowCutsKeyOrderAtBoundRow.holds Try.pinned (OpenSpec.ofChange fnBelowCutsKeyOrderAtBoundWrong)

end Rows
end Go.Proofs.Qxb6628862a
