/-
  NARROWER THAN 'FOR EVERY INPUT', by the rows' own cells (each row's printed sentence says how): FnCloneEqualsAndSharesNothing: loops · FnCloneContentsHaveNoRoomToAppend: loops.
  DERIVED. THE GIVEN ROWS OF THIS SEAT. 2 by the template 'for every input the law returns true; each argument reads behind the call as it read before'; 0 by the template 'total and deterministic' (their statements: Qxb6628903aTotals.lean).
  GIVEN WITH THE SEED: the statements are not yours to turn. If you find one false, say at which input.
  Laid BY PROGRAM, IN A SANDBOX (cutbox-rows.mjs): the forced cells as the released guide's own fill.sh prints them over the translation 647a1862eb3cffe9… (all of the seat's roots in one cut). By AI agents, Wed Nov 11 2026. No macro, syntax, notation, axiom, sorry.
-/
import Derived.Test.Qxb6628903aChecked
import GoSem.Claim
import GoSem.ClaimJoined
import GoSem.ClaimMapViews
import Derived.JoinedTies
import Derived.KernelRfl
namespace Go.Proofs.Qxb6628903a
/- THE CELL 'sum', in the pinned program and in every row, IS THE sha256 OF THE DUMP (.gsa) THAT Qxb6628903aProg.lean LOADS. Nothing in Lean hashes anything: it is a label: what it is worth is what the hold of that sum in a sandbox is worth. -/
noncomputable def Try.pinned : Pinned := { name := "qxb6628903a", sum := "647a1862eb3cffe96260eb21b5a1658f383612ef9f64d01119b82ac25e8032a2", checked := Try.checked }
namespace Rows
def none {H : Type} : Left H := { results := [], args := [] }

/-- 'zzlaws_root_b1.FnCloneEqualsAndSharesNothing': WHATEVER THE INPUT: true; the input reads as it did. -/
def fnCloneEqualsAndSharesNothingSpec : ChangeSpec := { name := "fnCloneEqualsAndSharesNothing", fn := fun _ => fun
  | [d1, d2] => { results := [.lit (.bool true)], args := [d1, d2] }
  | _ => none }
def fnCloneEqualsAndSharesNothingRow : OpenClaim := { program := "qxb6628903a", sum := "647a1862eb3cffe96260eb21b5a1658f383612ef9f64d01119b82ac25e8032a2", func := "example.com/kithmesh/kithmesh/zzlaws_root_b1.FnCloneEqualsAndSharesNothing", spec := "fnCloneEqualsAndSharesNothing", unfollowed := true, recurses := true, loops := true, apart := false }
def FnCloneEqualsAndSharesNothingSaid : Prop := fnCloneEqualsAndSharesNothingRow.holds Try.pinned (OpenSpec.ofChange fnCloneEqualsAndSharesNothingSpec)

/-- ITS FALSE NEIGHBOUR: 'it returns false'. Refute it at one input. -/
def fnCloneEqualsAndSharesNothingWrong : ChangeSpec := { name := "fnCloneEqualsAndSharesNothing", fn := fun _ => fun
  | [d1, d2] => { results := [.lit (.bool false)], args := [d1, d2] }
  | _ => none }
def FnCloneEqualsAndSharesNothingWrongFalsely : Prop := fnCloneEqualsAndSharesNothingRow.holds Try.pinned (OpenSpec.ofChange fnCloneEqualsAndSharesNothingWrong)

/-- 'zzlaws_root_b1.FnCloneContentsHaveNoRoomToAppend': WHATEVER THE INPUT: true; the input reads as it did. -/
def fnCloneContentsHaveNoRoomToAppendSpec : ChangeSpec := { name := "fnCloneContentsHaveNoRoomToAppend", fn := fun _ => fun
  | [d1, d2] => { results := [.lit (.bool true)], args := [d1, d2] }
  | _ => none }
def fnCloneContentsHaveNoRoomToAppendRow : OpenClaim := { program := "qxb6628903a", sum := "647a1862eb3cffe96260eb21b5a1658f383612ef9f64d01119b82ac25e8032a2", func := "example.com/kithmesh/kithmesh/zzlaws_root_b1.FnCloneContentsHaveNoRoomToAppend", spec := "fnCloneContentsHaveNoRoomToAppend", unfollowed := true, recurses := true, loops := true, apart := false }
def FnCloneContentsHaveNoRoomToAppendSaid : Prop := fnCloneContentsHaveNoRoomToAppendRow.holds Try.pinned (OpenSpec.ofChange fnCloneContentsHaveNoRoomToAppendSpec)

/-- ITS FALSE NEIGHBOUR: 'it returns false'. Refute it at one input. -/
def fnCloneContentsHaveNoRoomToAppendWrong : ChangeSpec := { name := "fnCloneContentsHaveNoRoomToAppend", fn := fun _ => fun
  | [d1, d2] => { results := [.lit (.bool false)], args := [d1, d2] }
  | _ => none }
def FnCloneContentsHaveNoRoomToAppendWrongFalsely : Prop := fnCloneContentsHaveNoRoomToAppendRow.holds Try.pinned (OpenSpec.ofChange fnCloneContentsHaveNoRoomToAppendWrong)

end Rows
end Go.Proofs.Qxb6628903a
