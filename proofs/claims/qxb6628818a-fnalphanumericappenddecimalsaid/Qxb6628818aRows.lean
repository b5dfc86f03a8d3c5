/-
  No cell of these rows narrows 'for every input' (looked for: loops, veiled, ifaces, maps, wideKeys, modest, calm, conditions, laid).
  DERIVED. THE GIVEN ROWS OF THIS SEAT. 2 by the template 'for every input the law returns true; each argument reads behind the call as it read before'; 0 by the template 'total and deterministic' (their statements: Qxb6628818aTotals.lean).
  GIVEN WITH THE SEED: the statements are not yours to turn. If you find one false, say at which input.
  Laid BY PROGRAM, IN A SANDBOX (cutbox-rows.mjs): the forced cells as the released guide's own fill.sh prints them over the translation 7ca586cf786a2f35… (all of the seat's roots in one cut). By AI agents, Wed Nov 11 2026. No macro, syntax, notation, axiom, sorry.
-/
import Derived.Test.Qxb6628818aChecked
import GoSem.Claim
import GoSem.ClaimJoined
import GoSem.ClaimMapViews
import Derived.JoinedTies
import Derived.KernelRfl
namespace Go.Proofs.Qxb6628818a
/- THE CELL 'sum', in the pinned program and in every row, IS THE sha256 OF THE DUMP (.gsa) THAT Qxb6628818aProg.lean LOADS. Nothing in Lean hashes anything: it is a label: what it is worth is what the hold of that sum in a sandbox is worth. -/
noncomputable def Try.pinned : Pinned := { name := "qxb6628818a", sum := "7ca586cf786a2f3572132d5d3a8ca3395a01582f3da23a97314a243ccec3946f", checked := Try.checked }
namespace Rows
def none {H : Type} : Left H := { results := [], args := [] }

/-- 'zzlaws_pkg_invoice_b1.FnAlphanumericAppendDecimal': WHATEVER THE INPUT: true; the input reads as it did. -/
def fnAlphanumericAppendDecimalSpec : ChangeSpec := { name := "fnAlphanumericAppendDecimal", fn := fun _ => fun
  | [d1, d2] => { results := [.lit (.bool true)], args := [d1, d2] }
  | _ => none }
def fnAlphanumericAppendDecimalRow : OpenClaim := { program := "qxb6628818a", sum := "7ca586cf786a2f3572132d5d3a8ca3395a01582f3da23a97314a243ccec3946f", func := "example.com/kuramo/kuramo/zzlaws_pkg_invoice_b1.FnAlphanumericAppendDecimal", spec := "fnAlphanumericAppendDecimal", apart := false }
def FnAlphanumericAppendDecimalSaid : Prop := fnAlphanumericAppendDecimalRow.holds Try.pinned (OpenSpec.ofChange fnAlphanumericAppendDecimalSpec)

/-- ITS FALSE NEIGHBOUR: 'it returns false'. Refute it at one input. -/
def fnAlphanumericAppendDecimalWrong : ChangeSpec := { name := "fnAlphanumericAppendDecimal", fn := fun _ => fun
  | [d1, d2] => { results := [.lit (.bool false)], args := [d1, d2] }
  | _ => none }
def FnAlphanumericAppendDecimalWrongFalsely : Prop := fnAlphanumericAppendDecimalRow.holds Try.pinned (OpenSpec.ofChange fnAlphanumericAppendDecimalWrong)

/-- 'zzlaws_pkg_invoice_b1.FnAlphanumericInsertBase36': WHATEVER THE INPUT: true; the input reads as it did. -/
def fnAlphanumericInsertBase36Spec : ChangeSpec := { name := "fnAlphanumericInsertBase36", fn := fun _ => fun
  | [d1, d2, d3] => { results := [.lit (.bool true)], args := [d1, d2, d3] }
  | _ => none }
def fnAlphanumericInsertBase36Row : OpenClaim := { program := "qxb6628818a", sum := "7ca586cf786a2f3572132d5d3a8ca3395a01582f3da23a97314a243ccec3946f", func := "example.com/kuramo/kuramo/zzlaws_pkg_invoice_b1.FnAlphanumericInsertBase36", spec := "fnAlphanumericInsertBase36", apart := false }
def FnAlphanumericInsertBase36Said : Prop := fnAlphanumericInsertBase36Row.holds Try.pinned (OpenSpec.ofChange fnAlphanumericInsertBase36Spec)

/-- ITS FALSE NEIGHBOUR: 'it returns false'. Refute it at one input. -/
def fnAlphanumericInsertBase36Wrong : ChangeSpec := { name := "fnAlphanumericInsertBase36", fn := fun _ => fun
  | [d1, d2, d3] => { results := [.lit (.bool false)], args := [d1, d2, d3] }
  | _ => none }
def FnAlphanumericInsertBase36WrongFalsely : Prop := fnAlphanumericInsertBase36Row.holds Try.pinned (OpenSpec.ofChange fnAlphanumericInsertBase36Wrong)

end Rows
end Go.Proofs.Qxb6628818a
