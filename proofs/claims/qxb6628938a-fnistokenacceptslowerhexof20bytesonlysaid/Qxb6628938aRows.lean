/-
  No cell of these rows narrows 'for every input' (looked for: loops, veiled, ifaces, maps, wideKeys, modest, calm, conditions, laid).
  DERIVED. THE GIVEN ROWS OF THIS SEAT. 2 by the template 'for every input the law returns true; each argument reads behind the call as it read before'; 0 by the template 'total and deterministic' (their statements: Qxb6628938aTotals.lean).
  GIVEN WITH THE SEED: the statements are not yours to turn. If you find one false, say at which input.
  Laid BY PROGRAM, IN A SANDBOX (cutbox-rows.mjs): the forced cells as the released guide's own fill.sh prints them over the translation cb01faf8f06bd4a4… (all of the seat's roots in one cut). By AI agents, Wed Nov 11 2026. No macro, syntax, notation, axiom, sorry.
-/
import Derived.Test.Qxb6628938aChecked
import GoSem.Claim
import GoSem.ClaimJoined
import GoSem.ClaimMapViews
import Derived.JoinedTies
import Derived.KernelRfl
namespace Go.Proofs.Qxb6628938a
/- THE CELL 'sum', in the pinned program and in every row, IS THE sha256 OF THE DUMP (.gsa) THAT Qxb6628938aProg.lean LOADS. Nothing in Lean hashes anything: it is a label: what it is worth is what the hold of that sum in a sandbox is worth. -/
noncomputable def Try.pinned : Pinned := { name := "qxb6628938a", sum := "cb01faf8f06bd4a4ec29864c6397941284369afaa37bddb30e9dd6db1d0a20a6", checked := Try.checked }
namespace Rows
def none {H : Type} : Left H := { results := [], args := [] }

/-- 'zzlaws_internal_auth_b1.FnIsTokenSplitsAtAnyCut': WHATEVER THE INPUT: true; the input reads as it did. -/
def fnIsTokenSplitsAtAnyCutSpec : ChangeSpec := { name := "fnIsTokenSplitsAtAnyCut", fn := fun _ => fun
  | [d1, d2] => { results := [.lit (.bool true)], args := [d1, d2] }
  | _ => none }
def fnIsTokenSplitsAtAnyCutRow : OpenClaim := { program := "qxb6628938a", sum := "cb01faf8f06bd4a4ec29864c6397941284369afaa37bddb30e9dd6db1d0a20a6", func := "example.com/forgehand/forgehand/zzlaws_internal_auth_b1.FnIsTokenSplitsAtAnyCut", spec := "fnIsTokenSplitsAtAnyCut", apart := false }
def FnIsTokenSplitsAtAnyCutSaid : Prop := fnIsTokenSplitsAtAnyCutRow.holds Try.pinned (OpenSpec.ofChange fnIsTokenSplitsAtAnyCutSpec)

/-- ITS FALSE NEIGHBOUR: 'it returns false'. Refute it at one input. -/
def fnIsTokenSplitsAtAnyCutWrong : ChangeSpec := { name := "fnIsTokenSplitsAtAnyCut", fn := fun _ => fun
  | [d1, d2] => { results := [.lit (.bool false)], args := [d1, d2] }
  | _ => none }
def FnIsTokenSplitsAtAnyCutWrongFalsely : Prop := fnIsTokenSplitsAtAnyCutRow.holds Try.pinned (OpenSpec.ofChange fnIsTokenSplitsAtAnyCutWrong)

/-- 'zzlaws_internal_auth_b1.FnIsTokenAcceptsLowerHexOf20BytesOnly': WHATEVER THE INPUT: true; the input reads as it did. -/
def fnIsTokenAcceptsLowerHexOf20BytesOnlySpec : ChangeSpec := { name := "fnIsTokenAcceptsLowerHexOf20BytesOnly", fn := fun _ => fun
  | [d1, d2] => { results := [.lit (.bool true)], args := [d1, d2] }
  | _ => none }
def fnIsTokenAcceptsLowerHexOf20BytesOnlyRow : OpenClaim := { program := "qxb6628938a", sum := "cb01faf8f06bd4a4ec29864c6397941284369afaa37bddb30e9dd6db1d0a20a6", func := "example.com/forgehand/forgehand/zzlaws_internal_auth_b1.FnIsTokenAcceptsLowerHexOf20BytesOnly", spec := "fnIsTokenAcceptsLowerHexOf20BytesOnly", apart := false }
def FnIsTokenAcceptsLowerHexOf20BytesOnlySaid : Prop := fnIsTokenAcceptsLowerHexOf20BytesOnlyRow.holds Try.pinned (OpenSpec.ofChange fnIsTokenAcceptsLowerHexOf20BytesOnlySpec)

/-- ITS FALSE NEIGHBOUR: 'it returns false'. Refute it at one input. -/
def fnIsTokenAcceptsLowerHexOf20BytesOnlyWrong : ChangeSpec := { name := "fnIsTokenAcceptsLowerHexOf20BytesOnly", fn := fun _ => fun
  | [d1, d2] => { results := [.lit (.bool false)], args := [d1, d2] }
  | _ => none }
def FnIsTokenAcceptsLowerHexOf20BytesOnlyWrongFalsely : Prop := fnIsTokenAcceptsLowerHexOf20BytesOnlyRow.holds Try.pinned (OpenSpec.ofChange fnIsTokenAcceptsLowerHexOf20BytesOnlyWrong)

end Rows
end Go.Proofs.Qxb6628938a
