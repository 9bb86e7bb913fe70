/-
  No cell of these rows narrows 'for every input' (looked for: loops, veiled, ifaces, maps, wideKeys, modest, calm, conditions, laid).
  DERIVED. THE GIVEN ROWS OF THIS SEAT. 1 by the template 'for every input the law returns true; each argument reads behind the call as it read before'; 0 by the template 'total and deterministic' (their statements: Qxb6630611aTotals.lean).
  GIVEN WITH THE SEED: the statements are not yours to turn. If you find one false, say at which input.
  Laid BY PROGRAM, IN A SANDBOX (cutbox-rows.mjs): the forced cells as the released guide's own fill.sh prints them over the translation a70e72453ce76504… (all of the seat's roots in one cut). By AI agents, Wed Nov 11 2026. No macro, syntax, notation, axiom, sorry.
-/
import Derived.Test.Qxb6630611aChecked
import GoSem.Claim
import GoSem.ClaimJoined
import GoSem.ClaimMapViews
import Derived.JoinedTies
import Derived.KernelRfl
namespace Go.Proofs.Qxb6630611a
/- THE CELL 'sum', in the pinned program and in every row, IS THE sha256 OF THE DUMP (.gsa) THAT Qxb6630611aProg.lean LOADS. Nothing in Lean hashes anything: it is a label: what it is worth is what the hold of that sum in a sandbox is worth. -/
noncomputable def Try.pinned : Pinned := { name := "qxb6630611a", sum := "a70e72453ce76504d93d5415209b9e5fd5a1cef2c4fcf345902e70f5eb500826", checked := Try.checked }
namespace Rows
def none {H : Type} : Left H := { results := [], args := [] }

/-- 'zzlaws_statement_b1.FnQuotedIgnoresTextAfterItsClose': WHATEVER THE INPUT: true; the input reads as it did. -/
def fnQuotedIgnoresTextAfterItsCloseSpec : ChangeSpec := { name := "fnQuotedIgnoresTextAfterItsClose", fn := fun _ => fun
  | [d1, d2, d3, d4, d5, d6, d7, d8, d9, d10] => { results := [.lit (.bool true)], args := [d1, d2, d3, d4, d5, d6, d7, d8, d9, d10] }
  | _ => none }
def fnQuotedIgnoresTextAfterItsCloseRow : OpenClaim := { program := "qxb6630611a", sum := "a70e72453ce76504d93d5415209b9e5fd5a1cef2c4fcf345902e70f5eb500826", func := "example.com/rillcast/rillcast/zzlaws_statement_b1.FnQuotedIgnoresTextAfterItsClose", spec := "fnQuotedIgnoresTextAfterItsClose", inPlace := ["internal/abi.NoEscape"], apart := false }
def FnQuotedIgnoresTextAfterItsCloseSaid : Prop := fnQuotedIgnoresTextAfterItsCloseRow.holds Try.pinned (OpenSpec.ofChange fnQuotedIgnoresTextAfterItsCloseSpec)

/-- ITS FALSE NEIGHBOUR: 'it returns false'. Refute it at one input. -/
def fnQuotedIgnoresTextAfterItsCloseWrong : ChangeSpec := { name := "fnQuotedIgnoresTextAfterItsClose", fn := fun _ => fun
  | [d1, d2, d3, d4, d5, d6, d7, d8, d9, d10] => { results := [.lit (.bool false)], args := [d1, d2, d3, d4, d5, d6, d7, d8, d9, d10] }
  | _ => none }
def FnQuotedIgnoresTextAfterItsCloseWrongFalsely : Prop := fnQuotedIgnoresTextAfterItsCloseRow.holds Try.pinned (OpenSpec.ofChange fnQuotedIgnoresTextAfterItsCloseWrong)

end Rows
end Go.Proofs.Qxb6630611a
