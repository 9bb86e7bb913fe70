/-
  No cell of these rows narrows 'for every input' (looked for: loops, veiled, ifaces, maps, wideKeys, modest, calm, conditions, laid).
  DERIVED. THE GIVEN ROWS OF THIS SEAT. 2 by the template 'for every input the law returns true; each argument reads behind the call as it read before'; 0 by the template 'total and deterministic' (their statements: Qxb6630537aFmtTotals.lean).
  GIVEN WITH THE SEED: the statements are not yours to turn. If you find one false, say at which input.
  Laid BY PROGRAM, IN A SANDBOX (cutbox-rows.mjs): the forced cells as the released guide's own fill.sh prints them over the translation 6ae211afd345e9fb… (all of the seat's roots in one cut). By AI agents, Wed Nov 11 2026. No macro, syntax, notation, axiom, sorry.
-/
import Derived.Test.Qxb6630537aFmtChecked
import GoSem.Claim
import GoSem.ClaimJoined
import GoSem.ClaimMapViews
import Derived.JoinedTies
import Derived.KernelRfl
namespace Go.Proofs.Qxb6630537aFmt
/- THE CELL 'sum', in the pinned program and in every row, IS THE sha256 OF THE DUMP (.gsa) THAT Qxb6630537aFmtProg.lean LOADS. Nothing in Lean hashes anything: it is a label: what it is worth is what the hold of that sum in a sandbox is worth. -/
noncomputable def Tryf.pinned : Pinned := { name := "qxb6630537afmt", sum := "6ae211afd345e9fb303ae769e7edbbb85b51974c5726bd7b9ed9e7ddd15f2169", checked := Tryf.checked }
namespace Rows
def none {H : Type} : Left H := { results := [], args := [] }

/-- 'zzlaws_internal_delta_b1.FnApplyMatchesFlatSplice': WHATEVER THE INPUT: true; the input reads as it did. -/
def fnApplyMatchesFlatSpliceSpec : ChangeSpec := { name := "fnApplyMatchesFlatSplice", fn := fun _ => fun
  | [d1, d2, d3, d4] => { results := [.lit (.bool true)], args := [d1, d2, d3, d4] }
  | _ => none }
def fnApplyMatchesFlatSpliceRow : OpenClaim := { program := "qxb6630537afmt", sum := "6ae211afd345e9fb303ae769e7edbbb85b51974c5726bd7b9ed9e7ddd15f2169", func := "example.com/killifish/killifish/zzlaws_internal_delta_b1.FnApplyMatchesFlatSplice", spec := "fnApplyMatchesFlatSplice", stops := ["fmt.errorf"], inPlace := ["fmt.errorf"], apart := false }
/-- NO THEOREM (fmt's text is open here; it may be false): for the released tool's asking of the row's closed facts alone. THE STATEMENT IS 'FnApplyMatchesFlatSpliceToldSaid' (Qxb6630537aFmtCards.lean). -/
def FnApplyMatchesFlatSpliceFormAsk : Prop := fnApplyMatchesFlatSpliceRow.holds Tryf.pinned (OpenSpec.ofChange fnApplyMatchesFlatSpliceSpec)

/-- ITS FALSE NEIGHBOUR: 'it returns false'. Refute it at one input. -/
def fnApplyMatchesFlatSpliceWrong : ChangeSpec := { name := "fnApplyMatchesFlatSplice", fn := fun _ => fun
  | [d1, d2, d3, d4] => { results := [.lit (.bool false)], args := [d1, d2, d3, d4] }
  | _ => none }
def FnApplyMatchesFlatSpliceWrongFormAsk : Prop := fnApplyMatchesFlatSpliceRow.holds Tryf.pinned (OpenSpec.ofChange fnApplyMatchesFlatSpliceWrong)

/-- 'zzlaws_internal_delta_b1.FnApplySplitAtAnyCutAgrees': WHATEVER THE INPUT: true; the input reads as it did. -/
def fnApplySplitAtAnyCutAgreesSpec : ChangeSpec := { name := "fnApplySplitAtAnyCutAgrees", fn := fun _ => fun
  | [d1, d2, d3, d4, d5] => { results := [.lit (.bool true)], args := [d1, d2, d3, d4, d5] }
  | _ => none }
def fnApplySplitAtAnyCutAgreesRow : OpenClaim := { program := "qxb6630537afmt", sum := "6ae211afd345e9fb303ae769e7edbbb85b51974c5726bd7b9ed9e7ddd15f2169", func := "example.com/killifish/killifish/zzlaws_internal_delta_b1.FnApplySplitAtAnyCutAgrees", spec := "fnApplySplitAtAnyCutAgrees", stops := ["fmt.errorf"], inPlace := ["fmt.errorf"], apart := false }
/-- NO THEOREM (fmt's text is open here; it may be false): for the released tool's asking of the row's closed facts alone. THE STATEMENT IS 'FnApplySplitAtAnyCutAgreesToldSaid' (Qxb6630537aFmtCards.lean). -/
def FnApplySplitAtAnyCutAgreesFormAsk : Prop := fnApplySplitAtAnyCutAgreesRow.holds Tryf.pinned (OpenSpec.ofChange fnApplySplitAtAnyCutAgreesSpec)

/-- ITS FALSE NEIGHBOUR: 'it returns false'. Refute it at one input. -/
def fnApplySplitAtAnyCutAgreesWrong : ChangeSpec := { name := "fnApplySplitAtAnyCutAgrees", fn := fun _ => fun
  | [d1, d2, d3, d4, d5] => { results := [.lit (.bool false)], args := [d1, d2, d3, d4, d5] }
  | _ => none }
def FnApplySplitAtAnyCutAgreesWrongFormAsk : Prop := fnApplySplitAtAnyCutAgreesRow.holds Tryf.pinned (OpenSpec.ofChange fnApplySplitAtAnyCutAgreesWrong)

end Rows
end Go.Proofs.Qxb6630537aFmt
