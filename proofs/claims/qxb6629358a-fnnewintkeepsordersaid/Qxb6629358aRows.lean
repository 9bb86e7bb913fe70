/-
  No cell of these rows narrows 'for every input' (looked for: loops, veiled, ifaces, maps, wideKeys, modest, calm, conditions, laid).
  DERIVED. THE GIVEN ROWS OF THIS SEAT. 2 by the template 'for every input the law returns true; each argument reads behind the call as it read before'; 0 by the template 'total and deterministic' (their statements: Qxb6629358aTotals.lean).
  GIVEN WITH THE SEED: the statements are not yours to turn. If you find one false, say at which input.
  Laid BY PROGRAM, IN A SANDBOX (cutbox-rows.mjs): the forced cells as the released guide's own fill.sh prints them over the translation 29911154367d25de… (all of the seat's roots in one cut). By AI agents, Wed Nov 11 2026. No macro, syntax, notation, axiom, sorry.
-/
import Derived.Test.Qxb6629358aChecked
import GoSem.Claim
import GoSem.ClaimJoined
import GoSem.ClaimMapViews
import Derived.JoinedTies
import Derived.KernelRfl
namespace Go.Proofs.Qxb6629358a
/- THE CELL 'sum', in the pinned program and in every row, IS THE sha256 OF THE DUMP (.gsa) THAT Qxb6629358aProg.lean LOADS. Nothing in Lean hashes anything: it is a label: what it is worth is what the hold of that sum in a sandbox is worth. -/
noncomputable def Try.pinned : Pinned := { name := "qxb6629358a", sum := "29911154367d25dea4527594455cf5318b3f61f0c5107e2d1d0e8db9c088535f", checked := Try.checked }
namespace Rows
def none {H : Type} : Left H := { results := [], args := [] }

/-- 'zzlaws_root_b1.FnNewIntMirrorsComplement': WHATEVER THE INPUT: true; the input reads as it did. -/
def fnNewIntMirrorsComplementSpec : ChangeSpec := { name := "fnNewIntMirrorsComplement", fn := fun _ => fun
  | [d] => { results := [.lit (.bool true)], args := [d] }
  | _ => none }
def fnNewIntMirrorsComplementRow : OpenClaim := { program := "qxb6629358a", sum := "29911154367d25dea4527594455cf5318b3f61f0c5107e2d1d0e8db9c088535f", func := "example.com/ermine/ermine/zzlaws_root_b1.FnNewIntMirrorsComplement", spec := "fnNewIntMirrorsComplement", apart := false }
def FnNewIntMirrorsComplementSaid : Prop := fnNewIntMirrorsComplementRow.holds Try.pinned (OpenSpec.ofChange fnNewIntMirrorsComplementSpec)

/-- ITS FALSE NEIGHBOUR: 'it returns false'. Refute it at one input. -/
def fnNewIntMirrorsComplementWrong : ChangeSpec := { name := "fnNewIntMirrorsComplement", fn := fun _ => fun
  | [d] => { results := [.lit (.bool false)], args := [d] }
  | _ => none }
def FnNewIntMirrorsComplementWrongFalsely : Prop := fnNewIntMirrorsComplementRow.holds Try.pinned (OpenSpec.ofChange fnNewIntMirrorsComplementWrong)

/-- 'zzlaws_root_b1.FnNewIntKeepsOrder': WHATEVER THE INPUT: true; the input reads as it did. -/
def fnNewIntKeepsOrderSpec : ChangeSpec := { name := "fnNewIntKeepsOrder", fn := fun _ => fun
  | [d1, d2] => { results := [.lit (.bool true)], args := [d1, d2] }
  | _ => none }
def fnNewIntKeepsOrderRow : OpenClaim := { program := "qxb6629358a", sum := "29911154367d25dea4527594455cf5318b3f61f0c5107e2d1d0e8db9c088535f", func := "example.com/ermine/ermine/zzlaws_root_b1.FnNewIntKeepsOrder", spec := "fnNewIntKeepsOrder", apart := false }
def FnNewIntKeepsOrderSaid : Prop := fnNewIntKeepsOrderRow.holds Try.pinned (OpenSpec.ofChange fnNewIntKeepsOrderSpec)

/-- ITS FALSE NEIGHBOUR: 'it returns false'. Refute it at one input. -/
def fnNewIntKeepsOrderWrong : ChangeSpec := { name := "fnNewIntKeepsOrder", fn := fun _ => fun
  | [d1, d2] => { results := [.lit (.bool false)], args := [d1, d2] }
  | _ => none }
def FnNewIntKeepsOrderWrongFalsely : Prop := fnNewIntKeepsOrderRow.holds Try.pinned (OpenSpec.ofChange fnNewIntKeepsOrderWrong)

end Rows
end Go.Proofs.Qxb6629358a
