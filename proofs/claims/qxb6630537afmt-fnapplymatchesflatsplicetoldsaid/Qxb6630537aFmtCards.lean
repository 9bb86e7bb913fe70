/-
  DERIVED. GIVEN WITH THE SEED: THE CARDS: each row of Qxb6630537aFmtRows.lean that lists a variable, with what it lists TIED to the program's text (the seventh form; the later family's looks); each row that meets fmt, with fmt's text TOLD by the authors' own Lean function (tested against real Go, not proved from fmt's source: count such statements apart). THE CARD IS WHAT COUNTS. Prove the row's statement (the work); the ties are given (Qxb6630537aFmtTie.lean); close each card by the builder's one call (the guide's Derived/Test/ToyasCard.lean, 'card_holds'). Laid BY PROGRAM, IN A SANDBOX (cutbox-door.mjs). By AI agents, Wed Nov 11 2026. No macro, syntax, notation, axiom, sorry.
-/
import Derived.Test.Qxb6630537aFmtRows
import GoSem.ClaimSeven
namespace Go.Proofs.Qxb6630537aFmt
namespace Rows

/-- THE TOLD CARD OF 'zzlaws_internal_delta_b1.FnApplyMatchesFlatSplice'. -/
def fnApplyMatchesFlatSpliceCard : Claim7 := { stood := { row := fnApplyMatchesFlatSpliceRow, standIns := [], harness := (true, "c06a75760b2e5f16f48ba3f7bb8e43fa332ba81dc5a53c0dbc33eec8d552e733"), looks := false }, told := true, goes := false }
def FnApplyMatchesFlatSpliceToldSaid : Prop := Claim7.holds Tryf.pinned (.plain (OpenSpec.ofChange fnApplyMatchesFlatSpliceSpec)) fnApplyMatchesFlatSpliceCard
/-- ITS FALSE NEIGHBOUR. Refute it at one input. -/
def FnApplyMatchesFlatSpliceToldWrongFalsely : Prop := Claim7.holds Tryf.pinned (.plain (OpenSpec.ofChange fnApplyMatchesFlatSpliceWrong)) fnApplyMatchesFlatSpliceCard

/-- THE TOLD CARD OF 'zzlaws_internal_delta_b1.FnApplySplitAtAnyCutAgrees'. -/
def fnApplySplitAtAnyCutAgreesCard : Claim7 := { stood := { row := fnApplySplitAtAnyCutAgreesRow, standIns := [], harness := (true, "c06a75760b2e5f16f48ba3f7bb8e43fa332ba81dc5a53c0dbc33eec8d552e733"), looks := false }, told := true, goes := false }
def FnApplySplitAtAnyCutAgreesToldSaid : Prop := Claim7.holds Tryf.pinned (.plain (OpenSpec.ofChange fnApplySplitAtAnyCutAgreesSpec)) fnApplySplitAtAnyCutAgreesCard
/-- ITS FALSE NEIGHBOUR. Refute it at one input. -/
def FnApplySplitAtAnyCutAgreesToldWrongFalsely : Prop := Claim7.holds Tryf.pinned (.plain (OpenSpec.ofChange fnApplySplitAtAnyCutAgreesWrong)) fnApplySplitAtAnyCutAgreesCard
end Rows
end Go.Proofs.Qxb6630537aFmt
