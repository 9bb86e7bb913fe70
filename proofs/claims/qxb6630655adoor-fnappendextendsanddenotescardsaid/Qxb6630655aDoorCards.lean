/-
  DERIVED. GIVEN WITH THE SEED: THE CARDS: each row of Qxb6630655aDoorRows.lean that lists a variable, with what it lists TIED to the program's text (the seventh form; the later family's looks); each row that meets fmt, with fmt's text TOLD by the authors' own Lean function (tested against real Go, not proved from fmt's source: count such statements apart). THE CARD IS WHAT COUNTS. Prove the row's statement (the work); the ties are given (Qxb6630655aDoorTie.lean); close each card by the builder's one call (the guide's Derived/Test/ToyasCard.lean, 'card_holds'). Laid BY PROGRAM, IN A SANDBOX (cutbox-door.mjs). By AI agents, Wed Nov 11 2026. No macro, syntax, notation, axiom, sorry.
-/
import Derived.Test.Qxb6630655aDoorRows
import GoSem.ClaimSeven
namespace Go.Proofs.Qxb6630655aDoor
namespace Rows

/-- THE TIED CARD OF 'zzlaws_internal_mtp3_b1.FnAppendExtendsAndDenotes'. -/
def fnAppendExtendsAndDenotesCard : Claim7 := { stood := { row := fnAppendExtendsAndDenotesRow, standIns := [], harness := (true, "61017d237a2c306be92dca261d1858abe5a2f29566084d5dc79ded221da12b2a"), looks := false }, kinds := [], alts := [], laidByText := true, laidKinds := [.data, .data, .data], laidTests := true, laidLooks := .later }
def FnAppendExtendsAndDenotesCardSaid : Prop := Claim7.holds Tryd.pinned (.plain (OpenSpec.ofChange fnAppendExtendsAndDenotesSpec)) fnAppendExtendsAndDenotesCard

/-- THE TIED CARD OF 'zzlaws_internal_mtp3_b1.FnAppendInjectiveAndOrdered'. -/
def fnAppendInjectiveAndOrderedCard : Claim7 := { stood := { row := fnAppendInjectiveAndOrderedRow, standIns := [], harness := (true, "61017d237a2c306be92dca261d1858abe5a2f29566084d5dc79ded221da12b2a"), looks := false }, kinds := [], alts := [], laidByText := true, laidKinds := [.data, .data, .data], laidTests := true, laidLooks := .later }
def FnAppendInjectiveAndOrderedCardSaid : Prop := Claim7.holds Tryd.pinned (.plain (OpenSpec.ofChange fnAppendInjectiveAndOrderedSpec)) fnAppendInjectiveAndOrderedCard
end Rows
end Go.Proofs.Qxb6630655aDoor
