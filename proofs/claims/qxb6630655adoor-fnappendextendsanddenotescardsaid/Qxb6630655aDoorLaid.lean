/-
  WHAT THE LISTED TABLES GIVE THE WALKS (seat b6630655aD).
-/
import Derived.Test.Qxb6630655aDoorAppend
import Derived.Lib.LaidTab
import Derived.MakeChecks
import Derived.ProofKit
import Derived.LaidMore
import Derived.OpenShut
import Derived.Stop.Joined
namespace Go.Proofs.Qxb6630655aDoor
open Go.ChangeShapes Go.WideShapes Go.ChangeAt Go.RowKit

theorem own : ownKnob Tryd.prog.godebug = none := by kernel_rfl
/-- The three tables, as both rows list them. -/
def laid3 : List (String × DataW Unit) := Rows.fnAppendInjectiveAndOrderedRow.laid

theorem gPow : Tryd.prog.globalNamed pow10Name = some 0 := by kernel_rfl
theorem gPowType : (Tryd.prog.globals[0]?).map (·.type) = some 45 := by kernel_rfl
theorem cells28 : Tryd.prog.cellsOf 28 = 1 := by kernel_rfl
theorem cells45 : Tryd.prog.cellsOf 45 = 20 := by kernel_rfl
theorem tab_datum : (Rows.laid_internal_strconv_uint64pow10 : DataW Unit) = Lib.tabData .u64 Lib.pow10Tab := by rfl

/-- WHAT THE CONDITION GIVES THE WALKS: the table of the powers of ten. -/
theorem tab_of_laid {W : World} (h : laidMetH Tryd.prog laid3 W) : Tab W.heap.size W := by
  rw [MakeChecks.laidMetH_plain _ _ _ (by kernel_rfl)] at h
  obtain ⟨ps, ⟨g0, t0, cs0, f0, p0, q0, hg0, ht0, hv0, hd0, ⟨g1, t1, cs1, f1, p1, q1, hg1, ht1, hv1, hd1, ⟨g2, t2, cs2, f2, p2, q2, hg2, ht2, hv2, hd2, _, _⟩, _⟩, _⟩, _, _⟩ := h
  obtain rfl := Option.some.inj (gPow.symm.trans hg2)
  obtain rfl := Option.some.inj (gPowType.symm.trans ht2)
  refine Lib.tabBelow_of_tabIs ?_
  unfold Lib.TabIs
  rw [tab_datum] at hd2
  have := Lib.cells_of_tab Tryd.underlying45 Tryd.underlying28 cells28 cells45 hd2
  rw [← this]
  exact hv2

/-- The door's own heap meets the condition. -/
theorem door_met (os : Os) (args : Array Value) : laidMetH Tryd.prog laid3 ((World.doorLaid Tryd.prog 4000 os).forCall (fun _ _ => 0) ⟨#[], args, []⟩).memory :=
  laidMetH_of_parts3 (fuel := 8) (laidMet_of_run' 8 (by kernel_rfl) (by kernel_rfl)) (by kernel_rfl) (by kernel_rfl)

theorem u32_nat {a : Int} (h : (Lit.int .u32 a).wf = true) : ∃ n : Nat, a = n ∧ n < 4294967296 := by
  have m0 : IntKind.u32.min = 0 := by decide
  have m1 : IntKind.u32.max = 4294967295 := by decide
  simp [Lit.wf, m0, m1] at h
  exact ⟨a.toNat, by omega, by omega⟩

end Go.Proofs.Qxb6630655aDoor
