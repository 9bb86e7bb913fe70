/-
  The row of the law that Append extends and denotes, and its card (seat b6630655aD).
-/
import Derived.Test.Qxb6630655aDoorExtLaw
import Derived.Test.Qxb6630655aDoorLaid
import Derived.Test.Qxb6630655aDoorCards
import Derived.Test.Qxb6630655aDoorTie
import Derived.Deep.Matrix
import Derived.Carry
import Derived.SevenTiedAt
namespace Go.Proofs.Qxb6630655aDoor
open Go.ChangeShapes Go.WideShapes Go.ChangeAt Go.RowKit Go.Deep

theorem laidOutD : laidOutB Tryd.prog = true := by kernel_rfl
theorem cells5 : Tryd.prog.cellsOf 5 = 1 := by kernel_rfl
theorem addr_form {w : World} {a : Addr} {v : Value} (h : w.cell? a = some v) : ∃ b o, a = ⟨b, o, none⟩ := by
  obtain ⟨b, o, sp⟩ := a
  have hs : sp = none := by simpa using World.cell?_spot h
  subst hs
  exact ⟨b, o, rfl⟩
theorem add_zero' (a : Addr) : a.add 0 = a := by simp [Addr.add]

/-- '[]byte'. -/
theorem buf_open {H : Type} {enc : TypeId × Value → H} {W : World} {fuel : Nat} {ao : Option Addr} {n cap : Nat} {x : DataW H × List MemPlace} (h : DataW.trod enc Tryd.prog W 0 (fun _ => true) true fuel 23 (Value.slice ao n cap).cells.toList = some x) :
    ∃ b o Z, Buf W ao n cap b o Z := by
  rcases open_ints Tryd.underlying23 Tryd.underlying5 cells5 h with ⟨hcs, _⟩ | ⟨a, len', cap', zs, hcs, _, hl, hm, hz, _, hcell, hwz⟩
  · simp [Value.cells] at hcs
    obtain ⟨rfl, rfl, rfl⟩ := hcs
    exact ⟨0, 0, fun _ => 0, Nat.le_refl _, by unfold maxLen; omega, fun _ => rfl, fun _ => rfl, fun h => by omega, fun h => by omega, fun j h => by omega⟩
  · simp [Value.cells] at hcs
    obtain ⟨rfl, rfl, rfl⟩ := hcs
    simp only [if_true] at hz
    by_cases hn : n = 0
    · exact ⟨0, 0, fun _ => 0, hl, hm, (fun h => by cases h), (fun h => by cases h), fun h => by omega, fun h => by omega, fun j h => by omega⟩
    · have h0 := hcell 0 (by omega)
      rw [add_zero'] at h0
      obtain ⟨b, o, rfl⟩ := addr_form h0
      refine ⟨b, o, fun j => zs.getD j 0, hl, hm, (fun h => by cases h), (fun h => by cases h), fun _ => rfl, fun _ => World.block_lt_of_cell? _ _ h0, fun j hj => ?_⟩
      have := hcell j (by omega)
      rw [Go.WideShapes.add_plain] at this
      exact this

set_option maxRecDepth 100000 in
theorem ext_lifted (os : Os) (started : os.Started) (H : Type) (enc : TypeId × Value → H) :
    ReturnsInHanded {} Tryd.checked os 3 .any (fun w args => (Rows.fnAppendExtendsAndDenotesSpec.pre enc Tryd.prog Tryd.f3 [] false w args ∧ laidMetH Tryd.prog laid3 w) ∧ sizedMet enc Tryd.prog Tryd.f3 (OpenSpec.ofChange Rows.fnAppendExtendsAndDenotesSpec) false w args)
      (Rows.fnAppendExtendsAndDenotesSpec.post enc Tryd.prog Tryd.f3 false true false false) := by
  refine returnsInHanded_of_change_and (C := Tryd.checked) (X := fun w _ => laidMetH Tryd.prog laid3 w) (fun _ _ _ hh h => h.of_heap hh) own started (by kernel_rfl) Tryd.func3
    (ChangeSpec.witness_shaped (enc := enc) (C := Tryd.checked) (os := os) (X := fun w _ => laidMetH Tryd.prog laid3 w) false (World.doorLaid Tryd.prog 4000 os) #[.int .u32 0, .slice none 0 0, .int .i64 0] 8 rfl (World.shaped_of_RefB (by kernel_rfl) (by kernel_rfl)) (by kernel_rfl) (by kernel_rfl) (by kernel_rfl) (door_met os _)) ?_
  intro W base args ds gs before hval0 hW _ _ hL _
  have hval : ∀ (j : Nat) t v, Tryd.f3.params[j]? = some t → args[j]? = some v → Value.okWide Tryd.prog W .any base t v := hval0
  have hW' := hW
  obtain ⟨p, q, hA0, hV, rfl, hfz, hnd⟩ := hW
  have hA : DataW.TrodAll enc Tryd.prog W 0 (fun _ => true) true Tryd.f3.params.toList args.toList ds p := hA0
  rw [Tryd.params3] at hA hval
  obtain ⟨v0, vs0, d0, ds0, p0, q0, hargs, rfl, rfl, h0, r0⟩ := trodAll_cons hA
  obtain ⟨v1, vs1, d1, ds1, p1, q1, rfl, rfl, rfl, h1, r1⟩ := trodAll_cons r0
  obtain ⟨v2, vs2, d2, ds2, p2, q2, rfl, rfl, rfl, h2, r2⟩ := trodAll_cons r1
  obtain ⟨rfl, rfl, rfl⟩ := trodAll_nil r2
  obtain rfl : args = #[v0, v1, v2] := by cases args; simp_all
  obtain ⟨rfl, rfl⟩ := trodVars_none hV
  obtain ⟨a0, rfl, rfl, rfl, w0⟩ := open_int Tryd.underlying22 (hval 0 22 v0 rfl rfl) h0
  obtain ⟨ao, n1, c1, rfl⟩ := okWide_slice Tryd.underlying23 (hval 1 23 v1 rfl rfl)
  obtain ⟨a2, rfl, rfl, rfl, w2⟩ := open_int Tryd.underlying3 (hval 2 3 v2 rfl rfl) h2
  have h1k := h1
  obtain ⟨f1, hf1⟩ := h1
  obtain ⟨b, o, Z, hbuf⟩ := buf_open hf1
  clear hA0 hval0
  obtain ⟨a, rfl, ha⟩ := u32_nat w0
  have hlt : ∀ x ∈ p1, x.block < W.heap.size := fun x hx => by simpa using hW'.lt x (by simp [hx])
  refine (ext_walk a a2 ha W ao n1 c1 b o Z hbuf (tab_of_laid hL)).mono fun e W' ⟨he, hg⟩ => ?_
  subst he
  refine ⟨_, rfl, _, _, _, [], [] ++ (p1 ++ ([] ++ [])), [], hW', trodAll_cons_mk (shut_bool Tryd.underlying4 _) trodAll_mk0, ?_, rfl, hg.frame _, fun h => by cases h⟩
  exact trodAll_cons_mk (shut_int Tryd.underlying22 w0) (trodAll_cons_mk (Below.trod laidOutD (by kernel_rfl) (of_decide_eq_true (by kernel_rfl)) h1k hg hlt) (trodAll_cons_mk (shut_int Tryd.underlying3 w2) trodAll_mk0))

theorem ext_row : Rows.FnAppendExtendsAndDenotesSaid :=
  OpenClaim.holds_of_wide 3 Tryd.f3 rfl rfl rfl rfl rfl rfl rfl ⟨rfl, rfl, rfl, rfl, rfl⟩ rfl rfl rfl rfl rfl (by kernel_rfl) Tryd.func3 (by kernel_rfl)
    (of_decide_eq_true (by kernel_rfl)) (by unfold Func.isWrapper; first | (rw [if_pos (by decide +kernel)]; kernel_rfl) | (rw [if_neg (by decide +kernel)]; exact ⟨rfl, rfl⟩))
    (fun os started H enc _ => ext_lifted os started H enc)

/-- THE CARD. -/
theorem ext_card : Rows.FnAppendExtendsAndDenotesCardSaid :=
  Claim7.holds_tied_plain_at .later [] [.data, .data, .data] true Rows.fnAppendExtendsAndDenotesCard.stood.harness false
    ext_row (fun _ h => by cases h) (by kernel_rfl) (fun _ h => by cases h) fnAppendExtendsAndDenotes_row_tie rfl ⟨rfl, rfl⟩ (by kernel_rfl) rfl
    (fun f fn hf hfn => by
      obtain rfl : f = 3 := Option.some.inj ((show Tryd.prog.funcNamed Rows.fnAppendExtendsAndDenotesRow.func = some 3 by kernel_rfl).symm.trans hf) |>.symm
      obtain rfl : fn = Tryd.f3 := (Option.some.inj (Tryd.func3.symm.trans hfn)).symm
      exact ⟨by kernel_rfl, fun j t ht => by
        rw [Tryd.params3] at ht
        have hm : t ∈ [22, 23, 3] := by simpa using Array.mem_of_getElem? ht
        have hall : ([22, 23, 3].all fun u => !Tryd.prog.wantsStandIn u) = true := by kernel_rfl
        exact (show Tryd.prog.wantsStandIn t = false by simpa using List.all_eq_true.1 hall t hm)⟩)
    (by kernel_rfl)
end Go.Proofs.Qxb6630655aDoor
