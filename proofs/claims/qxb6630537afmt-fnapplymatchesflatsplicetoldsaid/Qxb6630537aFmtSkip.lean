/-
  The cursor's keep and skip (seat b6630537aF).
-/
import Derived.Test.Qxb6630537aFmtCursor
import Derived.Maps.AppendAt
import Derived.Deep.RegionHeld3
import Derived.StillTailTactics
namespace Go.Proofs.Qxb6630537aFmt
open Go.RowKit

/-- What is left of the text at the cursor. -/
def rem (rest : List (List Int)) (off : Nat) : List Int := rest.flatten.drop off
/-- No piece is empty; the offset lies in the first. -/
def Inv (rest : List (List Int)) (off : Nat) : Prop := (∀ l ∈ rest, l ≠ []) ∧ (rest = [] → off = 0) ∧ ∀ l ls, rest = l :: ls → off < l.length

theorem rem_cons (l : List Int) (ls : List (List Int)) (off : Nat) (h : off ≤ l.length) : rem (l :: ls) off = l.drop off ++ ls.flatten := by
  unfold rem; rw [List.flatten_cons, List.drop_append_of_le_length h]
theorem rem_adv {l : List Int} {ls : List (List Int)} {off d : Nat} (h : off + d ≤ l.length) : rem (advRest l ls off d) (advOff l off d) = (rem (l :: ls) off).drop d := by
  rw [rem_cons l ls off (by omega), List.drop_append_of_le_length (by simp; omega), List.drop_drop]
  unfold advRest advOff
  by_cases e : off + d = l.length
  · simp only [e, if_true]
    rw [List.drop_eq_nil_of_le (Nat.le_refl _)]
    simp [rem]
  · simp only [e, if_false]
    rw [rem_cons l ls (off + d) h]
theorem rem_take {l : List Int} {ls : List (List Int)} {off d : Nat} (h : off + d ≤ l.length) : (rem (l :: ls) off).take d = (l.drop off).take d := by
  rw [rem_cons l ls off (by omega), List.take_append_of_le_length (by simp; omega)]
theorem inv_adv {l : List Int} {ls : List (List Int)} {off d : Nat} (hi : Inv (l :: ls) off) (h : off + d ≤ l.length) : Inv (advRest l ls off d) (advOff l off d) := by
  unfold advRest advOff
  by_cases e : off + d = l.length
  · simp only [e, if_true]
    refine ⟨fun x hx => hi.1 x (by simp [hx]), fun _ => rfl, fun l' ls' e' => ?_⟩
    have := hi.1 l' (by rw [e']; simp)
    exact List.length_pos_iff.2 this
  · simp only [e, if_false]
    refine ⟨hi.1, (fun h => by cases h), fun l' ls' e' => ?_⟩
    cases e'; omega

theorem drop_take_step (R : List Int) (a d : Nat) : R.take (a + d) = R.take a ++ (R.drop a).take d := by
  rw [List.take_add]

theorem mixed : Tryf.prog.follows .mixedOrders = true := by kernel_rfl
theorem Crs.drew {N C : Nat} {w : World} {rest : List (List Int)} {off pos : Nat} (h : Crs N w C rest off pos) : Crs N w.drew C rest off pos := by
  obtain ⟨pv, h1, h2⟩ := h
  exact ⟨pv, h1, h2.kept (S := fun _ => False) (Kept.refl _ w).drew (fun _ _ h => h)⟩
theorem adv_trans {N C : Nat} {w wr w' : World} {rest : List (List Int)} {off pos : Nat} (h1 : Kept (fun b => b = C) w wr) (h2 : wr.heap.size = w.heap.size) (h : Adv N C wr.drew w' rest off pos) : Adv N C w w' rest off pos := by
  obtain ⟨k, s, c⟩ := h
  exact ⟨h1.trans (Kept.trans (Kept.drew (Kept.refl (fun b => b = C) wr)) k (fun _ _ h => h)) (fun _ _ h => h), by rw [s]; exact h2, c⟩

theorem skip_rel {N C : Nat} {w wr w' : World} {l : List Int} {ls : List (List Int)} {off1 pos pos1 en d : Nat} {R : List Int} (h1 : pos ≤ pos1) (h2 : pos1 + d ≤ en) (hk : Kept (fun b => b = C) w wr) (hs : wr.heap.size = w.heap.size)
    (hadv : Adv N C wr.drew w' (advRest l ls off1 d) (advOff l off1 d) (pos1 + d)) (hI : Inv (l :: ls) off1) (hRe : rem (l :: ls) off1 = R.drop (pos1 - pos)) (hbl : ∀ x ∈ l :: ls, x.length ≤ 1048576) (hd : off1 + d ≤ l.length) :
    ∃ rest1 off1' pos1', pos ≤ pos1' ∧ pos1' ≤ en ∧ en - (pos1 + d) = en - pos1' ∧ Adv N C w w' rest1 off1' pos1' ∧ Inv rest1 off1' ∧ Hid (rem rest1 off1' = R.drop (pos1' - pos)) ∧ (∀ l ∈ rest1, l.length ≤ 1048576) := by
  refine ⟨_, _, pos1 + d, by omega, by omega, rfl, adv_trans hk hs hadv, inv_adv hI hd, ?_, fun x hx => ?_⟩
  · show _ = _
    rw [rem_adv hd, hRe, List.drop_drop]
    congr 1; omega
  · unfold advRest at hx
    split at hx
    · exact hbl x (by simp [hx])
    · exact hbl x hx

set_option maxHeartbeats 2000000 in
theorem skip_walk (N C : Nat) (w : World) (rest : List (List Int)) (off pos en : Nat) (h : Crs N w C rest off pos) (hN : N ≤ C) (hi : Inv rest off) (hp : pos ≤ en) (hr : en - pos ≤ (rem rest off).length) (hb1 : en ≤ 1048576) (hb2 : ∀ l ∈ rest, l.length ≤ 1048576) :
    Calls Tryf.prog 22 #[.pointer (some ⟨C, 0, none⟩), .int .i64 en] w fun e w' => e = .returned (.tuple #[]) ∧ ∃ rest' off', Adv N C w w' rest' off' en ∧ Inv rest' off' ∧ rem rest' off' = (rem rest off).drop (en - pos) ∧ (∀ l ∈ rest', l.length ≤ 1048576) := by
  generalize hR : rem rest off = R at *
  have HR : Hid (rem rest off = R) := hR
  clear hR
  go_enter Tryf.func22, Tryf.ntmps22
  go_wp2
  go_loopg [4] (en - pos) (fun g _ wr => ∃ rest1 off1 pos1, pos ≤ pos1 ∧ pos1 ≤ en ∧ g = en - pos1 ∧ Adv N C w wr rest1 off1 pos1 ∧ Inv rest1 off1 ∧ Hid (rem rest1 off1 = R.drop (pos1 - pos)) ∧ (∀ l ∈ rest1, l.length ≤ 1048576))
  case atStart => exact ⟨rest, off, pos, Nat.le_refl _, hp, rfl, ⟨Kept.refl _ _, rfl, h⟩, hi, by show _ = _; simpa using HR.out, hb2⟩
  case round =>
    obtain ⟨rest1, off1, pos1, h1, h2, rfl, hA, hI, hRe, hbl⟩ := hrel
    obtain ⟨hk, hsz, hcrs⟩ := hA
    by_cases hlt : pos1 < en
    · match rest1, hcrs, hI, hRe, hbl with
      | [], hcrs, hI, hRe, hbl =>
        exfalso
        have := congrArg List.length hRe.out
        simp [rem] at this
        omega
      | l :: ls, hcrs, hI, hRe, hbl =>
        have hoff := hI.2.2 l ls rfl
        have hlb := hbl l (by simp)
        obtain ⟨pv, hcur, hrws⟩ := hcrs
        have hrws' := hrws
        obtain ⟨b, o, cap, x, rfl, hcap, hm, hbN, hcell, hx, -⟩ := hrws.first
        obtain ⟨ax, bx, ox, cx, rfl, hlx, hmx, hax, hcx⟩ := hx.bytes
        obtain ⟨c0, c1, c2, cf⟩ := hcur.cells
        have hbC : b ≠ C := by omega
        clear hcx hax cf hx hrws
        have HCRS : Hid (Crs N wr C (l :: ls) off1 pos1) := ⟨_, hcur, hrws'⟩
        have HK : Hid (Kept (fun b => b = C) w wr ∧ wr.heap.size = w.heap.size) := ⟨hk, hsz⟩
        clear hcur hrws' hk hsz
        generalize hn : ls.length = n at *
        generalize hmm : l.length = m at *
        unfold maxLen at hm hmx
        have e1 : IntKind.i64.wrap ((en : Int) - pos1) = (en : Int) - pos1 := by rw [IntKind.wrap_i64]; omega
        have e2 : IntKind.i64.wrap ((m : Int) - off1) = (m : Int) - off1 := by rw [IntKind.wrap_i64]; omega
        by_cases hmin : (en : Int) - pos1 < (m : Int) - off1
        · obtain ⟨d, hd⟩ : ∃ d : Nat, d = en - pos1 := ⟨_, rfl⟩
          have HQ : Hid ((en : Int) - pos1 = d) := by show _ = _; omega
          have hd1 : off1 + d ≤ m := by omega
          have hd2 : pos1 + d ≤ en := by omega
          have hd3 : 0 < d := by omega
          clear hd
          go_wp2
          refine wp_region_still_tail 20 mixed (by kernel_rfl) ?_
          simp only [List.take_succ_cons, List.take_zero, List.drop_succ_cons, List.drop_zero]
          repeat still_step
          try refine wpStill_nil ?_
          go_wp2_with fail
          rw [HQ.out]
          refine (advance_walk N C _ l ls off1 pos1 d (Crs.drew HCRS.out) hN (by omega) (by omega) (by omega)).mono ?_
          rintro e w' ⟨rfl, hadv⟩
          go_wp2
          go_roundg (en - (pos1 + d))
          case measure => omega
          case rel => exact skip_rel h1 hd2 HK.out.1 HK.out.2 hadv hI hRe.out hbl (by omega)
        · obtain ⟨d, hd⟩ : ∃ d : Nat, d = m - off1 := ⟨_, rfl⟩
          have HQ : Hid ((m : Int) - off1 = d) := by show _ = _; omega
          have hd1 : off1 + d ≤ m := by omega
          have hd2 : pos1 + d ≤ en := by omega
          have hd3 : 0 < d := by omega
          clear hd
          go_wp2
          refine wp_region_still_tail 20 mixed (by kernel_rfl) ?_
          simp only [List.take_succ_cons, List.take_zero, List.drop_succ_cons, List.drop_zero]
          repeat still_step
          try refine wpStill_nil ?_
          go_wp2_with fail
          rw [HQ.out]
          refine (advance_walk N C _ l ls off1 pos1 d (Crs.drew HCRS.out) hN (by omega) (by omega) (by omega)).mono ?_
          rintro e w' ⟨rfl, hadv⟩
          go_wp2
          go_roundg (en - (pos1 + d))
          case measure => omega
          case rel => exact skip_rel h1 hd2 HK.out.1 HK.out.2 hadv hI hRe.out hbl (by omega)
    · obtain rfl : pos1 = en := by omega
      obtain ⟨pv, hcur, hrws⟩ := hcrs
      obtain ⟨c0, c1, c2, cf⟩ := hcur.cells
      have HA : Hid (Adv N C w wr rest1 off1 pos1) := ⟨hk, hsz, pv, hcur, hrws⟩
      clear hcur hrws cf c0 c1 hk hsz
      go_wp2
      go_end0
      exact ⟨rfl, rest1, off1, HA.out, hI, hRe.out, hbl⟩
end Go.Proofs.Qxb6630537aFmt
