/-
  The cursor's keep (seat b6630537aF).
-/
import Derived.Test.Qxb6630537aFmtSkip
namespace Go.Proofs.Qxb6630537aFmt
open Go.RowKit

/-- A slice of slices of bytes that the call owns (its row from block M on), its rows below N. -/
def Kpt (M N : Nat) (w : World) (kv : Value) (ls : List (List Int)) : Prop :=
  ∃ vs : List Value, vs.length = ls.length ∧ w.ownsRow M 28 1 kv ls.length vs ∧ ∀ (r : Nat) (x : Value) (l : List Int), vs[r]? = some x → ls[r]? = some l → Sl N w x (bys l)

structure KeepR (N M C : Nat) (w wr : World) (kv0 kv : Value) (old new rest : List (List Int)) (off pos pos0 en : Nat) (R : List Int) : Prop where
  lo : pos0 ≤ pos
  hi : pos ≤ en
  frame : Kept (fun b => b = C ∨ some b = kv0.ownBlock) w wr
  own : kv.ownBlock = kv0.ownBlock ∨ ∀ g, kv.ownBlock = some g → w.heap.size ≤ g
  crs : Crs N wr C rest off pos
  inv : Inv rest off
  left : rem rest off = R.drop (pos - pos0)
  text : new.flatten = R.take (pos - pos0)
  full : ∀ l ∈ new, l ≠ []
  kpt : Kpt M N wr kv (old ++ new)
  small : ∀ l ∈ rest, l.length ≤ 1048576

theorem own_tag {w : World} {M : Nat} {t : TypeId} {s : Nat} {v : Value} {n : Nat} {xs : List Value} (h : w.ownsRow M t s v n xs) {g : Nat} (hg : v.ownBlock = some g) : M ≤ g ∧ ∃ cur, w.heap[g]? = some (.cells cur t (0, 0)) := by
  rcases h.2 with ⟨rfl, _⟩ | ⟨g', cap, cur, rfl, hb, hh, _⟩
  · simp [Value.ownBlock] at hg
  · simp [Value.ownBlock] at hg; subst hg; exact ⟨hb, cur, hh⟩
theorem own_ne {w : World} {M C : Nat} {v pv : Value} {n : Nat} {xs : List Value} {off pos : Int} (h : w.ownsRow M 28 1 v n xs) (hC : Cur w C pv off pos) : v.ownBlock ≠ some C := by
  intro e
  obtain ⟨_, cur, hh⟩ := own_tag h e
  unfold Cur at hC
  rw [hC] at hh
  simp at hh
theorem full_le : ∀ {ls : List (List Int)}, (∀ l ∈ ls, l ≠ []) → ls.length ≤ ls.flatten.length
  | [], _ => by simp
  | l :: ls, h => by
    have := full_le (ls := ls) (fun x hx => h x (by simp [hx]))
    have := List.length_pos_iff.2 (h l (by simp))
    simp only [List.length_cons, List.flatten_cons, List.length_append]; omega

theorem Crs.kept {N C : Nat} {S : Nat → Prop} {w w' : World} {rest : List (List Int)} {off pos : Nat} (h : Crs N w C rest off pos) (k : Kept S w w') (hC : ¬ S C) (hs : ∀ x, x < N → ¬ S x) : Crs N w' C rest off pos := by
  obtain ⟨pv, h1, h2⟩ := h
  refine ⟨pv, ?_, h2.kept k hs⟩
  unfold Cur
  rw [k.block C h1.lt hC]; exact h1
theorem Kpt.kept {M N : Nat} {S : Nat → Prop} {w w' : World} {kv : Value} {ls : List (List Int)} (h : Kpt M N w kv ls) (k : Kept S w w') (hg : ∀ g, kv.ownBlock = some g → ¬ S g) (hs : ∀ x, x < N → ¬ S x) : Kpt M N w' kv ls := by
  obtain ⟨vs, h1, h2, h3⟩ := h
  refine ⟨vs, h1, ⟨h2.1, ?_⟩, fun r x l hx hl => (h3 r x l hx hl).kept k hs⟩
  rcases h2.2 with h | ⟨g, cap, cur, rfl, hb, hh, hrest⟩
  · exact .inl h
  · refine .inr ⟨g, cap, cur, rfl, hb, ?_, hrest⟩
    rw [k.block g (Array.getElem?_eq_some_iff.1 hh).1 (hg g rfl)]; exact hh

theorem keep_crs {N M C : Nat} {wr w1 : World} {kv : Value} {rest : List (List Int)} {off pos q n : Nat} {vs : List Value} {o : Obj} (h : Crs N wr C rest off pos) (hown : wr.ownsRow M 28 1 kv n vs) (hNM : N ≤ M) (hgrow : ((wr.drewN q).alloc o).grownBy w1 kv.ownBlock) : Crs N w1 C rest off pos := by
  have hk1 : Kept (fun b => some b = kv.ownBlock) wr w1 := (((Kept.refl (fun b => some b = kv.ownBlock) wr).drewN q).alloc o).trans (Kept.of_grown (S := fun b => some b = kv.ownBlock) hgrow (fun x hx => hx.symm)) (fun _ _ h => h)
  obtain ⟨pv, hcur, hr⟩ := h
  have hne := own_ne hown hcur
  exact Crs.kept ⟨pv, hcur, hr⟩ hk1 (fun e => hne e.symm) (fun x hx e => by have := (own_tag hown e.symm).1; omega)

theorem keep_step {N M C : Nat} {w wr w1 w2 : World} {kv0 kv kv' : Value} {old new : List (List Int)} {l : List Int} {ls : List (List Int)} {off pos pos0 en d q : Nat} {R : List Int} {xv : Value} {vs : List Value} {o : Obj}
    (h : KeepR N M C w wr kv0 kv old new (l :: ls) off pos pos0 en R) (hNM : N ≤ M) (hNC : N ≤ C) (_hCw : C < w.heap.size) (_hMw : M ≤ w.heap.size) (hd : off + d ≤ l.length) (hd0 : 0 < d) (hde : pos + d ≤ en)
    (hlen : vs.length = (old ++ new).length) (hown : wr.ownsRow M 28 1 kv (old ++ new).length vs) (hvs : ∀ (r : Nat) (x : Value) (l : List Int), vs[r]? = some x → (old ++ new)[r]? = some l → Sl N wr x (bys l))
    (hx : Sl N wr xv (bys ((l.drop off).take d)))
    (hown' : w1.ownsRow M 28 1 kv' ((old ++ new).length + 1) (vs ++ [xv])) (hgrow : ((wr.drewN q).alloc o).grownBy w1 kv.ownBlock) (hat : kv'.ownBlock = kv.ownBlock ∨ kv'.ownBlock = some ((wr.drewN q).alloc o).heap.size)
    (hadv : Adv N C w1 w2 (advRest l ls off d) (advOff l off d) (pos + d)) :
    KeepR N M C w w2 kv0 kv' old (new ++ [(l.drop off).take d]) (advRest l ls off d) (advOff l off d) (pos + d) pos0 en R := by
  obtain ⟨ka, ks, kc⟩ := hadv
  have hlo := h.lo
  have hk1 : Kept (fun b => some b = kv.ownBlock) wr w1 := (((Kept.refl (fun b => some b = kv.ownBlock) wr).drewN q).alloc o).trans (Kept.of_grown (S := fun b => some b = kv.ownBlock) hgrow (fun x hx => hx.symm)) (fun _ _ h => h)
  obtain ⟨pv, hcur, _⟩ := h.crs
  have hne := own_ne hown hcur
  have hNrow : ∀ x, x < N → ¬ (some x = kv.ownBlock) := fun x hx e => by have := (own_tag hown e.symm).1; omega
  have hcrs1 := h.crs.kept hk1 (fun e => hne e.symm) hNrow
  have hne1 : kv'.ownBlock ≠ some C := by
    obtain ⟨pv1, hcur1, _⟩ := hcrs1
    exact own_ne hown' hcur1
  have hk2 : Kept (fun b => b = C ∨ some b = kv.ownBlock) wr w2 := (hk1.mono (fun x _ hx => Or.inr hx)).trans ka (fun x _ hx => Or.inl hx)
  have hN2 : ∀ x, x < N → ¬ (x = C ∨ some x = kv.ownBlock) := fun x hx e => by
    rcases e with e | e
    · omega
    · exact hNrow x hx e
  refine ⟨by omega, hde, ?_, ?_, kc, inv_adv h.inv hd, ?_, ?_, ?_, ?_, ?_⟩
  · refine h.frame.trans hk2 (fun x hx e => ?_)
    rcases e with e | e
    · exact .inl e
    · rcases h.own with ho | ho
      · exact .inr (by rw [← ho]; exact e)
      · have := ho x e.symm; omega
  · rcases hat with ha | ha
    · rw [ha]; exact h.own
    · refine .inr (fun g hg => ?_)
      rw [ha] at hg
      have := h.frame.size
      simp at hg
      omega
  · rw [rem_adv hd, h.left, List.drop_drop]; congr 1; omega
  · have e : pos + d - pos0 = (pos - pos0) + d := by omega
    rw [List.flatten_append, List.flatten_singleton, h.text, e, drop_take_step, ← h.left, rem_take hd]
  · intro x hx
    rcases List.mem_append.1 hx with hx | hx
    · exact h.full x hx
    · simp at hx; subst hx
      intro e
      have := congrArg List.length e
      simp at this; omega
  · have e : old ++ (new ++ [(l.drop off).take d]) = (old ++ new) ++ [(l.drop off).take d] := by rw [List.append_assoc]
    rw [e]
    have hK : Kpt M N w1 kv' ((old ++ new) ++ [(l.drop off).take d]) := by
      have el : ((old ++ new) ++ [(l.drop off).take d]).length = (old ++ new).length + 1 := by rw [List.length_append]; rfl
      refine ⟨vs ++ [xv], by rw [List.length_append, el, hlen]; rfl, by rw [el]; exact hown', fun r x m hr hm => ?_⟩
      by_cases hrl : r < vs.length
      · rw [List.getElem?_append_left hrl] at hr
        rw [List.getElem?_append_left (by omega)] at hm
        exact (hvs r x m hr hm).kept hk1 hNrow
      · rw [List.getElem?_append_right (by omega)] at hr
        rw [List.getElem?_append_right (by omega), ← hlen] at hm
        have hr0 : r - vs.length = 0 := by
          rcases Nat.eq_zero_or_pos (r - vs.length) with h0 | h0
          · exact h0
          · rw [List.getElem?_eq_none (by simp; omega)] at hr; cases hr
        rw [hr0] at hr hm
        simp at hr hm
        subst hr; subst hm
        exact hx.kept hk1 hNrow
    exact hK.kept ka (fun g hg e => hne1 (by rw [hg, e])) (fun x hx e => by omega)
  · intro x hx
    unfold advRest at hx
    split at hx
    · exact h.small x (by simp [hx])
    · exact h.small x hx

theorem own_drewN {w : World} {M : Nat} {t : TypeId} {s : Nat} {v : Value} {n : Nat} {xs : List Value} (h : w.ownsRow M t s v n xs) (q : Nat) : (w.drewN q).ownsRow M t s v n xs := h

theorem sl_sub {N : Nat} {w : World} {bx ox off d : Nat} {l : List Int} (hc : ∀ j, j < l.length → w.cell? ⟨bx, ox + j, none⟩ = some (.int .u8 (fn l j))) (hb : bx < N) (hd : off + d ≤ l.length) (hm : l.length ≤ maxLen) : Sl N w (.slice (some ⟨bx, ox + off, none⟩) d d) (bys ((l.drop off).take d)) := by
  have hlen : ((l.drop off).take d).length = d := by simp; omega
  refine ⟨some ⟨bx, ox + off, none⟩, bx, ox + off, d, by rw [bys_len, hlen], by rw [bys_len, hlen]; exact Nat.le_refl _, by omega, (fun h => by cases h), fun _ => ⟨rfl, hb⟩, fun j x hj => ?_⟩
  have hjd : j < d := by
    rcases Nat.lt_or_ge j d with h | h
    · exact h
    · rw [List.getElem?_eq_none (by rw [bys_len, hlen]; exact h)] at hj; cases hj
  have := hc (off + j) (by omega)
  rw [Nat.add_assoc, this]
  have e : (bys ((l.drop off).take d))[j]? = some (.int .u8 (fn l (off + j))) := by
    simp only [bys, List.getElem?_map, List.getElem?_take, List.getElem?_drop, hjd, if_true]
    rw [fn_get l (off + j) (by omega)]; rfl
  rw [e] at hj
  exact hj

set_option maxHeartbeats 4000000 in
theorem keep_walk (N M C : Nat) (w : World) (kv0 : Value) (old rest : List (List Int)) (off pos en : Nat) (hK : Kpt M N w kv0 old) (h : Crs N w C rest off pos) (hNM : N ≤ M) (hNC : N ≤ C) (hMw : M ≤ w.heap.size) (hi : Inv rest off) (hp : pos ≤ en) (hr : en - pos ≤ (rem rest off).length) (hb1 : en ≤ 1048576) (hb2 : ∀ l ∈ rest, l.length ≤ 1048576) (hb3 : old.length ≤ 4194304) :
    Calls Tryf.prog 21 #[.pointer (some ⟨C, 0, none⟩), kv0, .int .i64 en] w fun e w' => ∃ kv', e = .returned kv' ∧ ∃ new rest' off', KeepR N M C w w' kv0 kv' old new rest' off' en pos en (rem rest off) := by
  generalize hR : rem rest off = R at *
  have HR : Hid (rem rest off = R) := hR
  have hCw : C < w.heap.size := by obtain ⟨pv, hc, _⟩ := h; exact hc.lt
  have hst : KeepR N M C w w kv0 kv0 old [] rest off pos pos en R := ⟨Nat.le_refl _, hp, Kept.refl _ _, .inl rfl, h, hi, by rw [hR]; simp, by simp, by simp, by simpa using hK, hb2⟩
  obtain ⟨i0, hi0, hz0, hz1, hz2⟩ := info_parts Tryf.info28
  clear hR hK h hi
  go_enter Tryf.func21, Tryf.ntmps21
  go_wp2
  go_loopg [1] (en - pos) (fun g v wr => ∃ new rest1 off1 pos1, g = en - pos1 ∧ KeepR N M C w wr kv0 v old new rest1 off1 pos1 pos en R)
  case atStart => exact ⟨[], rest, off, pos, rfl, hst⟩
  case round =>
    clear hst
    obtain ⟨new, rest1, off1, pos1, rfl, hk⟩ := hrel
    have h1 := hk.lo
    have h2 := hk.hi
    by_cases hlt : pos1 < en
    · match rest1, hk with
      | [], hk =>
        exfalso
        have := congrArg List.length hk.left
        simp [rem] at this
        omega
      | l :: ls, hk =>
        have hoff := hk.inv.2.2 l ls rfl
        have hlb := hk.small l (by simp)
        have hnl : new.length ≤ 1048576 := by
          have e1 := full_le hk.full
          have e2 := congrArg List.length hk.text
          simp only [List.length_take] at e2
          omega
        obtain ⟨pv, hcur, hrws⟩ := hk.crs
        obtain ⟨b, o, cap, x, rfl, hcap, hm, hbN, hcell, hx, -⟩ := hrws.first
        obtain ⟨ax, bx, ox, cx, rfl, hlx, hmx, hax, hcx⟩ := hx.bytes
        obtain ⟨rfl, hbx⟩ := hax (by omega)
        obtain ⟨c0, c1, c2, cf⟩ := hcur.cells
        obtain ⟨vs, hvl, hown, hvs⟩ := hk.kpt
        have hbC : b ≠ C := by omega
        have HX : Hid (∀ d, off1 + d ≤ l.length → Sl N wr (.slice (some ⟨bx, ox + off1, none⟩) d d) (bys ((l.drop off1).take d))) := fun d hd => sl_sub hcx hbx hd (by omega)
        have hM2 : M ≤ wr.heap.size := Nat.le_trans hMw hk.frame.size
        have HK : Hid (KeepR N M C w wr kv0 u1 old new (l :: ls) off1 pos1 pos en R) := hk
        have HCRS : Hid (Crs N wr C (l :: ls) off1 pos1) := hk.crs
        have HVS : Hid (∀ (r : Nat) (x : Value) (l : List Int), vs[r]? = some x → (old ++ new)[r]? = some l → Sl N wr x (bys l)) := hvs
        have hnn : (old ++ new).length ≤ 5242880 := by simp; omega
        generalize hnm : (old ++ new).length = nn at *
        clear hcx cf hx hrws hcur hk hvs
        generalize hn : ls.length = n at *
        generalize hmm : l.length = m at *
        unfold maxLen at hm hmx
        obtain ⟨mo, rfl⟩ : ∃ mo, m = off1 + mo := ⟨m - off1, by omega⟩
        obtain ⟨k, hk⟩ : ∃ k : Nat, en = pos1 + k := ⟨en - pos1, by omega⟩
        have q1 : (en : Int) - pos1 = k := by omega
        have q2 : IntKind.i64.wrap ((en : Int) - pos1) = k := by rw [q1, IntKind.wrap_i64]; omega
        have HK2 : Hid (en = pos1 + k) := hk
        have k0 : 0 < k := by omega
        have k1 : k ≤ 1048576 := by omega
        have o1 : (0 : Int) ≤ off1 := by omega
        have o2 : (off1 : Int) < (off1 : Int) + mo := by omega
        have o3 : ¬ off1 = cx := by omega
        have o5 : 0 < mo := by omega
        clear hk
        by_cases hmin : (k : Int) < (mo : Int)
        · go_wp2
          go_quiet (fail)
          go_wp2_with (at_builtin; refine wpList_append_own_at _ rfl (.tmp 35) (.tmp 40) 22 rfl M 28 i0 (.slice none 0 0) 1 24 Tryf.underlying22 hi0 hz0 hz1 hz2 rfl (by decide) _ _ _ rfl ((own_drewN hown nq).alloc _) ⟨wr.heap.size, 0, none⟩ 1 1 [.slice (some ⟨bx, ox + off1, none⟩) k k] rfl rfl (cell_one_new _ _ _) (by intro u hu; simp at hu; subst hu; rfl) (by unfold maxLen; omega) (by omega) (by simp; omega) ?_)
          intro kv' w1 hown' hgrow _ hat
          have hc1 := keep_crs HCRS.out hown hNM hgrow
          go_wp2_with fail
          refine (advance_walk N C _ l ls off1 pos1 k hc1 hNC (by omega) (by omega) (by omega)).mono ?_
          rintro e w2 ⟨rfl, hadv⟩
          have R := keep_step HK.out hNM hNC hCw hMw (by omega) (by omega) (by omega) (by rw [hnm]; exact hvl) (by rw [hnm]; exact hown) HVS.out (HX.out k (by omega)) (by rw [hnm]; exact hown') hgrow (by simpa using hat) hadv
          clear hown' hgrow hat hown c0 c1 c2 hcell
          go_wp2
          go_roundg (en - (pos1 + k))
          case measure => omega
          case rel => exact ⟨_, _, _, _, rfl, R⟩
        · go_wp2
          go_quiet (fail)
          go_wp2_with (at_builtin; refine wpList_append_own_at _ rfl (.tmp 35) (.tmp 40) 22 rfl M 28 i0 (.slice none 0 0) 1 24 Tryf.underlying22 hi0 hz0 hz1 hz2 rfl (by decide) _ _ _ rfl ((own_drewN hown nq).alloc _) ⟨wr.heap.size, 0, none⟩ 1 1 [.slice (some ⟨bx, ox + off1, none⟩) mo mo] rfl rfl (cell_one_new _ _ _) (by intro u hu; simp at hu; subst hu; rfl) (by unfold maxLen; omega) (by omega) (by simp; omega) ?_)
          intro kv' w1 hown' hgrow _ hat
          have hc1 := keep_crs HCRS.out hown hNM hgrow
          go_wp2_with fail
          refine (advance_walk N C _ l ls off1 pos1 mo hc1 hNC (by omega) (by omega) (by omega)).mono ?_
          rintro e w2 ⟨rfl, hadv⟩
          have R := keep_step HK.out hNM hNC hCw hMw (by omega) (by omega) (by omega) (by rw [hnm]; exact hvl) (by rw [hnm]; exact hown) HVS.out (HX.out mo (by omega)) (by rw [hnm]; exact hown') hgrow (by simpa using hat) hadv
          clear hown' hgrow hat hown c0 c1 c2 hcell
          go_wp2
          go_roundg (en - (pos1 + mo))
          case measure => omega
          case rel => exact ⟨_, _, _, _, rfl, R⟩
    · obtain rfl : pos1 = en := by omega
      obtain ⟨pv, hcur, hrws⟩ := hk.crs
      obtain ⟨c0, c1, c2, cf⟩ := hcur.cells
      have HK : Hid (KeepR N M C w wr kv0 u1 old new rest1 off1 pos1 pos pos1 R) := hk
      clear hcur hrws cf c0 c1 hk
      go_wp2
      go_ret
      exact ⟨_, rfl, new, rest1, off1, HK.out⟩
end Go.Proofs.Qxb6630537aFmt
