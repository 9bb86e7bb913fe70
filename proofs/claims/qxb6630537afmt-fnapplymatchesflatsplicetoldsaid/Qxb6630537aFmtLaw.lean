/-
  THE LAW's WALK (seat b6630537aF): FnApplyMatchesFlatSplice returns true, and nothing that was there has turned.
-/
import Derived.Test.Qxb6630537aFmtApply
import Derived.Test.Qxb6630537aFmtSmall
import Derived.Test.Qxb6630537aFmtBuild
import Derived.Test.Qxb6630537aFmtBytes
namespace Go.Proofs.Qxb6630537aFmt
open Go.RowKit Go.Extern.Stop Go.Stop Go.Extern

theorem len_le_flatten {ls : List (List Int)} {r : Nat} (h : r < ls.length) : (ls.getD r []).length ≤ ls.flatten.length := by
  have e : ls.getD r [] = ls[r] := by simp [h]
  rw [e]
  exact mem_len (List.getElem_mem h)
theorem noEmpty_iff {ls : List (List Int)} : noEmpty ls = true ↔ ∀ l ∈ ls, l ≠ [] := by
  unfold noEmpty
  rw [List.all_eq_true]
  constructor
  · intro h l hl e; have := h l hl; rw [e] at this; simp at this
  · intro h l hl
    cases hz : l with
    | nil => exact absurd hz (h l hl)
    | cons a b => rfl
theorem Rws.slice {N : Nat} {w : World} {v : Value} {ls : List (List Int)} (h : Rws N w v ls) : ∃ a c, v = .slice a ls.length c ∧ ls.length ≤ 9223372036854775807 := by
  obtain ⟨ao, b, o, cap, _, _, _, _, _, h1, g⟩ := h.grid
  have h2 := g.le
  have h3 := g.lem
  unfold maxLen at h3
  exact ⟨ao, cap, h1, by omega⟩

theorem Grid.sl {N : Nat} {w : World} {ao : Option Addr} {b o n cap : Nat} {A : Nat → Option Addr} {L C RB RO : Nat → Nat} {Z : Nat → List Int} (g : Grid N w ao b o n cap A L C RB RO Z) {j : Nat} (hj : j < n) : Sl N w (.slice (A j) (L j) (C j)) (bys (Z j)) := by
  have hl : (bys (Z j)).length = L j := by rw [bys_len]; exact g.rlen j hj
  refine ⟨A j, RB j, RO j, C j, by rw [hl], by rw [hl]; exact (g.rle j hj).1, (g.rle j hj).2, g.rnil j hj, fun h => by rw [hl] at h; exact g.rat j hj h, fun i x hx => ?_⟩
  simp only [bys, List.getElem?_map, Option.map_eq_some_iff] at hx
  obtain ⟨y, hy, rfl⟩ := hx
  exact g.rcell j hj i y hy
theorem inOrd_all {S E : Nat → Int} {size : Int} {n : Nat} (h : inOrd S E size n = true) : ∀ k, k < n → okAt S E size k = true := by
  unfold inOrd at h
  rw [List.all_eq_true] at h
  exact fun k hk => h k (List.mem_range.2 hk)
theorem sl_drewN {N : Nat} {w : World} {v : Value} {xs : List Value} (h : Sl N w v xs) (q : Nat) : Sl N (w.drewN q) v xs := h
theorem rws_drewN {N : Nat} {w : World} {v : Value} {ls : List (List Int)} (h : Rws N w v ls) (q : Nat) : Rws N (w.drewN q) v ls := h
theorem below_drewN1 {B : Nat} {w w' : World} (h : Below B w w') (q : Nat) : Below B w (w'.drewN q) := ⟨h.os, h.tape, h.output, h.size, h.block⟩
theorem eqB_self (l : List Int) : eqB l l = true := by simp [eqB]

set_option maxRecDepth 100000 in
set_option maxHeartbeats 8000000 in
theorem law_walk (F : Interp) (w : World) (hF : F.answers w.tape) (v0 v1 v2 v3 : Value) (ps ts : List (List Int)) (st en : List Int)
    (h0 : Rws w.heap.size w v0 ps) (h1 : Sl w.heap.size w v1 (i64s st)) (h2 : Sl w.heap.size w v2 (i64s en)) (h3 : Rws w.heap.size w v3 ts)
    (hw1 : ∀ j, -9223372036854775808 ≤ fn st j ∧ fn st j ≤ 9223372036854775807) (hw2 : ∀ j, -9223372036854775808 ≤ fn en j ∧ fn en j ≤ 9223372036854775807) :
    Calls Tryf.prog 3 #[v0, v1, v2, v3] w fun e w' => e = .returned (.bool true) ∧ Below w.heap.size w w' := by
  obtain ⟨a0, c0, rfl, hl0⟩ := h0.slice
  obtain ⟨a3, c3, rfl, hl3⟩ := h3.slice
  obtain ⟨a1, _, _, c1, rfl, hle1, hlm1, _, _⟩ := h1.ints
  obtain ⟨a2, _, _, c2, rfl, hle2, hlm2, _, _⟩ := h2.ints
  unfold maxLen at hlm1 hlm2
  have H0 : Hid (Rws w.heap.size w (.slice a0 ps.length c0) ps) := h0
  have H3 : Hid (Rws w.heap.size w (.slice a3 ts.length c3) ts) := h3
  have H1 : Hid (Sl w.heap.size w (.slice a1 st.length c1) (i64s st)) := h1
  have H2 : Hid (Sl w.heap.size w (.slice a2 en.length c2) (i64s en)) := h2
  have HF : Hid (F.answers w.tape) := hF
  have HW1 : Hid (∀ j, -9223372036854775808 ≤ fn st j ∧ fn st j ≤ 9223372036854775807) := hw1
  have HW2 : Hid (∀ j, -9223372036854775808 ≤ fn en j ∧ fn en j ≤ 9223372036854775807) := hw2
  clear h0 h1 h2 h3 hF hw1 hw2
  go_enter Tryf.func3, Tryf.ntmps3
  go_wp2_with fail
  refine (bytes_walk w.heap.size w _ _ ps ts a1 a2 _ _ _ _ H0.out H3.out (by omega) (by omega)).mono ?_
  rintro e w' ⟨⟨r, rfl, -⟩, rfl⟩
  cases r
  · go_wp2
    go_ret
    exact ⟨rfl, Below.refl _ _⟩
  go_wp2_with fail
  refine (sizeOK_walk w'.heap.size w' _ _ ps ts a1 a2 _ _ _ _ H0.out H3.out (by omega) (by omega)).mono ?_
  rintro e w'' ⟨⟨r, rfl, hr⟩, rfl⟩
  cases r
  · go_wp2
    go_ret
    exact ⟨rfl, Below.refl _ _⟩
  have hsm := hr rfl
  have HSM : Hid (Small ps st.length en.length ts) := hsm
  obtain ⟨hs1, hs2⟩ := hsm
  clear hr
  by_cases hlen : st.length = en.length ∧ en.length = ts.length
  case neg =>
    by_cases l1 : st.length = en.length
    · have l2 : ¬ en.length = ts.length := fun h => hlen ⟨l1, h⟩
      have d2 : ((en.length : Int) == ts.length) = false := by simp; omega
      clear hlen
      generalize st.length = n1 at *
      generalize en.length = n2 at *
      generalize ts.length = n3 at *
      subst l1
      go_wp2
      go_ret
      exact ⟨rfl, Below.refl _ _⟩
    · have d1 : ((st.length : Int) == en.length) = false := by simp; omega
      generalize st.length = n1 at *
      generalize en.length = n2 at *
      go_wp2
      go_ret
      exact ⟨rfl, Below.refl _ _⟩
  case pos =>
    obtain ⟨l1, l2⟩ := hlen
    have L1 : Hid (st.length = en.length) := l1
    have L2 : Hid (en.length = ts.length) := l2
    have HT2 : Hid (Sl w''.heap.size w'' (.slice a2 st.length c2) (i64s en)) := by have := H2.out; rw [← l1] at this; exact this
    have HT3 : Hid (Rws w''.heap.size w'' (.slice a3 st.length c3) ts) := by have := H3.out; rw [← l2, ← l1] at this; exact this
    rw [← l2, ← l1]
    clear H2 H3 hle2 hl3 l1 l2
    generalize hn : st.length = n at *
    generalize hm : ps.length = m at *
    have HN : Hid (st.length = n) := hn
    have HM : Hid (ps.length = m) := hm
    clear hn hm
    go_wp2_with fail
    refine (noEmpty_walk w''.heap.size w'' _ ps H0.out).mono ?_
    rintro e w3 ⟨rfl, rfl⟩
    cases hne : noEmpty ps
    · have hne' : Hid (noEmpty ps = false) := hne
      clear hne
      go_wp2
      go_ret
      exact ⟨rfl, Below.refl _ _⟩
    have HNE : Hid (noEmpty ps = true) := hne
    clear hne
    have hbl : ∀ r, r < ps.length → (ps.getD r []).length ≤ 1048576 := fun r hr => by have := len_le_flatten hr; omega
    have hblt : ∀ r, r < ts.length → (ts.getD r []).length ≤ 1048576 := fun r hr => by have := len_le_flatten hr; omega
    have HBL : Hid (∀ r, r < ps.length → (ps.getD r []).length ≤ 1048576) := hbl
    have HBLT : Hid (∀ r, r < ts.length → (ts.getD r []).length ≤ 1048576) := hblt
    clear hbl hblt
    go_wp2_with fail
    refine (clone2_walk w3.heap.size w3 _ ps H0.out (Nat.le_refl _) (by have := HM.out; omega) HBL.out).mono ?_
    rintro e wa ⟨vp, rfl, hP, hBa⟩
    have HP : Hid (Rws wa.heap.size wa vp ps) := hP
    have HBa : Hid (Below w3.heap.size w3 wa) := hBa
    clear hP hBa
    go_wp2_with fail
    refine (cloneInts_walk w3.heap.size wa _ st (H1.out.below HBa.out (Nat.le_refl _)) HBa.out.size (by have := HN.out; omega)).mono ?_
    rintro e wb ⟨vst, rfl, hS, hBb⟩
    have HS : Hid (Sl wb.heap.size wb vst (i64s st)) := hS
    have HBb : Hid (Below wa.heap.size wa wb) := hBb
    have HBwb : Hid (Below w3.heap.size w3 wb) := HBa.out.trans (hBb.mono HBa.out.size)
    clear hS hBb
    go_wp2_with fail
    refine (cloneInts_walk w3.heap.size wb _ en (HT2.out.below HBwb.out (Nat.le_refl _)) HBwb.out.size (by have := HN.out; have := L1.out; omega)).mono ?_
    rintro e wc ⟨ven, rfl, hE, hBc⟩
    have HE : Hid (Sl wc.heap.size wc ven (i64s en)) := hE
    have HBc : Hid (Below wb.heap.size wb wc) := hBc
    have HBwc : Hid (Below w3.heap.size w3 wc) := HBwb.out.trans (hBc.mono HBwb.out.size)
    clear hE hBc
    go_wp2_with fail
    refine (clone2_walk w3.heap.size wc _ ts (HT3.out.below HBwc.out (Nat.le_refl _)) HBwc.out.size (by have := HN.out; have := L1.out; have := L2.out; omega) HBLT.out).mono ?_
    rintro e wd ⟨vtx, rfl, hX, hBd⟩
    have HX : Hid (Rws wd.heap.size wd vtx ts) := hX
    have HBd : Hid (Below wc.heap.size wc wd) := hBd
    have HBwd : Hid (Below w3.heap.size w3 wd) := HBwc.out.trans (hBd.mono HBwc.out.size)
    clear hX hBd
    go_wp2_with fail
    refine (flatten_walk w3.heap.size wd _ ps (H0.out.below HBwd.out (Nat.le_refl _)) HBwd.out.size (by omega) (by have := HM.out; omega)).mono ?_
    rintro e we ⟨vo, rfl, hO, hBe⟩
    have HBwe : Hid (Below w3.heap.size w3 we) := HBwd.out.trans (hBe.mono HBwd.out.size)
    have HPe : Hid (Rws we.heap.size we vp ps) := by
      have b1 : Below wa.heap.size wa wd := (HBb.out.trans (HBc.out.mono HBb.out.size)).trans (HBd.out.mono (Nat.le_trans HBb.out.size HBc.out.size))
      have b2 : Below wa.heap.size wa we := b1.trans (hBe.mono b1.size)
      exact (HP.out.below b2 (Nat.le_refl _)).mono b2.size
    have HSe : Hid (Sl we.heap.size we vst (i64s st)) := by
      have b1 : Below wb.heap.size wb wd := HBc.out.trans (HBd.out.mono HBc.out.size)
      have b2 : Below wb.heap.size wb we := b1.trans (hBe.mono b1.size)
      exact (HS.out.below b2 (Nat.le_refl _)).mono b2.size
    have HEe : Hid (Sl we.heap.size we ven (i64s en)) := by
      have b2 : Below wc.heap.size wc we := HBd.out.trans (hBe.mono HBd.out.size)
      exact (HE.out.below b2 (Nat.le_refl _)).mono b2.size
    have HXe : Hid (Rws we.heap.size we vtx ts) := (HX.out.below hBe (Nat.le_refl _)).mono hBe.size
    have HO : Hid (Sl we.heap.size we vo (bys ps.flatten)) := hO
    clear HP HS HE HX HBa HBb HBwb HBc HBwc HBd HBwd hO hBe
    obtain ⟨ap, cp, hvp, -⟩ := HPe.out.slice
    obtain ⟨ax, cx, hvx, -⟩ := HXe.out.slice
    obtain ⟨as', bs', os', cs', hvs, hs3, hs4, -, -⟩ := HSe.out.ints
    obtain ⟨ae', be', oe', ce', hve, -, -, -, -⟩ := HEe.out.ints
    obtain ⟨ao, bo', oo', co, hvo, ho3, ho4, -, -⟩ := HO.out.bytes
    rw [hvp, HM.out] at HPe
    rw [hvx, ← L2.out, ← L1.out] at HXe
    rw [hvs, HN.out] at HSe
    rw [hve, ← L1.out] at HEe
    rw [hvo] at HO
    rw [hvp, hvx, hvs, hve, hvo, HM.out, ← L2.out, ← L1.out, HN.out]
    clear hvp hvx hvs hve hvo
    generalize hfl0 : ps.flatten = fl at *
    have HFL : Hid (ps.flatten = fl) := hfl0
    clear hfl0
    go_wp2_with fail
    refine (newText_walk we ap m cp _).mono ?_
    rintro e wf ⟨rfl, rfl⟩
    have bf : Below we.heap.size we (we.alloc (.cells #[.slice ap m cp, .int .i64 (fl.length : Nat)] 45)) := (Below.refl _ we).alloc (Nat.le_refl _) _
    have HTX : Hid (Txt (we.alloc (.cells #[.slice ap m cp, .int .i64 (fl.length : Nat)] 45)) we.heap.size (.slice ap m cp) (fl.length : Nat)) := heap_alloc_new we _
    have HPf := (HPe.out.below bf (Nat.le_refl _))
    have HSf := (HSe.out.below bf (Nat.le_refl _))
    have HEf := (HEe.out.below bf (Nat.le_refl _))
    have HXf := (HXe.out.below bf (Nat.le_refl _))
    have HOf := (HO.out.below bf (Nat.le_refl _))
    have HBwf : Hid (Below w3.heap.size w3 (we.alloc (.cells #[.slice ap m cp, .int .i64 (fl.length : Nat)] 45))) := HBwe.out.alloc HBwe.out.size _
    have hwe : w3.heap.size ≤ we.heap.size := HBwe.out.size
    obtain ⟨ax', bx, ox, cx', A, L, C, RB, RO, hxe, G⟩ := HXf.grid
    simp only [Value.slice.injEq] at hxe
    obtain ⟨rfl, hxn, rfl⟩ := hxe
    rw [← hxn] at G
    have hTVf : ∀ j, j < n → Sl we.heap.size (we.alloc (.cells #[.slice ap m cp, .int .i64 (fl.length : Nat)] 45)) (.slice (A j) (L j) (C j)) (bys (ts.getD j [])) := fun j hj => G.sl hj
    have hbw : Calls Tryf.prog 13 #[.slice as' n cs', .slice ae' n ce', .slice ax n cx, .int .i64 0, .int .i64 n, .int .i64 0] (we.alloc (.cells #[.slice ap m cp, .int .i64 (fl.length : Nat)] 45)) fun e w' => ∃ v', e = .returned v' ∧ w'.ownsRow (we.alloc (.cells #[.slice ap m cp, .int .i64 (fl.length : Nat)] 45)).heap.size 50 3 v' n (chCells (fn st) (fn en) (fun r => .slice (A r) (L r) (C r)) n) ∧ Below (we.alloc (.cells #[.slice ap m cp, .int .i64 (fl.length : Nat)] 45)).heap.size (we.alloc (.cells #[.slice ap m cp, .int .i64 (fl.length : Nat)] 45)) w' := build_walk we.heap.size (we.alloc (.cells #[.slice ap m cp, .int .i64 (fl.length : Nat)] 45)) _ _ ax bx ox n cx st en A L C HSf HEf bf.size HN.out L1.out.symm (fun h => ⟨G.at_ h, G.lt h⟩) G.cell HW1.out HW2.out (by omega)
    have HPF : Hid (Rws we.heap.size (we.alloc (.cells #[.slice ap m cp, .int .i64 (fl.length : Nat)] 45)) (.slice ap m cp) ps) := HPf
    have HOF : Hid (Sl we.heap.size (we.alloc (.cells #[.slice ap m cp, .int .i64 (fl.length : Nat)] 45)) (.slice ao fl.length co) (bys fl)) := HOf
    have HTVF : Hid (∀ j, j < n → Sl we.heap.size (we.alloc (.cells #[.slice ap m cp, .int .i64 (fl.length : Nat)] 45)) (.slice (A j) (L j) (C j)) (bys (ts.getD j []))) := hTVf
    have HBW : Hid (Calls Tryf.prog 13 #[.slice as' n cs', .slice ae' n ce', .slice ax n cx, .int .i64 0, .int .i64 n, .int .i64 0] (we.alloc (.cells #[.slice ap m cp, .int .i64 (fl.length : Nat)] 45)) fun e w' => ∃ v', e = .returned v' ∧ w'.ownsRow (we.alloc (.cells #[.slice ap m cp, .int .i64 (fl.length : Nat)] 45)).heap.size 50 3 v' n (chCells (fn st) (fn en) (fun r => .slice (A r) (L r) (C r)) n) ∧ Below (we.alloc (.cells #[.slice ap m cp, .int .i64 (fl.length : Nat)] 45)).heap.size (we.alloc (.cells #[.slice ap m cp, .int .i64 (fl.length : Nat)] 45)) w') := hbw
    clear HPf HSf HEf HXf HOf HPe HSe HEe HXe HO HBwe hTVf hbw bf hxn G
    go_wp2_with fail
    refine Calls.mono (HBW.out) ?_
    rintro e wg ⟨vch, rfl, hown, hBg⟩
    clear HBW
    obtain ⟨ach, g, cch, hvch, hch, hgg⟩ := chg_of_own hown
    rw [hvch]
    have hgT : 0 < n → g ≠ we.heap.size := fun h => by have := (hgg h).1; simp at this; omega
    have hfl := HBwf.out.trans (hBg.mono HBwf.out.size)
    have HBG : Hid (Below w3.heap.size w3 wg) := hfl
    have kg : Kept (fun _ => False) (we.alloc (.cells #[.slice ap m cp, .int .i64 (fl.length : Nat)] 45)) wg := Kept.of_below hBg
    have HTXG : Hid (Txt wg we.heap.size (.slice ap m cp) (fl.length : Nat)) := HTX.out.kept kg (fun h => h)
    have HPG : Hid (Rws we.heap.size wg (.slice ap m cp) ps) := HPF.out.kept kg (fun _ _ h => h)
    have HOG : Hid (Sl we.heap.size wg (.slice ao fl.length co) (bys fl)) := HOF.out.kept kg (fun _ _ h => h)
    have HTVG : Hid (∀ j, j < n → Sl we.heap.size wg (.slice (A j) (L j) (C j)) (bys (ts.getD j []))) := fun j hj => (HTVF.out j hj).kept kg (fun _ _ h => h)
    have hwg : we.heap.size < wg.heap.size := HTXG.out.lt
    have HFG : Hid (F.answers wg.tape) := by show F.answers wg.tape; rw [hfl.tape]; exact HF.out
    have HCH : Hid (Chg wg ach g n cch (fn st) (fn en) (fun r => .slice (A r) (L r) (C r))) := hch
    have HFU : Hid (∀ l ∈ ps, l ≠ []) := noEmpty_iff.1 HNE.out
    have HGT : Hid (0 < n → g ≠ we.heap.size) := hgT
    clear hvch hown hgg hfl kg hch hgT HTX HPF HOF HTVF hBg HBwf
    cases hord : inOrd (fn st) (fn en) (fl.length : Nat) n
    · have HORD : Hid (inOrd (fn st) (fn en) (fl.length : Nat) n = false) := hord
      clear hord
      go_wp2_with fail
      refine Calls.mono (apply_bad F we.heap.size wg HFG.out (.slice ap m cp) fl.length ach g n cch (fn st) (fn en) _ HTXG.out HCH.out (fun j hj => ⟨_, _, _, rfl⟩) HORD.out (by omega)) ?_
      rintro en' wh ⟨⟨t, q, rfl⟩, hBh⟩
      have kh : Kept (fun _ => False) wg wh := Kept.of_below hBh
      have HTXH : Hid (Txt wh we.heap.size (.slice ap m cp) (fl.length : Nat)) := HTXG.out.kept kh (fun h => h)
      have HPH : Hid (Rws we.heap.size wh (.slice ap m cp) ps) := HPG.out.kept kh (fun _ _ h => h)
      have HOH : Hid (Sl we.heap.size wh (.slice ao fl.length co) (bys fl)) := HOG.out.kept kh (fun _ _ h => h)
      have HBH : Hid (Below w3.heap.size w3 wh) := HBG.out.trans (hBh.mono HBG.out.size)
      have hwh : we.heap.size ≤ wh.heap.size := by have := hBh.size; omega
      clear HTXG HPG HOG HTVG HFG HCH HFU HGT HBG kh hBh
      go_wp2_with fail
      refine (pieces_walk wh we.heap.size ap m cp _ HTXH.out).mono ?_
      rintro e _ ⟨rfl, rfl⟩
      go_wp2_with fail
      refine (flatten_walk we.heap.size _ _ ps HPH.out hwh (by rw [HFL.out]; omega) (by rw [HM.out]; omega)).mono ?_
      rintro e wi ⟨va, rfl, hva, hBi⟩
      rw [HFL.out] at hva
      have ki : Kept (fun _ => False) _ wi := Kept.of_below hBi
      have HTXI : Hid (Txt wi we.heap.size (.slice ap m cp) (fl.length : Nat)) := HTXH.out.kept ki (fun h => h)
      have HOI : Hid (Sl we.heap.size wi (.slice ao fl.length co) (bys fl)) := HOH.out.kept ki (fun _ _ h => h)
      have HBI : Hid (Below w3.heap.size w3 wi) := HBH.out.trans (hBi.mono HBH.out.size)
      have HVA : Hid (Sl wi.heap.size wi va (bys fl)) := hva
      have hwi : we.heap.size ≤ wi.heap.size := by have := hBi.size; omega
      clear hva ki hBi HTXH HPH HOH HBH
      go_wp2_with fail
      refine (size_walk wi we.heap.size _ _ HTXI.out).mono ?_
      rintro e _ ⟨rfl, rfl⟩
      have hio := inOrder_walk w3.heap.size _ (.slice a1 n c1) (.slice a2 n c2) st en fl.length (H1.out.below HBI.out (Nat.le_refl _)) (HT2.out.below HBI.out (Nat.le_refl _)) (by rw [HN.out]; exact L1.out)
      rw [HN.out, HORD.out] at hio
      go_wp2_with fail
      refine hio.mono ?_
      rintro e wk ⟨rfl, q1, rfl⟩
      clear hio
      have heq := eq_walk _ _ va (.slice ao fl.length co) fl fl (sl_drewN HVA.out q1) ((sl_drewN HOI.out q1).mono hwi)
      rw [eqB_self] at heq
      go_wp2_with fail
      refine heq.mono ?_
      rintro e wk2 ⟨rfl, q2, rfl⟩
      clear heq
      go_wp2
      go_ret
      exact ⟨rfl, below_drewN1 HBI.out _⟩
    · have HORD : Hid (inOrd (fn st) (fn en) (fl.length : Nat) n = true) := hord
      clear hord
      obtain ⟨hokN, hnat⟩ := okN_of (n := n) (inOrd_all HORD.out)
      have hap := apply_ok F we.heap.size we.heap.size wg HFG.out (.slice ap m cp) ps ach g n cch (fn st) (fn en) _ (fun r => ts.getD r []) (fun k => (fn st k).toNat) (fun k => (fn en k).toNat)
        (by rw [HFL.out]; exact HTXG.out) HPG.out HFU.out (Nat.le_refl _) HCH.out HGT.out HTVG.out (by rw [HFL.out]; exact HORD.out) (by rw [HFL.out]; exact hokN) (fun k hk => (hnat k hk).1) (fun k hk => (hnat k hk).2)
        (by rw [HFL.out]; omega) (by omega) (by rw [sumT_flatten ts n (by rw [← L2.out, ← L1.out]; exact Nat.le_refl _)]; have := outTo_le ts n; omega) (by rw [HM.out]; omega)
      rw [HFL.out] at hap
      have hmdl := mdTo_len (T := fun r => ts.getD r []) hokN n (Nat.le_refl _)
      rw [sumT_flatten ts n (by rw [← L2.out, ← L1.out]; exact Nat.le_refl _)] at hmdl
      have hmd2 := outTo_le ts n
      have hmd3 := hokN.prev n (Nat.le_refl _)
      have hml : (model fl (fun k => (fn st k).toNat) (fun k => (fn en k).toNat) (fun r => ts.getD r []) n).length ≤ 4194304 := by
        unfold model; simp only [List.length_append, List.length_drop]; omega
      have HOKA : Hid (∀ k, k < st.length → okAt (fn st) (fn en) fl.length k = true) := by show ∀ k, k < st.length → okAt (fn st) (fn en) fl.length k = true; rw [HN.out]; exact inOrd_all HORD.out
      generalize hMM : model fl (fun k => (fn st k).toNat) (fun k => (fn en k).toNat) (fun r => ts.getD r []) n = M at *
      have HMM : Hid (model fl (fun k => (fn st k).toNat) (fun k => (fn en k).toNat) (fun r => ts.getD r []) n = M) := hMM
      clear hMM hokN hnat hmdl hmd2 hmd3
      go_wp2_with fail
      refine Calls.mono hap ?_
      clear hap
      rintro en' wh ⟨rfl, pv', ls, hK, hTx', hR, hlsf, hne⟩
      obtain ⟨a5, c5, rfl, -⟩ := hR.slice
      have HTXH : Hid (Txt wh we.heap.size (.slice a5 ls.length c5) (M.length : Nat)) := hTx'
      have HR : Hid (Rws wh.heap.size wh (.slice a5 ls.length c5) ls) := hR
      have HLF : Hid (ls.flatten = M) := hlsf
      have HNE2 : Hid (noEmpty ls = true) := noEmpty_iff.2 hne
      have HOH : Hid (Sl we.heap.size wh (.slice ao fl.length co) (bys fl)) := HOG.out.kept hK (fun x hx e => by omega)
      have HBH : Hid (Below w3.heap.size w3 wh) := HBG.out.trans (hK.below HBG.out.size (fun x hx e => by omega))
      have hll : ls.length ≤ 4194304 := by have := full_le hne; rw [hlsf] at this; omega
      have hwh : we.heap.size ≤ wh.heap.size := by have := hK.size; omega
      clear HTXG HPG HOG HTVG HFG HCH HFU HGT HBG hK hTx' hR hlsf hne
      generalize hq5 : ls.length = q5 at *
      have HQ5 : Hid (ls.length = q5) := hq5
      clear hq5
      go_wp2_with fail
      refine (pieces_walk wh we.heap.size a5 q5 c5 _ HTXH.out).mono ?_
      rintro e _ ⟨rfl, rfl⟩
      go_wp2_with fail
      refine (flatten_walk _ _ _ ls HR.out (Nat.le_refl _) (by rw [HLF.out]; omega) (by rw [HQ5.out]; omega)).mono ?_
      rintro e wi ⟨va, rfl, hva, hBi⟩
      rw [HLF.out] at hva
      have ki : Kept (fun _ => False) _ wi := Kept.of_below hBi
      have HTXI : Hid (Txt wi we.heap.size (.slice a5 q5 c5) (M.length : Nat)) := HTXH.out.kept ki (fun h => h)
      have HOI : Hid (Sl we.heap.size wi (.slice ao fl.length co) (bys fl)) := HOH.out.kept ki (fun _ _ h => h)
      have HBI : Hid (Below w3.heap.size w3 wi) := HBH.out.trans (hBi.mono HBH.out.size)
      have HVA : Hid (Sl wi.heap.size wi va (bys M)) := hva
      have HRI : Hid (Rws wi.heap.size wi (.slice a5 q5 c5) ls) := (HR.out.kept ki (fun _ _ h => h)).mono hBi.size
      have hwi : we.heap.size ≤ wi.heap.size := by have := hBi.size; omega
      have hw3i : w3.heap.size ≤ wi.heap.size := HBI.out.size
      clear hva ki hBi HTXH HR HOH HBH
      go_wp2_with fail
      refine (size_walk wi we.heap.size _ _ HTXI.out).mono ?_
      rintro e _ ⟨rfl, rfl⟩
      have hio := inOrder_walk w3.heap.size _ (.slice a1 n c1) (.slice a2 n c2) st en fl.length (H1.out.below HBI.out (Nat.le_refl _)) (HT2.out.below HBI.out (Nat.le_refl _)) (by rw [HN.out]; exact L1.out)
      rw [HN.out, HORD.out] at hio
      go_wp2_with fail
      refine hio.mono ?_
      rintro e wk ⟨rfl, q1, rfl⟩
      clear hio
      have b3 := below_drewN1 HBI.out q1
      have hmo := model_walk _ _ (.slice ao fl.length co) (.slice a1 n c1) (.slice a2 n c2) (.slice a3 n c3) fl st en ts (sl_drewN (HOI.out.mono hwi) q1) ((H1.out.below b3 (Nat.le_refl _)).mono hw3i) ((HT2.out.below b3 (Nat.le_refl _)).mono hw3i) ((HT3.out.below b3 (Nat.le_refl _)).mono hw3i) (Nat.le_refl _)
        (by rw [HN.out]; exact L1.out) (by rw [HN.out, ← L2.out]; exact L1.out) HOKA.out (by omega) (by omega) (by rw [HN.out]; omega)
      rw [HN.out, HMM.out] at hmo
      go_wp2_with fail
      refine hmo.mono ?_
      clear hmo
      rintro e wl ⟨vw, rfl, hvw, hBl⟩
      obtain ⟨a6, b6, o6, c6, hvw6, hm6, hm7, -, -⟩ := hvw.bytes
      rw [hvw6] at hvw
      rw [hvw6]
      have HVW : Hid (Sl wl.heap.size wl (.slice a6 M.length c6) (bys M)) := hvw
      have kl : Kept (fun _ => False) _ wl := Kept.of_below hBl
      have hsl := hBl.size
      have HVL : Hid (Sl wl.heap.size wl va (bys M)) := ((sl_drewN HVA.out q1).kept kl (fun _ _ h => h)).mono hsl
      have HRL : Hid (Rws wl.heap.size wl (.slice a5 q5 c5) ls) := ((rws_drewN HRI.out q1).kept kl (fun _ _ h => h)).mono hsl
      have HBL2 : Hid (Below w3.heap.size w3 wl) := b3.trans (hBl.mono hw3i)
      clear hvw kl hBl hvw6 b3 HVA HRI HOI HTXI
      have heq := eq_walk _ _ va (.slice a6 M.length c6) M M HVL.out HVW.out
      rw [eqB_self] at heq
      have hml2 : (M.length : Int) ≤ 4194304 := by omega
      go_wp2_with fail
      refine heq.mono ?_
      rintro e wk2 ⟨rfl, q2, rfl⟩
      clear heq
      have hnn := noEmpty_walk _ _ (.slice a5 q5 c5) ls (rws_drewN HRL.out q2)
      rw [HNE2.out] at hnn
      go_wp2_with fail
      refine hnn.mono ?_
      rintro e wk3 ⟨rfl, rfl⟩
      clear hnn
      go_wp2
      go_ret
      exact ⟨rfl, below_drewN1 HBL2.out _⟩
end Go.Proofs.Qxb6630537aFmt
