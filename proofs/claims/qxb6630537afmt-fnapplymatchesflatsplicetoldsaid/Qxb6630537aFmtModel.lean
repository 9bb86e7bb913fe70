/-
  zzModel (seat b6630537aF): the flat splice.
-/
import Derived.Test.Qxb6630537aFmtFlat
namespace Go.Proofs.Qxb6630537aFmt
open Go.RowKit

/-- The bytes from a up to b. -/
def seg (l : List Int) (a b : Nat) : List Int := (l.drop a).take (b - a)
def prevN (e : Nat → Nat) : Nat → Nat | 0 => 0 | k + 1 => e k
/-- The spliced text, when k splices are made. -/
def mdTo (fl : List Int) (s e : Nat → Nat) (T : Nat → List Int) : Nat → List Int
  | 0 => []
  | k + 1 => mdTo fl s e T k ++ seg fl (prevN e k) (s k) ++ T k
/-- The spliced text. -/
def model (fl : List Int) (s e : Nat → Nat) (T : Nat → List Int) (n : Nat) : List Int := mdTo fl s e T n ++ fl.drop (prevN e n)

theorem seg_self (l : List Int) (a : Nat) : seg l a a = [] := by simp [seg]
theorem seg_succ (l : List Int) (a c : Nat) (h1 : a ≤ c) (h2 : c < l.length) : seg l a (c + 1) = seg l a c ++ [fn l c] := by
  unfold seg
  have e : c + 1 - a = (c - a) + 1 := by omega
  rw [e, List.take_succ_eq_append_getElem (by simp; omega)]
  congr 1
  simp [fn, h2, show a + (c - a) = c by omega]
theorem seg_len (l : List Int) (a c : Nat) (h1 : a ≤ c) (h2 : c ≤ l.length) : (seg l a c).length = c - a := by
  unfold seg; simp; omega
theorem seg_end (l : List Int) (a : Nat) : seg l a l.length = l.drop a := by
  unfold seg; rw [List.take_of_length_le (by simp)]

/-- Splices that lie in order, over Nat. -/
def OkN (s e : Nat → Nat) (size n : Nat) : Prop := ∀ k, k < n → prevN e k ≤ s k ∧ s k ≤ e k ∧ e k ≤ size
theorem OkN.prev {s e : Nat → Nat} {size n : Nat} (h : OkN s e size n) : ∀ k, k ≤ n → prevN e k ≤ size := by
  intro k hk
  cases k with
  | zero => exact Nat.zero_le _
  | succ k => exact (h k (by omega)).2.2
theorem okAt_iff {S E : Nat → Int} {size : Int} {k : Nat} : okAt S E size k = true ↔ prevAt E k ≤ S k ∧ S k ≤ E k ∧ E k ≤ size := by unfold okAt; exact decide_eq_true_iff
theorem okN_of {st en : List Int} {size : Nat} {n : Nat} (h : ∀ k, k < n → okAt (fn st) (fn en) size k = true) :
    OkN (fun k => (fn st k).toNat) (fun k => (fn en k).toNat) size n ∧ ∀ k, k < n → fn st k = ((fn st k).toNat : Nat) ∧ fn en k = ((fn en k).toNat : Nat) := by
  have key : ∀ k, k < n → 0 ≤ prevAt (fn en) k ∧ prevAt (fn en) k ≤ fn st k ∧ fn st k ≤ fn en k ∧ fn en k ≤ size := by
    intro k
    induction k with
    | zero => intro hk; have := okAt_iff.1 (h 0 hk); exact ⟨Int.le_refl _, this⟩
    | succ k ih => intro hk; have h1 := okAt_iff.1 (h (k + 1) hk); have h2 := ih (by omega); have e : prevAt (fn en) (k + 1) = fn en k := rfl; rw [e] at h1; rw [e]; omega
  refine ⟨fun k hk => ?_, fun k hk => ?_⟩
  · have := key k hk
    cases k with
    | zero => have e : prevAt (fn en) 0 = 0 := rfl; rw [e] at this; refine ⟨Nat.zero_le _, ?_, ?_⟩ <;> dsimp only <;> omega
    | succ k => have h2 := key k (by omega); have e : prevAt (fn en) (k + 1) = fn en k := rfl; rw [e] at this; refine ⟨?_, ?_, ?_⟩ <;> simp only [prevN] <;> omega
  · have := key k hk; omega

/-- The first k texts' bytes. -/
def sumT (T : Nat → List Int) : Nat → Nat | 0 => 0 | k + 1 => sumT T k + (T k).length
theorem mdTo_len {fl : List Int} {s e : Nat → Nat} {T : Nat → List Int} {n : Nat} (h : OkN s e fl.length n) : ∀ k, k ≤ n → (mdTo fl s e T k).length ≤ prevN e k + sumT T k := by
  intro k
  induction k with
  | zero => intro _; simp [mdTo]
  | succ k ih =>
    intro hk
    have h1 := h k (by omega)
    have h2 := ih (by omega)
    have h3 := seg_len fl (prevN e k) (s k) h1.1 (by omega)
    have e1 : mdTo fl s e T (k + 1) = mdTo fl s e T k ++ seg fl (prevN e k) (s k) ++ T k := rfl
    have e2 : sumT T (k + 1) = sumT T k + (T k).length := rfl
    have e3 : prevN e (k + 1) = e k := rfl
    rw [e1, e2, e3, List.length_append, List.length_append, h3]
    omega


/-- One byte is appended. -/
theorem own_snoc {w wr w1 : World} {v v' : Value} {xs : List Int} {x : Int} {o : Obj} (hB : Below w.heap.size w wr) (hown : wr.ownsRow w.heap.size 5 1 v xs.length (bys xs)) (hown' : w1.ownsRow w.heap.size 5 1 v' (xs.length + 1) (bys xs ++ [.int .u8 x])) (hgrow : (wr.alloc o).grownBy w1 v.ownBlock) :
    Below w.heap.size w w1 ∧ w1.ownsRow w.heap.size 5 1 v' (xs ++ [x]).length (bys (xs ++ [x])) := by
  have hsz := hB.size
  refine ⟨(hB.alloc (by omega) _).grown hgrow (by simp; omega) (fun k hk => (hown.lt k hk).1), ?_⟩
  have e1 : (xs ++ [x]).length = xs.length + 1 := by simp
  have e2 : bys (xs ++ [x]) = bys xs ++ [.int .u8 x] := by simp [bys]
  rw [e1, e2]; exact hown'

theorem sumT_flatten (ts : List (List Int)) : ∀ k, k ≤ ts.length → sumT (fun r => ts.getD r []) k = (outTo ts k).length := by
  intro k
  induction k with
  | zero => intro _; simp [sumT, outTo]
  | succ k ih => intro hk; rw [outTo_succ ts k (by omega), List.length_append, ← ih (by omega)]; rfl

set_option maxHeartbeats 4000000 in
theorem model_walk (N : Nat) (w : World) (vo vs ve vt : Value) (fl st en : List Int) (ts : List (List Int)) (ho : Sl N w vo (bys fl)) (hs : Sl N w vs (i64s st)) (he : Sl N w ve (i64s en)) (h : Rws N w vt ts) (hN : N ≤ w.heap.size)
    (hlen : st.length = en.length) (hlen2 : st.length = ts.length) (hok : ∀ k, k < st.length → okAt (fn st) (fn en) fl.length k = true) (hb1 : fl.length ≤ 1048576) (hb2 : ts.flatten.length ≤ 1048576) (hb3 : st.length ≤ 1048576) :
    Calls Tryf.prog 18 #[vo, vs, ve, vt] w fun e w' => ∃ v', e = .returned v' ∧ Sl w'.heap.size w' v' (bys (model fl (fun k => (fn st k).toNat) (fun k => (fn en k).toNat) (fun r => ts.getD r []) st.length)) ∧ Below w.heap.size w w' := by
  obtain ⟨hokN, hnat⟩ := okN_of hok
  obtain ⟨aa, ba, oa, ca, rfl, hlea, hlma, hata, hca⟩ := ho.bytes
  obtain ⟨as', bs, os, cs, rfl, hles, hlms, hats, hcs⟩ := hs.ints
  obtain ⟨ae, be, oe, ce, rfl, hlee, hlme, hate, hce⟩ := he.ints
  obtain ⟨ao, b, o, cap, A, L, C, RB, RO, rfl, g⟩ := h.grid
  obtain ⟨i0, hi, hz0, hz1, hz2⟩ := info_parts Tryf.info5
  have hmk : ∀ w, (Instr.makeSlice 28 (.int .i64 0) (.int .i64 0)).run Tryf.prog w = .ok (.slice (some ⟨w.heap.size, 0, none⟩) 0 0) (w.alloc (.cells #[] 5)) := fun _ => by kernel_rfl
  have hmd := mdTo_len (T := fun r => ts.getD r []) hokN
  have hT := sumT_flatten ts
  have hTl := outTo_le ts
  have hprev := hokN.prev
  have hcs' : ∀ k, k < st.length → w.cell? ⟨bs, os + k, none⟩ = some (.int .i64 ((fn st k).toNat : Nat)) := fun k hk => by rw [hcs k hk, ← (hnat k hk).1]
  have hce' : ∀ k, k < st.length → w.cell? ⟨be, oe + k, none⟩ = some (.int .i64 ((fn en k).toNat : Nat)) := fun k hk => by rw [hce k (by omega), ← (hnat k hk).2]
  have hrle := g.rle
  unfold maxLen at hrle
  have hat := g.at_
  have hlt0 := g.lt
  have hcell := g.cell
  have hrat := g.rat
  have hZl : ∀ r, r < ts.length → (ts.getD r []).length = L r := g.rlen
  have hrc : ∀ r, r < ts.length → ∀ j x, (ts.getD r [])[j]? = some x → w.cell? ⟨RB r, RO r + j, none⟩ = some (.int .u8 x) := g.rcell
  rw [← hlen2] at hat hlt0 hcell hrat hZl hrc hrle
  rw [← hlen] at hate
  have hbound : ∀ k, k ≤ st.length → (mdTo fl (fun k => (fn st k).toNat) (fun k => (fn en k).toNat) (fun r => ts.getD r []) k).length + (fl.length - prevN (fun k => (fn en k).toNat) k) ≤ 2097152 := by
    intro k hk
    have h1 := hmd k hk
    have h2 := hT k (by omega)
    have h3 := hTl k
    have h4 := hprev k hk
    omega
  have hbound1 : ∀ k, k < st.length → (mdTo fl (fun k => (fn st k).toNat) (fun k => (fn en k).toNat) (fun r => ts.getD r []) (k + 1)).length ≤ 2097152 := fun k hk => by have := hbound (k + 1) (by omega); omega
  rw [← hlen, ← hlen2]
  clear hmd hT hTl hprev hcs hce hnat ho hs he h g hok hlen hlen2 hlee hlme hles hlms
  generalize hE : (fun k => (fn en k).toNat) = e at *
  generalize hSS : (fun k => (fn st k).toNat) = s at *
  generalize hTT : (fun r => ts.getD r []) = T at *
  have hcs2 : ∀ k, k < st.length → w.cell? ⟨bs, os + k, none⟩ = some (.int .i64 (s k : Nat)) := fun k hk => by rw [← hSS]; exact hcs' k hk
  have hce2 : ∀ k, k < st.length → w.cell? ⟨be, oe + k, none⟩ = some (.int .i64 (e k : Nat)) := fun k hk => by rw [← hE]; exact hce' k hk
  have HZ : Hid (∀ r, r < st.length → (T r).length = L r) := fun r hr => by have := hZl r hr; rw [← hTT]; exact this
  have HC : Hid (∀ r, r < st.length → ∀ j x, (T r)[j]? = some x → w.cell? ⟨RB r, RO r + j, none⟩ = some (.int .u8 x)) := fun r hr => by have := hrc r hr; rw [← hTT]; exact this
  have HB : Hid (∀ k, k ≤ st.length → (mdTo fl s e T k).length + (fl.length - prevN e k) ≤ 2097152) := hbound
  have HB1 : Hid (∀ k, k < st.length → (mdTo fl s e T (k + 1)).length ≤ 2097152) := hbound1
  have HM : Hid (∀ k, mdTo fl s e T (k + 1) = mdTo fl s e T k ++ seg fl (prevN e k) (s k) ++ T k) := fun _ => rfl
  have HMM : Hid (model fl s e T st.length = mdTo fl s e T st.length ++ fl.drop (prevN e st.length)) := rfl
  clear hcs' hce' hZl hrc hbound hbound1 hE hSS hTT
  have hfl : ∃ m, m = fl.length := ⟨_, rfl⟩
  obtain ⟨m, hm⟩ := hfl
  have HFL : Hid (m = fl.length) := hm
  rw [← hm] at hlea hata hca hb1 hokN
  rw [← hm]
  clear hm
  generalize model fl s e T st.length = mdl at *
  generalize st.length = n at *
  unfold maxLen at hlma
  go_enter Tryf.func18, Tryf.ntmps18
  go_wp2
  clear hmk
  go_loopw [9, 10, 11, 12, 13] (fun v p i _ _ wr => ∃ k : Nat, k ≤ n ∧ i = .int .i64 k ∧ p = .int .i64 (prevN e k : Nat) ∧ Below w.heap.size w wr ∧ wr.ownsRow w.heap.size 5 1 v (mdTo fl s e T k).length (bys (mdTo fl s e T k))) (fun _ _ i _ _ _ => n - (intOf i).toNat)
  case atStart => exact ⟨0, Nat.zero_le _, rfl, rfl, (Below.refl _ _).alloc (Nat.le_refl _) _, ⟨by simp [mdTo, bys], .inr ⟨w.heap.size, 0, #[], by simp [mdTo], Nat.le_refl _, heap_alloc_new _ _, by simp [mdTo], by unfold maxLen; omega, rfl, by simp [mdTo, bys]⟩⟩⟩
  case round =>
    obtain ⟨k, hk, rfl, rfl, hB, hown⟩ := hrel
    by_cases hlt : k < n
    · obtain rfl := hat (by omega)
      obtain ⟨rfl, hbs⟩ := hats (by omega)
      obtain ⟨rfl, hbe⟩ := hate (by omega)
      have hok := hokN k hlt
      have hbw : b < w.heap.size := by have := hlt0 (by omega); omega
      have HMk := HM.out k
      have HMK : Hid (mdTo fl s e T (k + 1) = mdTo fl s e T k ++ seg fl (prevN e k) (s k) ++ T k) := HMk
      have hlen1 := HB1.out k hlt
      rw [HMk, List.length_append, List.length_append, seg_len fl _ _ hok.1 (by rw [← HFL.out]; omega)] at hlen1
      have hzk := HZ.out k hlt
      have hc1 := hcs2 k hlt
      have hc2 := hce2 k hlt
      have hck := hcell k hlt
      have hratk := hrat k hlt
      have hLk := hrle k hlt
      have hcb : Hid (∀ j x, (T k)[j]? = some x → w.cell? ⟨RB k, RO k + j, none⟩ = some (.int .u8 x)) := HC.out k hlt
      have HSEG : Hid (∀ c, prevN e k ≤ c → c < m → seg fl (prevN e k) (c + 1) = seg fl (prevN e k) c ++ [fn fl c]) := fun c h1 h2 => seg_succ fl _ c h1 (by rw [← HFL.out]; exact h2)
      have HSL : Hid (∀ c, prevN e k ≤ c → c ≤ m → (seg fl (prevN e k) c).length = c - prevN e k) := fun c h1 h2 => seg_len fl _ c h1 (by rw [← HFL.out]; exact h2)
      have hs0 : seg fl (prevN e k) (prevN e k) = [] := seg_self _ _
      have HS0 : Hid (seg fl (prevN e k) (prevN e k) = []) := hs0
      generalize ho1 : mdTo fl s e T (k + 1) = out1 at *
      have HO1 : Hid (mdTo fl s e T (k + 1) = out1) := ho1
      clear ho1
      generalize mdTo fl s e T k = out at *
      generalize T k = z at *
      have hzk' : Hid (z.length = L k) := hzk
      rw [hzk] at hlen1
      clear HMk hs0 hzk hcs2 hce2 hcell hrat hrle hokN
      generalize prevN e k = p0 at *
      generalize hsg : seg fl p0 = sg at *
      clear hsg
      go_wp2
      obtain ⟨wo, hwo⟩ : ∃ wo : World, wo = wr := ⟨_, rfl⟩
      go_loopw [9, 12] (fun v i wi => ∃ c : Nat, p0 ≤ c ∧ c ≤ s k ∧ i = .int .i64 c ∧ Below w.heap.size w wi ∧ wi.ownsRow w.heap.size 5 1 v (out ++ sg c).length (bys (out ++ sg c))) (fun _ i _ => s k - (intOf i).toNat)
      case atStart => exact ⟨p0, Nat.le_refl _, hok.1, rfl, hB, by rw [HS0.out]; simpa using hown⟩
      case round =>
        clear hB hown hwo
        obtain ⟨c, hpc, hcs, rfl, hB, hown⟩ := hrel
        have t1 : wr.cell? ⟨bs, os + k, none⟩ = some (.int .i64 (s k : Nat)) := by rw [hB.cell (p := ⟨bs, os + k, none⟩) (by show bs < w.heap.size; omega)]; exact hc1
        have hsz := hB.size
        by_cases hlc : c < s k
        · obtain ⟨rfl, hba⟩ := hata (by omega)
          have t2 : wr.cell? ⟨ba, oa + c, none⟩ = some (.int .u8 (fn fl c)) := by rw [hB.cell (p := ⟨ba, oa + c, none⟩) (by show ba < w.heap.size; omega)]; exact hca c (by omega)
          have hsl := HSL.out c hpc (by omega)
          have hxl : (out ++ sg c).length = out.length + (c - p0) := by rw [List.length_append, hsl]
          have HT : Hid (out ++ sg (c + 1) = out ++ sg c ++ [fn fl c]) := by show _ = _; rw [HSEG.out c hpc (by omega), List.append_assoc]
          generalize out ++ sg c = xs at *
          generalize fn fl c = x at *
          have hxl' : xs.length ≤ 2097152 := by omega
          clear hsl hxl hca hata
          have HB' : Hid (Below w.heap.size w wr) := hB
          clear hB
          go_wp2_with (at_builtin; refine wpList_append_own _ rfl _ _ 28 rfl w.heap.size 5 i0 (.int .u8 0) 1 1 Tryf.underlying28 hi hz0 hz1 hz2 rfl (by decide) _ _ _ rfl (hown.alloc _) ⟨wr.heap.size, 0, none⟩ 1 1 [.int .u8 x] rfl rfl (cell_one_new _ _ _) (by intro u hu; simp at hu; subst hu; rfl) (by unfold maxLen; omega) (by omega) (by simp; omega) ?_)
          intro v' w1 hown' hgrow _
          have R := own_snoc HB'.out hown hown' hgrow
          rw [← HT.out] at R
          clear hown' hgrow hown
          go_wp2
          go_roundw
          case rel => exact ⟨c + 1, by omega, by omega, by go_num, R.1, R.2⟩
          case measure => simp [intOf]; omega
        · obtain rfl : c = s k := by omega
          have hsl := HSL.out (s k) hpc (by omega)
          have hxl : (out ++ sg (s k)).length = out.length + (s k - p0) := by rw [List.length_append, hsl]
          have HMK2 := HMK.out
          generalize out ++ sg (s k) = xs at *
          have HMK3 : Hid (out1 = xs ++ z) := HMK2
          clear HMK2 hsl HSL HSEG HMK HS0
          go_wp2
          go_loopw [9, 13] (fun v i wi => ∃ c : Nat, c ≤ L k ∧ i = .int .i64 c ∧ Below w.heap.size w wi ∧ wi.ownsRow w.heap.size 5 1 v (xs ++ z.take c).length (bys (xs ++ z.take c))) (fun _ i _ => L k - (intOf i).toNat)
          case atStart => exact ⟨0, Nat.zero_le _, rfl, hB, by simpa using hown⟩
          case round =>
            clear hB hown hsz t1
            obtain ⟨c, hcL, rfl, hB, hown⟩ := hrel
            have t1 : wr.cell? ⟨b, o + k, none⟩ = some (.slice (A k) (L k) (C k)) := by rw [hB.cell (p := ⟨b, o + k, none⟩) hbw]; exact hck
            have hsz := hB.size
            by_cases hlc : c < L k
            · obtain ⟨ha, hRB⟩ := hratk (by omega)
              rw [ha] at t1
              have t2 : wr.cell? ⟨RB k, RO k + c, none⟩ = some (.int .u8 (fn z c)) := by
                rw [hB.cell (p := ⟨RB k, RO k + c, none⟩) (by show RB k < w.heap.size; omega)]
                exact hcb.out c _ (fn_get z c (by rw [hzk'.out]; omega))
              have HT : Hid (xs ++ z.take (c + 1) = xs ++ z.take c ++ [fn z c]) := by show _ = _; rw [take_snoc' z c (by rw [hzk'.out]; omega), List.append_assoc]
              have hyl : (xs ++ z.take c).length = xs.length + c := by have := hzk'.out; simp; omega
              generalize xs ++ z.take c = ys at *
              generalize fn z c = x at *
              have hyl' : ys.length ≤ 2097152 := by omega
              clear ha hck hratk hyl
              have HB' : Hid (Below w.heap.size w wr) := hB
              clear hB
              go_wp2_with (at_builtin; refine wpList_append_own _ rfl _ _ 28 rfl w.heap.size 5 i0 (.int .u8 0) 1 1 Tryf.underlying28 hi hz0 hz1 hz2 rfl (by decide) _ _ _ rfl (hown.alloc _) ⟨wr.heap.size, 0, none⟩ 1 1 [.int .u8 x] rfl rfl (cell_one_new _ _ _) (by intro u hu; simp at hu; subst hu; rfl) (by unfold maxLen; omega) (by omega) (by simp; omega) ?_)
              intro v' w1 hown' hgrow _
              have R := own_snoc HB'.out hown hown' hgrow
              rw [← HT.out] at R
              clear hown' hgrow hown
              go_wp2
              go_roundw
              case rel => exact ⟨c + 1, by omega, by go_num, R.1, R.2⟩
              case measure => simp [intOf]; omega
            · obtain rfl : c = L k := by omega
              have e' : z.take (L k) = z := List.take_of_length_le (by rw [hzk'.out]; exact Nat.le_refl _)
              rw [e', ← HMK3.out] at hown
              have t3 : wr.cell? ⟨be, oe + k, none⟩ = some (.int .i64 (e k : Nat)) := by rw [hB.cell (p := ⟨be, oe + k, none⟩) (by show be < w.heap.size; omega)]; exact hc2
              clear e' hck hratk
              go_wp2
              go_roundw
              case rel => exact ⟨k + 1, by omega, by go_num, rfl, hB, by rw [HO1.out]; exact hown⟩
              case measure => simp [intOf]; omega
    · obtain rfl : k = n := by omega
      have hpm := hokN.prev k (Nat.le_refl _)
      have hlen1 := HB.out k (Nat.le_refl _)
      rw [← HFL.out] at hlen1
      have HSEG : Hid (∀ c, prevN e k ≤ c → c < m → seg fl (prevN e k) (c + 1) = seg fl (prevN e k) c ++ [fn fl c]) := fun c h1 h2 => seg_succ fl _ c h1 (by rw [← HFL.out]; exact h2)
      have HSL : Hid (∀ c, prevN e k ≤ c → c ≤ m → (seg fl (prevN e k) c).length = c - prevN e k) := fun c h1 h2 => seg_len fl _ c h1 (by rw [← HFL.out]; exact h2)
      have HS0 : Hid (seg fl (prevN e k) (prevN e k) = []) := seg_self _ _
      have HSE : Hid (mdl = mdTo fl s e T k ++ seg fl (prevN e k) m) := by show _ = _; rw [HMM.out, HFL.out, seg_end]
      generalize mdTo fl s e T k = out at *
      generalize prevN e k = p0 at *
      generalize seg fl p0 = sg at *
      clear hcs2 hce2 hcell hrat hrle hokN hat hats hate
      go_wp2
      go_loopw [9, 14] (fun v i wi => ∃ c : Nat, p0 ≤ c ∧ c ≤ m ∧ i = .int .i64 c ∧ Below w.heap.size w wi ∧ wi.ownsRow w.heap.size 5 1 v (out ++ sg c).length (bys (out ++ sg c))) (fun _ i _ => m - (intOf i).toNat)
      case atStart => exact ⟨p0, Nat.le_refl _, hpm, rfl, hB, by rw [HS0.out]; simpa using hown⟩
      case round =>
        clear hB hown
        obtain ⟨c, hpc, hcs, rfl, hB, hown⟩ := hrel
        have hsz := hB.size
        by_cases hlc : c < m
        · obtain ⟨rfl, hba⟩ := hata (by omega)
          have t2 : wr.cell? ⟨ba, oa + c, none⟩ = some (.int .u8 (fn fl c)) := by rw [hB.cell (p := ⟨ba, oa + c, none⟩) (by show ba < w.heap.size; omega)]; exact hca c (by omega)
          have hsl := HSL.out c hpc (by omega)
          have hxl : (out ++ sg c).length = out.length + (c - p0) := by rw [List.length_append, hsl]
          have HT : Hid (out ++ sg (c + 1) = out ++ sg c ++ [fn fl c]) := by show _ = _; rw [HSEG.out c hpc (by omega), List.append_assoc]
          generalize out ++ sg c = xs at *
          generalize fn fl c = x at *
          have hxl' : xs.length ≤ 2097152 := by omega
          clear hsl hxl hca hata
          have HB' : Hid (Below w.heap.size w wr) := hB
          clear hB
          go_wp2_with (at_builtin; refine wpList_append_own _ rfl _ _ 28 rfl w.heap.size 5 i0 (.int .u8 0) 1 1 Tryf.underlying28 hi hz0 hz1 hz2 rfl (by decide) _ _ _ rfl (hown.alloc _) ⟨wr.heap.size, 0, none⟩ 1 1 [.int .u8 x] rfl rfl (cell_one_new _ _ _) (by intro u hu; simp at hu; subst hu; rfl) (by unfold maxLen; omega) (by omega) (by simp; omega) ?_)
          intro v' w1 hown' hgrow _
          have R := own_snoc HB'.out hown hown' hgrow
          rw [← HT.out] at R
          clear hown' hgrow hown
          go_wp2
          go_roundw
          case rel => exact ⟨c + 1, by omega, by omega, by go_num, R.1, R.2⟩
          case measure => simp [intOf]; omega
        · obtain rfl : c = m := by omega
          go_wp2
          go_ret
          exact ⟨_, rfl, by rw [HSE.out]; exact sl_own hown, hB⟩
end Go.Proofs.Qxb6630537aFmt
