/-
  (*Text).Apply (seat b6630537aF).
-/
import Derived.Test.Qxb6630537aFmtApplyParts
import Derived.Test.Qxb6630537aFmtCheck
namespace Go.Proofs.Qxb6630537aFmt
open Go.RowKit Go.Extern.Stop Go.Stop Go.Extern

theorem ap_start {N T : Nat} {w w1 w2 : World} {pv : Value} {P : List (List Int)} {s e : Nat → Nat} {X : Nat → List Int} {nc : Nat} (hT : Txt w T pv (P.flatten.length : Nat)) (hP : Rws N w pv P) (hfull : ∀ l ∈ P, l ≠ []) (_hNT : N ≤ T) (hb : ∀ l ∈ P, l.length ≤ 1048576)
    (hb1 : Below w.heap.size w w1) (hg : w1.grownBy w2 none) (hown : w2.ownsRow w1.heap.size 28 1 (.slice (some ⟨w1.heap.size, 0, none⟩) 0 nc) 0 []) :
    ApR N w1.heap.size w2.heap.size T w (w2.alloc (.cells #[pv, .int .i64 0, .int .i64 0] 48)) pv (.slice (some ⟨w1.heap.size, 0, none⟩) 0 nc) P.flatten s e X 0 [] P 0 := by
  have hTw := hT.lt
  have k2 : Kept (fun b => b = T) w w2 := (Kept.of_below (S := fun b => b = T) hb1).trans (Kept.of_grown (S := fun _ => False) hg (fun x hx => by cases hx)) (fun _ _ h => h.elim)
  have k2' : Kept (fun _ => False) w w2 := (Kept.of_below (S := fun _ => False) hb1).trans (Kept.of_grown (S := fun _ => False) hg (fun x hx => by cases hx)) (fun _ _ h => h)
  have k3 := k2'.alloc (.cells #[pv, .int .i64 0, .int .i64 0] 48)
  refine ⟨k2.alloc _, ?_, ⟨pv, ?_, hP.kept k3 (fun _ _ h => h)⟩, ⟨hfull, fun _ => rfl, fun l ls e => ?_⟩, ?_, hb, ⟨[], rfl, hown.alloc _, fun r x l hx => by simp at hx⟩, rfl, by simp⟩
  · have := hT.kept k3 (fun h => h)
    unfold szTo
    simpa [mdTo, prevN] using this
  · show (w2.alloc _).heap[w2.heap.size]? = _
    rw [heap_alloc_new]; rfl
  · exact List.length_pos_iff.2 (hfull l (by rw [e]; simp))
  · simp [rem, prevN]

theorem mem_len : ∀ {P : List (List Int)} {l : List Int}, l ∈ P → l.length ≤ P.flatten.length
  | [], _, h => by cases h
  | x :: xs, l, h => by
    rw [List.flatten_cons, List.length_append]
    rcases List.mem_cons.1 h with rfl | h
    · omega
    · have := mem_len h; omega
theorem ap_pre {N M C T : Nat} {w wr : World} {pv v : Value} {fl : List Int} {s e : Nat → Nat} {X : Nat → List Int} {k : Nat} {ls rest : List (List Int)} {off : Nat} (h : ApR N M C T w wr pv v fl s e X k ls rest off) (o : Obj) : Kpt M N (wr.alloc o) v ls ∧ Crs N (wr.alloc o) C rest off (prevN e k) :=
  have k0 := (Kept.refl (fun _ => False) wr).alloc o
  ⟨h.kpt.kept k0 (fun _ _ h => h) (fun _ _ h => h), h.crs.kept k0 (fun h => h) (fun _ _ h => h)⟩
theorem sumT_mono (X : Nat → List Int) {a b : Nat} (h : a ≤ b) : sumT X a ≤ sumT X b := by
  induction b with
  | zero => obtain rfl : a = 0 := by omega
            exact Nat.le_refl _
  | succ b ih => by_cases e : a = b + 1
                 · subst e; exact Nat.le_refl _
                 · have := ih (by omega); simp only [sumT]; omega
theorem ap_txt {N M C T : Nat} {w wr w4 : World} {pv v : Value} {fl : List Int} {s e : Nat → Nat} {X : Nat → List Int} {k : Nat} {ls rest : List (List Int)} {off : Nat} {o : Obj} (hn : Nums N M C T w) (h : ApR N M C T w wr pv v fl s e X k ls rest off) (hk : Kept (fun b => b = C ∨ some b = v.ownBlock) (wr.alloc o) w4) : Txt w4 T pv (szTo fl s e X k : Nat) := by
  have h1 := hn.nt
  have h2 := hn.wm
  have h3 := hn.mc
  have h4 := hn.tw
  have hTn : ¬ (T = C ∨ some T = v.ownBlock) := fun x => by
    rcases x with x | x
    · omega
    · have := (row_lt h.kpt x.symm).1; omega
  exact (h.txt.kept ((Kept.refl (fun b => b = C ∨ some b = v.ownBlock) wr).alloc o) hTn).kept hk hTn
theorem ap_txt' {N M C T : Nat} {w wr w4 : World} {pv v : Value} {fl : List Int} {s e : Nat → Nat} {X : Nat → List Int} {k : Nat} {ls rest : List (List Int)} {off : Nat} (hn : Nums N M C T w) (h : ApR N M C T w wr pv v fl s e X k ls rest off) (hk : Kept (fun b => b = C ∨ some b = v.ownBlock) wr w4) : Txt w4 T pv (szTo fl s e X k : Nat) := by
  have h1 := hn.nt
  have h2 := hn.wm
  have h3 := hn.mc
  have h4 := hn.tw
  exact h.txt.kept hk (fun x => by
    rcases x with x | x
    · omega
    · have := (row_lt h.kpt x.symm).1; omega)
/-- The last store: t.pieces. -/
theorem ap_end {N M C T : Nat} {w wr w3 : World} {pv v v3 : Value} {fl : List Int} {s e : Nat → Nat} {X : Nat → List Int} {n : Nat} {ls rest new rest3 : List (List Int)} {off off3 : Nat} (hn : Nums N M C T w) (h : ApR N M C T w wr pv v fl s e X n ls rest off) (hK : KeepR N M C wr w3 v v3 ls new rest3 off3 fl.length (prevN e n) fl.length (rem rest off)) (htx : Txt w3 T pv (szTo fl s e X n : Nat)) :
    ∃ ls', Kept (fun b => b = T) w (w3.setCell ⟨T, 0, none⟩ v3) ∧ Txt (w3.setCell ⟨T, 0, none⟩ v3) T v3 ((model fl s e X n).length : Nat) ∧ Rws (w3.setCell ⟨T, 0, none⟩ v3).heap.size (w3.setCell ⟨T, 0, none⟩ v3) v3 ls' ∧ ls'.flatten = model fl s e X n ∧ ∀ l ∈ ls', l ≠ [] := by
  have h1 := hn.nt
  have h2 := hn.wm
  have h3 := hn.mc
  have h4 := hn.tw
  have hfr : Kept (fun b => b = T) w w3 := h.frame.trans hK.frame (fun x hx y => by
    rcases y with y | y
    · omega
    · have := (row_lt h.kpt y.symm).1; omega)
  have k5 : Kept (fun b => b = T) w3 (w3.setCell ⟨T, 0, none⟩ v3) := (Kept.refl _ w3).setC 0 _
  refine ⟨ls ++ new, hfr.trans k5 (fun _ _ x => x), ?_, ?_, ?_, fun l hl => ?_⟩
  · have := heap_setCell_at htx 0 v3
    unfold Txt
    rw [this, szTo_end]
    simp
  · have hkp := hK.kpt.kept k5 (fun g hg e => by have := (row_lt hK.kpt hg).1; omega) (fun x hx e => by omega)
    obtain ⟨vs, hl, ho, hv⟩ := hkp
    have hNs : N ≤ (w3.setCell ⟨T, 0, none⟩ v3).heap.size := by have := k5.size; have := hfr.size; omega
    exact ⟨vs, hl, sl_own ho, fun r x l hx hl => (hv r x l hx hl).mono hNs⟩
  · rw [List.flatten_append, h.text, hK.text, h.left]
    unfold model
    congr 1
    exact List.take_of_length_le (by simp)
  · rcases List.mem_append.1 hl with h' | h'
    · exact h.full l h'
    · exact hK.full l h'
theorem cells3 {w : World} {b : Nat} {x y z : Value} {t : TypeId} (h : w.heap[b]? = some (.cells #[x, y, z] t)) : w.cell? ⟨b, 0, none⟩ = some x ∧ w.cell? ⟨b, 1, none⟩ = some y ∧ w.cell? ⟨b, 2, none⟩ = some z := by
  refine ⟨?_, ?_, ?_⟩ <;> simp [World.cell?, h]

set_option maxRecDepth 100000 in
set_option maxHeartbeats 8000000 in
theorem apply_ok (F : Interp) (N T : Nat) (w : World) (hF : F.answers w.tape) (pv : Value) (P : List (List Int)) (ao : Option Addr) (g n cap : Nat) (S E : Nat → Int) (TV : Nat → Value) (X : Nat → List Int) (s e : Nat → Nat)
    (hT : Txt w T pv (P.flatten.length : Nat)) (hP : Rws N w pv P) (hfull : ∀ l ∈ P, l ≠ []) (hNT : N ≤ T) (hch : Chg w ao g n cap S E TV) (hgT : 0 < n → g ≠ T) (hTV : ∀ j, j < n → Sl N w (TV j) (bys (X j))) (hord : inOrd S E (P.flatten.length : Nat) n = true) (hok : OkN s e P.flatten.length n) (hS : ∀ k, k < n → S k = s k) (hE : ∀ k, k < n → E k = e k)
    (hb1 : P.flatten.length ≤ 1048576) (hb2 : n ≤ 1048576) (hb3 : sumT X n ≤ 1048576) (hb4 : P.length ≤ 1048576) :
    Calls Tryf.prog 12 #[.pointer (some ⟨T, 0, none⟩), .slice ao n cap] w fun en w' => en = .returned .nilIface ∧ ∃ pv' ls, Kept (fun b => b = T) w w' ∧ Txt w' T pv' ((model P.flatten s e X n).length : Nat) ∧ Rws w'.heap.size w' pv' ls ∧ ls.flatten = model P.flatten s e X n ∧ ∀ l ∈ ls, l ≠ [] := by
  have hbl : ∀ l ∈ P, l.length ≤ 1048576 := fun l hl => by
    have := mem_len hl
    omega
  have hst := fun (w1 w2 : World) (nc : Nat) a b c => ap_start (s := s) (e := e) (X := X) (w1 := w1) (w2 := w2) (nc := nc) hT hP hfull hNT hbl a b c
  obtain ⟨t0, t1, tf⟩ := hT.cells
  have hTw := hT.lt
  obtain ⟨pa, pb, po, pc, _, _, _, _, _, rfl, -⟩ := hP.grid
  obtain ⟨i0, hi0, hz0, hz1, hz2⟩ := info_parts Tryf.info28
  have hTV' : ∀ j, j < n → ∃ a m c, TV j = .slice a m c := fun j hj => by
    obtain ⟨a, b, o, c, h1, _⟩ := (hTV j hj).bytes
    exact ⟨a, _, c, h1⟩
  have hprev := hok.prev
  have hmd := mdTo_len (T := X) hok
  have hck := check_walk F w hF ao g n cap S E TV (P.flatten.length : Nat) hch hTV' hb2
  rw [hord] at hck
  have HST : Hid (∀ (w1 w2 : World) (nc : Nat), Below w.heap.size w w1 → w1.grownBy w2 none → w2.ownsRow w1.heap.size 28 1 (.slice (some ⟨w1.heap.size, 0, none⟩) 0 nc) 0 [] → ApR N w1.heap.size w2.heap.size T w (w2.alloc (.cells #[.slice pa P.length pc, .int .i64 0, .int .i64 0] 48)) (.slice pa P.length pc) (.slice (some ⟨w1.heap.size, 0, none⟩) 0 nc) P.flatten s e X 0 [] P 0) := hst
  have HCK : Hid (Calls Tryf.prog 20 #[.slice ao n cap, .int .i64 (P.flatten.length : Nat)] w fun e w' => Chk e true ∧ Below w.heap.size w w') := hck
  have hcat := hch.at_
  have hcle := hch.le
  have hclm := hch.lem
  unfold maxLen at hclm
  have HC0 : Hid (∀ j, j < n → w.cell? ⟨g, j * 3, none⟩ = some (.int .i64 (s j : Nat))) := fun j hj => by rw [← hS j hj]; exact hch.c0 j hj
  have HC1 : Hid (∀ j, j < n → w.cell? ⟨g, j * 3 + 1, none⟩ = some (.int .i64 (e j : Nat))) := fun j hj => by rw [← hE j hj]; exact hch.c1 j hj
  have HC2 : Hid (∀ j, j < n → w.cell? ⟨g, j * 3 + 2, none⟩ = some (TV j)) := hch.c2
  have HTV : Hid (∀ j, j < n → Sl N w (TV j) (bys (X j))) := hTV
  have HOK : Hid (OkN s e P.flatten.length n) := hok
  have HPV : Hid (∀ k, k ≤ n → prevN e k ≤ P.flatten.length) := hprev
  have HMD : Hid (∀ k, k ≤ n → (mdTo P.flatten s e X k).length ≤ prevN e k + sumT X k) := hmd
  have tf0 := tf 0
  have tf1 := tf 1
  have HT0 : Hid (Txt w T (.slice pa P.length pc) (P.flatten.length : Nat)) := hT
  clear hst hT hP hfull hch hTV hTV' hord hok hS hE hprev hmd hck hbl hF tf
  generalize P.flatten = fl at *
  generalize P.length = pn at *
  go_enter Tryf.func12, Tryf.ntmps12
  go_wp2_with fail
  refine HCK.out.mono ?_
  rintro en w1 ⟨hchk, hb5⟩
  obtain rfl := hchk.1 rfl
  have hsz1 := hb5.size
  have r0 : w1.cell? ⟨T, 0, none⟩ = some (.slice pa pn pc) := by rw [hb5.cell (p := ⟨T, 0, none⟩) hTw]; exact t0
  have r1 : w1.cell? ⟨T, 1, none⟩ = some (.int .i64 (fl.length : Nat)) := by rw [hb5.cell (p := ⟨T, 1, none⟩) hTw]; exact t1
  clear t0 t1 hchk HCK tf0 tf1
  go_wp2_with (at_make; refine wpList_make_own _ rfl (.const (.int .i64 0)) (.tmp 32) 22 rfl w1.heap.size 28 i0 _ 1 Tryf.underlying22 hi0 hz0 hz1 .i64 .i64 _ (pn + 2 * n) rfl rfl (by omega) (by rw [hz2]; omega) (by unfold maxLen; omega) (Nat.le_refl _) ?_)
  intro w2 hown2 hgrow2
  have hA0 := HST.out w1 w2 _ hb5 hgrow2 hown2
  have hsz2 := hgrow2.size
  have r0' : w2.cell? ⟨T, 0, none⟩ = some (.slice pa pn pc) := hgrow2.cell r0 (by simp)
  have r1' : w2.cell? ⟨T, 1, none⟩ = some (.int .i64 (fl.length : Nat)) := hgrow2.cell r1 (by simp)
  have hnum : Nums N w1.heap.size w2.heap.size T w := ⟨hNT, hTw, hsz1, hsz2⟩
  have HN : Hid (Nums N w1.heap.size w2.heap.size T w) := hnum
  clear r0 r1 hb5 hgrow2 hown2 HST hnum
  go_wp2
  clear r0' r1'
  go_loopw [7, 10, 41] (fun v _ i wr => ∃ (k : Nat) (ls rest : List (List Int)) (off : Nat), k ≤ n ∧ i = .int .i64 k ∧ ApR N w1.heap.size w2.heap.size T w wr (.slice pa pn pc) v fl s e X k ls rest off) (fun _ _ i _ => n - (intOf i).toNat)
  case atStart => exact ⟨0, [], P, 0, Nat.zero_le _, rfl, hA0⟩
  case round =>
    clear hA0
    obtain ⟨k, ls, rest, off, hk, rfl, hA⟩ := hrel
    have hN := HN.out
    have hNM : N ≤ w1.heap.size := by have := hN.nt; have := hN.tw; have := hN.wm; omega
    have hNC : N ≤ w2.heap.size := by omega
    have hCw : w2.heap.size < wr.heap.size := by obtain ⟨pvc, hc, _⟩ := hA.crs; exact hc.lt
    have hMw : w1.heap.size ≤ wr.heap.size := by omega
    have hlsb : ls.length ≤ 4194304 := by
      have e1 := full_le hA.full
      have e2 := congrArg List.length hA.text
      have e3 := HMD.out k hk
      have e4 := HPV.out k hk
      have e5 : sumT X k ≤ sumT X n := sumT_mono X hk
      omega
    have hw1s := hN.wm
    by_cases hlt : k < n
    · obtain rfl := hcat (by omega)
      have hgw : g < w.heap.size := World.block_lt_of_cell? _ _ (HC0.out k hlt)
      have hgT' := hgT (by omega)
      have g0 : wr.cell? ⟨g, k * 3, none⟩ = some (.int .i64 (s k : Nat)) := hA.frame.cell (HC0.out k hlt) hgT'
      have g1 : wr.cell? ⟨g, k * 3 + 1, none⟩ = some (.int .i64 (e k : Nat)) := hA.frame.cell (HC1.out k hlt) hgT'
      have g2 : wr.cell? ⟨g, k * 3 + 2, none⟩ = some (TV k) := hA.frame.cell (HC2.out k hlt) hgT'
      have hX : Sl N wr (TV k) (bys (X k)) := (HTV.out k hlt).kept hA.frame (fun x hx e => by have := hN.nt; omega)
      obtain ⟨xa, xb, xo, xc, hxv, hxle, hxm, -, -⟩ := hX.bytes
      rw [hxv] at g2 hX
      have hokk := HOK.out k hlt
      have hpk := HPV.out k hk
      have hmdk := HMD.out k hk
      have hsX : sumT X (k + 1) = sumT X k + (X k).length := rfl
      have hsX2 := sumT_mono X (show k + 1 ≤ n from hlt)
      have HSZ := szTo_succ (X := X) HOK.out hlt
      have hszk : szTo fl s e X k ≤ 3145728 := by unfold szTo; omega
      have hpre := ap_pre hA (.cells #[.int .i64 (s k : Nat), .int .i64 (e k : Nat), .slice xa (X k).length xc] 50)
      have hleft := hA.left
      have hrl : s k - prevN e k ≤ (rem rest off).length := by rw [hleft]; simp; omega
      have HMDS : Hid (mdTo fl s e X (k + 1) = mdTo fl s e X k ++ seg fl (prevN e k) (s k) ++ X k) := rfl
      have HAP : Hid (ApR N w1.heap.size w2.heap.size T w wr (.slice pa pn pc) u7 fl s e X k ls rest off) := hA
      have HX : Hid (Sl N wr (.slice xa (X k).length xc) (bys (X k))) := hX
      have HPRE : Hid (Kpt w1.heap.size N (wr.alloc (.cells #[.int .i64 (s k : Nat), .int .i64 (e k : Nat), .slice xa (X k).length xc] 50)) u7 ls ∧ Crs N (wr.alloc (.cells #[.int .i64 (s k : Nat), .int .i64 (e k : Nat), .slice xa (X k).length xc] 50)) w2.heap.size rest off (prevN e k)) := hpre
      have HL : Hid (rem rest off = fl.drop (prevN e k)) := hleft
      have HSZ' : Hid ((szTo fl s e X (k + 1) : Int) = szTo fl s e X k + ((X k).length - ((e k : Int) - s k))) := HSZ
      have hIn := hA.inv
      have hSm := hA.small
      have hLe := hA.text
      have HTX : Hid (ls.flatten = mdTo fl s e X k) := hLe
      have hFu := hA.full
      have i1 : (0 : Int) ≤ k := by omega
      have i2 : (k : Int) < n := by omega
      unfold maxLen at hxm
      clear hA hX hpre hleft HSZ hLe hxv
      go_wp2_with fail
      refine (keep_walk N w1.heap.size w2.heap.size _ u7 ls rest off (prevN e k) (s k) HPRE.out.1 HPRE.out.2 hNM hNC (by simp; omega) hIn hokk.1 hrl (by omega) hSm hlsb).mono ?_
      rintro en w3 ⟨v3, rfl, new, rest3, off3, hK3⟩
      obtain ⟨a0, a1, a2⟩ := cells3 (ap_far HAP.out.kpt hCw hK3.frame)
      go_wp2_with fail
      refine (skip_walk N w2.heap.size _ rest3 off3 (s k) (e k) hK3.crs hNC hK3.inv hokk.2.1 (by rw [hK3.left, HL.out]; simp; omega) (by omega) hK3.small).mono ?_
      rintro en w4 ⟨rfl, rest4, off4, hA4, hI4, hR4, hS4⟩
      have k4 := ap_frame_skip hK3.frame hA4
      have hkp4 := ap_kpt_skip hNC hK3.kpt hK3.crs hA4
      obtain ⟨b0, b1, b2⟩ := cells3 (ap_far HAP.out.kpt hCw k4)
      have hrem4 : rem rest4 off4 = fl.drop (e k) := by
        rw [hR4, hK3.left, HL.out, List.drop_drop, List.drop_drop]; congr 1; omega
      have htx4 : (ls ++ new).flatten = mdTo fl s e X k ++ seg fl (prevN e k) (s k) := by
        rw [List.flatten_append, HTX.out, hK3.text, HL.out]; rfl
      have hfu4 : ∀ l ∈ ls ++ new, l ≠ [] := fun l hl => by
        rcases List.mem_append.1 hl with h | h
        · exact hFu l h
        · exact hK3.full l h
      have how4 := hK3.own
      have hcr4 := hA4.2.2
      have HK4 : Hid (Kept (fun b => b = w2.heap.size ∨ some b = u7.ownBlock) (wr.alloc (.cells #[.int .i64 (s k : Nat), .int .i64 (e k : Nat), .slice xa (X k).length xc] 50)) w4) := k4
      have HKP4 : Hid (Kpt w1.heap.size N w4 v3 (ls ++ new)) := hkp4
      have HR4 : Hid (rem rest4 off4 = fl.drop (e k)) := hrem4
      have HT4 : Hid ((ls ++ new).flatten = mdTo fl s e X k ++ seg fl (prevN e k) (s k)) := htx4
      have HCR4 : Hid (Crs N w4 w2.heap.size rest4 off4 (e k)) := hcr4
      clear a0 a1 a2 g0 g1 g2 hR4 hA4 hK3 k4 hkp4 hrem4 htx4 hcr4
      by_cases hx0 : (X k).length = 0
      · have hx0' : ¬ (0 : Int) < (X k).length := by omega
        have hxe : X k = [] := List.eq_nil_of_length_eq_zero hx0
        have HXE : Hid (X k = []) := hxe
        clear hxe hx0
        obtain ⟨tc0, tc1, tcf⟩ := (ap_txt hN HAP.out HK4.out).cells
        have tcf1 := tcf 1
        have q1 : IntKind.i64.wrap ((e k : Int) - (s k : Nat)) = (e k : Int) - (s k : Nat) := by rw [IntKind.wrap_i64]; omega
        have q2 : IntKind.i64.wrap (((X k).length : Int) - ((e k : Int) - (s k : Nat))) = ((X k).length : Int) - ((e k : Int) - (s k : Nat)) := by rw [IntKind.wrap_i64]; omega
        have q3 : IntKind.i64.wrap ((szTo fl s e X k : Int) + (((X k).length : Int) - ((e k : Int) - (s k : Nat)))) = (szTo fl s e X k : Int) + (((X k).length : Int) - ((e k : Int) - (s k : Nat))) := by rw [IntKind.wrap_i64]; omega
        clear tc0 tcf
        go_wp2
        refine wp_region_still_tail 16 mixed (by kernel_rfl) ?_
        simp only [List.take_succ_cons, List.take_zero, List.drop_succ_cons, List.drop_zero]
        repeat still_step
        try refine wpStill_nil ?_
        go_wp2
        go_roundw
        case rel => exact ⟨k + 1, ls ++ new, rest4, off4, by omega, by go_num, ap_close (q := 1) hN HAP.out HK4.out HCR4.out hI4 HR4.out hS4 HKP4.out (by rw [HT4.out, HMDS.out, HXE.out, List.append_nil]) hfu4 (by rw [HSZ'.out])⟩
        case measure => simp [intOf]; omega
      · have hx0' : (0 : Int) < (X k).length := by omega
        obtain ⟨vs4, hvl4, hown4, hvs4⟩ := HKP4.out
        have hlen4 : (ls ++ new).length ≤ 4194304 := by
          have e1 := full_le hfu4
          have e2 := congrArg List.length HT4.out
          rw [List.length_append, seg_len fl _ _ hokk.1 (by omega)] at e2
          omega
        have hxs4 : Sl N w4 (.slice xa (X k).length xc) (bys (X k)) := by
          have hrow : ∀ x, x < N → ¬ (x = w2.heap.size ∨ some x = u7.ownBlock) := fun x hx y => by
            rcases y with y | y
            · omega
            · have := (row_lt HAP.out.kpt y.symm).1; omega
          exact (HX.out.kept ((Kept.refl (fun b => b = w2.heap.size ∨ some b = u7.ownBlock) wr).alloc _) hrow).kept HK4.out hrow
        have HXS4 : Hid (Sl N w4 (.slice xa (X k).length xc) (bys (X k))) := hxs4
        have HVS4 : Hid (∀ (r : Nat) (x : Value) (l : List Int), vs4[r]? = some x → (ls ++ new)[r]? = some l → Sl N w4 x (bys l)) := hvs4
        have HOW4 : Hid (v3.ownBlock = u7.ownBlock ∨ ∀ g, v3.ownBlock = some g → (wr.alloc (.cells #[.int .i64 (s k : Nat), .int .i64 (e k : Nat), .slice xa (X k).length xc] 50)).heap.size ≤ g) := how4
        have hM4 : w1.heap.size ≤ w4.heap.size := by have := HK4.out.size; simp at this; omega
        have hxne : X k ≠ [] := fun h => hx0 (by rw [h]; rfl)
        have HXN : Hid (X k ≠ []) := hxne
        generalize hnm : (ls ++ new).length = nn at *
        clear hxs4 hvs4 how4 hxne hx0
        go_wp2_with (at_builtin; refine wpList_append_own_at _ rfl (.tmp 56) (.tmp 59) 22 rfl w1.heap.size 28 i0 (.slice none 0 0) 1 24 Tryf.underlying22 hi0 hz0 hz1 hz2 rfl (by decide) _ _ _ rfl (hown4.alloc _) ⟨w4.heap.size, 0, none⟩ 1 1 [.slice xa (X k).length xc] rfl rfl (cell_one_new _ _ _) (by intro u hu; simp at hu; subst hu; rfl) (by unfold maxLen; omega) (by omega) (by simp; omega) ?_)
        intro v5 w5 hown5 hgrow5 _ _
        have R5 := ap_append (q := 0) hNM HK4.out HOW4.out (by rw [hnm]; exact hvl4) (by rw [hnm]; exact hown4) HVS4.out HCR4.out HXS4.out (by rw [hnm]; exact hown5) hgrow5
        obtain ⟨k5, hcr5, hkp5⟩ := R5
        obtain ⟨d0, d1, d2⟩ := cells3 (ap_far HAP.out.kpt hCw k5)
        have HK5 : Hid (Kept (fun b => b = w2.heap.size ∨ some b = u7.ownBlock) (wr.alloc (.cells #[.int .i64 (s k : Nat), .int .i64 (e k : Nat), .slice xa (X k).length xc] 50)) w5) := k5
        have HCR5 : Hid (Crs N w5 w2.heap.size rest4 off4 (e k)) := hcr5
        have HKP5 : Hid (Kpt w1.heap.size N w5 v5 (ls ++ new ++ [X k])) := hkp5
        clear hown5 hgrow5 hown4 b0 b1 b2 k5 hcr5 hkp5
        obtain ⟨tc0, tc1, tcf⟩ := (ap_txt hN HAP.out HK5.out).cells
        have tcf1 := tcf 1
        have q1 : IntKind.i64.wrap ((e k : Int) - (s k : Nat)) = (e k : Int) - (s k : Nat) := by rw [IntKind.wrap_i64]; omega
        have q2 : IntKind.i64.wrap (((X k).length : Int) - ((e k : Int) - (s k : Nat))) = ((X k).length : Int) - ((e k : Int) - (s k : Nat)) := by rw [IntKind.wrap_i64]; omega
        have q3 : IntKind.i64.wrap ((szTo fl s e X k : Int) + (((X k).length : Int) - ((e k : Int) - (s k : Nat)))) = (szTo fl s e X k : Int) + (((X k).length : Int) - ((e k : Int) - (s k : Nat))) := by rw [IntKind.wrap_i64]; omega
        clear tc0 tcf
        go_wp2
        refine wp_region_still_tail 16 mixed (by kernel_rfl) ?_
        simp only [List.take_succ_cons, List.take_zero, List.drop_succ_cons, List.drop_zero]
        repeat still_step
        try refine wpStill_nil ?_
        go_wp2
        go_roundw
        case rel => exact ⟨k + 1, ls ++ new ++ [X k], rest4, off4, by omega, by go_num, ap_close (q := 1) hN HAP.out HK5.out HCR5.out hI4 HR4.out hS4 HKP5.out (by rw [List.flatten_append, HT4.out, HMDS.out, List.flatten_singleton]) (fun l hl => by
          rcases List.mem_append.1 hl with h | h
          · exact hfu4 l h
          · rw [List.mem_singleton.1 h]; exact HXN.out) (by rw [HSZ'.out])⟩
        case measure => simp [intOf]; omega
    · obtain rfl : k = n := by omega
      have hleft := hA.left
      have hpk := HPV.out k hk
      have hrl : fl.length - prevN e k ≤ (rem rest off).length := by rw [hleft]; simp
      have HAP : Hid (ApR N w1.heap.size w2.heap.size T w wr (.slice pa pn pc) u7 fl s e X k ls rest off) := hA
      have hcr := hA.crs
      have hkp := hA.kpt
      have hIn := hA.inv
      have hSm := hA.small
      have HKP : Hid (Kpt w1.heap.size N wr u7 ls) := hkp
      have HCR : Hid (Crs N wr w2.heap.size rest off (prevN e k)) := hcr
      clear hA hleft hcr hkp
      go_wp2_with fail
      refine (keep_walk N w1.heap.size w2.heap.size _ u7 ls rest off (prevN e k) fl.length HKP.out HCR.out hNM hNC hMw hIn hpk hrl hb1 hSm hlsb).mono ?_
      rintro en w3 ⟨v3, rfl, new, rest3, off3, hK3⟩
      have htx := (ap_txt' hN HAP.out hK3.frame)
      obtain ⟨tc0, tc1, tcf⟩ := htx.cells
      have tcf0 := tcf 0
      have hfin := ap_end hN HAP.out hK3 htx
      have hv3 : ∃ a m c, v3 = .slice a m c := by
        obtain ⟨vs, _, h2, _⟩ := hK3.kpt
        rcases h2.2 with ⟨h3, _⟩ | ⟨gg, cc, cur, h3, _⟩
        · exact ⟨_, _, _, h3⟩
        · exact ⟨_, _, _, h3⟩
      obtain ⟨va, vm, vc, hv3⟩ := hv3
      have HFIN : Hid (∃ ls', Kept (fun b => b = T) w (w3.setCell ⟨T, 0, none⟩ v3) ∧ Txt (w3.setCell ⟨T, 0, none⟩ v3) T v3 ((model fl s e X k).length : Nat) ∧ Rws (w3.setCell ⟨T, 0, none⟩ v3).heap.size (w3.setCell ⟨T, 0, none⟩ v3) v3 ls' ∧ ls'.flatten = model fl s e X k ∧ ∀ l ∈ ls', l ≠ []) := hfin
      clear hfin htx hK3 tcf tc1
      rw [hv3] at HFIN
      rw [hv3]
      clear hv3
      go_wp2
      go_ret
      obtain ⟨ls', h5⟩ := HFIN.out
      exact ⟨rfl, _, ls', h5⟩
end Go.Proofs.Qxb6630537aFmt
