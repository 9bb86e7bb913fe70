/-
  What each step of (*Text).Apply does to the memory (seat b6630537aF): lemmas outside the walk.
-/
import Derived.Test.Qxb6630537aFmtKeep
import Derived.Test.Qxb6630537aFmtModel
namespace Go.Proofs.Qxb6630537aFmt
open Go.RowKit

/-- The Text's block. -/
def Txt (w : World) (T : Nat) (pv : Value) (size : Int) : Prop := w.heap[T]? = some (.cells #[pv, .int .i64 size] 45 (0, 0))
theorem Txt.cells {w : World} {T : Nat} {pv : Value} {size : Int} (h : Txt w T pv size) : w.cell? ⟨T, 0, none⟩ = some pv ∧ w.cell? ⟨T, 1, none⟩ = some (.int .i64 size) ∧ ∀ j, w.frozen? ⟨T, j, none⟩ = false := by
  unfold Txt at h
  refine ⟨?_, ?_, fun j => ?_⟩ <;> simp [World.cell?, World.frozen?, h]
theorem Txt.lt {w : World} {T : Nat} {pv : Value} {size : Int} (h : Txt w T pv size) : T < w.heap.size := (Array.getElem?_eq_some_iff.1 h).1
theorem Txt.kept {S : Nat → Prop} {w w' : World} {T : Nat} {pv : Value} {size : Int} (h : Txt w T pv size) (k : Kept S w w') (hT : ¬ S T) : Txt w' T pv size := by
  unfold Txt; rw [k.block T h.lt hT]; exact h

/-- The size when k splices are made. -/
def szTo (fl : List Int) (s e : Nat → Nat) (X : Nat → List Int) (k : Nat) : Nat := (mdTo fl s e X k).length + (fl.length - prevN e k)

structure ApR (N M C T : Nat) (w wr : World) (pv v : Value) (fl : List Int) (s e : Nat → Nat) (X : Nat → List Int) (k : Nat) (ls rest : List (List Int)) (off : Nat) : Prop where
  frame : Kept (fun b => b = T) w wr
  txt : Txt wr T pv (szTo fl s e X k : Nat)
  crs : Crs N wr C rest off (prevN e k)
  inv : Inv rest off
  left : rem rest off = fl.drop (prevN e k)
  small : ∀ l ∈ rest, l.length ≤ 1048576
  kpt : Kpt M N wr v ls
  text : ls.flatten = mdTo fl s e X k
  full : ∀ l ∈ ls, l ≠ []

/-- What holds of the numbers. -/
structure Nums (N M C T : Nat) (w : World) : Prop where
  nt : N ≤ T
  tw : T < w.heap.size
  wm : w.heap.size ≤ M
  mc : M ≤ C

/-- The frame of what happens in a round between the splice's own variable and the size's store. -/
theorem row_lt {M N : Nat} {w : World} {v : Value} {ls : List (List Int)} (h : Kpt M N w v ls) {g : Nat} (hg : v.ownBlock = some g) : M ≤ g ∧ g < w.heap.size := by
  obtain ⟨vs, _, h2, _⟩ := h
  obtain ⟨h3, cur, h4⟩ := own_tag h2 hg
  exact ⟨h3, (Array.getElem?_eq_some_iff.1 h4).1⟩

theorem ap_far {M N C : Nat} {wr wx : World} {v : Value} {ls : List (List Int)} {o : Obj} (hK : Kpt M N wr v ls) (hC : C < wr.heap.size) (hk : Kept (fun b => b = C ∨ some b = v.ownBlock) (wr.alloc o) wx) : wx.heap[wr.heap.size]? = some o := by
  rw [hk.block wr.heap.size (by simp) (fun e => by
    rcases e with e | e
    · omega
    · have := (row_lt hK e.symm).2; omega)]
  exact heap_alloc_new wr o

/-- Behind keep and skip: nothing to append. -/
theorem ap_close {N M C T : Nat} {w wr w4 : World} {pv v v' : Value} {fl : List Int} {s e : Nat → Nat} {X : Nat → List Int} {k : Nat} {ls rest : List (List Int)} {off : Nat} {o : Obj} {ls' rest' : List (List Int)} {off' q : Nat} {sz : Int}
    (hn : Nums N M C T w) (h : ApR N M C T w wr pv v fl s e X k ls rest off) (hk : Kept (fun b => b = C ∨ some b = v.ownBlock) (wr.alloc o) w4)
    (hcrs : Crs N w4 C rest' off' (e k)) (hinv : Inv rest' off') (hleft : rem rest' off' = fl.drop (e k)) (hsm : ∀ l ∈ rest', l.length ≤ 1048576) (hkpt : Kpt M N w4 v' ls') (htext : ls'.flatten = mdTo fl s e X (k + 1)) (hfull : ∀ l ∈ ls', l ≠ [])
    (hsz : sz = (szTo fl s e X (k + 1) : Nat)) : ApR N M C T w ((w4.drewN q).setCell ⟨T, 1, none⟩ (.int .i64 sz)) pv v' fl s e X (k + 1) ls' rest' off' := by
  have hnt := hn.nt
  have hwm := hn.wm
  have hmc := hn.mc
  have htw := hn.tw
  have hTn : ¬ (T = C ∨ some T = v.ownBlock) := fun x => by
    rcases x with x | x
    · omega
    · have := (row_lt h.kpt x.symm).1; omega
  have hfr : Kept (fun b => b = T) w w4 := (h.frame.alloc o).trans hk (fun x hx y => by
    rcases y with y | y
    · omega
    · have := (row_lt h.kpt y.symm).1; omega)
  have k5 : Kept (fun b => b = T) w4 ((w4.drewN q).setCell ⟨T, 1, none⟩ (.int .i64 sz)) := ((Kept.refl _ w4).drewN q).setC 1 _
  have htx : Txt w4 T pv (szTo fl s e X k : Nat) := (h.txt.kept ((Kept.refl (fun b => b = C ∨ some b = v.ownBlock) wr).alloc o) hTn).kept hk hTn
  refine ⟨hfr.trans k5 (fun _ _ x => x), ?_, ?_, hinv, hleft, hsm, ?_, htext, hfull⟩
  · have := heap_setCell_at (w := w4.drewN q) htx 1 (.int .i64 sz)
    unfold Txt
    rw [this, hsz]
    simp
  · exact hcrs.kept k5 (fun e => by omega) (fun x hx e => by omega)
  · exact hkpt.kept k5 (fun g hg e => by have := (row_lt hkpt hg).1; omega) (fun x hx e => by omega)

theorem szTo_succ {fl : List Int} {s e : Nat → Nat} {X : Nat → List Int} {n k : Nat} (h : OkN s e fl.length n) (hk : k < n) : (szTo fl s e X (k + 1) : Int) = szTo fl s e X k + ((X k).length - ((e k : Int) - s k)) := by
  have h1 := h k hk
  have h2 := h.prev k (by omega)
  have h3 := seg_len fl (prevN e k) (s k) h1.1 (by omega)
  unfold szTo
  have e1 : mdTo fl s e X (k + 1) = mdTo fl s e X k ++ seg fl (prevN e k) (s k) ++ X k := rfl
  have e2 : prevN e (k + 1) = e k := rfl
  rw [e1, e2, List.length_append, List.length_append, h3]
  omega
theorem szTo_end (fl : List Int) (s e : Nat → Nat) (X : Nat → List Int) (n : Nat) : szTo fl s e X n = (model fl s e X n).length := by
  unfold szTo model; simp

/-- The frame behind keep, skip and an append. -/
theorem ap_frame_skip {N C : Nat} {wr1 w2 w3 : World} {v : Value} {rest : List (List Int)} {off pos : Nat} (h : Kept (fun b => b = C ∨ some b = v.ownBlock) wr1 w2) (ha : Adv N C w2 w3 rest off pos) : Kept (fun b => b = C ∨ some b = v.ownBlock) wr1 w3 :=
  h.trans ha.1 (fun _ _ x => Or.inl x)
theorem ap_kpt_skip {N M C : Nat} {w2 w3 : World} {v' : Value} {ls rest rest' : List (List Int)} {off pos off' pos' : Nat} (hNC : N ≤ C) (hk : Kpt M N w2 v' ls) (hc : Crs N w2 C rest' off' pos') (ha : Adv N C w2 w3 rest off pos) : Kpt M N w3 v' ls := by
  refine hk.kept ha.1 (fun g hg e => ?_) (fun x hx e => by omega)
  obtain ⟨vs, _, h2, _⟩ := hk
  obtain ⟨pvc, hcur, _⟩ := hc
  exact own_ne h2 hcur (by rw [hg, e])
theorem ap_append {N M C : Nat} {wr1 w3 w4 : World} {v v' v'' x : Value} {l : List Int} {ls rest : List (List Int)} {vs : List Value} {off pos q : Nat} {o : Obj} (hNM : N ≤ M) (hfr : Kept (fun b => b = C ∨ some b = v.ownBlock) wr1 w3) (how : v'.ownBlock = v.ownBlock ∨ ∀ g, v'.ownBlock = some g → wr1.heap.size ≤ g)
    (hl : vs.length = ls.length) (hown : w3.ownsRow M 28 1 v' ls.length vs) (hvs : ∀ (r : Nat) (x : Value) (l : List Int), vs[r]? = some x → ls[r]? = some l → Sl N w3 x (bys l)) (hcrs : Crs N w3 C rest off pos) (hx : Sl N w3 x (bys l))
    (hown' : w4.ownsRow M 28 1 v'' (ls.length + 1) (vs ++ [x])) (hgrow : ((w3.drewN q).alloc o).grownBy w4 v'.ownBlock) :
    Kept (fun b => b = C ∨ some b = v.ownBlock) wr1 w4 ∧ Crs N w4 C rest off pos ∧ Kpt M N w4 v'' (ls ++ [l]) := by
  have hk1 : Kept (fun b => some b = v'.ownBlock) w3 w4 := (((Kept.refl (fun b => some b = v'.ownBlock) w3).drewN q).alloc o).trans (Kept.of_grown (S := fun b => some b = v'.ownBlock) hgrow (fun x hx => hx.symm)) (fun _ _ h => h)
  have hNrow : ∀ x, x < N → ¬ (some x = v'.ownBlock) := fun x hx e => by have := (own_tag hown e.symm).1; omega
  refine ⟨hfr.trans hk1 (fun y hy e => ?_), keep_crs hcrs hown hNM hgrow, vs ++ [x], by simp [hl], by rw [List.length_append]; exact hown', fun r y m hr hm => ?_⟩
  · rcases how with ho | ho
    · exact .inr (by rw [← ho]; exact e)
    · have := ho y e.symm; omega
  · by_cases hrl : r < vs.length
    · rw [List.getElem?_append_left hrl] at hr
      rw [List.getElem?_append_left (by omega)] at hm
      exact (hvs r y m hr hm).kept hk1 hNrow
    · rw [List.getElem?_append_right (by omega)] at hr
      rw [List.getElem?_append_right (by omega), ← hl] at hm
      have hr0 : r - vs.length = 0 := by
        rcases Nat.eq_zero_or_pos (r - vs.length) with h0 | h0
        · exact h0
        · rw [List.getElem?_eq_none (by simp; omega)] at hr; cases hr
      rw [hr0] at hr hm
      simp at hr hm
      subst hr; subst hm
      exact hx.kept hk1 hNrow
end Go.Proofs.Qxb6630537aFmt
