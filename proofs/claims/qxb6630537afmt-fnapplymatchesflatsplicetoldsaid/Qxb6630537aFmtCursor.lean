/-
  The cursor's methods (seat b6630537aF): advance, keep, skip.
-/
import Derived.Test.Qxb6630537aFmtFlat
namespace Go.Proofs.Qxb6630537aFmt
open Go.RowKit

/-- The cursor's block. -/
def Cur (w : World) (C : Nat) (pv : Value) (off pos : Int) : Prop := w.heap[C]? = some (.cells #[pv, .int .i64 off, .int .i64 pos] 48 (0, 0))

theorem heap_setCell_at {w : World} {C : Nat} {cs : Array Value} {t : TypeId} (h : w.heap[C]? = some (.cells cs t (0, 0))) (j : Nat) (v : Value) : (w.setCell ⟨C, j, none⟩ v).heap[C]? = some (.cells (cs.setIfInBounds j v) t (0, 0)) := by
  simp [World.setCell, Array.getElem?_modify, h]
theorem Cur.cells {w : World} {C : Nat} {pv : Value} {off pos : Int} (h : Cur w C pv off pos) : w.cell? ⟨C, 0, none⟩ = some pv ∧ w.cell? ⟨C, 1, none⟩ = some (.int .i64 off) ∧ w.cell? ⟨C, 2, none⟩ = some (.int .i64 pos) ∧ ∀ j, w.frozen? ⟨C, j, none⟩ = false := by
  unfold Cur at h
  refine ⟨?_, ?_, ?_, fun j => ?_⟩ <;> simp [World.cell?, World.frozen?, h]
theorem Cur.lt {w : World} {C : Nat} {pv : Value} {off pos : Int} (h : Cur w C pv off pos) : C < w.heap.size := (Array.getElem?_eq_some_iff.1 h).1

/-- The first row of a slice of slices that is not empty. -/
theorem Rws.first {N : Nat} {w : World} {v : Value} {l : List Int} {ls : List (List Int)} (h : Rws N w v (l :: ls)) :
    ∃ b o cap x, v = .slice (some ⟨b, o, none⟩) (ls.length + 1) cap ∧ ls.length + 1 ≤ cap ∧ cap ≤ maxLen ∧ b < N ∧ w.cell? ⟨b, o, none⟩ = some x ∧ Sl N w x (bys l) ∧
      ∀ ao, (2 ≤ cap → ao = some ⟨b, o + 1, none⟩) → (ao = none → cap = 1) → Rws N w (.slice ao ls.length (cap - 1)) ls := by
  obtain ⟨vs, hl, ⟨ao, b, o, cap, h1, h2, h3, h4, h5, h6⟩, h7⟩ := h
  match vs, hl with
  | x :: xs, hl =>
    simp only [List.length_cons] at hl h1 h2 h5
    obtain ⟨rfl, hb⟩ := h5 (by omega)
    have hl' : xs.length = ls.length := by omega
    refine ⟨b, o, cap, x, by rw [h1, hl'], by omega, h3, hb, by simpa using h6 0 x rfl, h7 0 x l rfl rfl, fun ao ha hn => ?_⟩
    refine ⟨xs, hl', ⟨ao, b, o + 1, cap - 1, by rw [hl'], by omega, by omega, fun e => by have := hn e; omega, fun hp => ⟨ha (by omega), hb⟩, fun j y hy => ?_⟩, fun r y m hy hm => h7 (r + 1) y m (by simpa using hy) (by simpa using hm)⟩
    have := h6 (j + 1) y (by simpa using hy)
    rw [show o + 1 + j = o + (j + 1) by omega]
    exact this

/-- The cursor in block C: what is left of the pieces, the offset in the first, the place in the text. -/
def Crs (N : Nat) (w : World) (C : Nat) (rest : List (List Int)) (off pos : Nat) : Prop := ∃ pv, Cur w C pv off pos ∧ Rws N w pv rest
/-- Where the cursor stands behind d bytes of its first piece. -/
def advOff (l : List Int) (off d : Nat) : Nat := if off + d = l.length then 0 else off + d
def advRest (l : List Int) (ls : List (List Int)) (off d : Nat) : List (List Int) := if off + d = l.length then ls else l :: ls
theorem Kept.size_setCell (w : World) (a : Addr) (v : Value) : (w.setCell a v).heap.size = w.heap.size := by simp [World.setCell]

theorem Kept.setC {C : Nat} {a b : World} (h : Kept (fun b => b = C) a b) (j : Nat) (v : Value) : Kept (fun b => b = C) a (b.setCell ⟨C, j, none⟩ v) := h.setCell (fun _ => rfl) v

/-- The cursor's block behind its stores. -/
def Adv (N C : Nat) (w w' : World) (rest : List (List Int)) (off pos : Nat) : Prop := Kept (fun b => b = C) w w' ∧ w'.heap.size = w.heap.size ∧ Crs N w' C rest off pos

theorem adv_close {N C : Nat} {w : World} {pv pv' : Value} {off pos off' pos' : Int} {o1 p1 q : Nat} {rest : List (List Int)} (hC : Cur w C pv off pos) (hN : N ≤ C) (hr : Rws N w pv' rest) (hp : pos' = p1) (x1 : Int) (ho : off' = o1) :
    Adv N C w (((((w.setCell ⟨C, 2, none⟩ (.int .i64 pos')).setCell ⟨C, 1, none⟩ (.int .i64 x1)).drewN q).setCell ⟨C, 0, none⟩ pv').setCell ⟨C, 1, none⟩ (.int .i64 off')) rest o1 p1 := by
  have hk : Kept (fun b => b = C) w (((((w.setCell ⟨C, 2, none⟩ (.int .i64 pos')).setCell ⟨C, 1, none⟩ (.int .i64 x1)).drewN q).setCell ⟨C, 0, none⟩ pv').setCell ⟨C, 1, none⟩ (.int .i64 off')) :=
    (((((Kept.refl _ w).setC 2 _).setC 1 _).drewN q).setC 0 _).setC 1 _
  refine ⟨hk, by simp [World.setCell], pv', ?_, hr.kept hk (fun x hx e => by omega)⟩
  have h1 := heap_setCell_at (heap_setCell_at hC 2 (.int .i64 pos')) 1 (.int .i64 x1)
  have h2 : (((w.setCell ⟨C, 2, none⟩ (.int .i64 pos')).setCell ⟨C, 1, none⟩ (.int .i64 x1)).drewN q).heap[C]? = _ := h1
  have h3 := heap_setCell_at (heap_setCell_at h2 0 pv') 1 (.int .i64 off')
  unfold Cur
  rw [h3, hp, ho]
  simp
theorem adv_close0 {N C : Nat} {w : World} {pv : Value} {off pos off' pos' : Int} {o1 p1 q : Nat} {rest : List (List Int)} (hC : Cur w C pv off pos) (hN : N ≤ C) (hr : Rws N w pv rest) (hp : pos' = p1) (ho : off' = o1) :
    Adv N C w (((w.setCell ⟨C, 2, none⟩ (.int .i64 pos')).setCell ⟨C, 1, none⟩ (.int .i64 off')).drewN q) rest o1 p1 := by
  have hk : Kept (fun b => b = C) w (((w.setCell ⟨C, 2, none⟩ (.int .i64 pos')).setCell ⟨C, 1, none⟩ (.int .i64 off')).drewN q) :=
    (((Kept.refl _ w).setC 2 _).setC 1 _).drewN q
  refine ⟨hk, by simp [World.setCell], pv, ?_, hr.kept hk (fun x hx e => by omega)⟩
  have h1 := heap_setCell_at (heap_setCell_at hC 2 (.int .i64 pos')) 1 (.int .i64 off')
  unfold Cur
  show ((w.setCell ⟨C, 2, none⟩ (.int .i64 pos')).setCell ⟨C, 1, none⟩ (.int .i64 off')).heap[C]? = _
  rw [h1, hp, ho]
  simp

set_option maxHeartbeats 1000000 in
theorem advance_walk (N C : Nat) (w : World) (l : List Int) (ls : List (List Int)) (off pos d : Nat) (h : Crs N w C (l :: ls) off pos) (hN : N ≤ C) (hd : off + d ≤ l.length) (hb1 : pos + d ≤ 1073741824) (hb2 : l.length ≤ 1073741824) :
    Calls Tryf.prog 24 #[.pointer (some ⟨C, 0, none⟩), .int .i64 d] w fun e w' => e = .returned (.tuple #[]) ∧ Adv N C w w' (advRest l ls off d) (advOff l off d) (pos + d) := by
  obtain ⟨pv, hC, h⟩ := h
  have h' := h
  obtain ⟨b, o, cap, x, rfl, hcap, hm, hbN, hcell, hx, htl⟩ := h.first
  obtain ⟨ax, bx, ox, cx, rfl, hlx, hmx, hax, hcx⟩ := hx.bytes
  obtain ⟨c0, c1, c2, cf⟩ := hC.cells
  have hbC : b ≠ C := by omega
  have hCb : C ≠ b := by omega
  unfold maxLen at hm hmx
  have f1 := cf 1
  have f2 := cf 2
  have f0 := cf 0
  clear hax hcx cf h
  have HC : Hid (Cur w C (Value.slice (some { block := b, off := o }) (ls.length + 1) cap) ↑off ↑pos) := hC
  have HH : Hid (Rws N w (Value.slice (some { block := b, off := o }) (ls.length + 1) cap) (l :: ls)) := h'
  clear hC h' hx
  have hll : ls.length = ls.length := rfl
  by_cases he : off + d = l.length
  · have he' : ((off : Int) + d == l.length) = true := by simp; omega
    have e1 : advRest l ls off d = ls := by simp [advRest, he]
    have e2 : advOff l off d = 0 := by simp [advOff, he]
    rw [e1, e2]
    have HT : Hid (∀ ao, (2 ≤ cap → ao = some ⟨b, o + 1, none⟩) → (ao = none → cap = 1) → Rws N w (.slice ao ls.length (cap - 1)) ls) := htl
    clear e1 e2 htl he hll
    by_cases hc1 : cap = 1
    · subst hc1
      obtain rfl : ls = [] := List.eq_nil_of_length_eq_zero (by omega)
      have HT0 : Hid (Rws N w (.slice (some ⟨b, o, none⟩) 0 0) []) := HT.out _ (fun h => by omega) (fun h => by cases h)
      clear HT
      simp only [List.length_nil, Nat.zero_add] at *
      generalize l.length = m at *
      go_enter Tryf.func24, Tryf.ntmps24
      go_wp2
      go_quiet (fail)
      go_wp2
      go_end0
      exact ⟨rfl, adv_close HC.out hN HT0.out (by omega) _ (by omega)⟩
    · generalize ls.length = n at *
      generalize l.length = m at *
      go_enter Tryf.func24, Tryf.ntmps24
      go_wp2
      go_quiet (fail)
      go_wp2
      go_end0
      exact ⟨rfl, adv_close HC.out hN (HT.out _ (fun _ => rfl) (fun h => by cases h)) (by omega) _ (by omega)⟩
  · have he' : ((off : Int) + d == l.length) = false := by simp; omega
    have e1 : advRest l ls off d = l :: ls := by simp [advRest, he]
    have e2 : advOff l off d = off + d := by simp [advOff, he]
    rw [e1, e2]
    clear e1 e2 htl hll
    generalize ls.length = n at *
    generalize l.length = m at *
    go_enter Tryf.func24, Tryf.ntmps24
    go_wp2
    go_quiet (fail)
    go_wp2
    go_end0
    exact ⟨rfl, adv_close0 HC.out hN HH.out (by omega) (by omega)⟩
end Go.Proofs.Qxb6630537aFmt
