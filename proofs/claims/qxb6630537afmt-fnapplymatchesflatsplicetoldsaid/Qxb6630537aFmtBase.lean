/-
  THE BASE of seat b6630537aF: what a slice reads as in a world ('Sl', 'Rws'); a frame with exceptions ('Kept').
-/
import Derived.Test.Qxb6630537aFmtRows
import Derived.WalkKit
import Derived.WalkSpells
import Derived.Deep.QuietTactic
import Derived.BigQuiet
import Derived.Deep.Slices
namespace Go.Proofs.Qxb6630537aFmt
open Go.RowKit

/-- The slice value v, of elements of one cell each, reads as xs in w; its cells lie below block N. -/
def Sl (N : Nat) (w : World) (v : Value) (xs : List Value) : Prop :=
  ∃ (ao : Option Addr) (b o cap : Nat), v = .slice ao xs.length cap ∧ xs.length ≤ cap ∧ cap ≤ maxLen ∧ (ao = none → cap = 0) ∧ (0 < xs.length → ao = some ⟨b, o, none⟩ ∧ b < N) ∧
    ∀ j x, xs[j]? = some x → w.cell? ⟨b, o + j, none⟩ = some x

/-- A run of bytes, as cells. -/
def bys (l : List Int) : List Value := l.map (Value.int .u8)
/-- A run of ints, as cells. -/
def i64s (l : List Int) : List Value := l.map (Value.int .i64)

/-- A slice of slices of bytes. -/
def Rws (N : Nat) (w : World) (v : Value) (ls : List (List Int)) : Prop :=
  ∃ vs : List Value, vs.length = ls.length ∧ Sl N w v vs ∧ ∀ (r : Nat) (x : Value) (l : List Int), vs[r]? = some x → ls[r]? = some l → Sl N w x (bys l)

/-- Of the blocks that were there only those of S have turned. -/
structure Kept (S : Nat → Prop) (w w' : World) : Prop where
  os : w'.os = w.os
  tape : w'.tape = w.tape
  output : w'.output = w.output
  size : w.heap.size ≤ w'.heap.size
  block : ∀ k, k < w.heap.size → ¬ S k → w'.heap[k]? = w.heap[k]?

theorem Kept.refl (S : Nat → Prop) (w : World) : Kept S w w := ⟨rfl, rfl, rfl, Nat.le_refl _, fun _ _ _ => rfl⟩
theorem Kept.trans {S S' : Nat → Prop} {a b c : World} (h : Kept S a b) (k : Kept S' b c) (hs : ∀ x, x < a.heap.size → S' x → S x) : Kept S a c :=
  ⟨k.os.trans h.os, k.tape.trans h.tape, k.output.trans h.output, Nat.le_trans h.size k.size, fun i hi hn => (k.block i (Nat.lt_of_lt_of_le hi h.size) (fun e => hn (hs i hi e))).trans (h.block i hi hn)⟩
theorem Kept.mono {S S' : Nat → Prop} {a b : World} (h : Kept S a b) (hs : ∀ x, x < a.heap.size → S x → S' x) : Kept S' a b :=
  ⟨h.os, h.tape, h.output, h.size, fun i hi hn => h.block i hi (fun e => hn (hs i hi e))⟩
theorem Kept.of_below {S : Nat → Prop} {a b : World} (h : Below a.heap.size a b) : Kept S a b := ⟨h.os, h.tape, h.output, h.size, fun i hi _ => h.block i hi⟩
theorem Kept.below {S : Nat → Prop} {a b : World} {B : Nat} (h : Kept S a b) (hB : B ≤ a.heap.size) (hs : ∀ x, x < B → ¬ S x) : Below B a b := ⟨h.os, h.tape, h.output, h.size, fun i hi => h.block i (by omega) (hs i hi)⟩
theorem Kept.of_grown {a b : World} {row : Option Nat} {S : Nat → Prop} (h : a.grownBy b row) (hs : ∀ x, row = some x → S x) : Kept S a b :=
  ⟨h.os, h.tape, h.output, h.size, fun i hi hn => h.block i hi (fun e => hn (hs i e.symm))⟩
theorem Kept.drew {S : Nat → Prop} {a b : World} (h : Kept S a b) : Kept S a b.drew := ⟨h.os, h.tape, h.output, h.size, h.block⟩
theorem Kept.drewN {S : Nat → Prop} {a b : World} (h : Kept S a b) (n : Nat) : Kept S a (b.drewN n) := ⟨h.os, h.tape, h.output, h.size, h.block⟩
theorem Kept.alloc {S : Nat → Prop} {a b : World} (h : Kept S a b) (o : Obj) : Kept S a (b.alloc o) :=
  h.trans (Kept.of_below (S := S) ((Below.refl _ b).alloc (Nat.le_refl _) o)) (fun _ _ hx => hx)
theorem Kept.setCell {S : Nat → Prop} {a b : World} (h : Kept S a b) {p : Addr} (hp : p.block < a.heap.size → S p.block) (u : Value) : Kept S a (b.setCell p u) :=
  ⟨h.os, h.tape, h.output, by simpa [World.setCell] using h.size, fun i hi hn => by
    rw [Below.heap_setCell _ _ _ _ (fun e => hn (by rw [e]; exact hp (by omega)))]; exact h.block i hi hn⟩

theorem Kept.cell {S : Nat → Prop} {a b : World} (h : Kept S a b) {p : Addr} {v : Value} (hc : a.cell? p = some v) (hn : ¬ S p.block) : b.cell? p = some v :=
  (World.cell?_of_block (h.block p.block (World.block_lt_of_cell? a p hc) hn)).trans hc

theorem Sl.mono {N N' : Nat} {w : World} {v : Value} {xs : List Value} (h : Sl N w v xs) (hN : N ≤ N') : Sl N' w v xs := by
  obtain ⟨ao, b, o, cap, h1, h2, h3, h4, h5, h6⟩ := h
  exact ⟨ao, b, o, cap, h1, h2, h3, h4, fun hp => ⟨(h5 hp).1, Nat.lt_of_lt_of_le (h5 hp).2 hN⟩, h6⟩
theorem Sl.kept {N : Nat} {S : Nat → Prop} {w w' : World} {v : Value} {xs : List Value} (h : Sl N w v xs) (k : Kept S w w') (hs : ∀ x, x < N → ¬ S x) : Sl N w' v xs := by
  obtain ⟨ao, b, o, cap, h1, h2, h3, h4, h5, h6⟩ := h
  refine ⟨ao, b, o, cap, h1, h2, h3, h4, h5, fun j x hx => ?_⟩
  have hl : 0 < xs.length := by
    rcases Nat.lt_or_ge j xs.length with hj | hj
    · omega
    · rw [List.getElem?_eq_none hj] at hx; cases hx
  exact k.cell (h6 j x hx) (hs b (h5 hl).2)
theorem Sl.below {N B : Nat} {w w' : World} {v : Value} {xs : List Value} (h : Sl N w v xs) (k : Below B w w') (hN : N ≤ B) : Sl N w' v xs :=
  h.kept (S := fun x => B ≤ x) ⟨k.os, k.tape, k.output, k.size, fun i _ hn => k.block i (by omega)⟩ (fun x hx h => by omega)
theorem Rws.mono {N N' : Nat} {w : World} {v : Value} {ls : List (List Int)} (h : Rws N w v ls) (hN : N ≤ N') : Rws N' w v ls := by
  obtain ⟨vs, h1, h2, h3⟩ := h
  exact ⟨vs, h1, h2.mono hN, fun r x l hx hl => (h3 r x l hx hl).mono hN⟩
theorem Rws.kept {N : Nat} {S : Nat → Prop} {w w' : World} {v : Value} {ls : List (List Int)} (h : Rws N w v ls) (k : Kept S w w') (hs : ∀ x, x < N → ¬ S x) : Rws N w' v ls := by
  obtain ⟨vs, h1, h2, h3⟩ := h
  exact ⟨vs, h1, h2.kept k hs, fun r x l hx hl => (h3 r x l hx hl).kept k hs⟩
theorem Rws.below {N B : Nat} {w w' : World} {v : Value} {ls : List (List Int)} (h : Rws N w v ls) (k : Below B w w') (hN : N ≤ B) : Rws N w' v ls :=
  h.kept (S := fun x => B ≤ x) ⟨k.os, k.tape, k.output, k.size, fun i _ hn => k.block i (by omega)⟩ (fun x hx h => by omega)

/-- WHAT A WALK ASKS OF A SLICE OF SLICES OF BYTES: functions of the row's number. -/
structure Grid (N : Nat) (w : World) (ao : Option Addr) (b o n cap : Nat) (A : Nat → Option Addr) (L C RB RO : Nat → Nat) (Z : Nat → List Int) : Prop where
  le : n ≤ cap
  lem : cap ≤ maxLen
  nil : ao = none → cap = 0
  at_ : 0 < n → ao = some ⟨b, o, none⟩
  lt : 0 < n → b < N
  cell : ∀ r, r < n → w.cell? ⟨b, o + r, none⟩ = some (.slice (A r) (L r) (C r))
  rlen : ∀ r, r < n → (Z r).length = L r
  rle : ∀ r, r < n → L r ≤ C r ∧ C r ≤ maxLen
  rnil : ∀ r, r < n → A r = none → C r = 0
  rat : ∀ r, r < n → 0 < L r → A r = some ⟨RB r, RO r, none⟩ ∧ RB r < N
  rcell : ∀ r, r < n → ∀ j x, (Z r)[j]? = some x → w.cell? ⟨RB r, RO r + j, none⟩ = some (.int .u8 x)

theorem Rws.grid {N : Nat} {w : World} {v : Value} {ls : List (List Int)} (h : Rws N w v ls) :
    ∃ ao b o cap A L C RB RO, v = .slice ao ls.length cap ∧ Grid N w ao b o ls.length cap A L C RB RO (fun r => ls.getD r []) := by
  obtain ⟨vs, hlen, ⟨ao, b, o, cap, h1, h2, h3, h4, h5, h6⟩, h7⟩ := h
  rw [hlen] at h1 h2 h5
  have each : ∀ r, r < ls.length → ∃ y : Option Addr × Nat × Nat × Nat × Nat, w.cell? ⟨b, o + r, none⟩ = some (.slice y.1 y.2.1 y.2.2.1) ∧ (ls.getD r []).length = y.2.1 ∧ (y.2.1 ≤ y.2.2.1 ∧ y.2.2.1 ≤ maxLen) ∧ (y.1 = none → y.2.2.1 = 0) ∧
      (0 < y.2.1 → y.1 = some ⟨y.2.2.2.1, y.2.2.2.2, none⟩ ∧ y.2.2.2.1 < N) ∧ ∀ j x, (ls.getD r [])[j]? = some x → w.cell? ⟨y.2.2.2.1, y.2.2.2.2 + j, none⟩ = some (.int .u8 x) := by
    intro r hr
    have hx : vs[r]? = some (vs[r]'(by omega)) := List.getElem?_eq_getElem (by omega)
    have hl : ls[r]? = some (ls[r]) := List.getElem?_eq_getElem hr
    obtain ⟨ao', b', o', cap', g1, g2, g3, g4, g5, g6⟩ := h7 r _ _ hx hl
    have e : ls.getD r [] = ls[r] := by simp [hr]
    have hu : (bys ls[r]).length = (ls[r]).length := by simp [bys]
    refine ⟨(ao', (ls[r]).length, cap', b', o'), ?_, by rw [e], ?_, g4, ?_, ?_⟩
    · rw [h6 r _ hx, g1, hu]
    · rw [hu] at g2; exact ⟨g2, g3⟩
    · rw [hu] at g5; exact g5
    · intro j x hj
      rw [e] at hj
      exact g6 j _ (by simp [bys, hj])
  obtain ⟨y, hy⟩ := Go.Deep.choose_lt each
  exact ⟨ao, b, o, cap, fun r => (y r).1, fun r => (y r).2.1, fun r => (y r).2.2.1, fun r => (y r).2.2.2.1, fun r => (y r).2.2.2.2, h1,
    ⟨h2, h3, h4, fun hp => (h5 hp).1, fun hp => (h5 hp).2, fun r hr => (hy r hr).1, fun r hr => (hy r hr).2.1, fun r hr => (hy r hr).2.2.1, fun r hr => (hy r hr).2.2.2.1, fun r hr => (hy r hr).2.2.2.2.1, fun r hr => (hy r hr).2.2.2.2.2⟩⟩

end Go.Proofs.Qxb6630537aFmt
