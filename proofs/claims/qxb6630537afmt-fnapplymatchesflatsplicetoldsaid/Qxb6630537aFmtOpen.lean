/-
  FROM THE ROW's READINGS TO 'Rws' AND 'Sl' (seat b6630537aF).
-/
import Derived.Test.Qxb6630537aFmtOrder
import Derived.Deep.Matrix
import Derived.ProofKit
import Derived.OpenShut
namespace Go.Proofs.Qxb6630537aFmt
open Go.ChangeShapes Go.WideShapes Go.ChangeAt Go.RowKit Go.Deep

theorem cells28 : Tryf.prog.cellsOf 28 = 1 := by kernel_rfl
theorem cells5 : Tryf.prog.cellsOf 5 = 1 := by kernel_rfl
theorem cells3' : Tryf.prog.cellsOf 3 = 1 := by kernel_rfl

theorem addr_form {w : World} {a : Addr} {v : Value} (h : w.cell? a = some v) : ∃ b o, a = ⟨b, o, none⟩ := by
  obtain ⟨b, o, sp⟩ := a
  have hs : sp = none := by simpa using World.cell?_spot h
  subst hs
  exact ⟨b, o, rfl⟩

theorem add_zero' (a : Addr) : a.add 0 = a := by simp [Addr.add]

/-- A run of integers. -/
theorem sl_of_cells {w : World} {k : IntKind} {ao : Option Addr} {n cap : Nat} {zs : List Int} (hle : n ≤ cap) (hm : cap ≤ maxLen) (hz : zs.length = cap) (hnil : ao = none → cap = 0) (hc : ∀ a, ao = some a → ∀ i, i < cap → w.cell? (a.add i) = some (.int k (zs.getD i 0))) :
    Sl w.heap.size w (.slice ao n cap) ((zs.take n).map (Value.int k)) := by
  have hl : ((zs.take n).map (Value.int k)).length = n := by simp; omega
  by_cases hn : n = 0
  · subst hn
    refine ⟨ao, 0, 0, cap, by rw [hl], by rw [hl]; exact hle, hm, hnil, fun h => by rw [hl] at h; omega, fun j x hx => ?_⟩
    rw [List.getElem?_eq_none (by rw [hl]; omega)] at hx; cases hx
  · cases ao with
    | none => have := hnil rfl; omega
    | some a =>
      have h0 := hc a rfl 0 (by omega)
      rw [add_zero'] at h0
      obtain ⟨b, o, rfl⟩ := addr_form h0
      refine ⟨_, b, o, cap, by rw [hl], by rw [hl]; exact hle, hm, hnil, fun _ => ⟨rfl, World.block_lt_of_cell? _ _ h0⟩, fun j x hx => ?_⟩
      have hjn : j < n := by
        rcases Nat.lt_or_ge j n with h | h
        · exact h
        · rw [List.getElem?_eq_none (by rw [hl]; exact h)] at hx; cases hx
      have := hc _ rfl j (by omega)
      rw [Go.WideShapes.add_plain] at this
      rw [this]
      have hjz : j < zs.length := by omega
      rw [← hx]
      simp [hjn, hjz]

section
variable {H : Type} {enc : TypeId × Value → H} {W : World}

/-- '[]int'. -/
theorem ints_open {fuel : Nat} {ao : Option Addr} {n cap : Nat} {x : DataW H × List MemPlace} (h : DataW.trod enc Tryf.prog W 0 (fun _ => true) true fuel 23 (Value.slice ao n cap).cells.toList = some x) :
    ∃ st : List Int, Sl W.heap.size W (.slice ao n cap) (i64s st) ∧ ∀ j, -9223372036854775808 ≤ fn st j ∧ fn st j ≤ 9223372036854775807 := by
  rcases open_ints Tryf.underlying23 Tryf.underlying3 cells3' h with ⟨hcs, _⟩ | ⟨a, len', cap', zs, hcs, _, hl, hm, hz, _, hcell, hwz⟩
  · simp [Value.cells] at hcs
    obtain ⟨rfl, rfl, rfl⟩ := hcs
    refine ⟨[], ⟨none, 0, 0, 0, rfl, Nat.le_refl _, by unfold maxLen; omega, fun _ => rfl, fun h => by simp [i64s] at h, fun j x hx => by simp [i64s] at hx⟩, fun j => by simp [fn]⟩
  · simp [Value.cells] at hcs
    obtain ⟨rfl, rfl, rfl⟩ := hcs
    simp only [if_true] at hz
    refine ⟨zs.take n, sl_of_cells hl hm hz (fun h => by cases h) (fun a' ha i hi => by cases ha; exact hcell i (by omega)), fun j => ?_⟩
    have : ∀ z ∈ zs.take n, -9223372036854775808 ≤ z ∧ z ≤ 9223372036854775807 := fun z hz => bounds_i64 (hwz z (List.mem_of_mem_take hz))
    unfold fn
    by_cases hj : j < (zs.take n).length
    · have e : (zs.take n).getD j 0 = (zs.take n)[j] := by simp only [List.getD, List.getElem?_eq_getElem hj, Option.getD_some]
      rw [e]; exact this _ (List.getElem_mem hj)
    · have e : (zs.take n).getD j 0 = 0 := by simp only [List.getD, List.getElem?_eq_none (by omega : (zs.take n).length ≤ j), Option.getD_none]
      rw [e]; omega

/-- '[][]byte'. -/
theorem rows_open {fuel : Nat} {ao : Option Addr} {n cap : Nat} {x : DataW H × List MemPlace} (h : DataW.trod enc Tryf.prog W 0 (fun _ => true) true fuel 22 (Value.slice ao n cap).cells.toList = some x) :
    ∃ ps : List (List Int), Rws W.heap.size W (.slice ao n cap) ps := by
  rcases open_int_rows Tryf.underlying22 Tryf.underlying28 Tryf.underlying5 cells28 cells5 h with ⟨hcs, _⟩ | ⟨a, len', cap', A, L, C, Z, hcs, _, hl, hm, _, hr⟩
  · simp [Value.cells] at hcs
    obtain ⟨rfl, rfl, rfl⟩ := hcs
    exact ⟨[], [], rfl, ⟨none, 0, 0, 0, rfl, Nat.le_refl _, by unfold maxLen; omega, fun _ => rfl, fun h => by simp at h, fun j x hx => by simp at hx⟩, fun r x l hx => by simp at hx⟩
  · simp [Value.cells] at hcs
    obtain ⟨rfl, rfl, rfl⟩ := hcs
    refine ⟨(List.range n).map (fun r => (Z r).take (L r)), (List.range n).map (fun r => .slice (A r) (L r) (C r)), by simp, ?_, fun r x l hx hl' => ?_⟩
    · have hll : ((List.range n).map (fun r => Value.slice (A r) (L r) (C r))).length = n := by simp
      by_cases hn : n = 0
      · subst hn
        exact ⟨some a, 0, 0, cap, rfl, Nat.zero_le _, hm, (fun h => by cases h), fun h => by simp at h, fun j x hx => by simp at hx⟩
      · have h0 := (hr 0 (by omega)).1
        rw [add_zero'] at h0
        obtain ⟨b, o, rfl⟩ := addr_form h0
        refine ⟨_, b, o, cap, by rw [hll], by rw [hll]; exact hl, hm, (fun h => by cases h), fun _ => ⟨rfl, World.block_lt_of_cell? _ _ h0⟩, fun j x hx => ?_⟩
        have hjn : j < n := by
          rcases Nat.lt_or_ge j n with h | h
          · exact h
          · rw [List.getElem?_eq_none (by rw [hll]; exact h)] at hx; cases hx
        have := (hr j (by omega)).1
        rw [Go.WideShapes.add_plain] at this
        rw [this, ← hx]
        simp [hjn]
    · have hrn : r < n := by
        rcases Nat.lt_or_ge r n with h | h
        · exact h
        · rw [List.getElem?_eq_none (by simp; exact h)] at hx; cases hx
      simp [hrn] at hx hl'
      subst hx; subst hl'
      obtain ⟨_, e2, e3, e4, _, e6, e7⟩ := hr r (by omega)
      exact sl_of_cells e2 e3 e4 e6 (fun a' ha => (e7 a' ha).2)
end
end Go.Proofs.Qxb6630537aFmt
