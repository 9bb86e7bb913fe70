/-
  zzFlatten (seat b6630537aF).
-/
import Derived.Test.Qxb6630537aFmtClones
namespace Go.Proofs.Qxb6630537aFmt
open Go.RowKit

theorem sl_own {w : World} {base : Nat} {e : TypeId} {v : Value} {n : Nat} {xs : List Value} (h : w.ownsRow base e 1 v n xs) : Sl w.heap.size w v xs := by
  have hl : xs.length = n := by have := h.1; omega
  rcases h.2 with ⟨rfl, rfl⟩ | ⟨g, cap, cur, rfl, _, hg, hle, hm, _, _⟩
  · have : xs = [] := List.eq_nil_of_length_eq_zero hl
    subst this
    exact sl_nil _ _
  · refine ⟨some ⟨g, 0, none⟩, g, 0, cap, by rw [hl], by rw [hl]; exact hle, hm, fun h => (by cases h), fun _ => ⟨rfl, (Array.getElem?_eq_some_iff.1 hg).1⟩, fun j x hj => ?_⟩
    have := h.cells (g := g) rfl j x hj
    by_cases hj0 : j = 0
    · subst hj0; simpa [Addr.add] using this
    · simpa [Addr.add, hj0] using this

theorem own_len {w : World} {base : Nat} {e : TypeId} {v : Value} {n : Nat} {xs : List Value} (h : w.ownsRow base e 1 v n xs) : xs.length = n := by have := h.1; omega
theorem bys_append (l m : List Int) : bys (l ++ m) = bys l ++ bys m := by simp [bys]
theorem bys_len (l : List Int) : (bys l).length = l.length := by simp [bys]

/-- The text of the first k rows. -/
def outTo (ls : List (List Int)) (k : Nat) : List Int := (ls.take k).flatten
theorem outTo_succ (ls : List (List Int)) (k : Nat) (h : k < ls.length) : outTo ls (k + 1) = outTo ls k ++ ls.getD k [] := by
  unfold outTo
  rw [List.take_succ_eq_append_getElem h, List.flatten_append, List.flatten_singleton]
  have e : ls.getD k [] = ls[k] := by simp [h]
  rw [e]
theorem outTo_le (ls : List (List Int)) (k : Nat) : (outTo ls k).length ≤ ls.flatten.length := by
  have : ls.flatten = outTo ls k ++ (ls.drop k).flatten := by unfold outTo; rw [← List.flatten_append, List.take_append_drop]
  rw [this]; simp
theorem outTo_all (ls : List (List Int)) : outTo ls ls.length = ls.flatten := by unfold outTo; rw [List.take_length]
theorem take_snoc' (l : List Int) (c : Nat) (h : c < l.length) : l.take (c + 1) = l.take c ++ [fn l c] := by
  rw [List.take_succ_eq_append_getElem h]; simp [fn, h]

set_option maxHeartbeats 2000000 in
theorem flatten_walk (N : Nat) (w : World) (v : Value) (ls : List (List Int)) (h : Rws N w v ls) (hN : N ≤ w.heap.size) (hb : ls.flatten.length ≤ 1073741824) (hbn : ls.length ≤ 1073741824) :
    Calls Tryf.prog 10 #[v] w fun e w' => ∃ v', e = .returned v' ∧ Sl w'.heap.size w' v' (bys ls.flatten) ∧ Below w.heap.size w w' := by
  obtain ⟨ao, b, o, cap, A, L, C, RB, RO, rfl, g⟩ := h.grid
  obtain ⟨i0, hi, hz0, hz1, hz2⟩ := info_parts Tryf.info5
  have hmk : ∀ w, (Instr.makeSlice 28 (.int .i64 0) (.int .i64 0)).run Tryf.prog w = .ok (.slice (some ⟨w.heap.size, 0, none⟩) 0 0) (w.alloc (.cells #[] 5)) := fun _ => by kernel_rfl
  have hO := fun k => outTo_le ls k
  have hOs := fun k hk => outTo_succ ls k hk
  have hOl := outTo_all ls
  have hrle := g.rle
  unfold maxLen at hrle
  have hat := g.at_
  have hlt0 := g.lt
  have hcell := g.cell
  have hrat := g.rat
  have hZl : ∀ r, r < ls.length → (ls.getD r []).length = L r := g.rlen
  have hrc : ∀ r, r < ls.length → ∀ j x, (ls.getD r [])[j]? = some x → w.cell? ⟨RB r, RO r + j, none⟩ = some (.int .u8 x) := g.rcell
  have HO : Hid (∀ k, (outTo ls k).length ≤ ls.flatten.length) := hO
  have HS : Hid (∀ k, k < ls.length → outTo ls (k + 1) = outTo ls k ++ ls.getD k []) := hOs
  have HL : Hid (outTo ls ls.length = ls.flatten) := hOl
  have HZ : Hid (∀ r, r < ls.length → (ls.getD r []).length = L r) := hZl
  have HC : Hid (∀ r, r < ls.length → ∀ j x, (ls.getD r [])[j]? = some x → w.cell? ⟨RB r, RO r + j, none⟩ = some (.int .u8 x)) := hrc
  clear hO hOs hOl hZl hrc g h
  generalize ls.flatten = fl at *
  generalize ls.length = n at *
  go_enter Tryf.func10, Tryf.ntmps10
  go_wp2
  clear hmk
  go_loopw [3, 4] (fun v i wr => ∃ k : Nat, k ≤ n ∧ i = .int .i64 k ∧ Below w.heap.size w wr ∧ wr.ownsRow w.heap.size 5 1 v (outTo ls k).length (bys (outTo ls k))) (fun _ i _ => n - (intOf i).toNat)
  case atStart => exact ⟨0, Nat.zero_le _, rfl, (Below.refl _ _).alloc (Nat.le_refl _) _, ⟨by simp [bys], .inr ⟨w.heap.size, 0, #[], by simp [outTo], Nat.le_refl _, heap_alloc_new _ _, by simp [outTo], by unfold maxLen; omega, rfl, by simp [outTo, bys]⟩⟩⟩
  case round =>
    obtain ⟨k, hk, rfl, hB, hown⟩ := hrel
    by_cases hlt : k < n
    · obtain rfl := hat (by omega)
      have hbw : b < w.heap.size := by have := hlt0 (by omega); omega
      have g0 : wr.cell? ⟨b, o + k, none⟩ = some (.slice (A k) (L k) (C k)) := by rw [hB.cell (p := ⟨b, o + k, none⟩) hbw]; exact hcell k hlt
      have hLk := hrle k hlt
      have hratk := hrat k hlt
      have hck := hcell k hlt
      have hzk : Hid ((ls.getD k []).length = L k) := HZ.out k hlt
      have hsk : Hid (outTo ls (k + 1) = outTo ls k ++ ls.getD k []) := HS.out k hlt
      have hlen : (outTo ls k).length + L k ≤ 1073741824 := by have := HO.out (k + 1); rw [hsk.out, List.length_append, hzk.out] at this; omega
      have hcb : Hid (∀ j x, (ls.getD k [])[j]? = some x → w.cell? ⟨RB k, RO k + j, none⟩ = some (.int .u8 x)) := HC.out k hlt
      generalize ls.getD k [] = z at *
      generalize outTo ls k = out at *
      obtain ⟨wo, hwo⟩ : ∃ wo : World, wo = wr := ⟨_, rfl⟩
      clear hcell hrat hrle
      go_wp2
      clear g0
      go_loopw [3, 5] (fun v i wi => ∃ c : Nat, c ≤ L k ∧ i = .int .i64 c ∧ Below w.heap.size w wi ∧ wi.ownsRow w.heap.size 5 1 v (out ++ z.take c).length (bys (out ++ z.take c))) (fun _ i _ => L k - (intOf i).toNat)
      case atStart => exact ⟨0, Nat.zero_le _, rfl, hB, by simpa using hown⟩
      case round =>
        clear hB hown hwo
        obtain ⟨c, hcL, rfl, hB, hown⟩ := hrel
        have t1 : wr.cell? ⟨b, o + k, none⟩ = some (.slice (A k) (L k) (C k)) := by rw [hB.cell (p := ⟨b, o + k, none⟩) hbw]; exact hck
        have hzl := hzk.out
        by_cases hlc : c < L k
        · obtain ⟨ha, hRB⟩ := hratk (by omega)
          rw [ha] at t1
          have t2 : wr.cell? ⟨RB k, RO k + c, none⟩ = some (.int .u8 (fn z c)) := by
            rw [hB.cell (p := ⟨RB k, RO k + c, none⟩) (by show RB k < w.heap.size; omega)]
            exact hcb.out c _ (fn_get z c (by omega))
          have hts := take_snoc' z c (by omega)
          have hl1 : (out ++ z.take c).length = out.length + c := by simp; omega
          have hsz := hB.size
          have HT : Hid (z.take (c + 1) = z.take c ++ [fn z c]) := hts
          have HZl : Hid (z.length = L k) := hzl
          rw [hl1] at hown
          generalize fn z c = x at *
          clear hts hzl ha hck hratk hl1
          have HB : Hid (Below w.heap.size w wr) := hB
          clear hB
          go_wp2_with (at_builtin; refine wpList_append_own _ rfl _ _ 28 rfl w.heap.size 5 i0 (.int .u8 0) 1 1 Tryf.underlying28 hi hz0 hz1 hz2 rfl (by decide) _ _ _ rfl (hown.alloc _) ⟨wr.heap.size, 0, none⟩ 1 1 [.int .u8 x] rfl rfl (cell_one_new _ _ _) (by intro u hu; simp at hu; subst hu; rfl) (by unfold maxLen; omega) (by omega) (by simp; omega) ?_)
          intro v' w1 hown' hgrow _
          have hB1 : Below w.heap.size w w1 := (HB.out.alloc (by omega) _).grown hgrow (by simp; omega) (fun k hk => (hown.lt k hk).1)
          have hown1 : w1.ownsRow w.heap.size 5 1 v' (out ++ z.take (c + 1)).length (bys (out ++ z.take (c + 1))) := by
            have e1 : (out ++ z.take (c + 1)).length = out.length + c + 1 := by rw [HT.out]; have := HZl.out; simp; omega
            have e2 : bys (out ++ z.take (c + 1)) = bys (out ++ z.take c) ++ [.int .u8 x] := by rw [HT.out]; simp [bys]
            rw [e1, e2]; exact hown'
          clear hown' hgrow hown
          go_wp2
          go_roundw
          case rel => exact ⟨c + 1, by omega, by go_num, hB1, hown1⟩
          case measure => simp [intOf]; omega
        · obtain rfl : c = L k := by omega
          have e : z.take (L k) = z := List.take_of_length_le (by omega)
          rw [e, ← hsk.out] at hown
          clear hzl e hck hratk
          go_wp2
          go_roundw
          case rel => exact ⟨k + 1, by omega, by go_num, hB, hown⟩
          case measure => simp [intOf]; omega
    · obtain rfl : k = n := by omega
      go_wp2
      go_ret
      exact ⟨_, rfl, by rw [HL.out] at hown; exact sl_own hown, hB⟩
end Go.Proofs.Qxb6630537aFmt
