/-
  THE WALKS THAT ONLY READ (seat b6630537aF): zzNoEmpty, zzSizeOK, zzBytes, zzInOrder, zzEq.
-/
import Derived.Test.Qxb6630537aFmtBase
namespace Go.Proofs.Qxb6630537aFmt
open Go.RowKit

/-- No row is empty. -/
def noEmpty (ls : List (List Int)) : Bool := ls.all (fun l => !l.isEmpty)

theorem noEmpty_false {ls : List (List Int)} (k : Nat) (hk : k < ls.length) (h : (ls.getD k []).length = 0) : noEmpty ls = false := by
  unfold noEmpty
  rw [List.all_eq_false]
  refine ⟨ls[k], List.getElem_mem hk, ?_⟩
  have e : ls.getD k [] = ls[k] := by simp [hk]
  rw [e] at h
  simp [List.eq_nil_of_length_eq_zero h]
theorem noEmpty_true {ls : List (List Int)} (h : ∀ j, j < ls.length → (ls.getD j []).length ≠ 0) : noEmpty ls = true := by
  unfold noEmpty
  rw [List.all_eq_true]
  intro l hl
  obtain ⟨k, hk, rfl⟩ := List.getElem_of_mem hl
  have := h k hk
  have e : ls.getD k [] = ls[k] := by simp [hk]
  rw [e] at this
  cases hz : ls[k] with
  | nil => rw [hz] at this; simp at this
  | cons a b => rfl

set_option maxHeartbeats 400000 in
theorem noEmpty_walk (N : Nat) (w : World) (v : Value) (ls : List (List Int)) (h : Rws N w v ls) :
    Calls Tryf.prog 7 #[v] w fun e w' => e = .returned (.bool (noEmpty ls)) ∧ w' = w := by
  obtain ⟨ao, b, o, cap, A, L, C, RB, RO, rfl, g⟩ := h.grid
  have hf := fun k hk he => noEmpty_false (ls := ls) k hk he
  have ht := fun h => noEmpty_true (ls := ls) h
  have hle := g.le
  have hlm := g.lem
  have hat := g.at_
  have hcell := g.cell
  have hrl := g.rlen
  have hrc := g.rle
  unfold maxLen at hlm hrc
  generalize hn : ls.length = n at *
  generalize hr : noEmpty ls = res at *
  clear g h hn hr
  have Hf : Hid (∀ k, k < n → (ls.getD k []).length = 0 → res = false) := hf
  have Ht : Hid ((∀ j, j < n → (ls.getD j []).length ≠ 0) → res = true) := ht
  have Hrl : Hid (∀ r, r < n → (ls.getD r []).length = L r) := hrl
  clear hf ht hrl
  go_enter Tryf.func7, Tryf.ntmps7
  go_wp2
  go_loop [3] (fun i => ∃ k : Nat, k ≤ n ∧ i = .int .i64 k ∧ ∀ j, j < k → L j ≠ 0) (fun i => n - (intOf i).toNat)
  case atStart => exact ⟨0, Nat.zero_le _, rfl, fun j hj => absurd hj (Nat.not_lt_zero _)⟩
  case round =>
    obtain ⟨k, hk, rfl, hj⟩ := hrel
    by_cases hlt : k < n
    · obtain rfl := hat (by omega)
      have hc := hcell k hlt
      have hb := hrc k hlt
      have Hj : Hid (∀ j, j < k → L j ≠ 0) := hj
      clear hcell hrc hj
      by_cases hz : L k = 0
      · have hz' : ((L k : Int) == 0) = true := by simp [hz]
        go_wp2
        go_ret
        exact ⟨by rw [Hf.out k hlt (by rw [Hrl.out k hlt, hz])]; rfl, rfl⟩
      · have hz' : ((L k : Int) == 0) = false := by simp; omega
        go_wp2
        go_round
        case rel => exact ⟨k + 1, by omega, by go_num, fun j hj => by
          by_cases e : j = k
          · subst e; exact hz
          · exact Hj.out j (by omega)⟩
        case measure => simp [intOf]; omega
    · go_wp2
      go_ret
      exact ⟨by rw [Ht.out (fun j hjn => by rw [Hrl.out j hjn]; exact hj j (by omega))]; rfl, rfl⟩


/-- The sum of the lengths of the first k rows. -/
def sumL (L : Nat → Nat) : Nat → Nat | 0 => 0 | k + 1 => sumL L k + L k
theorem sumL_mono (L : Nat → Nat) {a b : Nat} (h : a ≤ b) : sumL L a ≤ sumL L b := by
  induction b with
  | zero => have : a = 0 := by omega
            subst this; exact Nat.le_refl _
  | succ b ih => by_cases e : a = b + 1
                 · subst e; exact Nat.le_refl _
                 · have := ih (by omega); simp only [sumL]; omega
theorem sumL_flatten : ∀ (ls : List (List Int)) (k : Nat), k ≤ ls.length → sumL (fun r => (ls.getD r []).length) k = ((ls.take k).flatten).length := by
  intro ls k
  induction k with
  | zero => intro _; simp [sumL]
  | succ k ih =>
    intro hk
    rw [List.take_succ_eq_append_getElem (by omega)]
    simp only [sumL, List.flatten_append, List.length_append, ih (by omega)]
    have e : ls.getD k [] = ls[k] := by simp [show k < ls.length by omega]
    rw [e]
    simp
theorem sumL_congr {L L' : Nat → Nat} {n : Nat} (h : ∀ r, r < n → L r = L' r) : ∀ k, k ≤ n → sumL L k = sumL L' k := by
  intro k
  induction k with
  | zero => intro _; rfl
  | succ k ih => intro hk; simp only [sumL]; rw [ih (by omega), h k (by omega)]

/-- A bool is returned; where it is true Q holds. -/
def Says (e : Ending) (Q : Prop) : Prop := ∃ r : Bool, e = .returned (.bool r) ∧ (r = true → Q)
theorem Says.no {Q : Prop} : Says (.returned (.bool false)) Q := ⟨false, rfl, fun h => by cases h⟩
theorem Says.yes {Q : Prop} (h : Q) : Says (.returned (.bool true)) Q := ⟨true, rfl, fun _ => h⟩

/-- What zzSizeOK's 'yes' says. -/
def Small (ps : List (List Int)) (ns ne : Nat) (ts : List (List Int)) : Prop := ps.length + ns + ne + ts.length ≤ 1048576 ∧ ps.flatten.length + ts.flatten.length ≤ 1048576

set_option maxHeartbeats 1000000 in
theorem sizeOK_walk (N : Nat) (w : World) (v vt : Value) (ps ts : List (List Int)) (a1 a2 : Option Addr) (n1 c1 n2 c2 : Nat) (h : Rws N w v ps) (ht : Rws N w vt ts) (hn1 : n1 ≤ 9223372036854775807) (hn2 : n2 ≤ 9223372036854775807) :
    Calls Tryf.prog 6 #[v, .slice a1 n1 c1, .slice a2 n2 c2, vt] w fun e w' => Says e (Small ps n1 n2 ts) ∧ w' = w := by
  obtain ⟨ao, b, o, cap, A, L, C, RB, RO, rfl, g⟩ := h.grid
  obtain ⟨ao', b', o', cap', A', L', C', RB', RO', rfl, g'⟩ := ht.grid
  have hS : (8 * (ps.length + n1 + n2 + ts.length) + sumL L ps.length + sumL L' ts.length ≤ 1048576) → Small ps n1 n2 ts := by
    intro hh
    have e1 := sumL_flatten ps ps.length (Nat.le_refl _)
    have e2 := sumL_flatten ts ts.length (Nat.le_refl _)
    rw [sumL_congr (fun r hr => g.rlen r hr) ps.length (Nat.le_refl _)] at e1
    rw [sumL_congr (fun r hr => g'.rlen r hr) ts.length (Nat.le_refl _)] at e2
    rw [List.take_length] at e1 e2
    unfold Small; omega
  have HS := hS
  have hle := g.le
  have hlm := g.lem
  have hat := g.at_
  have hcell := g.cell
  have hrc := g.rle
  have hle' := g'.le
  have hlm' := g'.lem
  have hat' := g'.at_
  have hcell' := g'.cell
  have hrc' := g'.rle
  unfold maxLen at hlm hrc hlm' hrc'
  generalize hq : Small ps n1 n2 ts = Q at *
  generalize hn : ps.length = n at *
  generalize hn' : ts.length = n' at *
  clear g g' h ht hn hn' hS hq
  have HQ : Hid (8 * (n + n1 + n2 + n') + sumL L n + sumL L' n' ≤ 1048576 → Q) := HS
  clear HS
  by_cases b1 : n ≤ 1048576 ∧ n1 ≤ 1048576 ∧ n2 ≤ 1048576 ∧ n' ≤ 1048576 ∧ 8 * (n + n1 + n2 + n') ≤ 1048576
  · obtain ⟨b1, b2, b3, b4, b5⟩ := b1
    go_enter Tryf.func6, Tryf.ntmps6
    go_wp2
    go_loop [9, 10] (fun t i => ∃ k : Nat, k ≤ n ∧ i = .int .i64 k ∧ t = .int .i64 (8 * (n + n1 + n2 + n') + sumL L k : Nat) ∧ 8 * (n + n1 + n2 + n') + sumL L k ≤ 1048576) (fun _ i => n - (intOf i).toNat)
    case atStart => exact ⟨0, Nat.zero_le _, rfl, by go_num, by simp [sumL]; omega⟩
    case round =>
      obtain ⟨k, hk, rfl, rfl, hs⟩ := hrel
      by_cases hlt : k < n
      · obtain rfl := hat (by omega)
        have hc := hcell k hlt
        have hb := hrc k hlt
        have Hs : Hid (sumL L (k + 1) = sumL L k + L k) := rfl
        generalize hsk : sumL L k = sk at *
        clear hsk
        by_cases hbig : 1048576 < L k
        · go_wp2
          go_ret
          exact ⟨Says.no, rfl⟩
        · by_cases hbig2 : 1048576 < 8 * (n + n1 + n2 + n') + sk + L k
          · go_wp2
            go_ret
            exact ⟨Says.no, rfl⟩
          · go_wp2
            go_round
            case rel => exact ⟨k + 1, by omega, by go_num, by rw [Hs.out]; go_num, by rw [Hs.out]; omega⟩
            case measure => simp [intOf]; omega
      · obtain rfl : k = n := by omega
        have HQ' := HQ.out
        generalize hsk : sumL L k = sk at *
        clear hsk
        have HQ : Hid (8 * (k + n1 + n2 + n') + sk + sumL L' n' ≤ 1048576 → Q) := HQ'
        clear HQ'
        go_wp2
        clear hat hcell hrc hlt hk hle hlm
        go_loop [9, 11] (fun t i => ∃ j : Nat, j ≤ n' ∧ i = .int .i64 j ∧ t = .int .i64 (8 * (k + n1 + n2 + n') + sk + sumL L' j : Nat) ∧ 8 * (k + n1 + n2 + n') + sk + sumL L' j ≤ 1048576) (fun _ i => n' - (intOf i).toNat)
        case atStart => exact ⟨0, Nat.zero_le _, rfl, by simp [sumL], by simp [sumL]; omega⟩
        case round =>
          obtain ⟨j, hj, rfl, rfl, hs'⟩ := hrel
          by_cases hlt : j < n'
          · obtain rfl := hat' (by omega)
            have hc := hcell' j hlt
            have hb := hrc' j hlt
            have Hs : Hid (sumL L' (j + 1) = sumL L' j + L' j) := rfl
            generalize hsk : sumL L' j = sj at *
            clear hsk
            by_cases hbig : 1048576 < L' j
            · go_wp2
              go_ret
              exact ⟨Says.no, rfl⟩
            · by_cases hbig2 : 1048576 < 8 * (k + n1 + n2 + n') + sk + sj + L' j
              · go_wp2
                go_ret
                exact ⟨Says.no, rfl⟩
              · go_wp2
                go_round
                case rel => exact ⟨j + 1, by omega, by go_num, by rw [Hs.out]; go_num, by rw [Hs.out]; omega⟩
                case measure => simp [intOf]; omega
          · obtain rfl : j = n' := by omega
            go_wp2
            go_ret
            exact ⟨Says.yes (HQ.out (by omega)), rfl⟩
  · by_cases c1 : 1048576 < n
    · go_enter Tryf.func6, Tryf.ntmps6
      go_wp2
      go_ret
      exact ⟨Says.no, rfl⟩
    · by_cases c2 : 1048576 < n1
      · go_enter Tryf.func6, Tryf.ntmps6
        go_wp2
        go_ret
        exact ⟨Says.no, rfl⟩
      · by_cases c3 : 1048576 < n2
        · go_enter Tryf.func6, Tryf.ntmps6
          go_wp2
          go_ret
          exact ⟨Says.no, rfl⟩
        · by_cases c4 : 1048576 < n'
          · go_enter Tryf.func6, Tryf.ntmps6
            go_wp2
            go_ret
            exact ⟨Says.no, rfl⟩
          · have c5 : 1048576 < 8 * (n + n1 + n2 + n') := by omega
            go_enter Tryf.func6, Tryf.ntmps6
            go_wp2
            go_ret
            exact ⟨Says.no, rfl⟩
end Go.Proofs.Qxb6630537aFmt
