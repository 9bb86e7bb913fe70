/-
  zzShortlex and the law of injectivity and order, walked (seat b6630655aD).
-/
import Derived.Test.Qxb6630655aDoorAppend
import Derived.BigQuiet
namespace Go.Proofs.Qxb6630655aDoor
open Go.RowKit

/-- The byte at j, as a number. -/
def byt (l : List UInt8) (j : Nat) : Int := ((l.getD j 0).toNat : Int)
theorem byt_get (l : List UInt8) (j : Nat) (h : j < l.length) : (Lib.byteCells l)[j]? = some (.int .u8 (byt l j)) := by
  simp [Lib.byteCells, byt, h, List.getD]
/-- A slice of bytes that reads l. -/
def Sl (w : World) (v : Value) (l : List UInt8) : Prop := ∃ b o cap, v = .slice (some ⟨b, o, none⟩) l.length cap ∧ l.length ≤ cap ∧ cap ≤ maxLen ∧ ∀ j, j < l.length → w.cell? ⟨b, o + j, none⟩ = some (.int .u8 (byt l j))
theorem sl_of_own {w : World} {B : Nat} {v : Value} {l : List UInt8} (h : w.ownsRow B 5 1 v l.length (Lib.byteCells l)) (hl : 1 ≤ l.length) : Sl w v l := by
  rcases h.2 with ⟨_, h0⟩ | ⟨g, cap, cur, rfl, hb, hh, h1, h2, h3, h4⟩
  · omega
  · refine ⟨g, 0, cap, rfl, h1, h2, fun j hj => ?_⟩
    have h5 : cur.toList[j]? = (Lib.byteCells l)[j]? := by rw [← h4, List.getElem?_take_of_lt (by omega)]
    have h6 : cur[j]? = (Lib.byteCells l)[j]? := by rw [← h5]; simp
    simp [World.cell?, hh, h6, byt_get l j hj]
theorem Sl.drewN {w : World} {v : Value} {l : List UInt8} (h : Sl w v l) (q : Nat) : Sl (w.drewN q) v l := by
  induction q with
  | zero => exact h
  | succ q ih => exact ih
theorem sl_below {w w' : World} {B : Nat} {v : Value} {l : List UInt8} (h : w.ownsRow B 5 1 v l.length (Lib.byteCells l)) (hl : 1 ≤ l.length) (hk : ∀ g, v.ownBlock = some g → w'.heap[g]? = w.heap[g]?) : Sl w' v l := by
  obtain ⟨b, o, cap, rfl, h1, h2, h3⟩ := sl_of_own h hl
  exact ⟨b, o, cap, rfl, h1, h2, fun j hj => by rw [← h3 j hj]; exact World.cell?_of_block (w := w) (hk b rfl)⟩

theorem lexc_step (l m : List UInt8) (k : Nat) (h1 : k < l.length) (h2 : k < m.length) : lexc (l.drop k) (m.drop k) = if byt l k < byt m k then -1 else if byt m k < byt l k then 1 else lexc (l.drop (k + 1)) (m.drop (k + 1)) := by
  rw [List.drop_eq_getElem_cons h1, List.drop_eq_getElem_cons h2, lexc]
  have e1 : byt l k = (l[k].toNat : Int) := by simp [byt, h1, List.getD]
  have e2 : byt m k = (m[k].toNat : Int) := by simp [byt, h2, List.getD]
  simp only [e1, e2, Int.ofNat_lt]

set_option maxHeartbeats 2000000 in
theorem shortlex_walk (w : World) (x y : Value) (l m : List UInt8) (hx : Sl w x l) (hy : Sl w y m) :
    Calls Tryd.prog 9 #[x, y] w fun e w' => e = .returned (.int .i64 (slx l m)) ∧ ∃ q, w' = w.drewN q := by
  obtain ⟨b, o, cap, rfl, h1, h2, h3⟩ := hx
  obtain ⟨b', o', cap', rfl, h1', h2', h3'⟩ := hy
  unfold maxLen at h2 h2'
  by_cases hl : l.length < m.length
  · have HS : Hid (slx l m = -1) := by show _ = _; unfold slx; rw [if_pos hl]
    go_enter Tryd.func9, Tryd.ntmps9
    go_wp2
    go_ret
    exact ⟨by rw [HS.out]; rfl, 0, rfl⟩
  · by_cases hg : m.length < l.length
    · have HS : Hid (slx l m = 1) := by show _ = _; unfold slx; rw [if_neg hl, if_pos hg]
      go_enter Tryd.func9, Tryd.ntmps9
      go_wp2
      go_ret
      exact ⟨by rw [HS.out]; rfl, 0, rfl⟩
    · have he : m.length = l.length := by omega
      have HS : Hid (slx l m = lexc (l.drop 0) (m.drop 0)) := by show _ = _; unfold slx; rw [if_neg hl, if_neg hg]; rfl
      have HSt : Hid (∀ k, k < l.length → lexc (l.drop k) (m.drop k) = if byt l k < byt m k then -1 else if byt m k < byt l k then 1 else lexc (l.drop (k + 1)) (m.drop (k + 1))) := fun k hk => lexc_step l m k hk (by omega)
      have HE : Hid (lexc (l.drop l.length) (m.drop l.length) = 0) := by show _ = _; rw [List.drop_length, lexc]; intro c l' d m' h; cases h
      rw [he] at h1' h3' ⊢
      clear hl hg he
      have A1 : Hid (∀ j, j < l.length → w.cell? ⟨b, o + j, none⟩ = some (.int .u8 (byt l j))) := h3
      have A2 : Hid (∀ j, j < l.length → w.cell? ⟨b', o' + j, none⟩ = some (.int .u8 (byt m j))) := h3'
      clear h3 h3'
      obtain ⟨R, hR⟩ : ∃ R, R = slx l m := ⟨_, rfl⟩
      rw [← hR]
      have HR : Hid (lexc (l.drop 0) (m.drop 0) = R) := by show _ = _; rw [hR, HS.out]
      clear hR HS
      generalize hn : l.length = n at *
      go_enter Tryd.func9, Tryd.ntmps9
      go_wp2
      go_loopw [5] (fun i wr => ∃ k q : Nat, k ≤ n ∧ i = .int .i64 k ∧ wr = w.drewN q ∧ Hid (lexc (l.drop k) (m.drop k) = R)) (fun i _ => n - (intOf i).toNat)
      case atStart => exact ⟨0, 0, Nat.zero_le _, rfl, rfl, HR⟩
      case round =>
        clear HR
        obtain ⟨k, q, hk, rfl, rfl, HR⟩ := hrel
        by_cases hlt : k < n
        · have c1 := A1.out k (by omega)
          have c2 := A2.out k (by omega)
          have hstep : Hid (lexc (l.drop k) (m.drop k) = if byt l k < byt m k then -1 else if byt m k < byt l k then 1 else lexc (l.drop (k + 1)) (m.drop (k + 1))) := HSt.out k (by omega)
          generalize byt l k = c at *
          generalize byt m k = d at *
          by_cases h1 : c < d
          · have HX : Hid (R = -1) := by show _ = _; rw [← HR.out, hstep.out, if_pos h1]
            clear hn
            go_wp2
            go_quiet (fail)
            go_wp2
            go_ret
            exact ⟨by rw [HX.out]; rfl, q + nq, by simp⟩
          · by_cases h2 : d < c
            · have HX : Hid (R = 1) := by show _ = _; rw [← HR.out, hstep.out, if_neg h1, if_pos h2]
              clear hn
              go_wp2
              go_quiet (fail)
              generalize nq = n1
              go_wp2
              go_quiet (fail)
              go_wp2
              go_ret
              exact ⟨by rw [HX.out]; rfl, q + n1 + nq, by simp [Nat.add_assoc]⟩
            · have HX : Hid (lexc (l.drop (k + 1)) (m.drop (k + 1)) = R) := by show _ = _; rw [← HR.out, hstep.out, if_neg h1, if_neg h2]
              clear hn
              go_wp2
              go_quiet (fail)
              go_wp2
              go_quiet (fail)
              go_wp2
              go_roundw
              case rel => exact ⟨k + 1, _, by omega, by go_num, rfl, HX⟩
              case measure => simp [intOf]; omega
        · obtain rfl : k = n := by omega
          have HX : Hid (R = 0) := by show _ = _; rw [← HR.out, ← hn]; exact (by rw [hn]; exact HE.out)
          clear hn
          go_wp2
          go_ret
          exact ⟨by rw [HX.out]; rfl, _, rfl⟩
end Go.Proofs.Qxb6630655aDoor
