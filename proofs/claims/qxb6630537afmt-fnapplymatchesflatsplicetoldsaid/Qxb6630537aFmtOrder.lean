/-
  zzInOrder and zzEq (seat b6630537aF): they only read; their tests draw.
-/
import Derived.Test.Qxb6630537aFmtBase
namespace Go.Proofs.Qxb6630537aFmt
open Go.RowKit

/-- The end of the splice before. -/
def prevAt (E : Nat → Int) : Nat → Int | 0 => 0 | k + 1 => E k
def okAt (S E : Nat → Int) (size : Int) (k : Nat) : Bool := decide (prevAt E k ≤ S k ∧ S k ≤ E k ∧ E k ≤ size)
/-- Every splice lies in order within the text. -/
def inOrd (S E : Nat → Int) (size : Int) (n : Nat) : Bool := (List.range n).all (okAt S E size)
theorem inOrd_false {S E : Nat → Int} {size : Int} {n k : Nat} (hk : k < n) (h : okAt S E size k = false) : inOrd S E size n = false := by
  unfold inOrd
  rw [List.all_eq_false]
  exact ⟨k, List.mem_range.2 hk, by simp [h]⟩
theorem inOrd_true {S E : Nat → Int} {size : Int} {n : Nat} (h : ∀ k, k < n → okAt S E size k = true) : inOrd S E size n = true := by
  unfold inOrd
  rw [List.all_eq_true]
  exact fun k hk => h k (List.mem_range.1 hk)

/-- A number list as a function. -/
def fn (l : List Int) : Nat → Int := fun k => l.getD k 0

theorem Sl.ints {N : Nat} {w : World} {v : Value} {l : List Int} (h : Sl N w v (i64s l)) :
    ∃ ao b o cap, v = .slice ao l.length cap ∧ l.length ≤ cap ∧ cap ≤ maxLen ∧ (0 < l.length → ao = some ⟨b, o, none⟩ ∧ b < N) ∧ ∀ j, j < l.length → w.cell? ⟨b, o + j, none⟩ = some (.int .i64 (fn l j)) := by
  obtain ⟨ao, b, o, cap, h1, h2, h3, _, h5, h6⟩ := h
  have hl : (i64s l).length = l.length := by simp [i64s]
  rw [hl] at h1 h2 h5
  exact ⟨ao, b, o, cap, h1, h2, h3, h5, fun j hj => h6 j _ (by simp [i64s, fn, hj])⟩
theorem Sl.bytes {N : Nat} {w : World} {v : Value} {l : List Int} (h : Sl N w v (bys l)) :
    ∃ ao b o cap, v = .slice ao l.length cap ∧ l.length ≤ cap ∧ cap ≤ maxLen ∧ (0 < l.length → ao = some ⟨b, o, none⟩ ∧ b < N) ∧ ∀ j, j < l.length → w.cell? ⟨b, o + j, none⟩ = some (.int .u8 (fn l j)) := by
  obtain ⟨ao, b, o, cap, h1, h2, h3, _, h5, h6⟩ := h
  have hl : (bys l).length = l.length := by simp [bys]
  rw [hl] at h1 h2 h5
  exact ⟨ao, b, o, cap, h1, h2, h3, h5, fun j hj => h6 j _ (by simp [bys, fn, hj])⟩

set_option maxHeartbeats 1000000 in
theorem inOrder_walk (N : Nat) (w : World) (v v' : Value) (st en : List Int) (size : Int) (h : Sl N w v (i64s st)) (h' : Sl N w v' (i64s en)) (hlen : st.length = en.length) :
    Calls Tryf.prog 16 #[v, v', .int .i64 size] w fun e w' => e = .returned (.bool (inOrd (fn st) (fn en) size st.length)) ∧ ∃ q, w' = w.drewN q := by
  obtain ⟨ao, b, o, cap, rfl, hle, hlm, hat, hc⟩ := h.ints
  obtain ⟨ao', b', o', cap', rfl, hle', hlm', hat', hc'⟩ := h'.ints
  have hF := fun k hk he => inOrd_false (S := fn st) (E := fn en) (size := size) (n := st.length) (k := k) hk he
  have hT := fun he => inOrd_true (S := fn st) (E := fn en) (size := size) (n := st.length) he
  unfold maxLen at hlm hlm'
  rw [← hlen] at hle' hat' hc' ⊢
  generalize hn : st.length = n at *
  generalize hr : inOrd (fn st) (fn en) size n = res at *
  generalize fn st = S at *
  generalize fn en = E at *
  clear h h' hr hn hlen
  have HF : Hid (∀ k, k < n → okAt S E size k = false → res = false) := hF
  have HT : Hid ((∀ k, k < n → okAt S E size k = true) → res = true) := hT
  clear hF hT
  go_enter Tryf.func16, Tryf.ntmps16
  go_wp2
  go_loopw [7, 8] (fun p i wr => ∃ k q : Nat, k ≤ n ∧ i = .int .i64 k ∧ p = .int .i64 (prevAt E k) ∧ wr = w.drewN q ∧ Hid (∀ j, j < k → okAt S E size j = true)) (fun _ i _ => n - (intOf i).toNat)
  case atStart => exact ⟨0, 0, Nat.zero_le _, rfl, rfl, rfl, fun j hj => absurd hj (Nat.not_lt_zero _)⟩
  case round =>
    obtain ⟨k, q, hk, rfl, rfl, rfl, hj⟩ := hrel
    by_cases hlt : k < n
    · obtain ⟨rfl, -⟩ := hat (by omega)
      obtain ⟨rfl, -⟩ := hat' (by omega)
      have g1 := hc k hlt
      have g2 := hc' k hlt
      have i1 : (0 : Int) ≤ k := by omega
      have i2 : (k : Int) < n := by omega
      have HO : Hid (okAt S E size k = decide (prevAt E k ≤ S k ∧ S k ≤ E k ∧ E k ≤ size)) := rfl
      have HP : Hid (prevAt E (k + 1) = E k) := rfl
      clear hc hc' hat hat'
      generalize prevAt E k = p at *
      by_cases c1 : S k < p
      · go_wp2
        go_quiet (fail)
        go_wp2
        go_ret
        exact ⟨by rw [HF.out k hlt (by rw [HO.out]; simp; omega)]; rfl, q + nq, by simp⟩
      · have d1 : decide (S k < p) = false := by simp; omega
        by_cases c2 : E k < S k
        · go_wp2
          go_quiet (fail)
          go_wp2
          go_ret
          exact ⟨by rw [HF.out k hlt (by rw [HO.out]; simp; omega)]; rfl, q + nq, by simp⟩
        · have d2 : decide (E k < S k) = false := by simp; omega
          by_cases c3 : size < E k
          · go_wp2
            go_quiet (fail)
            go_wp2
            go_ret
            exact ⟨by rw [HF.out k hlt (by rw [HO.out]; simp; omega)]; rfl, q + nq, by simp⟩
          · have d3 : decide (size < E k) = false := by simp; omega
            go_wp2
            go_quiet (fail)
            go_wp2
            go_roundw
            case rel => exact ⟨k + 1, _, by omega, by go_num, by rw [HP.out], rfl, fun j hjk => by
              by_cases e : j = k
              · subst e; rw [HO.out]; simp; omega
              · exact hj.out j (by omega)⟩
            case measure => simp [intOf]; omega
    · go_wp2
      go_ret
      exact ⟨by rw [HT.out (fun j hjn => hj.out j (by omega))]; rfl, _, rfl⟩

/-- The two runs are one. -/
def eqB (l m : List Int) : Bool := decide (l = m)
theorem eqB_len {l m : List Int} (h : l.length ≠ m.length) : eqB l m = false := by simp [eqB]; intro e; exact h (by rw [e])
theorem eqB_ne {l m : List Int} (k : Nat) (hk : fn l k ≠ fn m k) : eqB l m = false := by simp [eqB]; intro e; exact hk (by rw [e])
theorem eqB_all {l m : List Int} (hl : l.length = m.length) (h : ∀ k, k < l.length → fn l k = fn m k) : eqB l m = true := by
  simp only [eqB, decide_eq_true_eq]
  apply List.ext_getElem hl
  intro k h1 h2
  have := h k h1
  simpa [fn, h1, h2] using this

set_option maxHeartbeats 1000000 in
theorem eq_walk (N : Nat) (w : World) (v v' : Value) (l m : List Int) (h : Sl N w v (bys l)) (h' : Sl N w v' (bys m)) :
    Calls Tryf.prog 17 #[v, v'] w fun e w' => e = .returned (.bool (eqB l m)) ∧ ∃ q, w' = w.drewN q := by
  obtain ⟨ao, b, o, cap, rfl, hle, hlm, hat, hc⟩ := h.bytes
  obtain ⟨ao', b', o', cap', rfl, hle', hlm', hat', hc'⟩ := h'.bytes
  by_cases hl : l.length = m.length
  · have hT := eqB_all hl
    have hF := fun k hk => eqB_ne (l := l) (m := m) k hk
    unfold maxLen at hlm hlm'
    rw [← hl] at hle' hat' hc' ⊢
    generalize l.length = n at *
    generalize eqB l m = res at *
    generalize fn l = S at *
    generalize fn m = E at *
    clear h h' hl
    have HF : Hid (∀ k, S k ≠ E k → res = false) := hF
    have HT : Hid ((∀ k, k < n → S k = E k) → res = true) := hT
    clear hF hT
    go_enter Tryf.func17, Tryf.ntmps17
    go_wp2
    go_loopw [5] (fun i wr => ∃ k q : Nat, k ≤ n ∧ i = .int .i64 k ∧ wr = w.drewN q ∧ Hid (∀ j, j < k → S j = E j)) (fun i _ => n - (intOf i).toNat)
    case atStart => exact ⟨0, 0, Nat.zero_le _, rfl, rfl, fun j hj => absurd hj (Nat.not_lt_zero _)⟩
    case round =>
      obtain ⟨k, q, hk, rfl, rfl, hj⟩ := hrel
      by_cases hlt : k < n
      · obtain ⟨rfl, -⟩ := hat (by omega)
        obtain ⟨rfl, -⟩ := hat' (by omega)
        have g1 := hc k hlt
        have g2 := hc' k hlt
        have i1 : (0 : Int) ≤ k := by omega
        have i2 : (k : Int) < n := by omega
        clear hc hc' hat hat'
        by_cases c1 : S k = E k
        · have d1 : (S k == E k) = true := by simp [c1]
          have C1 : Hid (S k = E k) := c1
          clear c1
          go_wp2
          go_quiet (fail)
          go_wp2
          go_roundw
          case rel => exact ⟨k + 1, _, by omega, by go_num, rfl, fun j hjk => by
            by_cases e : j = k
            · subst e; exact C1.out
            · exact hj.out j (by omega)⟩
          case measure => simp [intOf]; omega
        · have d1 : (S k == E k) = false := by simp [c1]
          go_wp2
          go_quiet (fail)
          go_wp2
          go_ret
          exact ⟨by rw [HF.out k c1]; rfl, q + nq, by simp⟩
      · go_wp2
        go_ret
        exact ⟨by rw [HT.out (fun j hjn => hj.out j (by omega))]; rfl, _, rfl⟩
  · have hF := eqB_len hl
    rw [hF]
    have d : ((l.length : Int) == m.length) = false := by simp; omega
    unfold maxLen at hlm hlm'
    generalize l.length = n at *
    generalize m.length = n' at *
    clear hF h h' hc hc' hat hat'
    go_enter Tryf.func17, Tryf.ntmps17
    go_wp2
    go_ret
    exact ⟨rfl, 0, rfl⟩
end Go.Proofs.Qxb6630537aFmt
