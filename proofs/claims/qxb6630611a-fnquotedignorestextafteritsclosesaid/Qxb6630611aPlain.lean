/-
  WHAT quoted COMPUTES, and the laws on it, with no Go in sight (seat b6630611a).
-/
namespace Go.Proofs.Qxb6630611a

/-- The byte at k. -/
def ch (s : ByteArray) (k : Nat) : UInt8 := if h : k < s.size then s[k] else 0
theorem ch_at (s : ByteArray) (k : Nat) (h : k < s.size) : s[k] = ch s k := by simp [ch, h]

/-- What is read from p on: the bytes, the end, whether the token is closed. -/
def qrun (s : ByteArray) (q : UInt8) (bk : Bool) : Nat → Nat → List UInt8 × Nat × Bool
  | 0, p => ([], p, false)
  | n + 1, p =>
    if p < s.size then
      if ch s p = 92 ∧ bk = true ∧ p + 1 < s.size then
        (ch s (p + 1) :: (qrun s q bk n (p + 2)).1, (qrun s q bk n (p + 2)).2)
      else if ch s p ≠ q then (ch s p :: (qrun s q bk n (p + 1)).1, (qrun s q bk n (p + 1)).2)
      else if p + 1 < s.size ∧ ch s (p + 1) = q then (q :: (qrun s q bk n (p + 2)).1, (qrun s q bk n (p + 2)).2)
      else ([], p + 1, true)
    else ([], p, false)

section
variable {s : ByteArray} {q : UInt8} {bk : Bool} {n p : Nat}
theorem qrun_end (h : ¬ p < s.size) : qrun s q bk n p = ([], p, false) := by
  cases n with
  | zero => rfl
  | succ n => simp only [qrun, h, if_false]
theorem qrun_esc (h : p < s.size) (h1 : ch s p = 92 ∧ bk = true ∧ p + 1 < s.size) : qrun s q bk (n + 1) p = (ch s (p + 1) :: (qrun s q bk n (p + 2)).1, (qrun s q bk n (p + 2)).2) := by
  rw [qrun, if_pos h, if_pos h1]
theorem qrun_plain (h : p < s.size) (h1 : ¬ (ch s p = 92 ∧ bk = true ∧ p + 1 < s.size)) (h2 : ch s p ≠ q) : qrun s q bk (n + 1) p = (ch s p :: (qrun s q bk n (p + 1)).1, (qrun s q bk n (p + 1)).2) := by
  rw [qrun, if_pos h, if_neg h1, if_pos h2]
theorem qrun_twice (h : p < s.size) (h1 : ¬ (ch s p = 92 ∧ bk = true ∧ p + 1 < s.size)) (h2 : ch s p = q) (h3 : p + 1 < s.size ∧ ch s (p + 1) = q) : qrun s q bk (n + 1) p = (q :: (qrun s q bk n (p + 2)).1, (qrun s q bk n (p + 2)).2) := by
  rw [qrun, if_pos h, if_neg h1, if_neg (fun x => x h2), if_pos h3]
theorem qrun_close (h : p < s.size) (h1 : ¬ (ch s p = 92 ∧ bk = true ∧ p + 1 < s.size)) (h2 : ch s p = q) (h3 : ¬ (p + 1 < s.size ∧ ch s (p + 1) = q)) : qrun s q bk (n + 1) p = ([], p + 1, true) := by
  rw [qrun, if_pos h, if_neg h1, if_neg (fun x => x h2), if_neg h3]

/-- The end lies within the text. -/
theorem qrun_le : ∀ (n p : Nat), p ≤ s.size → p ≤ (qrun s q bk n p).2.1 ∧ (qrun s q bk n p).2.1 ≤ s.size := by
  intro n
  induction n with
  | zero => intro p hp; exact ⟨Nat.le_refl _, hp⟩
  | succ n ih =>
    intro p hp
    by_cases h : p < s.size
    · by_cases h1 : ch s p = 92 ∧ bk = true ∧ p + 1 < s.size
      · rw [qrun_esc h h1]; have := ih (p + 2) (by omega); exact ⟨Nat.le_trans (by omega) this.1, this.2⟩
      · by_cases h2 : ch s p = q
        · by_cases h3 : p + 1 < s.size ∧ ch s (p + 1) = q
          · rw [qrun_twice h h1 h2 h3]; have := ih (p + 2) (by omega); exact ⟨Nat.le_trans (by omega) this.1, this.2⟩
          · rw [qrun_close h h1 h2 h3]; exact ⟨Nat.le_succ _, h⟩
        · rw [qrun_plain h h1 h2]; have := ih (p + 1) (by omega); exact ⟨Nat.le_trans (by omega) this.1, this.2⟩
    · rw [qrun_end h]; exact ⟨Nat.le_refl _, hp⟩

/-- The bytes written are no more than those passed over. -/
theorem qrun_out : ∀ (n p : Nat), p ≤ s.size → (qrun s q bk n p).1.length + p ≤ (qrun s q bk n p).2.1 := by
  intro n
  induction n with
  | zero => intro p hp; simp [qrun]
  | succ n ih =>
    intro p hp
    by_cases h : p < s.size
    · by_cases h1 : ch s p = 92 ∧ bk = true ∧ p + 1 < s.size
      · rw [qrun_esc h h1]; have := ih (p + 2) (by omega); simp only [List.length_cons]; omega
      · by_cases h2 : ch s p = q
        · by_cases h3 : p + 1 < s.size ∧ ch s (p + 1) = q
          · rw [qrun_twice h h1 h2 h3]; have := ih (p + 2) (by omega); simp only [List.length_cons]; omega
          · rw [qrun_close h h1 h2 h3]; simp
        · rw [qrun_plain h h1 h2]; have := ih (p + 1) (by omega); simp only [List.length_cons]; omega
    · rw [qrun_end h]; simp

/-- It is closed behind a byte q, or it goes to the text's end. -/
theorem qrun_shut : ∀ (n p : Nat), p ≤ s.size → s.size - p ≤ n → ((qrun s q bk n p).2.2 = true → p + 1 ≤ (qrun s q bk n p).2.1 ∧ ch s ((qrun s q bk n p).2.1 - 1) = q) ∧ ((qrun s q bk n p).2.2 = false → (qrun s q bk n p).2.1 = s.size) := by
  intro n
  induction n with
  | zero => intro p hp hn; simp [qrun]; omega
  | succ n ih =>
    intro p hp hn
    by_cases h : p < s.size
    · by_cases h1 : ch s p = 92 ∧ bk = true ∧ p + 1 < s.size
      · rw [qrun_esc h h1]
        have := ih (p + 2) (by omega) (by omega)
        exact ⟨fun e => ⟨by have := (this.1 e).1; simp only; omega, (this.1 e).2⟩, this.2⟩
      · by_cases h2 : ch s p = q
        · by_cases h3 : p + 1 < s.size ∧ ch s (p + 1) = q
          · rw [qrun_twice h h1 h2 h3]
            have := ih (p + 2) (by omega) (by omega)
            exact ⟨fun e => ⟨by have := (this.1 e).1; simp only; omega, (this.1 e).2⟩, this.2⟩
          · rw [qrun_close h h1 h2 h3]
            exact ⟨fun _ => ⟨Nat.le_refl _, by simpa using h2⟩, fun e => by cases e⟩
        · rw [qrun_plain h h1 h2]
          have := ih (p + 1) (by omega) (by omega)
          exact ⟨fun e => ⟨by have := (this.1 e).1; simp only; omega, (this.1 e).2⟩, this.2⟩
    · rw [qrun_end h]
      exact ⟨(fun e => by cases e), (fun _ => by simp only; omega)⟩

/-- More fuel turns nothing. -/
theorem qrun_fuel : ∀ (n p : Nat), p ≤ s.size → s.size - p ≤ n → ∀ m, n ≤ m → qrun s q bk m p = qrun s q bk n p := by
  intro n
  induction n with
  | zero => intro p hp hn m _; rw [qrun_end (by omega), qrun_end (by omega)]
  | succ n ih =>
    intro p hp hn m hm
    obtain ⟨m, rfl⟩ : ∃ k, m = k + 1 := ⟨m - 1, by omega⟩
    by_cases h : p < s.size
    · by_cases h1 : ch s p = 92 ∧ bk = true ∧ p + 1 < s.size
      · rw [qrun_esc h h1, qrun_esc h h1, ih (p + 2) (by omega) (by omega) m (by omega)]
      · by_cases h2 : ch s p = q
        · by_cases h3 : p + 1 < s.size ∧ ch s (p + 1) = q
          · rw [qrun_twice h h1 h2 h3, qrun_twice h h1 h2 h3, ih (p + 2) (by omega) (by omega) m (by omega)]
          · rw [qrun_close h h1 h2 h3, qrun_close h h1 h2 h3]
        · rw [qrun_plain h h1 h2, qrun_plain h h1 h2, ih (p + 1) (by omega) (by omega) m (by omega)]
    · rw [qrun_end h, qrun_end h]
end

/-- THE FIRST LAW: a longer text reads the same, where the token ends before the end. -/
theorem qrun_more {s u : ByteArray} {q : UInt8} {bk : Bool} (hle : s.size ≤ u.size) (hsame : ∀ k, k < s.size → ch u k = ch s k) : ∀ (n p : Nat), p ≤ s.size → (qrun s q bk n p).2.1 < s.size → s.size - p ≤ n → qrun u q bk n p = qrun s q bk n p := by
  intro n
  induction n with
  | zero => intro p hp hlt hn; simp [qrun] at hlt; omega
  | succ n ih =>
    intro p hp hlt hn
    by_cases h : p < s.size
    · have hu : p < u.size := by omega
      by_cases h1 : ch s p = 92 ∧ bk = true ∧ p + 1 < s.size
      · have h1' : ch u p = 92 ∧ bk = true ∧ p + 1 < u.size := ⟨by rw [hsame p h]; exact h1.1, h1.2.1, by omega⟩
        rw [qrun_esc h h1] at hlt
        rw [qrun_esc h h1, qrun_esc hu h1', hsame (p + 1) h1.2.2, ih (p + 2) (by omega) hlt (by omega)]
      · have hp1 : p + 1 < s.size := by
          by_cases h2 : ch s p = q
          · by_cases h3 : p + 1 < s.size ∧ ch s (p + 1) = q
            · exact h3.1
            · rw [qrun_close h h1 h2 h3] at hlt; exact hlt
          · rw [qrun_plain h h1 h2] at hlt
            have := (qrun_le (s := s) (q := q) (bk := bk) n (p + 1) (by omega)).1
            simp only at hlt; omega
        have h1' : ¬ (ch u p = 92 ∧ bk = true ∧ p + 1 < u.size) := fun x => h1 ⟨by rw [← hsame p h]; exact x.1, x.2.1, hp1⟩
        by_cases h2 : ch s p = q
        · have h2' : ch u p = q := by rw [hsame p h]; exact h2
          by_cases h3 : p + 1 < s.size ∧ ch s (p + 1) = q
          · have h3' : p + 1 < u.size ∧ ch u (p + 1) = q := ⟨by omega, by rw [hsame _ h3.1]; exact h3.2⟩
            rw [qrun_twice h h1 h2 h3] at hlt
            rw [qrun_twice h h1 h2 h3, qrun_twice hu h1' h2' h3', ih (p + 2) (by omega) hlt (by omega)]
          · have h3' : ¬ (p + 1 < u.size ∧ ch u (p + 1) = q) := fun x => h3 ⟨hp1, by rw [← hsame _ hp1]; exact x.2⟩
            rw [qrun_close h h1 h2 h3, qrun_close hu h1' h2' h3']
        · have h2' : ch u p ≠ q := by rw [hsame p h]; exact h2
          rw [qrun_plain h h1 h2] at hlt
          rw [qrun_plain h h1 h2, qrun_plain hu h1' h2', hsame p h, ih (p + 1) (by omega) hlt (by omega)]
    · rw [qrun_end h] at hlt; simp at hlt; omega

/-- Doubled quotes halved; none where a lone quote stands. -/
def hrun (b : ByteArray) (q : UInt8) : Nat → Nat → Option (List UInt8)
  | 0, _ => some []
  | n + 1, i =>
    if i < b.size then
      if ch b i ≠ q then (hrun b q n (i + 1)).map (ch b i :: ·)
      else if i + 1 < b.size ∧ ch b (i + 1) = q then (hrun b q n (i + 2)).map (q :: ·)
      else none
    else some []

/-- No byte 92 from i on. -/
def noBack (b : ByteArray) : Nat → Nat → Bool
  | 0, _ => true
  | n + 1, i => if i < b.size then (if ch b i = 92 then false else noBack b n (i + 1)) else true
theorem noBack_all (b : ByteArray) : ∀ n i, b.size - i ≤ n → noBack b n i = true → ∀ k, i ≤ k → k < b.size → ch b k ≠ 92 := by
  intro n
  induction n with
  | zero => intro i hn _ k hk hl; omega
  | succ n ih =>
    intro i hn h k hk hl
    have hi : i < b.size := by omega
    rw [noBack, if_pos hi] at h
    by_cases h1 : ch b i = 92
    · rw [if_pos h1] at h; cases h
    · rw [if_neg h1] at h
      by_cases e : k = i
      · subst e; exact h1
      · exact ih (i + 1) (by omega) h k (by omega) hl

/-- THE SECOND LAW: where no escape is read, the halved body is what was read. -/
theorem hrun_qrun {s b : ByteArray} {q : UInt8} {bk : Bool} {p0 E : Nat} (hb : p0 + b.size + 1 = E) (hsame : ∀ k, k < b.size → ch b k = ch s (p0 + k)) (hno : bk = true → ∀ k, k < b.size → ch b k ≠ 92) :
    ∀ (n i : Nat), i ≤ b.size → s.size - (p0 + i) ≤ n → (p0 + i) ≤ s.size → (qrun s q bk n (p0 + i)).2 = (E, true) → hrun b q n i = some (qrun s q bk n (p0 + i)).1 := by
  intro n
  induction n with
  | zero => intro i _ _ _ h; simp [qrun] at h
  | succ n ih =>
    intro i hi hn hs he
    by_cases h : p0 + i < s.size
    · by_cases h1 : ch s (p0 + i) = 92 ∧ bk = true ∧ p0 + i + 1 < s.size
      · rw [qrun_esc h h1] at he
        have hh := ((qrun_shut (s := s) (q := q) (bk := bk) n (p0 + i + 2) (by omega) (by omega)).1 (by simp only at he; rw [he])).1
        simp only at he; rw [he] at hh; simp only at hh
        exact absurd (by rw [hsame i (by omega)]; exact h1.1) (hno h1.2.1 i (by omega))
      · by_cases h2 : ch s (p0 + i) = q
        · by_cases h3 : p0 + i + 1 < s.size ∧ ch s (p0 + i + 1) = q
          · rw [qrun_twice h h1 h2 h3] at he ⊢
            have hh := ((qrun_shut (s := s) (q := q) (bk := bk) n (p0 + i + 2) (by omega) (by omega)).1 (by simp only at he; rw [he])).1
            simp only at he; rw [he] at hh; simp only at hh
            have k := ih (i + 2) (by omega) (by omega) (by omega) he
            have c1 : ¬ (ch b i ≠ q) := fun x => x (by rw [hsame i (by omega)]; exact h2)
            have c2 : i + 1 < b.size ∧ ch b (i + 1) = q := ⟨by omega, by rw [hsame _ (by omega)]; exact h3.2⟩
            rw [hrun, if_pos (by omega), if_neg c1, if_pos c2, k]; rfl
          · rw [qrun_close h h1 h2 h3] at he ⊢
            have : p0 + i + 1 = E := by injection he
            rw [hrun, if_neg (by omega)]
        · rw [qrun_plain h h1 h2] at he ⊢
          have hh := ((qrun_shut (s := s) (q := q) (bk := bk) n (p0 + i + 1) (by omega) (by omega)).1 (by simp only at he; rw [he])).1
          simp only at he; rw [he] at hh; simp only at hh
          have k := ih (i + 1) (by omega) (by omega) (by omega) he
          have c1 : ch b i ≠ q := by rw [hsame i (by omega)]; exact h2
          rw [hrun, if_pos (by omega), if_pos c1, k, hsame i (by omega)]; rfl
    · rw [qrun_end h] at he; injection he with _ x; cases x

end Go.Proofs.Qxb6630611a
