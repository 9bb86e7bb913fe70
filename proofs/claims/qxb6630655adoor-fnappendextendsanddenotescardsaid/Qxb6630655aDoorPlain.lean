/-
  THE LAWS ON THE DECIMAL NUMERAL, with no Go in sight (seat b6630655aD).
-/
import Derived.Lib.ItoaNum
namespace Go.Proofs.Qxb6630655aDoor
open Go.Lib (decDigits)

/-- The digit's worth. -/
def dv (c : UInt8) : Nat := c.toNat - 48
/-- The list's worth. -/
def val : List UInt8 → Nat
  | [] => 0
  | c :: l => dv c * 10 ^ l.length + val l
theorem val_snoc (c : UInt8) : ∀ l : List UInt8, val (l ++ [c]) = val l * 10 + dv c
  | [] => by simp [val]
  | d :: l => by
    rw [List.cons_append, val, val_snoc c l, val, List.length_append, List.length_singleton, Nat.pow_succ]
    rw [Nat.add_mul, Nat.mul_assoc, Nat.add_assoc]
theorem toNat_digit (u : Nat) (h : u < 10) : (UInt8.ofNat (48 + u)).toNat = 48 + u := by
  rw [UInt8.toNat_ofNat']; omega
theorem dv_digit (u : Nat) (h : u < 10) : dv (UInt8.ofNat (48 + u)) = u := by
  unfold dv; rw [toNat_digit u h]; omega
theorem dec_small {u : Nat} (h : u < 10) : decDigits u = [UInt8.ofNat (48 + u)] := by rw [decDigits, dif_pos h]
theorem dec_big {u : Nat} (h : ¬ u < 10) : decDigits u = decDigits (u / 10) ++ [UInt8.ofNat (48 + u % 10)] := by rw [decDigits, dif_neg h]
theorem val_dec (u : Nat) : val (decDigits u) = u := by
  induction u using Nat.strongRecOn with
  | _ u ih =>
    by_cases h : u < 10
    · rw [dec_small h, val, val, dv_digit u h]; simp
    · rw [dec_big h, val_snoc, ih (u / 10) (by omega), dv_digit _ (by omega)]; omega
/-- All of it digits. -/
def Dig (l : List UInt8) : Prop := ∀ c ∈ l, 48 ≤ c.toNat ∧ c.toNat ≤ 57
theorem dig_dec (u : Nat) : Dig (decDigits u) := by
  induction u using Nat.strongRecOn with
  | _ u ih =>
    by_cases h : u < 10
    · rw [dec_small h]
      intro c hc
      rw [List.mem_singleton] at hc
      subst hc
      rw [toNat_digit u h]; omega
    · rw [dec_big h]
      intro c hc
      rcases List.mem_append.1 hc with hc | hc
      · exact ih (u / 10) (by omega) c hc
      · rw [List.mem_singleton] at hc
        subst hc
        rw [toNat_digit _ (by omega)]; omega
theorem val_lt : ∀ {l : List UInt8}, Dig l → val l < 10 ^ l.length
  | [], _ => by simp [val]
  | c :: l, h => by
    have h1 := val_lt (l := l) (fun d hd => h d (by simp [hd]))
    have h2 := h c (by simp)
    have h3 : dv c * 10 ^ l.length ≤ 9 * 10 ^ l.length := Nat.mul_le_mul_right _ (by unfold dv; omega)
    rw [val, List.length_cons, Nat.pow_succ]
    omega
theorem dec_pos (u : Nat) : 1 ≤ (decDigits u).length := by
  by_cases h : u < 10
  · rw [dec_small h]; simp
  · rw [dec_big h]; simp
theorem dec_lo (u : Nat) : 2 ≤ (decDigits u).length → 10 ^ ((decDigits u).length - 1) ≤ u := by
  induction u using Nat.strongRecOn with
  | _ u ih =>
    by_cases h : u < 10
    · rw [dec_small h]; simp
    · rw [dec_big h]
      intro _
      rw [List.length_append, List.length_singleton, Nat.add_sub_cancel]
      by_cases h2 : 2 ≤ (decDigits (u / 10)).length
      · have h3 := ih (u / 10) (by omega) h2
        have h4 : 10 ^ (decDigits (u / 10)).length = 10 ^ ((decDigits (u / 10)).length - 1) * 10 := by rw [← Nat.pow_succ]; congr 1; omega
        omega
      · have := dec_pos (u / 10)
        have h3 : (decDigits (u / 10)).length = 1 := by omega
        rw [h3]; omega
theorem dec_hi (u : Nat) : u < 10 ^ (decDigits u).length := by
  have := val_lt (dig_dec u)
  rwa [val_dec] at this
theorem dec_inj {a b : Nat} (h : decDigits a = decDigits b) : a = b := by rw [← val_dec a, h, val_dec]
theorem dec_len {a b : Nat} (h : (decDigits a).length < (decDigits b).length) : a < b := by
  have h1 := dec_hi a
  have h2 := dec_lo b (by have := dec_pos a; omega)
  have h3 : 10 ^ (decDigits a).length ≤ 10 ^ ((decDigits b).length - 1) := Nat.pow_le_pow_right (by omega) (by omega)
  omega

/-! ### by length, then byte by byte -/
def lexc : List UInt8 → List UInt8 → Int
  | c :: l, d :: m => if c.toNat < d.toNat then -1 else if d.toNat < c.toNat then 1 else lexc l m
  | _, _ => 0
def slx (l m : List UInt8) : Int := if l.length < m.length then -1 else if m.length < l.length then 1 else lexc l m
theorem lexc_self : ∀ l : List UInt8, lexc l l = 0
  | [] => rfl
  | c :: l => by rw [lexc, if_neg (by omega), if_neg (by omega), lexc_self l]
theorem lexc_zero : ∀ {l m : List UInt8}, l.length = m.length → lexc l m = 0 → l = m
  | [], [], _, _ => rfl
  | c :: l, d :: m, hl, h => by
    rw [lexc] at h
    by_cases h1 : c.toNat < d.toNat
    · rw [if_pos h1] at h; omega
    · rw [if_neg h1] at h
      by_cases h2 : d.toNat < c.toNat
      · rw [if_pos h2] at h; omega
      · rw [if_neg h2] at h
        have e : c = d := UInt8.toNat_inj.1 (by omega)
        rw [e, lexc_zero (by simpa using hl) h]
theorem slx_zero (l m : List UInt8) : slx l m = 0 ↔ l = m := by
  constructor
  · intro h
    unfold slx at h
    by_cases h1 : l.length < m.length
    · rw [if_pos h1] at h; omega
    · rw [if_neg h1] at h
      by_cases h2 : m.length < l.length
      · rw [if_pos h2] at h; omega
      · rw [if_neg h2] at h
        exact lexc_zero (by omega) h
  · rintro rfl
    unfold slx
    rw [if_neg (by omega), if_neg (by omega), lexc_self]
theorem lexc_val : ∀ {l m : List UInt8}, l.length = m.length → Dig l → Dig m → (val l < val m → lexc l m = -1) ∧ (val m < val l → lexc l m = 1)
  | [], [], _, _, _ => by simp [val]
  | c :: l, d :: m, hl, h1, h2 => by
    have hl' : l.length = m.length := by simpa using hl
    have d1 : Dig l := fun x hx => h1 x (by simp [hx])
    have d2 : Dig m := fun x hx => h2 x (by simp [hx])
    have ih := lexc_val hl' d1 d2
    have v1 := val_lt d1
    have v2 := val_lt d2
    have c1 := h1 c (by simp)
    have c2 := h2 d (by simp)
    rw [lexc, val, val, hl']
    rw [hl'] at v1
    generalize 10 ^ m.length = t at *
    by_cases a1 : c.toNat < d.toNat
    · have : (dv c + 1) * t ≤ dv d * t := Nat.mul_le_mul_right _ (by unfold dv; omega)
      rw [Nat.add_mul, Nat.one_mul] at this
      rw [if_pos a1]
      exact ⟨fun _ => rfl, fun x => by omega⟩
    · rw [if_neg a1]
      by_cases a2 : d.toNat < c.toNat
      · have : (dv d + 1) * t ≤ dv c * t := Nat.mul_le_mul_right _ (by unfold dv; omega)
        rw [Nat.add_mul, Nat.one_mul] at this
        rw [if_pos a2]
        exact ⟨fun x => by omega, fun _ => rfl⟩
      · rw [if_neg a2]
        have e : c = d := UInt8.toNat_inj.1 (by omega)
        subst e
        exact ⟨fun x => ih.1 (by omega), fun x => ih.2 (by omega)⟩
/-- The order of two numbers. -/
def cmpN (a b : Nat) : Int := if a < b then -1 else if b < a then 1 else 0
/-- THE ORDER OF TWO NUMERALS IS THE ORDER OF THE NUMBERS. -/
theorem slx_dec (a b : Nat) : slx (decDigits a) (decDigits b) = cmpN a b := by
  unfold slx cmpN
  by_cases h1 : (decDigits a).length < (decDigits b).length
  · rw [if_pos h1, if_pos (dec_len h1)]
  · rw [if_neg h1]
    by_cases h2 : (decDigits b).length < (decDigits a).length
    · have := dec_len h2
      rw [if_pos h2, if_neg (by omega), if_pos this]
    · rw [if_neg h2]
      have hv := lexc_val (l := decDigits a) (m := decDigits b) (by omega) (dig_dec a) (dig_dec b)
      rw [val_dec, val_dec] at hv
      by_cases a1 : a < b
      · rw [if_pos a1, hv.1 a1]
      · rw [if_neg a1]
        by_cases a2 : b < a
        · rw [if_pos a2, hv.2 a2]
        · have : a = b := by omega
          rw [if_neg a2, this, lexc_self]

/-! ### the three parts -/
def parts (pc : Nat) : List UInt8 := decDigits (pc / 2048) ++ 45 :: (decDigits (pc / 8 % 256) ++ 45 :: decDigits (pc % 8))
/-- What Append writes. -/
def text (pc : Nat) (v : Int) : List UInt8 := if v = 1 ∧ pc ≤ 16383 then parts pc else decDigits pc

theorem no_dash {l : List UInt8} (h : Dig l) : (45 : UInt8) ∉ l := fun x => by
  have := (h _ x).1
  have e : (45 : UInt8).toNat = 45 := rfl
  omega
theorem cut_dash : ∀ {l l' r r' : List UInt8}, Dig l → Dig l' → l ++ 45 :: r = l' ++ 45 :: r' → l = l' ∧ r = r'
  | [], [], _, _, _, _, h => by simpa using h
  | [], d :: l', r, r', _, h2, h => by
    injection h with h3 _
    exact absurd (by rw [h3]; simp) (no_dash h2)
  | c :: l, [], r, r', h1, _, h => by
    injection h with h3 _
    exact absurd (by rw [← h3]; simp) (no_dash h1)
  | c :: l, d :: l', r, r', h1, h2, h => by
    injection h with h3 h4
    have := cut_dash (fun x hx => h1 x (by simp [hx])) (fun x hx => h2 x (by simp [hx])) h4
    exact ⟨by rw [h3, this.1], this.2⟩
theorem parts_inj {a b : Nat} (h : parts a = parts b) : a = b := by
  have h1 := cut_dash (dig_dec _) (dig_dec _) h
  have h2 := cut_dash (dig_dec _) (dig_dec _) h1.2
  have e1 := dec_inj h1.1
  have e2 := dec_inj h2.1
  have e3 := dec_inj h2.2
  omega
theorem parts_ne (a b : Nat) : parts a ≠ decDigits b := fun h => by
  have : (45 : UInt8) ∈ parts a := by simp [parts]
  rw [h] at this
  exact no_dash (dig_dec b) this
/-- NO TWO NUMBERS HAVE ONE TEXT. -/
theorem text_inj {a b : Nat} {v : Int} (h : text a v = text b v) : a = b := by
  unfold text at h
  by_cases h1 : v = 1 ∧ a ≤ 16383
  · rw [if_pos h1] at h
    by_cases h2 : v = 1 ∧ b ≤ 16383
    · rw [if_pos h2] at h; exact parts_inj h
    · rw [if_neg h2] at h; exact absurd h (parts_ne _ _)
  · rw [if_neg h1] at h
    by_cases h2 : v = 1 ∧ b ≤ 16383
    · rw [if_pos h2] at h; exact absurd h.symm (parts_ne _ _)
    · rw [if_neg h2] at h; exact dec_inj h
theorem text_eq (a b : Nat) (v : Int) : (slx (text a v) (text b v) = 0) ↔ a = b := by
  rw [slx_zero]
  exact ⟨text_inj, fun e => by rw [e]⟩
theorem text_cmp (a b : Nat) {v : Int} (h : v ≠ 1) : slx (text a v) (text b v) = cmpN a b := by
  unfold text
  rw [if_neg (fun x => h x.1), if_neg (fun x => h x.1), slx_dec]
end Go.Proofs.Qxb6630655aDoor
