/-
  zzCanonDecimal, walked (seat b6630655aD).
-/
import Derived.Test.Qxb6630655aDoorOrder
namespace Go.Proofs.Qxb6630655aDoor
open Go.RowKit
open Go.Lib (decDigits)

theorem dec_ten (u : Nat) (h : u < 4294967296) : (decDigits u).length ≤ 10 := by
  rcases Nat.lt_or_ge 10 (decDigits u).length with h1 | h1
  · have h2 := dec_lo u (by omega)
    have h3 : 10 ^ 10 ≤ 10 ^ ((decDigits u).length - 1) := Nat.pow_le_pow_right (by omega) (by omega)
    omega
  · exact h1
theorem byt_dig {l : List UInt8} (h : Dig l) (j : Nat) (hj : j < l.length) : 48 ≤ byt l j ∧ byt l j ≤ 57 := by
  have e : byt l j = (l[j].toNat : Int) := by simp [byt, hj, List.getD]
  have := h l[j] (List.getElem_mem hj)
  rw [e]; omega
theorem dec_lead (u : Nat) (h : 2 ≤ (decDigits u).length) : byt (decDigits u) 0 ≠ 48 := by
  intro e
  have h1 := dec_lo u h
  have h2 := val_dec u
  have h3 := dig_dec u
  match hl : decDigits u, h, h1, h2, h3, e with
  | c :: r, h, h1, h2, h3, e =>
    have h4 := val_lt (l := r) (fun x hx => h3 x (by simp [hx]))
    have e2 : dv c = 0 := by
      unfold dv
      have : ((c.toNat : Nat) : Int) = 48 := e
      omega
    rw [val, e2] at h2
    simp only [List.length_cons, Nat.add_sub_cancel] at h1
    omega
theorem val_take (l : List UInt8) (k : Nat) (h : k < l.length) : val (l.take (k + 1)) = val (l.take k) * 10 + (byt l k - 48).toNat := by
  rw [List.take_succ_eq_append_getElem h, val_snoc]
  have e : byt l k = (l[k].toNat : Int) := by simp [byt, h, List.getD]
  rw [e]
  unfold dv
  omega
theorem val_take_lt {l : List UInt8} (hd : Dig l) (k : Nat) (h : k ≤ l.length) : val (l.take k) < 10 ^ k := by
  have := val_lt (l := l.take k) (fun c hc => hd c (List.mem_of_mem_take hc))
  rwa [List.length_take, Nat.min_eq_left h] at this

set_option maxHeartbeats 2000000 in
theorem canon_core (w : World) (b o cap n u : Nat) (Z : Nat → Int) (F : Nat → Nat) (hn1 : 1 ≤ n) (hn10 : n ≤ 10) (hcap : n ≤ cap) (hm : cap ≤ maxLen) (hlead : 2 ≤ n → Z 0 ≠ 48) (hdig : ∀ j, j < n → 48 ≤ Z j ∧ Z j ≤ 57)
    (hc : ∀ j, j < n → w.cell? ⟨b, o + j, none⟩ = some (.int .u8 (Z j))) (F0 : F 0 = 0) (Fn : F n = u) (FS : ∀ k, k < n → F (k + 1) = F k * 10 + (Z k - 48).toNat) (FL : ∀ k, k ≤ n → F k ≤ 9999999999) :
    Calls Tryd.prog 8 #[.slice (some ⟨b, o, none⟩) n cap] w fun e w' => e = .returned (.tuple #[.int .u64 u, .bool true]) ∧ w' = w := by
  unfold maxLen at hm
  have c0 := hc 0 (by omega)
  rw [Nat.add_zero] at c0
  have H0 : Hid (F 0 = 0) := F0
  have HN : Hid (F n = u) := Fn
  have HS : Hid (∀ k, k < n → F (k + 1) = F k * 10 + (Z k - 48).toNat) := FS
  have HL : Hid (∀ k, k ≤ n → F k ≤ 9999999999) := FL
  have HC : Hid (∀ j, j < n → w.cell? ⟨b, o + j, none⟩ = some (.int .u8 (Z j))) := hc
  have HD : Hid (∀ j, j < n → 48 ≤ Z j ∧ Z j ≤ 57) := hdig
  have t1 : ¬ ((n : Int) = 0) := by omega
  have t2 : ¬ ((10 : Int) < n) := by omega
  clear F0 Fn FS FL hc hdig
  have key : ∀ (z0 : Bool), (Z 0 == 48) = z0 → (z0 = true → ¬ ((1 : Int) < n)) → Calls Tryd.prog 8 #[.slice (some ⟨b, o, none⟩) n cap] w fun e w' => e = .returned (.tuple #[.int .u64 u, .bool true]) ∧ w' = w := by
    intro z0 hz0 hz1
    cases z0 with
    | true =>
      have t3 := hz1 rfl
      clear hz1
      have hy : Z 0 = 48 := by simpa using hz0
      rw [hy] at c0
      clear hlead hy
      go_enter Tryd.func8, Tryd.ntmps8
      go_wp2
      go_loop [4, 5] (fun m i => ∃ k : Nat, k ≤ n ∧ i = .int .i64 k ∧ m = .int .u64 (F k : Nat)) (fun _ i => n - (intOf i).toNat)
      case atStart => exact ⟨0, Nat.zero_le _, rfl, by rw [H0.out]; rfl⟩
      case round =>
        clear c0 hz0
        obtain ⟨k, hk, rfl, rfl⟩ := hrel
        by_cases hlt : k < n
        · have c1 := HC.out k hlt
          have d1 := HD.out k hlt
          have l1 := HL.out k hk
          have s1 : Hid (F (k + 1) = F k * 10 + (Z k - 48).toNat) := HS.out k hlt
          generalize Z k = z at *
          generalize F k = f at *
          have e1 : IntKind.u64.wrap ((f : Int) * 10) = (f : Int) * 10 := by rw [IntKind.wrap_u64]; omega
          have e2 : IntKind.u8.wrap (z - 48) = z - 48 := by rw [IntKind.wrap_u8]; omega
          have e3 : IntKind.u64.wrap (z - 48) = z - 48 := by rw [IntKind.wrap_u64]; omega
          have e4 : IntKind.u64.wrap ((f : Int) * 10 + (z - 48)) = (f : Int) * 10 + (z - 48) := by rw [IntKind.wrap_u64]; omega
          have x1 : ¬ (z < 48) := by omega
          have x2 : ¬ (57 < z) := by omega
          go_wp2
          go_round
          case rel => exact ⟨k + 1, by omega, by go_num, by rw [s1.out]; congr 1; omega⟩
          case measure => simp [intOf]; omega
        · obtain rfl : k = n := by omega
          go_wp2
          go_ret2
          exact ⟨by rw [← HN.out]; rfl, rfl⟩
    | false =>
      clear hz1
      generalize hZ0 : Z 0 = y at *
      have HZ0 : Hid (Z 0 = y) := hZ0
      clear hZ0 hlead
      go_enter Tryd.func8, Tryd.ntmps8
      go_wp2
      go_loop [4, 5] (fun m i => ∃ k : Nat, k ≤ n ∧ i = .int .i64 k ∧ m = .int .u64 (F k : Nat)) (fun _ i => n - (intOf i).toNat)
      case atStart => exact ⟨0, Nat.zero_le _, rfl, by rw [H0.out]; rfl⟩
      case round =>
        clear c0 hz0
        obtain ⟨k, hk, rfl, rfl⟩ := hrel
        by_cases hlt : k < n
        · have c1 := HC.out k hlt
          have d1 := HD.out k hlt
          have l1 := HL.out k hk
          have s1 : Hid (F (k + 1) = F k * 10 + (Z k - 48).toNat) := HS.out k hlt
          generalize Z k = z at *
          generalize F k = f at *
          have e1 : IntKind.u64.wrap ((f : Int) * 10) = (f : Int) * 10 := by rw [IntKind.wrap_u64]; omega
          have e2 : IntKind.u8.wrap (z - 48) = z - 48 := by rw [IntKind.wrap_u8]; omega
          have e3 : IntKind.u64.wrap (z - 48) = z - 48 := by rw [IntKind.wrap_u64]; omega
          have e4 : IntKind.u64.wrap ((f : Int) * 10 + (z - 48)) = (f : Int) * 10 + (z - 48) := by rw [IntKind.wrap_u64]; omega
          have x1 : ¬ (z < 48) := by omega
          have x2 : ¬ (57 < z) := by omega
          go_wp2
          go_round
          case rel => exact ⟨k + 1, by omega, by go_num, by rw [s1.out]; congr 1; omega⟩
          case measure => simp [intOf]; omega
        · obtain rfl : k = n := by omega
          go_wp2
          go_ret2
          exact ⟨by rw [← HN.out]; rfl, rfl⟩
  by_cases hz : Z 0 = 48
  · exact key true (by simpa using hz) (fun _ => by
      rcases Nat.lt_or_ge 1 n with h | h
      · exact absurd hz (hlead h)
      · omega)
  · exact key false (by simpa using hz) (fun h => by cases h)

theorem canon_walk (w : World) (v : Value) (u : Nat) (hu : u < 4294967296) (hs : Sl w v (decDigits u)) :
    Calls Tryd.prog 8 #[v] w fun e w' => e = .returned (.tuple #[.int .u64 u, .bool true]) ∧ w' = w := by
  obtain ⟨b, o, cap, rfl, h1, h2, h3⟩ := hs
  have hten := dec_ten u hu
  refine canon_core w b o cap (decDigits u).length u (byt (decDigits u)) (fun k => val ((decDigits u).take k)) (dec_pos u) hten h1 h2 (dec_lead u) (fun j hj => byt_dig (dig_dec u) j hj) h3 rfl ?_ (fun k hk => val_take _ k hk) (fun k hk => ?_)
  · show val ((decDigits u).take (decDigits u).length) = u
    rw [List.take_length, val_dec]
  · have h4 := val_take_lt (dig_dec u) k hk
    have h5 : 10 ^ k ≤ 10 ^ 10 := Nat.pow_le_pow_right (by omega) (by omega)
    show val ((decDigits u).take k) ≤ 9999999999
    omega
end Go.Proofs.Qxb6630655aDoor
