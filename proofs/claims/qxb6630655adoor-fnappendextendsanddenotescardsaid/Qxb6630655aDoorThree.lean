/-
  zzThreeParts, walked (seat b6630655aD).
-/
import Derived.Test.Qxb6630655aDoorCanon
namespace Go.Proofs.Qxb6630655aDoor
open Go.RowKit
open Go.Lib (decDigits)

theorem results_tmp4 {fn : Func} {t1 t2 t3 t4 : Tmp} (h : fn.results = #[.tmp t1, .tmp t2, .tmp t3, .tmp t4]) (tmps : Array Value) (P : Program) (w : World) :
    (results fn tmps).run P w = .ok (.tuple #[tmps.getD t1 undef, tmps.getD t2 undef, tmps.getD t3 undef, tmps.getD t4 undef]) w := by
  simp [results, h]

theorem byt_left (l r : List UInt8) (j : Nat) (h : j < l.length) : byt (l ++ r) j = byt l j := by
  simp [byt, List.getD, List.getElem?_append_left h]
theorem byt_right (l r : List UInt8) (j : Nat) : byt (l ++ r) (l.length + j) = byt r j := by
  simp [byt, List.getD, List.getElem?_append_right (Nat.le_add_right _ _)]
theorem byt_cons (c : UInt8) (r : List UInt8) (j : Nat) : byt (c :: r) (j + 1) = byt r j := by simp [byt, List.getD]
theorem byt_head (c : UInt8) (r : List UInt8) : byt (c :: r) 0 = (c.toNat : Int) := by simp [byt, List.getD]

/-- Where the dashes stand. -/
def first (k m1 : Nat) : Int := if k ≤ m1 then -1 else m1
def second (k m1 m2 : Nat) : Int := if k ≤ m1 + 1 + m2 then -1 else m1 + 1 + m2
def dashes (k m1 m2 : Nat) : Int := if k ≤ m1 then 0 else if k ≤ m1 + 1 + m2 then 1 else 2

set_option maxHeartbeats 400000 in
theorem three_core (w : World) (b o cap m1 m2 m3 u1 u2 u3 : Nat) (Z : Nat → Int) (h3 : 1 ≤ m3) (h2 : 1 ≤ m2) (hcap : m1 + 1 + m2 + 1 + m3 ≤ cap) (hm : cap ≤ maxLen)
    (hz : ∀ j, j < m1 + 1 + m2 + 1 + m3 → (Z j = 45 ↔ j = m1 ∨ j = m1 + 1 + m2))
    (hc : ∀ j, j < m1 + 1 + m2 + 1 + m3 → w.cell? ⟨b, o + j, none⟩ = some (.int .u8 (Z j)))
    (C1 : Calls Tryd.prog 8 #[.slice (some ⟨b, o, none⟩) m1 cap] w fun e w' => e = .returned (.tuple #[.int .u64 u1, .bool true]) ∧ w' = w)
    (C2 : Calls Tryd.prog 8 #[.slice (some ⟨b, o + (m1 + 1), none⟩) m2 (cap - (m1 + 1))] w fun e w' => e = .returned (.tuple #[.int .u64 u2, .bool true]) ∧ w' = w)
    (C3 : Calls Tryd.prog 8 #[.slice (some ⟨b, o + (m1 + 1 + m2 + 1), none⟩) m3 (cap - (m1 + 1 + m2 + 1))] w fun e w' => e = .returned (.tuple #[.int .u64 u3, .bool true]) ∧ w' = w) :
    Calls Tryd.prog 7 #[.slice (some ⟨b, o, none⟩) (m1 + 1 + m2 + 1 + m3) cap] w fun e w' => e = .returned (.tuple #[.int .u64 u1, .int .u64 u2, .int .u64 u3, .bool true]) ∧ w' = w := by
  unfold maxLen at hm
  have HC : Hid (∀ j, j < m1 + 1 + m2 + 1 + m3 → w.cell? ⟨b, o + j, none⟩ = some (.int .u8 (Z j))) := hc
  have HZ : Hid (∀ j, j < m1 + 1 + m2 + 1 + m3 → (Z j = 45 ↔ j = m1 ∨ j = m1 + 1 + m2)) := hz
  have K1 : Hid (Calls Tryd.prog 8 #[.slice (some ⟨b, o, none⟩) m1 cap] w fun e w' => e = .returned (.tuple #[.int .u64 u1, .bool true]) ∧ w' = w) := C1
  have K2 : Hid (Calls Tryd.prog 8 #[.slice (some ⟨b, o + (m1 + 1), none⟩) m2 (cap - (m1 + 1))] w fun e w' => e = .returned (.tuple #[.int .u64 u2, .bool true]) ∧ w' = w) := C2
  have K3 : Hid (Calls Tryd.prog 8 #[.slice (some ⟨b, o + (m1 + 1 + m2 + 1), none⟩) m3 (cap - (m1 + 1 + m2 + 1))] w fun e w' => e = .returned (.tuple #[.int .u64 u3, .bool true]) ∧ w' = w) := C3
  clear hc hz C1 C2 C3
  obtain ⟨n, hn⟩ : ∃ n, n = m1 + 1 + m2 + 1 + m3 := ⟨_, rfl⟩
  rw [← hn] at hcap HC HZ ⊢
  have HN : Hid (n = m1 + 1 + m2 + 1 + m3) := hn
  clear hn
  go_enter Tryd.func7, Tryd.ntmps7
  go_wp2
  go_loop [6, 7, 8, 9] (fun f s c i => ∃ k : Nat, k ≤ n ∧ i = .int .i64 k ∧ f = .int .i64 (first k m1) ∧ s = .int .i64 (second k m1 m2) ∧ c = .int .i64 (dashes k m1 m2)) (fun _ _ _ i => n - (intOf i).toNat)
  case atStart => exact ⟨0, Nat.zero_le _, rfl, by simp [first], by simp [second], by simp [dashes]⟩
  case round =>
    obtain ⟨k, hk, rfl, rfl, rfl, rfl⟩ := hrel
    by_cases hlt : k < n
    · have c1 := HC.out k hlt
      have z1 := HZ.out k hlt
      by_cases e1 : k = m1
      · have zz : Z k = 45 := z1.2 (.inl e1)
        rw [zz] at c1
        have f0 : dashes k m1 m2 = 0 := by unfold dashes; rw [if_pos (by omega)]
        have HF : Hid (first (k + 1) m1 = k ∧ second (k + 1) m1 m2 = second k m1 m2 ∧ dashes (k + 1) m1 m2 = 1) := by
          refine ⟨?_, ?_, ?_⟩
          · unfold first; rw [if_neg (by omega)]; omega
          · unfold second; rw [if_pos (by omega), if_pos (by omega)]
          · unfold dashes; rw [if_neg (by omega), if_pos (by omega)]
        rw [f0]
        clear z1 zz f0
        generalize second k m1 m2 = s at *
        generalize first k m1 = f at *
        have HE : Hid (k = m1) := e1
        clear e1
        go_wp2
        go_round
        case rel => exact ⟨k + 1, by omega, by go_num, by rw [HF.out.1], by rw [HF.out.2.1], by rw [HF.out.2.2]⟩
        case measure => simp [intOf]; omega
      · by_cases e2 : k = m1 + 1 + m2
        · have zz : Z k = 45 := z1.2 (.inr e2)
          rw [zz] at c1
          have f0 : dashes k m1 m2 = 1 := by unfold dashes; rw [if_neg (by omega), if_pos (by omega)]
          have HF : Hid (first (k + 1) m1 = first k m1 ∧ second (k + 1) m1 m2 = k ∧ dashes (k + 1) m1 m2 = 2) := by
            refine ⟨?_, ?_, ?_⟩
            · unfold first; rw [if_neg (by omega), if_neg (by omega)]
            · unfold second; rw [if_neg (by omega)]; omega
            · unfold dashes; rw [if_neg (by omega), if_neg (by omega)]
          rw [f0]
          clear z1 zz f0
          generalize second k m1 m2 = s at *
          generalize first k m1 = f at *
          have HE : Hid (k = m1 + 1 + m2) := e2
          clear e2 e1
          go_wp2
          go_round
          case rel => exact ⟨k + 1, by omega, by go_num, by rw [HF.out.1], by rw [HF.out.2.1], by rw [HF.out.2.2]⟩
          case measure => simp [intOf]; omega
        · have zz : ¬ Z k = 45 := fun x => by
            rcases z1.1 x with h | h
            · exact e1 h
            · exact e2 h
          have HF : Hid (first (k + 1) m1 = first k m1 ∧ second (k + 1) m1 m2 = second k m1 m2 ∧ dashes (k + 1) m1 m2 = dashes k m1 m2) := by
            refine ⟨?_, ?_, ?_⟩
            · unfold first
              by_cases x : k ≤ m1
              · rw [if_pos x, if_pos (by omega)]
              · rw [if_neg x, if_neg (by omega)]
            · unfold second
              by_cases x : k ≤ m1 + 1 + m2
              · rw [if_pos x, if_pos (by omega)]
              · rw [if_neg x, if_neg (by omega)]
            · unfold dashes
              by_cases x : k ≤ m1
              · rw [if_pos x, if_pos (by omega)]
              · rw [if_neg x, if_neg (by omega)]
                by_cases y : k ≤ m1 + 1 + m2
                · rw [if_pos y, if_pos (by omega)]
                · rw [if_neg y, if_neg (by omega)]
          clear z1 e1 e2
          generalize second k m1 m2 = s at *
          generalize first k m1 = f at *
          generalize dashes k m1 m2 = d at *
          generalize Z k = z at *
          go_wp2
          go_round
          case rel => exact ⟨k + 1, by omega, by go_num, by rw [HF.out.1], by rw [HF.out.2.1], by rw [HF.out.2.2]⟩
          case measure => simp [intOf]; omega
    · obtain rfl : k = n := by omega
      have f1 : first k m1 = m1 := by unfold first; rw [if_neg (by have := HN.out; omega)]
      have f2 : second k m1 m2 = (m1 : Int) + 1 + m2 := by unfold second; rw [if_neg (by have := HN.out; omega)]
      have f3 : dashes k m1 m2 = 2 := by unfold dashes; rw [if_neg (by have := HN.out; omega), if_neg (by have := HN.out; omega)]
      rw [f1, f2, f3]
      clear f1 f2 f3
      have q1 : (m1 : Int) ≤ cap := by have := HN.out; omega
      have q2 : IntKind.i64.wrap ((m1 : Int) + 1) = (m1 : Int) + 1 := by have := HN.out; rw [IntKind.wrap_i64]; omega
      have q3 : IntKind.i64.wrap ((m1 : Int) + 1 + m2 + 1) = (m1 : Int) + 1 + m2 + 1 := by have := HN.out; rw [IntKind.wrap_i64]; omega
      have q4 : (m1 : Int) + 1 + m2 ≤ cap := by have := HN.out; omega
      have q5 : (m1 : Int) + 1 + m2 + 1 ≤ k := by have := HN.out; omega
      have q7 : ¬ (m1 + 1 + m2 + 1 = cap) := by have := HN.out; omega
      have q8 : ¬ (cap = m1 + 1 + m2 + 1) := by have := HN.out; omega
      have q9 : m1 + 1 + m2 + 1 < cap := by have := HN.out; omega
      go_wp2_with fail
      refine K1.out.mono ?_
      rintro e w' ⟨rfl, rfl⟩
      go_wp2_with fail
      refine K2.out.mono ?_
      rintro e w'' ⟨rfl, rfl⟩
      go_wp2_with fail
      have q6 : k - (m1 + 1 + m2 + 1) = m3 := by have := HN.out; omega
      rw [q6]
      clear q6
      refine K3.out.mono ?_
      rintro e w3 ⟨rfl, rfl⟩
      go_wp2
      (try simp only [Exit.inBlock, Exit.then])
      refine bodyPost_ret (results_tmp4 rfl _ _ _) rfl ?_
      exact ⟨rfl, rfl⟩
theorem byt_dash {l : List UInt8} (h : Dig l) (j : Nat) (hj : j < l.length) : byt l j ≠ 45 := fun e => by
  have := byt_dig h j hj
  omega
theorem dash45 : ((45 : UInt8).toNat : Int) = 45 := rfl

theorem three_walk (w : World) (v : Value) (pc : Nat) (hp : pc < 4294967296) (hs : Sl w v (parts pc)) :
    Calls Tryd.prog 7 #[v] w fun e w' => e = .returned (.tuple #[.int .u64 (pc / 2048 : Nat), .int .u64 (pc / 8 % 256 : Nat), .int .u64 (pc % 8 : Nat), .bool true]) ∧ w' = w := by
  obtain ⟨b, o, cap, rfl, h1, h2, h3⟩ := hs
  unfold parts at h1 h3 ⊢
  have g1 := dig_dec (pc / 2048)
  have g2 := dig_dec (pc / 8 % 256)
  have g3 := dig_dec (pc % 8)
  have k1 := fun (ww : World) vv hh => canon_walk ww vv (pc / 2048) (by omega) hh
  have k2 := fun (ww : World) vv hh => canon_walk ww vv (pc / 8 % 256) (by omega) hh
  have k3 := fun (ww : World) vv hh => canon_walk ww vv (pc % 8) (by omega) hh
  have p1 := dec_pos (pc / 2048)
  have p2 := dec_pos (pc / 8 % 256)
  have p3 := dec_pos (pc % 8)
  generalize decDigits (pc / 2048) = d1 at *
  generalize decDigits (pc / 8 % 256) = d2 at *
  generalize decDigits (pc % 8) = d3 at *
  have hlen : (d1 ++ 45 :: (d2 ++ 45 :: d3)).length = d1.length + 1 + d2.length + 1 + d3.length := by simp; omega
  have b1 : ∀ j, j < d1.length → byt (d1 ++ 45 :: (d2 ++ 45 :: d3)) j = byt d1 j := fun j hj => byt_left _ _ _ hj
  have b2 : byt (d1 ++ 45 :: (d2 ++ 45 :: d3)) d1.length = 45 := by
    have := byt_right d1 (45 :: (d2 ++ 45 :: d3)) 0
    rw [Nat.add_zero] at this
    rw [this, byt_head]; rfl
  have b3 : ∀ j, j < d2.length → byt (d1 ++ 45 :: (d2 ++ 45 :: d3)) (d1.length + 1 + j) = byt d2 j := fun j hj => by
    have := byt_right d1 (45 :: (d2 ++ 45 :: d3)) (j + 1)
    rw [show d1.length + 1 + j = d1.length + (j + 1) by omega, this, byt_cons, byt_left _ _ _ hj]
  have b4 : byt (d1 ++ 45 :: (d2 ++ 45 :: d3)) (d1.length + 1 + d2.length) = 45 := by
    have := byt_right d1 (45 :: (d2 ++ 45 :: d3)) (d2.length + 1)
    rw [show d1.length + 1 + d2.length = d1.length + (d2.length + 1) by omega, this, byt_cons]
    have h := byt_right d2 (45 :: d3) 0
    rw [Nat.add_zero] at h
    rw [h, byt_head]; rfl
  have b5 : ∀ j, byt (d1 ++ 45 :: (d2 ++ 45 :: d3)) (d1.length + 1 + d2.length + 1 + j) = byt d3 j := fun j => by
    have := byt_right d1 (45 :: (d2 ++ 45 :: d3)) (d2.length + (j + 1) + 1)
    rw [show d1.length + 1 + d2.length + 1 + j = d1.length + (d2.length + (j + 1) + 1) by omega, this, byt_cons, byt_right, byt_cons]
  rw [hlen] at h1 h3 ⊢
  generalize byt (d1 ++ 45 :: (d2 ++ 45 :: d3)) = Z at *
  refine three_core w b o cap d1.length d2.length d3.length _ _ _ Z p3 p2 h1 h2 (fun j hj => ⟨fun e => ?_, fun e => ?_⟩) h3 ?_ ?_ ?_
  · rcases Nat.lt_or_ge j d1.length with x | x
    · exact absurd ((b1 j x).symm.trans e) (byt_dash g1 j x)
    · rcases Nat.lt_or_ge j (d1.length + 1 + d2.length) with y | y
      · by_cases e1 : j = d1.length
        · exact .inl e1
        · obtain ⟨t, rfl⟩ : ∃ t, j = d1.length + 1 + t := ⟨j - d1.length - 1, by omega⟩
          exact absurd ((b3 t (by omega)).symm.trans e) (byt_dash g2 t (by omega))
      · by_cases e1 : j = d1.length + 1 + d2.length
        · exact .inr e1
        · obtain ⟨t, rfl⟩ : ∃ t, j = d1.length + 1 + d2.length + 1 + t := ⟨j - d1.length - 1 - d2.length - 1, by omega⟩
          exact absurd ((b5 t).symm.trans e) (byt_dash g3 t (by omega))
  · rcases e with rfl | rfl
    · exact b2
    · exact b4
  · refine k1 w _ ⟨b, o, cap, rfl, by omega, h2, fun j hj => ?_⟩
    rw [← b1 j hj]; exact h3 j (by omega)
  · refine k2 w _ ⟨b, o + (d1.length + 1), cap - (d1.length + 1), rfl, by omega, by omega, fun j hj => ?_⟩
    rw [← b3 j hj, show o + (d1.length + 1) + j = o + (d1.length + 1 + j) by omega]; exact h3 _ (by omega)
  · refine k3 w _ ⟨b, o + (d1.length + 1 + d2.length + 1), cap - (d1.length + 1 + d2.length + 1), rfl, by omega, by omega, fun j hj => ?_⟩
    rw [← b5 j, show o + (d1.length + 1 + d2.length + 1) + j = o + (d1.length + 1 + d2.length + 1 + j) by omega]; exact h3 _ (by omega)
end Go.Proofs.Qxb6630655aDoor
