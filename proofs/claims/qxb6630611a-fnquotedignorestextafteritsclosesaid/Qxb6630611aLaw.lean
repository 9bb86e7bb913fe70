/-
  The law, walked (seat b6630611a).
-/
import Derived.Test.Qxb6630611aWhole
import Derived.Laws.Concat
import Derived.Laws.Slices
namespace Go.Proofs.Qxb6630611a
open Go.RowKit

theorem ch_append (s t : ByteArray) (k : Nat) (h : k < s.size) : ch (s ++ t) k = ch s k := by
  have h1 : k < (s ++ t).size := by rw [ByteArray.size_append]; omega
  rw [← ch_at _ k h1, ← ch_at _ k h]
  exact ByteArray.getElem_append_left h
theorem ch_extract (s : ByteArray) (a b k : Nat) (hb : b ≤ s.size) (h : k < b - a) : ch (s.extract a b) k = ch s (a + k) := by
  have h1 : k < (s.extract a b).size := by rw [ByteArray.size_extract]; omega
  rw [← ch_at _ k h1, ← ch_at _ (a + k) (by omega)]
  exact ByteArray.getElem_extract h1
theorem size_body (s : ByteArray) (a b : Nat) (hb : b ≤ s.size) : (s.extract a b).size = b - a := by rw [ByteArray.size_extract]; omega

/-- The token ends ahead of the text's end: the longer text gives the same. -/
theorem more_same {s t : ByteArray} {q : UInt8} {bk : Bool} {p : Nat} {out : List UInt8} {E : Nat} {shut : Bool} (hp : p ≤ s.size) (h : qrun s q bk s.size p = (out, E, shut)) (hE : E < s.size) : qrun (s ++ t) q bk (s ++ t).size p = (out, E, shut) := by
  have hsz : (s ++ t).size = s.size + t.size := ByteArray.size_append
  have h1 : qrun s q bk (s ++ t).size p = (out, E, shut) := by rw [qrun_fuel (s := s) s.size p hp (by omega) (s ++ t).size (by omega), h]
  rw [qrun_more (s := s) (u := s ++ t) (by omega) (fun k hk => ch_append s t k hk) (s ++ t).size p hp (by rw [h1]; exact hE) (by omega), h1]

theorem slice_body (s : ByteArray) (a en : Nat) (h : a + 1 ≤ en) (hs : en ≤ s.size) (w : World) : (Instr.slice 9 (.string s) (some (.int .i64 ((a : Int) + 1))) (some (.int .i64 (en : Int))) none).run Try.prog w = .ok (.string (s.extract (a + 1) en)) w := by
  have e : ((a : Int) + 1).toNat = a + 1 := by omega
  rw [run_slice_string (P := Try.prog) w 9 s .i64 .i64 ((a : Int) + 1) (en : Int) Try.underlying9 (by omega) (by omega) (by omega), e]; rfl

set_option maxRecDepth 20000 in
set_option maxHeartbeats 4000000 in
theorem law_walk (a0 : ByteArray) (a1 : Int) (a2 : Int) (a3 : Bool) (a4 : Bool) (a5 : Int) (a6 : Bool) (a7 : Int) (a8 : Bool) (a9 : ByteArray) (w2 : (Lit.int .i64 a2).wf = true) (w7 : (Lit.int .u8 a7).wf = true) (w : World) :
    Calls Try.prog 3 #[.string a0, .int .u64 a1, .int .i64 a2, .bool a3, .bool a4, .int .i64 a5, .bool a6, .int .u8 a7, .bool a8, .string a9] w fun e w' => e = .returned (.bool true) ∧ Below w.heap.size w w' := by
  obtain ⟨q, rfl⟩ : ∃ q : UInt8, a7 = (q.toNat : Int) := by
    have m0 : IntKind.u8.min = 0 := by decide
    have m1 : IntKind.u8.max = 255 := by decide
    simp [Lit.wf, m0, m1] at w7
    refine ⟨UInt8.ofNat a7.toNat, ?_⟩
    rw [UInt8.toNat_ofNat']
    omega
  clear w7
  by_cases hb : a0.size + a9.size ≤ 1048576
  case neg =>
    go_enter Try.func3, Try.ntmps3
    go_wp2_with fail
    refine (bytes_no a0 a1 a2 a3 a4 a5 a6 _ a8 a9 _ hb).mono ?_
    rintro e w' ⟨rfl, rfl⟩
    go_wp2
    go_ret
    exact ⟨rfl, Below.refl _ _⟩
  case pos =>
    have t1 : ¬ ((1048576 : Int) < a0.size) := by omega
    have t2 : ¬ ((1048576 : Int) - a0.size < a9.size) := by omega
    have e1 : IntKind.i64.wrap ((1048576 : Int) - a0.size) = 1048576 - (a0.size : Int) := by rw [IntKind.wrap_i64]; omega
    have HB : Hid (a0.size + a9.size ≤ 1048576) := hb
    by_cases h0 : a2 < 0
    · clear hb
      go_enter Try.func3, Try.ntmps3
      go_wp2_with fail
      refine (bytes_yes a0 a1 a2 a3 a4 a5 a6 _ a8 a9 _ HB.out).mono ?_
      rintro e w' ⟨rfl, rfl⟩
      go_wp2
      go_ret
      exact ⟨rfl, Below.refl _ _⟩
    · by_cases h1 : (a0.size : Int) ≤ a2
      · clear hb
        go_enter Try.func3, Try.ntmps3
        go_wp2_with fail
        refine (bytes_yes a0 a1 a2 a3 a4 a5 a6 _ a8 a9 _ HB.out).mono ?_
        rintro e w' ⟨rfl, rfl⟩
        go_wp2
        go_ret
        exact ⟨rfl, Below.refl _ _⟩
      · obtain ⟨pos, rfl⟩ : ∃ pos : Nat, a2 = pos := ⟨a2.toNat, by omega⟩
        have hpos : pos < a0.size := by omega
        have hsz : (a0 ++ a9).size = a0.size + a9.size := ByteArray.size_append
        obtain ⟨out, E, shut, hq⟩ : ∃ out E shut, qrun a0 q a8 a0.size (pos + 1) = (out, E, shut) := ⟨_, _, _, rfl⟩
        obtain ⟨out2, E2, shut2, hq2⟩ : ∃ out E shut, qrun (a0 ++ a9) q a8 (a0 ++ a9).size (pos + 1) = (out, E, shut) := ⟨_, _, _, rfl⟩
        have hshut := qrun_shut (s := a0) (q := q) (bk := a8) a0.size (pos + 1) (by omega) (by omega)
        have hle := qrun_le (s := a0) (q := q) (bk := a8) a0.size (pos + 1) (by omega)
        rw [hq] at hshut hle
        simp only at hshut hle
        have hcc : ¬ (9223372036854775807 < a0.size + a9.size) := by omega
        have HQ : Hid (qrun a0 q a8 a0.size (pos + 1) = (out, E, shut)) := hq
        have HQ2 : Hid (qrun (a0 ++ a9) q a8 (a0 ++ a9).size (pos + 1) = (out2, E2, shut2)) := hq2
        have HS : Hid ((a0 ++ a9).size ≤ 2097152 ∧ pos < (a0 ++ a9).size) := ⟨by omega, by omega⟩
        have HM : Hid (E < a0.size → (out2, E2, shut2) = (out, E, shut)) := fun hE => by rw [← hq2]; exact more_same (by omega) hq hE
        have HP : Hid (pos < a0.size) := hpos
        clear hq hq2 hsz hpos w2 h0
        by_cases hE : E < a0.size
        · have hsh : shut = true := by
            by_cases x : shut = true
            · exact x
            · have := hshut.2 (by simpa using x); omega
          subst hsh
          obtain ⟨en, rfl⟩ : ∃ en, E = en + 1 := ⟨E - 1, by omega⟩
          have hM := HM.out hE
          rw [Prod.mk.injEq, Prod.mk.injEq] at hM
          obtain ⟨rfl, rfl, rfl⟩ := hM
          have hsh := hshut.1 rfl
          simp only [Nat.add_sub_cancel] at hsh
          have hen : pos + 1 ≤ en := by omega
          have hbs : (a0.extract (pos + 1) en).size = en - (pos + 1) := size_body _ _ _ (by omega)
          have HH : Hid ((a8 = true → noBack (a0.extract (pos + 1) en) (a0.extract (pos + 1) en).size 0 = true) → hrun (a0.extract (pos + 1) en) q a0.size 0 = some out2) := fun hx => by
            have := hrun_qrun (s := a0) (b := a0.extract (pos + 1) en) (q := q) (bk := a8) (p0 := pos + 1) (E := en + 1) (by omega) (fun k hk => ch_extract _ _ _ _ (by omega) (by omega)) (fun e k hk => noBack_all _ _ 0 (by omega) (hx e) k (Nat.zero_le _) hk) a0.size 0 (Nat.zero_le _) (by omega) (by omega) (by rw [Nat.add_zero, HQ.out])
            rw [Nat.add_zero, HQ.out] at this
            exact this
          have hsl := slice_body a0 pos en hen (by omega)
          have x1 : ∀ w, (Instr.index 9 (.string a0) (.int .i64 (en : Int))).run Try.prog w = .ok (.int .u8 q.toNat) w := fun w => by
            rw [index_at a0 en (by omega), hsh.2]
          have HBS : Hid ((a0.extract (pos + 1) en).size ≤ a0.size ∧ (a0.extract (pos + 1) en).size ≤ 2097152) := ⟨by omega, by omega⟩
          generalize a0.extract (pos + 1) en = body at *
          have e2 : IntKind.i64.wrap ((pos : Int) + 2) = (pos : Int) + 2 := by rw [IntKind.wrap_i64]; omega
          have e3 : IntKind.i64.wrap ((pos : Int) + 1) = (pos : Int) + 1 := by rw [IntKind.wrap_i64]; omega
          have e4 : IntKind.i64.wrap (en : Int) = (en : Int) := by rw [IntKind.wrap_i64]; omega
          have t3 : (en : Int) + 1 < a0.size := by omega
          have t4 : ¬ ((en : Int) + 1 < (pos : Int) + 2) := by omega
          clear hshut hle hb hsh hbs hen
          cases a8 with
          | false =>
            go_enter Try.func3, Try.ntmps3
            go_wp2_with fail
            refine (bytes_yes a0 a1 _ a3 a4 a5 a6 _ false a9 _ HB.out).mono ?_
            rintro e w' ⟨rfl, rfl⟩
            go_wp2_with fail
            refine (whole_walk _ a0 q false a1 pos a3 a4 a5 a6 HP.out (by have := HB.out; omega) out2 _ true HQ.out).mono ?_
            rintro e w1 ⟨rfl, hB1⟩
            unfold gives
            have HB1 : Hid (Below w'.heap.size w' w1) := hB1
            clear hB1
            go_wp2_with fail
            refine (whole_walk _ (a0 ++ a9) q false a1 pos a3 a4 a5 a6 HS.out.2 HS.out.1 out2 (en + 1) true HQ2.out).mono ?_
            rintro e w2 ⟨rfl, hB2⟩
            unfold gives
            have HB2 : Hid (Below w'.heap.size w' w2) := HB1.out.trans (hB2.mono HB1.out.size)
            clear hB2
            go_wp2_with fail
            refine (halve_walk body q _ out2 a0.size HBS.out.1 (HH.out (fun x => by cases x)) HBS.out.2).mono ?_
            rintro e w3 ⟨rfl, hB3⟩
            have HB3 : Hid (Below w'.heap.size w' w3) := HB2.out.trans (hB3.mono HB2.out.size)
            clear hB3
            go_wp2
            go_ret
            exact ⟨rfl, HB3.out⟩
          | true =>
            obtain ⟨nb, hnb⟩ : ∃ nb, nb = noBack body body.size 0 := ⟨_, rfl⟩
            have HNB : Hid (nb = noBack body body.size 0) := hnb
            clear hnb
            cases nb with
            | true =>
              go_enter Try.func3, Try.ntmps3
              go_wp2_with fail
              refine (bytes_yes a0 a1 _ a3 a4 a5 a6 _ true a9 _ HB.out).mono ?_
              rintro e w' ⟨rfl, rfl⟩
              go_wp2_with fail
              refine (whole_walk _ a0 q true a1 pos a3 a4 a5 a6 HP.out (by have := HB.out; omega) out2 _ true HQ.out).mono ?_
              rintro e w1 ⟨rfl, hB1⟩
              unfold gives
              have HB1 : Hid (Below w'.heap.size w' w1) := hB1
              clear hB1
              go_wp2_with fail
              refine (whole_walk _ (a0 ++ a9) q true a1 pos a3 a4 a5 a6 HS.out.2 HS.out.1 out2 (en + 1) true HQ2.out).mono ?_
              rintro e w2 ⟨rfl, hB2⟩
              unfold gives
              have HB2 : Hid (Below w'.heap.size w' w2) := HB1.out.trans (hB2.mono HB1.out.size)
              clear hB2
              go_wp2_with fail
              refine (noBack_walk body _ HBS.out.2).mono ?_
              rintro e w3 ⟨rfl, rfl⟩
              rw [← HNB.out]
              go_wp2_with fail
              refine (halve_walk body q _ out2 a0.size HBS.out.1 (HH.out (fun _ => HNB.out.symm)) HBS.out.2).mono ?_
              rintro e w4 ⟨rfl, hB3⟩
              have HB3 : Hid (Below w'.heap.size w' w4) := HB2.out.trans (hB3.mono HB2.out.size)
              clear hB3
              go_wp2
              go_ret
              exact ⟨rfl, HB3.out⟩
            | false =>
              go_enter Try.func3, Try.ntmps3
              go_wp2_with fail
              refine (bytes_yes a0 a1 _ a3 a4 a5 a6 _ true a9 _ HB.out).mono ?_
              rintro e w' ⟨rfl, rfl⟩
              go_wp2_with fail
              refine (whole_walk _ a0 q true a1 pos a3 a4 a5 a6 HP.out (by have := HB.out; omega) out2 _ true HQ.out).mono ?_
              rintro e w1 ⟨rfl, hB1⟩
              unfold gives
              have HB1 : Hid (Below w'.heap.size w' w1) := hB1
              clear hB1
              go_wp2_with fail
              refine (whole_walk _ (a0 ++ a9) q true a1 pos a3 a4 a5 a6 HS.out.2 HS.out.1 out2 (en + 1) true HQ2.out).mono ?_
              rintro e w2 ⟨rfl, hB2⟩
              unfold gives
              have HB2 : Hid (Below w'.heap.size w' w2) := HB1.out.trans (hB2.mono HB1.out.size)
              clear hB2
              go_wp2_with fail
              refine (noBack_walk body _ HBS.out.2).mono ?_
              rintro e w3 ⟨rfl, rfl⟩
              rw [← HNB.out]
              go_wp2
              go_ret
              exact ⟨rfl, HB2.out⟩
        · have hEE : E = a0.size := by omega
          subst hEE
          cases shut with
          | false =>
            clear hshut hle hE hb
            go_enter Try.func3, Try.ntmps3
            go_wp2_with fail
            refine (bytes_yes a0 a1 _ a3 a4 a5 a6 _ a8 a9 _ HB.out).mono ?_
            rintro e w' ⟨rfl, rfl⟩
            go_wp2_with fail
            refine (whole_walk _ a0 q a8 a1 pos a3 a4 a5 a6 HP.out (by have := HB.out; omega) out _ false HQ.out).mono ?_
            rintro e w1 ⟨rfl, hB1⟩
            unfold gives
            have HB1 : Hid (Below w'.heap.size w' w1) := hB1
            clear hB1
            go_wp2_with fail
            refine (whole_walk _ (a0 ++ a9) q a8 a1 pos a3 a4 a5 a6 HS.out.2 HS.out.1 out2 E2 shut2 HQ2.out).mono ?_
            rintro e w2 ⟨rfl, hB2⟩
            unfold gives
            have HB2 : Hid (Below w'.heap.size w' w2) := HB1.out.trans (hB2.mono HB1.out.size)
            clear hB2
            go_wp2
            go_ret
            exact ⟨rfl, HB2.out⟩
          | true =>
            have hsh := hshut.1 rfl
            have t3 : (pos : Int) + 2 ≤ a0.size := by omega
            have e2 : IntKind.i64.wrap ((pos : Int) + 2) = (pos : Int) + 2 := by rw [IntKind.wrap_i64]; omega
            have e3 : IntKind.i64.wrap ((a0.size : Int) - 1) = (a0.size : Int) - 1 := by rw [IntKind.wrap_i64]; omega
            have x1 : ∀ w, (Instr.index 9 (.string a0) (.int .i64 ((a0.size : Int) - 1))).run Try.prog w = .ok (.int .u8 q.toNat) w := fun w => by
              rw [run_index_string _ _ _ _ _ Try.underlying9, dif_pos ⟨by omega, by omega⟩]
              have : ((a0.size : Int) - 1).toNat = a0.size - 1 := by omega
              simp only [this, ch_at a0 (a0.size - 1) (by omega), hsh.2]
            clear hshut hle hE hb hsh
            cases a4 with
            | true =>
              go_enter Try.func3, Try.ntmps3
              go_wp2_with fail
              refine (bytes_yes a0 a1 _ a3 true a5 a6 _ a8 a9 _ HB.out).mono ?_
              rintro e w' ⟨rfl, rfl⟩
              go_wp2_with fail
              refine (whole_walk _ a0 q a8 a1 pos a3 true a5 a6 HP.out (by have := HB.out; omega) out _ true HQ.out).mono ?_
              rintro e w1 ⟨rfl, hB1⟩
              unfold gives
              have HB1 : Hid (Below w'.heap.size w' w1) := hB1
              clear hB1
              go_wp2_with fail
              refine (whole_walk _ (a0 ++ a9) q a8 a1 pos a3 true a5 a6 HS.out.2 HS.out.1 out2 E2 shut2 HQ2.out).mono ?_
              rintro e w2 ⟨rfl, hB2⟩
              unfold gives
              have HB2 : Hid (Below w'.heap.size w' w2) := HB1.out.trans (hB2.mono HB1.out.size)
              clear hB2
              go_wp2
              go_ret
              exact ⟨rfl, HB2.out⟩
            | false =>
              go_enter Try.func3, Try.ntmps3
              go_wp2_with fail
              refine (bytes_yes a0 a1 _ a3 false a5 a6 _ a8 a9 _ HB.out).mono ?_
              rintro e w' ⟨rfl, rfl⟩
              go_wp2_with fail
              refine (whole_walk _ a0 q a8 a1 pos a3 false a5 a6 HP.out (by have := HB.out; omega) out _ true HQ.out).mono ?_
              rintro e w1 ⟨rfl, hB1⟩
              unfold gives
              have HB1 : Hid (Below w'.heap.size w' w1) := hB1
              clear hB1
              go_wp2_with fail
              refine (whole_walk _ (a0 ++ a9) q a8 a1 pos a3 false a5 a6 HS.out.2 HS.out.1 out2 E2 shut2 HQ2.out).mono ?_
              rintro e w2 ⟨rfl, hB2⟩
              unfold gives
              have HB2 : Hid (Below w'.heap.size w' w2) := HB1.out.trans (hB2.mono HB1.out.size)
              clear hB2
              go_wp2
              go_ret
              exact ⟨rfl, HB2.out⟩
end Go.Proofs.Qxb6630611a
