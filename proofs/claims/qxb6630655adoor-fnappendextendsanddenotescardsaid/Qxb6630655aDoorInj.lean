/-
  The law of injectivity and order, walked (seat b6630655aD).
-/
import Derived.Test.Qxb6630655aDoorOrder
namespace Go.Proofs.Qxb6630655aDoor
open Go.RowKit

theorem tab_on {w w1 : World} (h : Tab w.heap.size w) (hb : Below w.heap.size w w1) : Tab w1.heap.size w1 := fun w' hw => (Lib.TabBelow.on h hb) w' (hw.mono hb.size)
theorem below_drewN {B : Nat} {w w1 : World} (h : Below B w w1) (q : Nat) : Below B w (w1.drewN q) := by
  induction q with
  | zero => exact h
  | succ q ih => exact ih.drew
theorem text_pos (pc : Nat) (v : Int) : 1 ≤ (text pc v).length := by
  unfold text
  split
  · simp [parts]; omega
  · exact dec_pos _
theorem two_rows {w w1 w2 : World} {v1 v2 : Value} {l m : List UInt8} (hl : 1 ≤ l.length) (hm : 1 ≤ m.length) (hb1 : Below w.heap.size w w1) (own1 : w1.ownsRow w.heap.size 5 1 v1 (0 + l.length) ([] ++ Lib.byteCells l)) (hb2 : Below w1.heap.size w1 w2) (own2 : w2.ownsRow w1.heap.size 5 1 v2 (0 + m.length) ([] ++ Lib.byteCells m)) :
    Below w.heap.size w w2 ∧ Sl w2 v1 l ∧ Sl w2 v2 m := by
  rw [Nat.zero_add, List.nil_append] at own1 own2
  refine ⟨hb1.trans (hb2.mono hb1.size), sl_below own1 hl (fun g hg => ?_), sl_of_own own2 hm⟩
  exact hb2.block g (own1.lt g hg).2

set_option maxHeartbeats 1000000 in
theorem order_walk (a b : Nat) (v : Int) (ha : a < 4294967296) (hb : b < 4294967296) (w : World) (htab : Tab w.heap.size w) :
    Calls Tryd.prog 4 #[.int .u32 a, .int .u32 b, .int .i64 v] w fun e w' => e = .returned (.bool true) ∧ Below w.heap.size w w' := by
  have HT : Hid (Tab w.heap.size w) := htab
  clear htab
  by_cases hab : a = b
  · subst hab
    have R0 : Hid (slx (text a v) (text a v) = 0) := (text_eq a a v).2 rfl
    by_cases hv : v = 1
    · subst hv
      go_enter Tryd.func4, Tryd.ntmps4
      go_wp2_with fail
      refine (append_walk w.heap.size 0 a 1 ha (.slice none 0 0) [] w (World.ownsRow_nil _ _ _ _) (Nat.le_refl _) (by omega) HT.out).mono ?_
      rintro e w1 ⟨v1, rfl, own1, hb1⟩
      have K1 : Hid (Below w.heap.size w w1 ∧ w1.ownsRow w.heap.size 5 1 v1 (0 + (text a 1).length) ([] ++ Lib.byteCells (text a 1))) := ⟨hb1, own1⟩
      clear own1 hb1
      go_wp2_with fail
      refine (append_walk w1.heap.size 0 a 1 ha (.slice none 0 0) [] w1 (World.ownsRow_nil _ _ _ _) (Nat.le_refl _) (by omega) (tab_on HT.out K1.out.1)).mono ?_
      rintro e w2 ⟨v2, rfl, own2, hb2⟩
      have K2 : Hid (Below w.heap.size w w2 ∧ Sl w2 v1 (text a 1) ∧ Sl w2 v2 (text a 1)) := two_rows (text_pos _ _) (text_pos _ _) K1.out.1 K1.out.2 hb2 own2
      clear own2 hb2 K1
      go_wp2_with fail
      refine (shortlex_walk w2 v1 v2 (text a 1) (text a 1) K2.out.2.1 K2.out.2.2).mono ?_
      rintro e w3 ⟨rfl, q3, rfl⟩
      rw [R0.out]
      go_wp2
      go_ret
      exact ⟨rfl, below_drewN K2.out.1 _⟩
    · go_enter Tryd.func4, Tryd.ntmps4
      go_wp2_with fail
      refine (append_walk w.heap.size 0 a v ha (.slice none 0 0) [] w (World.ownsRow_nil _ _ _ _) (Nat.le_refl _) (by omega) HT.out).mono ?_
      rintro e w1 ⟨v1, rfl, own1, hb1⟩
      have K1 : Hid (Below w.heap.size w w1 ∧ w1.ownsRow w.heap.size 5 1 v1 (0 + (text a v).length) ([] ++ Lib.byteCells (text a v))) := ⟨hb1, own1⟩
      clear own1 hb1
      go_wp2_with fail
      refine (append_walk w1.heap.size 0 a v ha (.slice none 0 0) [] w1 (World.ownsRow_nil _ _ _ _) (Nat.le_refl _) (by omega) (tab_on HT.out K1.out.1)).mono ?_
      rintro e w2 ⟨v2, rfl, own2, hb2⟩
      have K2 : Hid (Below w.heap.size w w2 ∧ Sl w2 v1 (text a v) ∧ Sl w2 v2 (text a v)) := two_rows (text_pos _ _) (text_pos _ _) K1.out.1 K1.out.2 hb2 own2
      clear own2 hb2 K1
      go_wp2_with fail
      refine (shortlex_walk w2 v1 v2 (text a v) (text a v) K2.out.2.1 K2.out.2.2).mono ?_
      rintro e w3 ⟨rfl, q3, rfl⟩
      rw [R0.out]
      go_wp2_with fail
      refine (shortlex_walk _ v1 v2 (text a v) (text a v) (K2.out.2.1.drewN _) (K2.out.2.2.drewN _)).mono ?_
      rintro e w4 ⟨rfl, q4, rfl⟩
      rw [R0.out]
      go_wp2
      go_ret
      exact ⟨rfl, below_drewN K2.out.1 _⟩
  · have hne : ¬ ((a : Int) = b) := by omega
    have hz : Hid (¬ (slx (text a v) (text b v) = 0)) := fun x => hab ((text_eq a b v).1 x)
    by_cases hv : v = 1
    · subst hv
      go_enter Tryd.func4, Tryd.ntmps4
      go_wp2_with fail
      refine (append_walk w.heap.size 0 a 1 ha (.slice none 0 0) [] w (World.ownsRow_nil _ _ _ _) (Nat.le_refl _) (by omega) HT.out).mono ?_
      rintro e w1 ⟨v1, rfl, own1, hb1⟩
      have K1 : Hid (Below w.heap.size w w1 ∧ w1.ownsRow w.heap.size 5 1 v1 (0 + (text a 1).length) ([] ++ Lib.byteCells (text a 1))) := ⟨hb1, own1⟩
      clear own1 hb1
      go_wp2_with fail
      refine (append_walk w1.heap.size 0 b 1 hb (.slice none 0 0) [] w1 (World.ownsRow_nil _ _ _ _) (Nat.le_refl _) (by omega) (tab_on HT.out K1.out.1)).mono ?_
      rintro e w2 ⟨v2, rfl, own2, hb2⟩
      have K2 : Hid (Below w.heap.size w w2 ∧ Sl w2 v1 (text a 1) ∧ Sl w2 v2 (text b 1)) := two_rows (text_pos _ _) (text_pos _ _) K1.out.1 K1.out.2 hb2 own2
      clear own2 hb2 K1
      go_wp2_with fail
      refine (shortlex_walk w2 v1 v2 (text a 1) (text b 1) K2.out.2.1 K2.out.2.2).mono ?_
      rintro e w3 ⟨rfl, q3, rfl⟩
      have hz2 := hz.out
      generalize slx (text a 1) (text b 1) = R at *
      have z1 : (R == 0) = false := by simpa using hz2
      have z2 : ((a : Int) == b) = false := by simpa using hne
      clear hz2
      go_wp2
      go_ret
      exact ⟨rfl, below_drewN K2.out.1 _⟩
    · have hc : Hid (slx (text a v) (text b v) = cmpN a b) := text_cmp a b hv
      by_cases hlt : a < b
      · have t1 : (a : Int) < b := by omega
        have R0 : Hid (slx (text a v) (text b v) = -1) := by show _ = _; rw [hc.out, cmpN, if_pos hlt]
        go_enter Tryd.func4, Tryd.ntmps4
        go_wp2_with fail
        refine (append_walk w.heap.size 0 a v ha (.slice none 0 0) [] w (World.ownsRow_nil _ _ _ _) (Nat.le_refl _) (by omega) HT.out).mono ?_
        rintro e w1 ⟨v1, rfl, own1, hb1⟩
        have K1 : Hid (Below w.heap.size w w1 ∧ w1.ownsRow w.heap.size 5 1 v1 (0 + (text a v).length) ([] ++ Lib.byteCells (text a v))) := ⟨hb1, own1⟩
        clear own1 hb1
        go_wp2_with fail
        refine (append_walk w1.heap.size 0 b v hb (.slice none 0 0) [] w1 (World.ownsRow_nil _ _ _ _) (Nat.le_refl _) (by omega) (tab_on HT.out K1.out.1)).mono ?_
        rintro e w2 ⟨v2, rfl, own2, hb2⟩
        have K2 : Hid (Below w.heap.size w w2 ∧ Sl w2 v1 (text a v) ∧ Sl w2 v2 (text b v)) := two_rows (text_pos _ _) (text_pos _ _) K1.out.1 K1.out.2 hb2 own2
        clear own2 hb2 K1
        go_wp2_with fail
        refine (shortlex_walk w2 v1 v2 (text a v) (text b v) K2.out.2.1 K2.out.2.2).mono ?_
        rintro e w3 ⟨rfl, q3, rfl⟩
        rw [R0.out]
        go_wp2_with fail
        refine (shortlex_walk _ v1 v2 (text a v) (text b v) (K2.out.2.1.drewN _) (K2.out.2.2.drewN _)).mono ?_
        rintro e w4 ⟨rfl, q4, rfl⟩
        rw [R0.out]
        go_wp2
        go_ret
        exact ⟨rfl, below_drewN K2.out.1 _⟩
      · have t1 : ¬ ((a : Int) < b) := by omega
        have t2 : (b : Int) < a := by omega
        have R0 : Hid (slx (text a v) (text b v) = 1) := by show _ = _; rw [hc.out, cmpN, if_neg hlt, if_pos (by omega)]
        go_enter Tryd.func4, Tryd.ntmps4
        go_wp2_with fail
        refine (append_walk w.heap.size 0 a v ha (.slice none 0 0) [] w (World.ownsRow_nil _ _ _ _) (Nat.le_refl _) (by omega) HT.out).mono ?_
        rintro e w1 ⟨v1, rfl, own1, hb1⟩
        have K1 : Hid (Below w.heap.size w w1 ∧ w1.ownsRow w.heap.size 5 1 v1 (0 + (text a v).length) ([] ++ Lib.byteCells (text a v))) := ⟨hb1, own1⟩
        clear own1 hb1
        go_wp2_with fail
        refine (append_walk w1.heap.size 0 b v hb (.slice none 0 0) [] w1 (World.ownsRow_nil _ _ _ _) (Nat.le_refl _) (by omega) (tab_on HT.out K1.out.1)).mono ?_
        rintro e w2 ⟨v2, rfl, own2, hb2⟩
        have K2 : Hid (Below w.heap.size w w2 ∧ Sl w2 v1 (text a v) ∧ Sl w2 v2 (text b v)) := two_rows (text_pos _ _) (text_pos _ _) K1.out.1 K1.out.2 hb2 own2
        clear own2 hb2 K1
        go_wp2_with fail
        refine (shortlex_walk w2 v1 v2 (text a v) (text b v) K2.out.2.1 K2.out.2.2).mono ?_
        rintro e w3 ⟨rfl, q3, rfl⟩
        rw [R0.out]
        go_wp2_with fail
        refine (shortlex_walk _ v1 v2 (text a v) (text b v) (K2.out.2.1.drewN _) (K2.out.2.2.drewN _)).mono ?_
        rintro e w4 ⟨rfl, q4, rfl⟩
        rw [R0.out]
        go_wp2
        go_ret
        exact ⟨rfl, below_drewN K2.out.1 _⟩
end Go.Proofs.Qxb6630655aDoor
