/-
  PointCode.Append, walked (seat b6630655aD).
-/
import Derived.Test.Qxb6630655aDoorShelf
import Derived.Test.Qxb6630655aDoorPlain
import Derived.Lib.AppendIntMem
import Derived.Lib.Hide
import Derived.Lib.ItoaLen
import Derived.OwnWalk
import Derived.WalkKit
import Derived.WalkSpells
namespace Go.Proofs.Qxb6630655aDoor
open Go.RowKit

theorem Tryd.infoByte : (Tryd.prog.info? 5).map (fun i => (i.zero, i.size, i.bytes)) = some (some (.int .u8 0), 1, 1) := by kernel_rfl

/-- The table of the powers of ten stands below block B. -/
def Tab (B : Nat) (w : World) : Prop := Lib.TabBelow Tryd.prog B w pow10Name .u64 Lib.pow10Tab

set_option maxHeartbeats 1000000 in
theorem pubAppend (B n u : Nat) (hu64 : u < 18446744073709551616) (sv : Value) (xs : List Value) (w : World) (hown : w.ownsRow B 5 1 sv n xs) (hBw : B ≤ w.heap.size) (hlim : n + 20 ≤ 140737488355328) (htab : Tab B w) :
    Calls Tryd.prog 10 #[sv, .int .u64 u, .int .i64 10] w fun e w' => ∃ v', e = .returned v' ∧ w'.ownsRow B 5 1 v' (n + (Lib.decDigits u).length) (xs ++ Lib.byteCells (Lib.decDigits u)) ∧ Below B w w' := by
  go_enter Tryd.func10, Tryd.ntmps10
  go_wp2_with fail
  refine (appendUint B n u hu64 sv xs _ hown hBw hlim htab.here).mono ?_
  rintro e w1 ⟨v', rfl, hown1, hb1, -⟩
  have H : Hid (w1.ownsRow B 5 1 v' (n + (Lib.decDigits u).length) (xs ++ Lib.byteCells (Lib.decDigits u)) ∧ Below B w w1) := ⟨hown1, hb1⟩
  clear hown hown1 hb1
  go_wp2
  go_ret
  exact ⟨_, rfl, H.out.1, H.out.2⟩

theorem dec_le (u : Nat) (h : u < 4294967296) : (Lib.decDigits u).length ≤ 21 := by
  have := Lib.itoa_length_le (u : Int) (by omega) (by omega)
  rw [Lib.itoa_nonneg] at this
  exact this

theorem and255 (x : Nat) (h : x < 4294967296) : bits .and .u32 (x : Int) 255 = ((x % 256 : Nat) : Int) := by
  have := u32_and_nat x 255 h (by omega)
  rw [Nat.and_two_pow_sub_one_eq_mod x 8] at this
  exact this
theorem and7 (x : Nat) (h : x < 4294967296) : bits .and .u32 (x : Int) 7 = ((x % 8 : Nat) : Int) := by
  have := u32_and_nat x 7 h (by omega)
  rw [Nat.and_two_pow_sub_one_eq_mod x 3] at this
  exact this

theorem own_text1 {w : World} {B n pc : Nat} {v : Int} {v' : Value} {xs : List Value} (h : ¬ (v = 1 ∧ pc ≤ 16383)) (ho : w.ownsRow B 5 1 v' (n + (Lib.decDigits pc).length) (xs ++ Lib.byteCells (Lib.decDigits pc))) : w.ownsRow B 5 1 v' (n + (text pc v).length) (xs ++ Lib.byteCells (text pc v)) := by
  unfold text; rw [if_neg h]; exact ho

set_option maxHeartbeats 2000000 in
theorem append_walk (B n pc : Nat) (v : Int) (hpc : pc < 4294967296) (sv : Value) (xs : List Value) (w : World) (hown : w.ownsRow B 5 1 sv n xs) (hBw : B ≤ w.heap.size) (hlim : n + 100 ≤ 140737488355328) (htab : Tab B w) :
    Calls Tryd.prog 6 #[.int .u32 pc, sv, .int .i64 v] w fun e w' => ∃ v', e = .returned v' ∧ w'.ownsRow B 5 1 v' (n + (text pc v).length) (xs ++ Lib.byteCells (text pc v)) ∧ Below B w w' := by
  obtain ⟨i0, hi, hz0, hz1, hz2⟩ := info_parts Tryd.infoByte
  have HT : Hid (Tab B w) := htab
  clear htab
  by_cases hv : v = 1
  · subst hv
    by_cases hp : pc ≤ 16383
    · have t1 : (pc : Int) ≤ 16383 := by omega
      have l1 := dec_le (pc / 2048) (by omega)
      have l2 := dec_le (pc / 8 % 256) (by omega)
      have l3 := dec_le (pc % 8) (by omega)
      have HTX : Hid (text pc 1 = Lib.decDigits (pc / 2048) ++ 45 :: (Lib.decDigits (pc / 8 % 256) ++ 45 :: Lib.decDigits (pc % 8))) := by show _ = _; unfold text; rw [if_pos ⟨rfl, hp⟩]; rfl
      have a1 : bits .and .u32 ((pc : Int) / 8) 255 = (pc : Int) / 8 % 256 := by
        have e : (pc : Int) / 8 = ((pc / 8 : Nat) : Int) := by omega
        rw [e, and255 _ (by omega)]; omega
      have a2 : bits .and .u32 (pc : Int) 7 = (pc : Int) % 8 := by rw [and7 _ hpc]; omega
      have a3 : IntKind.u64.wrap ((pc : Int) / 8 % 256) = (pc : Int) / 8 % 256 := by rw [IntKind.wrap_u64]; omega
      have a4 : IntKind.u64.wrap ((pc : Int) % 8) = (pc : Int) % 8 := by rw [IntKind.wrap_u64]; omega
      go_enter Tryd.func6, Tryd.ntmps6
      go_wp2_with fail
      have q1 : (pc : Int) / 2048 = ((pc / 2048 : Nat) : Int) := by omega
      rw [q1]
      clear q1
      refine (pubAppend B n (pc / 2048) (by omega) sv xs w hown hBw (by omega) HT.out).mono ?_
      rintro e w1 ⟨v1, rfl, hown1, hb1⟩
      clear hown
      generalize hd1 : Lib.decDigits (pc / 2048) = d1 at *
      have hs1 := hb1.size
      have HB1 : Hid (Below B w w1) := hb1
      clear hb1
      go_wp2_with (at_builtin; refine wpList_append_own _ rfl _ _ 23 rfl B 5 i0 (.int .u8 0) 1 1 Tryd.underlying23 hi hz0 hz1 hz2 rfl (by decide) _ _ _ rfl (hown1.alloc _) ⟨w1.heap.size, 0, none⟩ 1 1 [.int .u8 45] rfl rfl (cell_one_new _ _ _) (by intro u hu; simp at hu; subst hu; rfl) (by unfold maxLen; omega) (by omega) (by simp; omega) ?_)
      intro v2 w2 hown2 hgrow2 _
      have HB2 : Hid (Below B w w2) := (HB1.out.alloc (by omega) _).grown hgrow2 (by simp; omega) (fun k hk => (hown1.lt k hk).1)
      clear hown1 hgrow2
      go_wp2_with fail
      have q1 : (pc : Int) / 8 % 256 = ((pc / 8 % 256 : Nat) : Int) := by omega
      rw [q1]
      clear q1
      have hs2 := HB2.out.size
      refine (pubAppend B (n + d1.length + 1) (pc / 8 % 256) (by omega) v2 _ w2 hown2 (by omega) (by omega) (HT.out.on HB2.out)).mono ?_
      rintro e w3 ⟨v3, rfl, hown3, hb3⟩
      clear hown2
      generalize hd2 : Lib.decDigits (pc / 8 % 256) = d2 at *
      have HB3 : Hid (Below B w w3) := HB2.out.trans hb3
      have hs3 := HB3.out.size
      clear hb3
      go_wp2_with (at_builtin; refine wpList_append_own _ rfl _ _ 23 rfl B 5 i0 (.int .u8 0) 1 1 Tryd.underlying23 hi hz0 hz1 hz2 rfl (by decide) _ _ _ rfl (hown3.alloc _) ⟨w3.heap.size, 0, none⟩ 1 1 [.int .u8 45] rfl rfl (cell_one_new _ _ _) (by intro u hu; simp at hu; subst hu; rfl) (by unfold maxLen; omega) (by omega) (by simp; omega) ?_)
      intro v4 w4 hown4 hgrow4 _
      have HB4 : Hid (Below B w w4) := (HB3.out.alloc (by omega) _).grown hgrow4 (by simp; omega) (fun k hk => (hown3.lt k hk).1)
      clear hown3 hgrow4
      go_wp2_with fail
      have q1 : (pc : Int) % 8 = ((pc % 8 : Nat) : Int) := by omega
      rw [q1]
      clear q1
      have hs4 := HB4.out.size
      refine (pubAppend B (n + d1.length + 1 + d2.length + 1) (pc % 8) (by omega) v4 _ w4 hown4 (by omega) (by omega) (HT.out.on HB4.out)).mono ?_
      rintro e w5 ⟨v5, rfl, hown5, hb5⟩
      clear hown4
      generalize hd3 : Lib.decDigits (pc % 8) = d3 at *
      have HB5 : Hid (Below B w w5) := HB4.out.trans hb5
      have HO : Hid (w5.ownsRow B 5 1 v5 (n + (text pc 1).length) (xs ++ Lib.byteCells (text pc 1))) := by
        show World.ownsRow _ _ _ _ _ _ _
        rw [HTX.out]
        have e1 : n + (d1 ++ 45 :: (d2 ++ 45 :: d3)).length = n + d1.length + 1 + d2.length + 1 + d3.length := by simp; omega
        have e2 : xs ++ Lib.byteCells (d1 ++ 45 :: (d2 ++ 45 :: d3)) = xs ++ (Lib.byteCells d1 ++ Value.int .u8 45 :: (Lib.byteCells d2 ++ [Value.int .u8 45])) ++ Lib.byteCells d3 := by simp [Lib.byteCells]
        rw [e1, e2]; exact hown5
      clear hown5 hb5
      go_wp2
      go_ret
      exact ⟨_, rfl, HO.out, HB5.out⟩
    · have t1 : ¬ ((pc : Int) ≤ 16383) := by omega
      go_enter Tryd.func6, Tryd.ntmps6
      go_wp2_with fail
      refine (pubAppend B n pc (by omega) sv xs w hown hBw (by omega) HT.out).mono ?_
      rintro e w1 ⟨v1, rfl, hown1, hb1⟩
      have H : Hid (w1.ownsRow B 5 1 v1 (n + (text pc 1).length) (xs ++ Lib.byteCells (text pc 1)) ∧ Below B w w1) := ⟨own_text1 (fun x => hp x.2) hown1, hb1⟩
      clear hown hown1 hb1
      go_wp2
      go_ret
      exact ⟨_, rfl, H.out.1, H.out.2⟩
  · go_enter Tryd.func6, Tryd.ntmps6
    go_wp2_with fail
    refine (pubAppend B n pc (by omega) sv xs w hown hBw (by omega) HT.out).mono ?_
    rintro e w1 ⟨v1, rfl, hown1, hb1⟩
    have H : Hid (w1.ownsRow B 5 1 v1 (n + (text pc v).length) (xs ++ Lib.byteCells (text pc v)) ∧ Below B w w1) := ⟨own_text1 (fun x => hv x.1) hown1, hb1⟩
    clear hown hown1 hb1
    go_wp2
    go_ret
    exact ⟨_, rfl, H.out.1, H.out.2⟩
end Go.Proofs.Qxb6630655aDoor
