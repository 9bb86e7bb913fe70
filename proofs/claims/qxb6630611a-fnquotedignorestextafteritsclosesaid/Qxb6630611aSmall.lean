/-
  The law's helpers, walked (seat b6630611a).
-/
import Derived.Test.Qxb6630611aRows
import Derived.Test.Qxb6630611aPlain
import Derived.WalkKit
import Derived.WalkSpells
import Derived.OwnWalk
import Derived.Deep.LoopGhost
import Derived.Laws.IdiomStrings
import Derived.Test.Qxb6630611aShelf
namespace Go.Proofs.Qxb6630611a
open Go.RowKit

theorem Try.infoByte : (Try.prog.info? 5).map (fun i => (i.zero, i.size, i.bytes)) = some (some (.int .u8 0), 1, 1) := by kernel_rfl

theorem index_at (s : ByteArray) (k : Nat) (h : k < s.size) (w : World) : (Instr.index 9 (.string s) (.int .i64 (k : Int))).run Try.prog w = .ok (.int .u8 (ch s k).toNat) w := by
  rw [run_index_string _ _ _ _ _ Try.underlying9, dif_pos ⟨by omega, by omega⟩]; simp [ch_at s k h]
theorem index_next (s : ByteArray) (k : Nat) (h : k + 1 < s.size) (w : World) : (Instr.index 9 (.string s) (.int .i64 ((k : Int) + 1))).run Try.prog w = .ok (.int .u8 (ch s (k + 1)).toNat) w := by
  rw [run_index_string _ _ _ _ _ Try.underlying9, dif_pos ⟨by omega, by omega⟩]
  have : ((k : Int) + 1).toNat = k + 1 := by omega
  simp only [this, ch_at s (k + 1) h]

/-! ### the bound on the bytes -/
set_option maxHeartbeats 1000000 in
theorem bytes_yes (a0 : ByteArray) (a1 a2 : Int) (a3 a4 : Bool) (a5 : Int) (a6 : Bool) (a7 : Int) (a8 : Bool) (a9 : ByteArray) (w : World) (h : a0.size + a9.size ≤ 1048576) :
    Calls Try.prog 4 #[.string a0, .int .u64 a1, .int .i64 a2, .bool a3, .bool a4, .int .i64 a5, .bool a6, .int .u8 a7, .bool a8, .string a9] w fun e w' => e = .returned (.bool true) ∧ w' = w := by
  generalize h0 : a0.size = n0 at *
  generalize h9 : a9.size = n9 at *
  have t1 : ¬ ((1048576 : Int) < n0) := by omega
  have t2 : ¬ ((1048576 : Int) < n9) := by omega
  have t3 : ¬ ((1048576 : Int) < (n0 : Int) + n9) := by omega
  have e1 : IntKind.i64.wrap (n0 : Int) = n0 := by rw [IntKind.wrap_i64]; omega
  have e2 : IntKind.i64.wrap ((n0 : Int) + n9) = (n0 : Int) + n9 := by rw [IntKind.wrap_i64]; omega
  go_enter Try.func4, Try.ntmps4
  go_wp2
  go_ret
  exact ⟨rfl, rfl⟩

set_option maxHeartbeats 1000000 in
theorem bytes_no (a0 : ByteArray) (a1 a2 : Int) (a3 a4 : Bool) (a5 : Int) (a6 : Bool) (a7 : Int) (a8 : Bool) (a9 : ByteArray) (w : World) (h : ¬ a0.size + a9.size ≤ 1048576) :
    Calls Try.prog 4 #[.string a0, .int .u64 a1, .int .i64 a2, .bool a3, .bool a4, .int .i64 a5, .bool a6, .int .u8 a7, .bool a8, .string a9] w fun e w' => e = .returned (.bool false) ∧ w' = w := by
  generalize h0 : a0.size = n0 at *
  generalize h9 : a9.size = n9 at *
  by_cases t1 : (1048576 : Int) < n0
  · go_enter Try.func4, Try.ntmps4
    go_wp2
    go_ret
    exact ⟨rfl, rfl⟩
  · have e1 : IntKind.i64.wrap (n0 : Int) = n0 := by rw [IntKind.wrap_i64]; omega
    by_cases t2 : (1048576 : Int) < n9
    · go_enter Try.func4, Try.ntmps4
      go_wp2
      go_ret
      exact ⟨rfl, rfl⟩
    · have t3 : (1048576 : Int) < (n0 : Int) + n9 := by omega
      have e2 : IntKind.i64.wrap ((n0 : Int) + n9) = (n0 : Int) + n9 := by rw [IntKind.wrap_i64]; omega
      go_enter Try.func4, Try.ntmps4
      go_wp2
      go_ret
      exact ⟨rfl, rfl⟩

/-! ### no backslash -/
set_option maxHeartbeats 1000000 in
theorem noBack_walk (b : ByteArray) (w : World) (hb : b.size ≤ 2097152) :
    Calls Try.prog 6 #[.string b] w fun e w' => e = .returned (.bool (noBack b b.size 0)) ∧ w' = w := by
  obtain ⟨R, hR⟩ : ∃ R, R = noBack b b.size 0 := ⟨_, rfl⟩
  rw [← hR]
  have HR : Hid (noBack b b.size 0 = R) := hR.symm
  clear hR
  go_enter Try.func6, Try.ntmps6
  go_wp2
  go_loopg [3] b.size (fun g i wr => wr = w ∧ ∃ k : Nat, i = .int .i64 k ∧ k ≤ b.size ∧ b.size - k ≤ g ∧ Hid (noBack b g k = R))
  case atStart => exact ⟨rfl, 0, rfl, Nat.zero_le _, by omega, HR⟩
  case round =>
    clear HR
    obtain ⟨rfl, k, rfl, hk, hg, HR⟩ := hrel
    by_cases hlt : k < b.size
    · obtain ⟨gn, rfl⟩ : ∃ g', gk = g' + 1 := ⟨gk - 1, by omega⟩
      have t0 : (k : Int) < b.size := by omega
      have i0 := index_at b k hlt
      have e1 : IntKind.i64.wrap ((k : Int) + 1) = (k : Int) + 1 := by rw [IntKind.wrap_i64]; omega
      have HN : Hid (b.size - k ≤ gn + 1 ∧ k < b.size) := ⟨hg, hlt⟩
      by_cases h92 : ch b k = 92
      · have HX : Hid (false = R) := by show _ = _; rw [← HR.out, noBack, if_pos hlt, if_pos h92]
        rw [h92] at i0
        clear hg hk h92
        go_wp2
        go_ret
        exact ⟨by rw [← HX.out]; rfl, rfl⟩
      · have HX : Hid (noBack b gn (k + 1) = R) := by show _ = _; rw [← HR.out, noBack, if_pos hlt, if_neg h92]
        have hne : ¬ (((ch b k).toNat : Int) = 92) := fun e => h92 (UInt8.toNat_inj.1 (by show (ch b k).toNat = 92; omega))
        generalize ((ch b k).toNat : Int) = c at *
        clear hg hk h92
        go_wp2
        go_roundg gn
        case measure => omega
        case rel => exact ⟨rfl, k + 1, by go_num, HN.out.2, by have := HN.out; omega, HX⟩
    · have HX : Hid (true = R) := by
        show _ = _
        rw [← HR.out]
        cases gk with
        | zero => rfl
        | succ g => rw [noBack, if_neg hlt]
      have t0 : ¬ ((k : Int) < b.size) := by omega
      clear hg hk
      go_wp2
      go_ret
      exact ⟨by rw [← HX.out]; rfl, rfl⟩

/-! ### the doubled quotes, halved -/
/-- A slice of bytes of the call's own, never nil. -/
def Own (w wr : World) (v : Value) (acc : List UInt8) : Prop := Below w.heap.size w wr ∧ wr.ownsRow w.heap.size 5 1 v acc.length (Lib.byteCells acc) ∧ ∃ g cap, v = .slice (some ⟨g, 0, none⟩) acc.length cap
theorem Own.str {w wr : World} {v : Value} {acc : List UInt8} (h : Own w wr v acc) : (convert 34 9 v).run Try.prog wr = .ok (.string ⟨acc.toArray⟩) wr := by
  obtain ⟨_, ⟨_, ho⟩, g, cap, rfl⟩ := h
  rcases ho with ⟨h, _⟩ | ⟨g', cap', cur, hv, hb, hh, h1, h2, h3, h4⟩
  · cases h
  · cases hv
    refine run_convert_bytes_back wr 34 9 5 ⟨g, 0, none⟩ cap acc Try.underlying34 Try.underlying5 Try.underlying9 (fun j hj => ?_)
    have e : (Addr.add ⟨g, 0, none⟩ j) = ⟨g, j, none⟩ := by simp [Addr.add, eq_comm]
    rw [e, World.cell?, hh]
    have h5 : cur.toList[j]? = (Lib.byteCells acc)[j]? := by
      rw [← h4, List.getElem?_take_of_lt (by omega)]
    have h6 : cur[j]? = (Lib.byteCells acc)[j]? := by rw [← h5]; simp
    simp only [h6]
    simp [Lib.byteCells, List.getElem?_eq_getElem hj]
theorem Own.grow {w wr w1 : World} {v v' : Value} {acc : List UInt8} {c : UInt8} {o : Obj} (h : Own w wr v acc) (ho : w1.ownsRow w.heap.size 5 1 v' (acc.length + 1) (Lib.byteCells acc ++ [.int .u8 c.toNat])) (hg : (wr.alloc o).grownBy w1 v.ownBlock) : Own w w1 v' (acc ++ [c]) := by
  obtain ⟨hB, hown, _⟩ := h
  have hsz := hB.size
  refine ⟨(hB.alloc hsz _).grown hg (by simp; omega) (fun k hk => (hown.lt k hk).1), by simpa [Lib.byteCells] using ho, ?_⟩
  rcases ho.2 with ⟨_, h0⟩ | ⟨g, cap, cur, hv, _⟩
  · omega
  · exact ⟨g, cap, by simpa using hv⟩

set_option maxHeartbeats 2000000 in
theorem halve_walk (b : ByteArray) (q : UInt8) (w : World) (out : List UInt8) (N : Nat) (hN : b.size ≤ N) (h : hrun b q N 0 = some out) (hb : b.size ≤ 2097152) :
    Calls Try.prog 7 #[.string b, .int .u8 q.toNat] w fun e w' => e = .returned (.tuple #[.string ⟨out.toArray⟩, .bool true]) ∧ Below w.heap.size w w' := by
  have H : Hid (hrun b q N 0 = some out) := h
  obtain ⟨i0, hi, hz0, hz1, hz2⟩ := info_parts Try.infoByte
  obtain ⟨qi, hqi⟩ : ∃ c : Int, c = (q.toNat : Int) := ⟨_, rfl⟩
  rw [← hqi]
  have HQI : Hid (qi = (q.toNat : Int)) := hqi
  clear h hqi
  go_enter Try.func7, Try.ntmps7
  go_wp2_with (at_make; refine wpList_make_own _ rfl _ _ 34 rfl w.heap.size 5 i0 (.int .u8 0) 1 Try.underlying34 hi hz0 hz1 .i64 .i64 _ b.size rfl rfl (by rfl) (by rw [hz2]; omega) (by unfold maxLen; omega) (Nat.le_refl _) ?_; intro w0 hown0 hgrow0)
  have hst : Hid (Own w w0 (.slice (some ⟨w.heap.size, 0, none⟩) 0 b.size) []) := ⟨(Below.refl _ _).grown hgrow0 (Nat.le_refl _) (fun k hk => by cases hk), hown0, _, _, rfl⟩
  clear hown0 hgrow0
  go_wp2
  go_loopg [6, 7] N (fun g v i wr => ∃ (k : Nat) (acc rest : List UInt8), i = .int .i64 k ∧ k ≤ b.size ∧ b.size - k ≤ g ∧ acc.length ≤ k ∧ Hid (Own w wr v acc) ∧ Hid (hrun b q g k = some rest) ∧ Hid (acc ++ rest = out))
  case atStart => exact ⟨0, [], out, rfl, Nat.zero_le _, by omega, Nat.le_refl _, hst, H, rfl⟩
  case round =>
    clear H hst
    obtain ⟨k, acc, rest, rfl, hk, hg, hal, HO, HR, HA⟩ := hrel
    by_cases hlt : k < b.size
    · obtain ⟨gn, rfl⟩ : ∃ g', gk = g' + 1 := ⟨gk - 1, by omega⟩
      have t0 : (k : Int) < b.size := by omega
      have x0 := index_at b k hlt
      have e1 : IntKind.i64.wrap ((k : Int) + 1) = (k : Int) + 1 := by rw [IntKind.wrap_i64]; omega
      have e2 : IntKind.i64.wrap ((k : Int) + 2) = (k : Int) + 2 := by rw [IntKind.wrap_i64]; omega
      have HN : Hid (b.size - k ≤ gn + 1 ∧ k < b.size) := ⟨hg, hlt⟩
      obtain ⟨hB, hown, g, cap, rfl⟩ := HO.out
      have hsz := hB.size
      clear hB
      by_cases hc : ch b k = q
      · by_cases hn : k + 1 < b.size ∧ ch b (k + 1) = q
        · obtain ⟨r', hr', HR'⟩ : ∃ r', rest = q :: r' ∧ Hid (hrun b q gn (k + 2) = some r') := by
            have := HR.out
            rw [hrun, if_pos hlt, if_neg (fun x => x hc), if_pos hn] at this
            obtain ⟨r', h1, h2⟩ := Option.map_eq_some_iff.1 this
            exact ⟨r', h2.symm, h1⟩
          have x1 := index_next b k hn.1
          have t2 : (k : Int) + 1 < b.size := by omega
          have hn1 := hn.1
          have HP : Hid (k + 1 < b.size) := hn1
          rw [hc, ← HQI.out] at x0
          rw [hn.2, ← HQI.out] at x1
          have HR2 : Hid (rest = q :: r') := hr'
          clear hn hc hr' hg hk HR
          go_wp2_with (at_builtin; refine wpList_append_own _ rfl _ _ 34 rfl w.heap.size 5 i0 (.int .u8 0) 1 1 Try.underlying34 hi hz0 hz1 hz2 rfl (by decide) _ _ _ rfl (hown.alloc _) ⟨wr.heap.size, 0, none⟩ 1 1 [.int .u8 qi] rfl rfl (cell_one_new _ _ _) (by intro u hu; simp at hu; subst hu; rfl) (by unfold maxLen; omega) (by omega) (by simp; omega) ?_)
          intro v' w1 hown' hgrow _
          have hown2 : w1.ownsRow w.heap.size 5 1 v' (acc.length + 1) (Lib.byteCells acc ++ [.int .u8 q.toNat]) := by rw [← HQI.out]; exact hown'
          have HO1 : Hid (Own w w1 v' (acc ++ [q])) := HO.out.grow hown2 hgrow
          clear hown hown' hgrow hown2
          go_wp2
          go_roundg gn
          case measure => omega
          case rel => exact ⟨k + 2, acc ++ [q], r', by go_num, HP.out, by have := HN.out; omega, by simp; omega, HO1, HR', by show _ = _; rw [← HA.out, HR2.out, List.append_assoc]; rfl⟩
        · exfalso
          have := HR.out
          rw [hrun, if_pos hlt, if_neg (fun x => x hc), if_neg hn] at this
          cases this
      · obtain ⟨r', hr', HR'⟩ : ∃ r', rest = ch b k :: r' ∧ Hid (hrun b q gn (k + 1) = some r') := by
          have := HR.out
          rw [hrun, if_pos hlt, if_pos hc] at this
          obtain ⟨r', h1, h2⟩ := Option.map_eq_some_iff.1 this
          exact ⟨r', h2.symm, h1⟩
        have hne : ¬ (((ch b k).toNat : Int) = qi) := by rw [HQI.out]; exact fun e => hc (UInt8.toNat_inj.1 (by omega))
        obtain ⟨c, hcc⟩ : ∃ c : Int, c = ((ch b k).toNat : Int) := ⟨_, rfl⟩
        rw [← hcc] at x0 hne
        have HC : Hid (c = ((ch b k).toNat : Int)) := hcc
        have HR2 : Hid (rest = ch b k :: r') := hr'
        clear hc hr' hg hk HR hcc
        go_wp2_with (at_builtin; refine wpList_append_own _ rfl _ _ 34 rfl w.heap.size 5 i0 (.int .u8 0) 1 1 Try.underlying34 hi hz0 hz1 hz2 rfl (by decide) _ _ _ rfl (hown.alloc _) ⟨wr.heap.size, 0, none⟩ 1 1 [.int .u8 c] rfl rfl (cell_one_new _ _ _) (by intro u hu; simp at hu; subst hu; rfl) (by unfold maxLen; omega) (by omega) (by simp; omega) ?_)
        intro v' w1 hown' hgrow _
        have hown2 : w1.ownsRow w.heap.size 5 1 v' (acc.length + 1) (Lib.byteCells acc ++ [.int .u8 (ch b k).toNat]) := by rw [← HC.out]; exact hown'
        have HO1 : Hid (Own w w1 v' (acc ++ [ch b k])) := HO.out.grow hown2 hgrow
        clear hown hown' hgrow hown2
        go_wp2
        go_roundg gn
        case measure => omega
        case rel => exact ⟨k + 1, acc ++ [ch b k], r', by go_num, HN.out.2, by have := HN.out; omega, by simp; omega, HO1, HR', by show _ = _; rw [← HA.out, HR2.out, List.append_assoc]; rfl⟩
    · have HX : Hid (acc = out) := by
        show _ = _
        have h1 := HR.out
        have h2 : rest = [] := by
          cases gk with
          | zero => simpa [hrun] using h1.symm
          | succ g => rw [hrun, if_neg hlt] at h1; simpa using h1.symm
        rw [← HA.out, h2, List.append_nil]
      have t0 : ¬ ((k : Int) < b.size) := by omega
      have hstr := HO.out.str
      clear hg hk
      go_wp2
      go_ret2
      exact ⟨by rw [HX.out]; rfl, HO.out.1⟩
end Go.Proofs.Qxb6630611a
