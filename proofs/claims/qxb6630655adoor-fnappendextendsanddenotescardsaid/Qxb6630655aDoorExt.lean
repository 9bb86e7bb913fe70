/-
  The law that Append extends its buffer and denotes its number: the helpers (seat b6630655aD).
-/
import Derived.Test.Qxb6630655aDoorThree
import Derived.Deep.OwnRows
namespace Go.Proofs.Qxb6630655aDoor
open Go.RowKit

set_option maxHeartbeats 1000000 in
theorem bytes_yes (pc v : Int) (ao : Option Addr) (n cap : Nat) (w : World) (h : n ≤ 1048576) :
    Calls Tryd.prog 5 #[.int .u32 pc, .slice ao n cap, .int .i64 v] w fun e w' => e = .returned (.bool true) ∧ w' = w := by
  have t1 : ¬ ((1048576 : Int) < n) := by omega
  have e1 : IntKind.i64.wrap (n : Int) = n := by rw [IntKind.wrap_i64]; omega
  go_enter Tryd.func5, Tryd.ntmps5
  go_wp2
  go_ret
  exact ⟨rfl, rfl⟩
set_option maxHeartbeats 1000000 in
theorem bytes_no (pc v : Int) (ao : Option Addr) (n cap : Nat) (w : World) (h : ¬ n ≤ 1048576) :
    Calls Tryd.prog 5 #[.int .u32 pc, .slice ao n cap, .int .i64 v] w fun e w' => e = .returned (.bool false) ∧ w' = w := by
  have t1 : (1048576 : Int) < n := by omega
  go_enter Tryd.func5, Tryd.ntmps5
  go_wp2
  go_ret
  exact ⟨rfl, rfl⟩

/-- The list of the first n bytes. -/
def zs (Z : Nat → Int) (n : Nat) : List Value := (List.range n).map fun j => .int .u8 (Z j)
theorem zs_length (Z : Nat → Int) (n : Nat) : (zs Z n).length = n := by simp [zs]
theorem zs_get (Z : Nat → Int) (n j : Nat) (h : j < n) : (zs Z n)[j]? = some (.int .u8 (Z j)) := by simp [zs, h]
theorem own_of_row {w : World} {B b n : Nat} {Z : Nat → Int} (h : w.rowIs b 5 n (fun j => .int .u8 (Z j))) (hB : B ≤ b) (hn : n ≤ maxLen) : w.ownsRow B 5 1 (.slice (some ⟨b, 0, none⟩) n n) n (zs Z n) := by
  obtain ⟨c, hb, hs, hc⟩ := h
  refine ⟨by rw [zs_length, Nat.mul_one], .inr ⟨b, n, c, rfl, hB, hb, Nat.le_refl _, hn, by omega, ?_⟩⟩
  apply List.ext_getElem?
  intro j
  rcases Nat.lt_or_ge j n with h1 | h1
  · rw [List.getElem?_take_of_lt (by omega), zs_get Z n j h1, ← hc j h1]; simp
  · rw [List.getElem?_eq_none (by simp; omega), List.getElem?_eq_none (by rw [zs_length]; exact h1)]

/-- The whole row, cell by cell. -/
def Out (w : World) (v : Value) (n m : Nat) (Z Y : Nat → Int) : Prop :=
  ∃ b o cap, v = .slice (some ⟨b, o, none⟩) (n + m) cap ∧ n + m ≤ cap ∧ cap ≤ maxLen ∧ (∀ j, j < n → w.cell? ⟨b, o + j, none⟩ = some (.int .u8 (Z j))) ∧ (∀ j, j < m → w.cell? ⟨b, o + (n + j), none⟩ = some (.int .u8 (Y j)))
theorem out_of_own {w w' : World} {B n : Nat} {v : Value} {Z : Nat → Int} {l : List UInt8} (h : w.ownsRow B 5 1 v (n + l.length) (zs Z n ++ Lib.byteCells l)) (hl : 1 ≤ l.length) (hk : ∀ g, v.ownBlock = some g → w'.heap[g]? = w.heap[g]?) : Out w' v n l.length Z (byt l) := by
  rcases h.2 with ⟨_, h0⟩ | ⟨g, cap, cur, rfl, hb, hh, h1, h2, h3, h4⟩
  · omega
  · have hg : ∀ j x, j < n + l.length → (zs Z n ++ Lib.byteCells l)[j]? = some x → w'.cell? ⟨g, 0 + j, none⟩ = some x := fun j x hj hx => by
      have h5 : cur.toList[j]? = some x := by rw [← hx, ← h4, List.getElem?_take_of_lt (by omega)]
      have h6 : cur[j]? = some x := by rw [← h5]; simp
      have h7 : w.cell? ⟨g, 0 + j, none⟩ = some x := by simp [World.cell?, hh, h6]
      rw [← h7]; exact World.cell?_of_block (w := w) (hk g rfl)
    refine ⟨g, 0, cap, rfl, h1, h2, fun j hj => ?_, fun j hj => ?_⟩
    · exact hg j _ (by omega) (by rw [List.getElem?_append_left (by rw [zs_length]; exact hj), zs_get Z n j hj])
    · exact hg (n + j) _ (by omega) (by rw [List.getElem?_append_right (by rw [zs_length]; omega), zs_length, Nat.add_sub_cancel_left, byt_get l j hj])
end Go.Proofs.Qxb6630655aDoor
