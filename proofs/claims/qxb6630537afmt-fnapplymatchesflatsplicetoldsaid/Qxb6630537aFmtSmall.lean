/-
  ZZnewText, ZZpieces, ZZsize; Apply where the splices do not lie in order (seat b6630537aF).
-/
import Derived.Test.Qxb6630537aFmtApplyParts
import Derived.Test.Qxb6630537aFmtCheck
namespace Go.Proofs.Qxb6630537aFmt
open Go.RowKit Go.Extern.Stop Go.Stop Go.Extern

theorem newText_walk (w : World) (a : Option Addr) (m c : Nat) (size : Int) :
    Calls Tryf.prog 11 #[.slice a m c, .int .i64 size] w fun e w' => e = .returned (.pointer (some ⟨w.heap.size, 0, none⟩)) ∧ w' = w.alloc (.cells #[.slice a m c, .int .i64 size] 45) := by
  go_enter Tryf.func11, Tryf.ntmps11
  go_wp2
  go_ret
  exact ⟨rfl, rfl⟩
theorem pieces_walk (w : World) (T : Nat) (a : Option Addr) (m c : Nat) (size : Int) (h : Txt w T (.slice a m c) size) :
    Calls Tryf.prog 14 #[.pointer (some ⟨T, 0, none⟩)] w fun e w' => e = .returned (.slice a m c) ∧ w' = w := by
  obtain ⟨h0, h1, -⟩ := h.cells
  clear h
  go_enter Tryf.func14, Tryf.ntmps14
  go_wp2
  go_ret
  exact ⟨rfl, rfl⟩
theorem size_walk (w : World) (T : Nat) (pv : Value) (size : Int) (h : Txt w T pv size) :
    Calls Tryf.prog 15 #[.pointer (some ⟨T, 0, none⟩)] w fun e w' => e = .returned (.int .i64 size) ∧ w' = w := by
  obtain ⟨h0, h1, -⟩ := h.cells
  clear h h0
  go_enter Tryf.func15, Tryf.ntmps15
  go_wp2
  go_ret
  exact ⟨rfl, rfl⟩
set_option maxHeartbeats 1000000 in
theorem apply_bad (F : Interp) (T : Nat) (w : World) (hF : F.answers w.tape) (pv : Value) (size : Int) (ao : Option Addr) (g n cap : Nat) (S E : Nat → Int) (TV : Nat → Value) (hT : Txt w T pv size) (hch : Chg w ao g n cap S E TV) (hTV : ∀ j, j < n → ∃ a m c, TV j = .slice a m c) (hord : inOrd S E size n = false) (hb2 : n ≤ 1048576) :
    Calls Tryf.prog 12 #[.pointer (some ⟨T, 0, none⟩), .slice ao n cap] w fun en w' => (∃ t p, en = .returned (.iface t p)) ∧ Below w.heap.size w w' := by
  have hck := check_walk F w hF ao g n cap S E TV size hch hTV hb2
  rw [hord] at hck
  obtain ⟨h0, h1, -⟩ := hT.cells
  have HCK : Hid (Calls Tryf.prog 20 #[.slice ao n cap, .int .i64 size] w fun e w' => Chk e false ∧ Below w.heap.size w w') := hck
  clear hch hTV hord hck hT h0 hF
  go_enter Tryf.func12, Tryf.ntmps12
  go_wp2_with fail
  refine HCK.out.mono ?_
  rintro en w1 ⟨hchk, hb5⟩
  obtain ⟨t, p, rfl⟩ := hchk.2 rfl
  clear hchk h1 HCK
  go_wp2
  go_ret
  exact ⟨⟨t, p, rfl⟩, hb5⟩
end Go.Proofs.Qxb6630537aFmt
