/-
  (Changes).check (seat b6630537aF).
-/
import Derived.Test.Qxb6630537aFmtErrf
import Derived.Test.Qxb6630537aFmtOrder
namespace Go.Proofs.Qxb6630537aFmt
open Go.RowKit Go.Extern.Stop Go.Stop Go.Extern

/-- A list of splices in memory: three cells each. -/
structure Chg (w : World) (ao : Option Addr) (g n cap : Nat) (S E : Nat → Int) (TV : Nat → Value) : Prop where
  le : n ≤ cap
  lem : cap ≤ maxLen
  at_ : 0 < n → ao = some ⟨g, 0, none⟩
  c0 : ∀ j, j < n → w.cell? ⟨g, j * 3, none⟩ = some (.int .i64 (S j))
  c1 : ∀ j, j < n → w.cell? ⟨g, j * 3 + 1, none⟩ = some (.int .i64 (E j))
  c2 : ∀ j, j < n → w.cell? ⟨g, j * 3 + 2, none⟩ = some (TV j)

/-- What check hands back: nil where the splices lie in order, else an error. -/
def Chk (e : Ending) (ok : Bool) : Prop := (ok = true → e = .returned .nilIface) ∧ (ok = false → ∃ t p, e = .returned (.iface t p))
theorem Chk.yes {ok : Bool} (h : ok = true) : Chk (.returned .nilIface) ok := ⟨fun _ => rfl, fun h' => by rw [h] at h'; cases h'⟩
theorem Chk.no {ok : Bool} {t : TypeId} {p : Value} (h : ok = false) : Chk (.returned (.iface t p)) ok := ⟨fun h' => (by rw [h] at h'; cases h'), fun _ => ⟨t, p, rfl⟩⟩

theorem cell_second (wr : World) (o1 : Obj) (cs : Array Value) (t : TypeId) (j : Nat) (v : Value) (h : cs[j]? = some v) : ((wr.alloc o1).alloc (.cells cs t)).cell? ⟨wr.heap.size + 1, j, none⟩ = some v := by
  have e : ((wr.alloc o1).alloc (.cells cs t)).heap[wr.heap.size + 1]? = some (.cells cs t) := by
    have := heap_alloc_new (wr.alloc o1) (.cells cs t)
    simpa using this
  unfold World.cell?
  rw [e]
  simp [h]

theorem errorf_at (F : Interp) (wr : World) (o1 : Obj) (t : TypeId) (x0 x1 x2 x3 x4 : Int) (hF : F.answers wr.tape) :
    Calls Tryf.prog 23 #[.string ⟨#[99, 104, 97, 110, 103, 101, 32, 37, 100, 32, 111, 102, 32, 37, 100, 44, 32, 111, 102, 32, 116, 104, 101, 32, 98, 121, 116, 101, 115, 32, 102, 114, 111, 109, 32, 37, 100, 32, 116, 111, 32, 37, 100, 44, 32, 100, 111, 101, 115, 32, 110, 111, 116, 32, 108, 105, 101, 32, 105, 110, 32, 111, 114, 100, 101, 114, 32, 119, 105, 116, 104, 105, 110, 32, 116, 104, 101, 32, 37, 100, 32, 98, 121, 116, 101, 115, 32, 111, 102, 32, 116, 104, 101, 32, 116, 101, 120, 116]⟩, .slice (some ⟨wr.heap.size + 1, 0, none⟩) 5 5] ((wr.alloc o1).alloc (.cells #[.iface 3 (.int .i64 x0), .iface 3 (.int .i64 x1), .iface 3 (.int .i64 x2), .iface 3 (.int .i64 x3), .iface 3 (.int .i64 x4)] t)) fun e w' => ∃ p, e = .returned (.iface 58 (.pointer (some p))) ∧ Below ((wr.alloc o1).alloc (.cells #[.iface 3 (.int .i64 x0), .iface 3 (.int .i64 x1), .iface 3 (.int .i64 x2), .iface 3 (.int .i64 x3), .iface 3 (.int .i64 x4)] t)).heap.size ((wr.alloc o1).alloc (.cells #[.iface 3 (.int .i64 x0), .iface 3 (.int .i64 x1), .iface 3 (.int .i64 x2), .iface 3 (.int .i64 x3), .iface 3 (.int .i64 x4)] t)) w' :=
  errorf_walk F x0 x1 x2 x3 x4 (wr.heap.size + 1) _ hF (cell_second _ _ _ _ 0 _ rfl) (cell_second _ _ _ _ 1 _ rfl) (cell_second _ _ _ _ 2 _ rfl) (cell_second _ _ _ _ 3 _ rfl) (cell_second _ _ _ _ 4 _ rfl)

theorem chk_below {w wr w1 : World} {o1 o2 : Obj} (h : Below w.heap.size w wr) (hb : Below ((wr.alloc o1).alloc o2).heap.size ((wr.alloc o1).alloc o2) w1) : Below w.heap.size w w1 := by
  have hs := h.size
  exact ((h.alloc (by omega) o1).alloc (by simp; omega) o2).trans (hb.mono (by simp; omega))

set_option maxHeartbeats 2000000 in
theorem check_walk (F : Interp) (w : World) (hF : F.answers w.tape) (ao : Option Addr) (g n cap : Nat) (S E : Nat → Int) (TV : Nat → Value) (size : Int) (h : Chg w ao g n cap S E TV) (hTV : ∀ j, j < n → ∃ a m c, TV j = .slice a m c) (hn : n ≤ 1048576) :
    Calls Tryf.prog 20 #[.slice ao n cap, .int .i64 size] w fun e w' => Chk e (inOrd S E size n) ∧ Below w.heap.size w w' := by
  have hF1 := fun k hk he => inOrd_false (S := S) (E := E) (size := size) (n := n) (k := k) hk he
  have hT1 := fun he => inOrd_true (S := S) (E := E) (size := size) (n := n) he
  have hle := h.le
  have hlm := h.lem
  have hat := h.at_
  have hc0 := h.c0
  have hc1 := h.c1
  have hc2 := h.c2
  unfold maxLen at hlm
  generalize hr : inOrd S E size n = res at *
  have HF : Hid (∀ k, k < n → okAt S E size k = false → res = false) := hF1
  have HT : Hid ((∀ k, k < n → okAt S E size k = true) → res = true) := hT1
  clear hF1 hT1 h hr
  go_enter Tryf.func20, Tryf.ntmps20
  go_wp2
  go_loopw [5, 6, 7, 10] (fun p _ _ i wr => ∃ k : Nat, k ≤ n ∧ i = .int .i64 k ∧ p = .int .i64 (prevAt E k) ∧ Below w.heap.size w wr ∧ Hid (∀ j, j < k → okAt S E size j = true)) (fun _ _ _ i _ => n - (intOf i).toNat)
  case atStart => exact ⟨0, Nat.zero_le _, rfl, rfl, Below.refl _ _, fun j hj => absurd hj (Nat.not_lt_zero _)⟩
  case round =>
    obtain ⟨k, hk, rfl, rfl, hB, hj⟩ := hrel
    by_cases hlt : k < n
    · obtain rfl := hat (by omega)
      have hgw : g < w.heap.size := World.block_lt_of_cell? _ _ (hc0 k hlt)
      have hsz := hB.size
      have g0 : wr.cell? ⟨g, k * 3, none⟩ = some (.int .i64 (S k)) := by rw [hB.cell (p := ⟨g, k * 3, none⟩) hgw]; exact hc0 k hlt
      have g1 : wr.cell? ⟨g, k * 3 + 1, none⟩ = some (.int .i64 (E k)) := by rw [hB.cell (p := ⟨g, k * 3 + 1, none⟩) hgw]; exact hc1 k hlt
      have g2 : wr.cell? ⟨g, k * 3 + 2, none⟩ = some (TV k) := by rw [hB.cell (p := ⟨g, k * 3 + 2, none⟩) hgw]; exact hc2 k hlt
      obtain ⟨ta, tm, tc, htv⟩ := hTV k hlt
      rw [htv] at g2
      have i1 : (0 : Int) ≤ k := by omega
      have i2 : (k : Int) < n := by omega
      have HO : Hid (okAt S E size k = decide (prevAt E k ≤ S k ∧ S k ≤ E k ∧ E k ≤ size)) := rfl
      have hFr : F.answers wr.tape := by rw [hB.tape]; exact hF
      have HB : Hid (Below w.heap.size w wr) := hB
      have HFr : Hid (F.answers wr.tape) := hFr
      clear hc0 hc1 hc2 hat hTV htv hB hFr
      have HP : Hid (prevAt E (k + 1) = E k) := rfl
      generalize prevAt E k = p at *
      by_cases c1 : S k < p
      · go_wp2_with fail
        refine (errorf_at F wr _ _ _ _ _ _ _ HFr.out).mono ?_
        rintro e w1 ⟨q, rfl, hb1⟩
        go_wp2
        go_ret
        exact ⟨Chk.no (HF.out k hlt (by rw [HO.out]; simp; omega)), chk_below HB.out hb1⟩
      · have d1 : decide (S k < p) = false := by simp; omega
        by_cases c2 : E k < S k
        · go_wp2_with fail
          refine (errorf_at F wr _ _ _ _ _ _ _ HFr.out).mono ?_
          rintro e w1 ⟨q, rfl, hb1⟩
          go_wp2
          go_ret
          exact ⟨Chk.no (HF.out k hlt (by rw [HO.out]; simp; omega)), chk_below HB.out hb1⟩
        · have d2 : decide (E k < S k) = false := by simp; omega
          by_cases c3 : size < E k
          · go_wp2_with fail
            refine (errorf_at F wr _ _ _ _ _ _ _ HFr.out).mono ?_
            rintro e w1 ⟨q, rfl, hb1⟩
            go_wp2
            go_ret
            exact ⟨Chk.no (HF.out k hlt (by rw [HO.out]; simp; omega)), chk_below HB.out hb1⟩
          · have d3 : decide (size < E k) = false := by simp; omega
            go_wp2
            go_roundw
            case rel => exact ⟨k + 1, by omega, by go_num, by rw [HP.out], HB.out.alloc (by omega) _, fun j hjk => by
              by_cases e : j = k
              · subst e; rw [HO.out]; simp; omega
              · exact hj.out j (by omega)⟩
            case measure => simp [intOf]; omega
    · go_wp2
      go_ret
      exact ⟨Chk.yes (HT.out (fun j hjn => hj.out j (by omega))), hB⟩
end Go.Proofs.Qxb6630537aFmt
