/-
  zzBuild (seat b6630537aF).
-/
import Derived.Test.Qxb6630537aFmtFlat
import Derived.Test.Qxb6630537aFmtCheck
import Derived.Deep.AppendLies
import Derived.Deep.RegionHeld3
namespace Go.Proofs.Qxb6630537aFmt
open Go.RowKit

theorem Tryf.info50 : (Tryf.prog.info? 50).map (fun i => (i.zero, i.size, i.bytes)) = some (some (.agg #[.int .i64 0, .int .i64 0, .slice none 0 0]), 3, 40) := by kernel_rfl

/-- The cells of the first n splices. -/
def chCells (S E : Nat → Int) (TV : Nat → Value) : Nat → List Value
  | 0 => []
  | k + 1 => chCells S E TV k ++ [.int .i64 (S k), .int .i64 (E k), TV k]
theorem chCells_len (S E : Nat → Int) (TV : Nat → Value) : ∀ n, (chCells S E TV n).length = n * 3
  | 0 => rfl
  | n + 1 => by simp [chCells, chCells_len S E TV n]; omega
theorem chCells_get (S E : Nat → Int) (TV : Nat → Value) : ∀ n j, j < n → (chCells S E TV n)[j * 3]? = some (.int .i64 (S j)) ∧ (chCells S E TV n)[j * 3 + 1]? = some (.int .i64 (E j)) ∧ (chCells S E TV n)[j * 3 + 2]? = some (TV j)
  | 0, j, h => absurd h (Nat.not_lt_zero _)
  | n + 1, j, h => by
    have hl := chCells_len S E TV n
    by_cases e : j = n
    · subst e
      simp only [chCells]
      refine ⟨?_, ?_, ?_⟩ <;> rw [List.getElem?_append_right (by omega), hl]
      · simp
      · rw [show j * 3 + 1 - j * 3 = 1 by omega]; rfl
      · rw [show j * 3 + 2 - j * 3 = 2 by omega]; rfl
    · have := chCells_get S E TV n j (by omega)
      simp only [chCells]
      refine ⟨?_, ?_, ?_⟩ <;> rw [List.getElem?_append_left (by omega)]
      · exact this.1
      · exact this.2.1
      · exact this.2.2

theorem chg_of_own {w : World} {base n : Nat} {v : Value} {S E : Nat → Int} {TV : Nat → Value} (h : w.ownsRow base 50 3 v n (chCells S E TV n)) : ∃ ao g cap, v = .slice ao n cap ∧ Chg w ao g n cap S E TV ∧ (0 < n → base ≤ g ∧ ∃ cur, w.heap[g]? = some (.cells cur 50 (0, 0))) := by
  rcases h.2 with ⟨rfl, rfl⟩ | ⟨g, cap, cur, rfl, hb, hg, hle, hm, _, _⟩
  · exact ⟨none, 0, 0, rfl, ⟨Nat.le_refl _, by unfold maxLen; omega, fun h => by omega, fun j hj => by omega, fun j hj => by omega, fun j hj => by omega⟩, fun h => by omega⟩
  · have key : ∀ j x, (chCells S E TV n)[j]? = some x → w.cell? ⟨g, j, none⟩ = some x := by
      intro j x hj
      have := h.cells (g := g) rfl j x hj
      by_cases hj0 : j = 0
      · subst hj0; simpa [Addr.add] using this
      · simpa [Addr.add, hj0] using this
    exact ⟨some ⟨g, 0, none⟩, g, cap, rfl, ⟨hle, hm, fun _ => rfl, fun j hj => key _ _ (chCells_get S E TV n j hj).1, fun j hj => key _ _ (chCells_get S E TV n j hj).2.1, fun j hj => key _ _ (chCells_get S E TV n j hj).2.2⟩, fun _ => ⟨hb, cur, hg⟩⟩

theorem own_tag' {w : World} {M : Nat} {t : TypeId} {s : Nat} {v : Value} {n : Nat} {xs : List Value} (h : w.ownsRow M t s v n xs) {g : Nat} (hg : v.ownBlock = some g) : M ≤ g := (h.lt g hg).1

set_option maxRecDepth 100000 in
set_option maxHeartbeats 4000000 in
theorem build_walk (N : Nat) (w : World) (v1 v2 : Value) (at' : Option Addr) (b o n ct : Nat) (st en : List Int) (A : Nat → Option Addr) (L C : Nat → Nat) (h1 : Sl N w v1 (i64s st)) (h2 : Sl N w v2 (i64s en)) (hN : N ≤ w.heap.size) (hn : st.length = n) (hn2 : en.length = n)
    (hat3 : 0 < n → at' = some ⟨b, o, none⟩ ∧ b < N) (hcell : ∀ r, r < n → w.cell? ⟨b, o + r, none⟩ = some (.slice (A r) (L r) (C r)))
    (hw1 : ∀ j, -9223372036854775808 ≤ fn st j ∧ fn st j ≤ 9223372036854775807) (hw2 : ∀ j, -9223372036854775808 ≤ fn en j ∧ fn en j ≤ 9223372036854775807) (hb : n ≤ 1048576) :
    Calls Tryf.prog 13 #[v1, v2, .slice at' n ct, .int .i64 0, .int .i64 n, .int .i64 0] w fun e w' => ∃ v', e = .returned v' ∧ w'.ownsRow w.heap.size 50 3 v' n (chCells (fn st) (fn en) (fun r => .slice (A r) (L r) (C r)) n) ∧ Below w.heap.size w w' := by
  obtain ⟨a1, b1, o1, c1, rfl, hle1, hlm1, hat1, hc1⟩ := h1.ints
  obtain ⟨a2, b2, o2, c2, rfl, hle2, hlm2, hat2, hc2⟩ := h2.ints
  rw [hn] at hle1 hat1 hc1
  rw [hn2] at hle2 hat2 hc2
  rw [hn, hn2]
  obtain ⟨i0, hi0, hz0, hz1, hz2⟩ := info_parts Tryf.info50
  generalize fn st = S at *
  generalize fn en = E at *
  clear h1 h2 hn hn2
  have HCH : Hid (∀ k, chCells S E (fun r => .slice (A r) (L r) (C r)) (k + 1) = chCells S E (fun r => .slice (A r) (L r) (C r)) k ++ [.int .i64 (S k), .int .i64 (E k), .slice (A k) (L k) (C k)]) := fun _ => rfl
  have hch0 : chCells S E (fun r => .slice (A r) (L r) (C r)) 0 = [] := rfl
  generalize chCells S E (fun r => .slice (A r) (L r) (C r)) = ch at *
  have HCH0 : Hid (ch 0 = []) := hch0
  clear hch0
  go_enter Tryf.func13, Tryf.ntmps13
  go_wp2_with (at_make; refine wpList_make_own _ rfl (.const (.int .i64 0)) (.tmp 17) 36 rfl w.heap.size 50 i0 _ 3 Tryf.underlying36 hi0 hz0 hz1 .i64 .i64 _ n rfl rfl (by omega) (by rw [hz2]; omega) (by unfold maxLen; omega) (Nat.le_refl _) ?_)
  intro w0 hown0 hgrow0
  have hB0 : Below w.heap.size w w0 := (Below.refl _ _).grown hgrow0 (Nat.le_refl _) (fun k hk => by cases hk)
  clear hgrow0
  go_wp2
  go_loopw [13, 14] (fun v i wr => ∃ k : Nat, k ≤ n ∧ i = .int .i64 k ∧ Below w.heap.size w wr ∧ wr.ownsRow w.heap.size 50 3 v k (ch k)) (fun _ i _ => n - (intOf i).toNat)
  case atStart => exact ⟨0, Nat.zero_le _, rfl, hB0, by rw [HCH0.out]; exact hown0⟩
  case round =>
    clear hB0 hown0
    obtain ⟨k, hk, rfl, hB, hown⟩ := hrel
    by_cases hlt : k < n
    · obtain ⟨rfl, hb1⟩ := hat1 (by omega)
      obtain ⟨rfl, hb2⟩ := hat2 (by omega)
      obtain ⟨rfl, hb3⟩ := hat3 (by omega)
      have hsz := hB.size
      have g1 : wr.cell? ⟨b1, o1 + k, none⟩ = some (.int .i64 (S k)) := by rw [hB.cell (p := ⟨b1, o1 + k, none⟩) (by show b1 < w.heap.size; omega)]; exact hc1 k hlt
      have g2 : wr.cell? ⟨b2, o2 + k, none⟩ = some (.int .i64 (E k)) := by rw [hB.cell (p := ⟨b2, o2 + k, none⟩) (by show b2 < w.heap.size; omega)]; exact hc2 k hlt
      have g3 : wr.cell? ⟨b, o + k, none⟩ = some (.slice (A k) (L k) (C k)) := by rw [hB.cell (p := ⟨b, o + k, none⟩) (by show b < w.heap.size; omega)]; exact hcell k hlt
      have hw1k := hw1 k
      have hw2k := hw2 k
      have e1 : IntKind.i64.wrap (S k) = S k := by rw [IntKind.wrap_i64]; omega
      have e2 : IntKind.i64.wrap (E k) = E k := by rw [IntKind.wrap_i64]; omega
      have i1 : (0 : Int) ≤ k := by omega
      have i2 : (k : Int) < n := by omega
      have n1 : u13.ownBlock ≠ some b1 := fun e => by have := (own_tag' hown e); omega
      have n2 : u13.ownBlock ≠ some b2 := fun e => by have := (own_tag' hown e); omega
      have n3 : u13.ownBlock ≠ some b := fun e => by have := (own_tag' hown e); omega
      have HB : Hid (Below w.heap.size w wr) := hB
      clear hB hc1 hc2 hcell hw1 hw2 hat1 hat2 hat3
      go_wp2
      go_region_held3 (fun w' => w'.cell? ⟨b1, o1 + k, none⟩ = some (.int .i64 (S k)) ∧ w'.cell? ⟨b2, o2 + k, none⟩ = some (.int .i64 (E k)) ∧ w'.cell? ⟨b, o + k, none⟩ = some (.slice (A k) (L k) (C k)))
        (first
          | go_keep
          | (go_split_ands
             refine ⟨?_, ?_, ?_⟩
             · (rw [hgrow.cell_far _ (by simp; omega) (Ne.symm n1)]; assumption)
             · (rw [hgrow.cell_far _ (by simp; omega) (Ne.symm n2)]; assumption)
             · (rw [hgrow.cell_far _ (by simp; omega) (Ne.symm n3)]; assumption)))
        ((refine step_append_lies _ (by rfl) _ _ _ (by rfl) w.heap.size 50 i0 _ 3 40 Tryf.underlying36 hi0 hz0 hz1 hz2 rfl (by omega) u13 k (ch k) (by rfl) ((hown.alloc _).drew)
            ⟨wr.heap.size, 0, none⟩ 1 1 [.int .i64 (S k), .int .i64 (E k), .slice (A k) (L k) (C k)] (by rfl) (by rfl) (World.news_of_block (cs := #[.int .i64 (S k), .int .i64 (E k), .slice (A k) (L k) (C k)]) (t := 50) (fr := (0, 0)) (heap_alloc_new wr _)) (by simp [Value.oneCell'])
            (by omega) (by unfold maxLen; omega) (by omega) (by simp; omega) (wr.heap.size + 1) (by simp) ?_; intro gg cap w1 hown1 hgrow hat hlt1))
      have hB1 : Below w.heap.size w w1 := ((HB.out.alloc (by omega) _).drew).grown hgrow (by simp; omega) (fun k hk => (hown.lt k hk).1)
      rw [← HCH.out k] at hown1
      clear hgrow hat hown
      go_wp2
      go_roundw
      case rel => exact ⟨k + 1, by omega, by go_num, hB1, hown1⟩
      case measure => simp [intOf]; omega
    · obtain rfl : k = n := by omega
      go_wp2
      go_ret
      exact ⟨_, rfl, hown, hB⟩
end Go.Proofs.Qxb6630537aFmt
