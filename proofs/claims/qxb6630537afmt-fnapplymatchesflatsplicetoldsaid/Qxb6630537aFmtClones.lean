/-
  zzCloneInts, zzClone2 (seat b6630537aF).
-/
import Derived.Test.Qxb6630537aFmtOrder
import Derived.Deep.OwnRows
import Derived.Deep.LoopGhost
namespace Go.Proofs.Qxb6630537aFmt
open Go.RowKit

theorem Tryf.info3 : (Tryf.prog.info? 3).map (fun i => (i.zero, i.size, i.bytes)) = some (some (.int .i64 0), 1, 8) := by kernel_rfl
theorem Tryf.info5 : (Tryf.prog.info? 5).map (fun i => (i.zero, i.size, i.bytes)) = some (some (.int .u8 0), 1, 1) := by kernel_rfl
theorem Tryf.info28 : (Tryf.prog.info? 28).map (fun i => (i.zero, i.size, i.bytes)) = some (some (.slice none 0 0), 1, 24) := by kernel_rfl

theorem fn_get (l : List Int) (c : Nat) (h : c < l.length) : l[c]? = some (fn l c) := by simp [fn, h]
theorem below_of_since {B : Nat} {w w' : World} (h : w.Since B w') : Below B w w' := ⟨h.os, h.tape, h.output, h.size, h.block⟩
theorem since_of_below {B : Nat} {w w' : World} (h : Below B w w') : w.Since B w' := ⟨h.os, h.tape, h.output, h.size, h.block⟩

theorem sl_nil (N : Nat) (w : World) : Sl N w (.slice none 0 0) [] := ⟨none, 0, 0, 0, rfl, Nat.le_refl _, by unfold maxLen; omega, fun _ => rfl, fun h => absurd h (Nat.lt_irrefl 0), fun j x h => by simp at h⟩
theorem sl_row {w : World} {b : Nat} {t : TypeId} {n cap : Nat} {f : Nat → Value} {xs : List Value} {N : Nat} (h : w.rowIs b t n f) (hl : xs.length = n) (hx : ∀ j x, xs[j]? = some x → f j = x) (hc : n ≤ cap) (hm : cap ≤ maxLen) (hN : b < N) : Sl N w (.slice (some ⟨b, 0, none⟩) n cap) xs := by
  refine ⟨some ⟨b, 0, none⟩, b, 0, cap, by rw [hl], by rw [hl]; exact hc, hm, fun h => (by cases h), fun _ => ⟨rfl, hN⟩, fun j x hj => ?_⟩
  have hjn : j < n := by
    rcases Nat.lt_or_ge j xs.length with h1 | h1
    · omega
    · rw [List.getElem?_eq_none h1] at hj; cases hj
  rw [Nat.zero_add, h.cell hjn, hx j x hj]

set_option maxHeartbeats 1000000 in
theorem cloneInts_walk (N : Nat) (w : World) (v : Value) (l : List Int) (h : Sl N w v (i64s l)) (hN : N ≤ w.heap.size) (hb : l.length ≤ 1048576) :
    Calls Tryf.prog 9 #[v] w fun e w' => ∃ v', e = .returned v' ∧ Sl w'.heap.size w' v' (i64s l) ∧ Below w.heap.size w w' := by
  have hnilx := h
  obtain ⟨ao, b, o, cap, rfl, hle, hlm, hat, hc⟩ := h.ints
  have hnil : ao = none → l = [] := by
    intro e
    obtain ⟨ao', _, _, cap', h1, h2, _, h4, _, _⟩ := hnilx
    simp only [Value.slice.injEq] at h1
    have := h4 (h1.1 ▸ e)
    have h3 : (i64s l).length = l.length := by simp [i64s]
    exact List.eq_nil_of_length_eq_zero (by omega)
  clear hnilx
  have hfin : ∀ (wr : World), wr.rowIs w.heap.size 3 l.length (fun j => if j < l.length then .int .i64 (fn l j) else .int .i64 0) → Sl wr.heap.size wr (.slice (some ⟨w.heap.size, 0, none⟩) l.length l.length) (i64s l) := by
    intro wr hr
    refine sl_row hr (by simp [i64s]) (fun j x hj => ?_) (Nat.le_refl _) (by unfold maxLen; omega) hr.lt
    have hjn : j < l.length := by
      rcases Nat.lt_or_ge j l.length with h1 | h1
      · exact h1
      · rw [List.getElem?_eq_none (by simp [i64s]; exact h1)] at hj; cases hj
    rw [if_pos hjn]
    simpa [i64s, fn, hjn] using hj
  cases ao with
  | none =>
    obtain rfl := hnil rfl
    have hq := fun w => Lib.run_eql_slice_nil (P := Tryf.prog) w 23 3 none 0 cap 0 0 Tryf.underlying23
    clear hc hat hfin
    go_enter Tryf.func9, Tryf.ntmps9
    go_wp2
    go_ret
    exact ⟨_, rfl, sl_nil _ _, Below.refl _ _⟩
  | some a =>
    have hmk := run_make_row' (P := Tryf.prog) 23 3 (.int .i64 0) 8 Tryf.underlying23 Tryf.info3 rfl .i64 .i64 l.length (by omega) (by omega)
    have HF : Hid (∀ (wr : World), wr.rowIs w.heap.size 3 l.length (fun j => if j < l.length then .int .i64 (fn l j) else .int .i64 0) → Sl wr.heap.size wr (.slice (some ⟨w.heap.size, 0, none⟩) l.length l.length) (i64s l)) := hfin
    have hq := fun w => Lib.run_eql_slice_nil (P := Tryf.prog) w 23 3 (some a) l.length cap 0 0 Tryf.underlying23
    clear hfin h hnil
    have hres : ∃ r, r = i64s l := ⟨_, rfl⟩
    obtain ⟨r, hr⟩ := hres
    rw [← hr] at HF
    rw [← hr]
    clear hr
    generalize l.length = n at *
    generalize fn l = S at *
    go_enter Tryf.func9, Tryf.ntmps9
    go_wp2
    clear hmk hq
    go_loopw [4] (fun i wr => ∃ k : Nat, k ≤ n ∧ i = .int .i64 k ∧ Below w.heap.size w wr ∧ wr.heap.size = w.heap.size + 1 ∧ wr.rowIs w.heap.size 3 n (fun j => if j < k then .int .i64 (S j) else .int .i64 0)) (fun i _ => n - (intOf i).toNat)
    case atStart => exact ⟨0, Nat.zero_le _, rfl, (Below.refl _ _).alloc (Nat.le_refl _) _, by simp, (World.rowIs_made w _ n 3).congr (fun j _ => by simp)⟩
    case round =>
      obtain ⟨k, hk, rfl, hB, hsz, hrow⟩ := hrel
      by_cases hlt : k < n
      · obtain ⟨ha, hbN⟩ := hat (by omega)
        obtain rfl := Option.some.inj ha
        clear ha
        have g1 : wr.cell? ⟨b, o + k, none⟩ = some (.int .i64 (S k)) := by rw [hB.cell (p := ⟨b, o + k, none⟩) (by show b < w.heap.size; omega)]; exact hc k hlt
        have g2 := hrow.cell hlt
        have g3 := hrow.frozen k
        have g4 : b ≠ w.heap.size := by omega
        rw [if_neg (Nat.lt_irrefl k)] at g2
        clear hc hat
        have HB := hB
        have HR : Hid (Below w.heap.size w wr ∧ wr.rowIs w.heap.size 3 n (fun j => if j < k then .int .i64 (S j) else .int .i64 0)) := ⟨hB, hrow⟩
        clear hB HB hrow
        go_wp2
        go_roundw
        case rel =>
          obtain ⟨hB, hrow⟩ := HR.out
          refine ⟨k + 1, by omega, by go_num, hB.setCell (by exact Nat.le_refl _) _, by simpa [World.setCell] using hsz, (hrow.set k _).congr (fun j _ => ?_)⟩
          by_cases e : j = k
          · subst e; simp
          · rw [if_neg e]
            by_cases e2 : j < k
            · rw [if_pos e2, if_pos (by omega)]
            · rw [if_neg e2, if_neg (by omega)]
        case measure => simp [intOf]; omega
      · obtain rfl : k = n := by omega
        go_wp2
        go_ret
        exact ⟨_, rfl, HF.out _ hrow, hB⟩

/-- A copy of a run of bytes in a block of its own behind H; nil where the run is empty. -/
def Copy (H : Nat) (wr : World) (x : Value) (l : List Int) : Prop :=
  (x = .slice none 0 0 ∧ l = []) ∨ ∃ g, H < g ∧ x = .slice (some ⟨g, 0, none⟩) l.length l.length ∧ wr.rowIs g 5 l.length (fun c => .int .u8 (fn l c))
theorem Copy.alloc {H : Nat} {wr : World} {x : Value} {l : List Int} (h : Copy H wr x l) (o : Obj) : Copy H (wr.alloc o) x l := by
  rcases h with h | ⟨g, h1, h2, h3⟩
  · exact .inl h
  · exact .inr ⟨g, h1, h2, h3.alloc o⟩
theorem Copy.setOther {H : Nat} {wr : World} {x : Value} {l : List Int} (h : Copy H wr x l) (a : Addr) (u : Value) (ha : ∀ g, x = .slice (some ⟨g, 0, none⟩) l.length l.length → H < g → g ≠ a.block) : Copy H (wr.setCell a u) x l := by
  rcases h with h | ⟨g, h1, h2, h3⟩
  · exact .inl h
  · exact .inr ⟨g, h1, h2, h3.setOther (ha g h2 h1) u⟩
theorem Copy.sl {H N : Nat} {wr : World} {x : Value} {l : List Int} (h : Copy H wr x l) (hN : wr.heap.size ≤ N) (hl : l.length ≤ maxLen) : Sl N wr x (bys l) := by
  rcases h with ⟨rfl, rfl⟩ | ⟨g, h1, rfl, h3⟩
  · exact sl_nil _ _
  · refine sl_row h3 (by simp [bys]) (fun j x hj => ?_) (Nat.le_refl _) hl (Nat.lt_of_lt_of_le h3.lt hN)
    have hjn : j < l.length := by
      rcases Nat.lt_or_ge j l.length with h1 | h1
      · exact h1
      · rw [List.getElem?_eq_none (by simp [bys]; exact h1)] at hj; cases hj
    simpa [bys, fn, hjn] using hj

/-- k rows are copied. -/
structure Out (w wr : World) (n k : Nat) (Z : Nat → List Int) (V : Nat → Value) : Prop where
  below : Below w.heap.size w wr
  size : w.heap.size + 1 ≤ wr.heap.size
  row : wr.rowIs w.heap.size 28 n (fun j => if j < k then V j else .slice none 0 0)
  done : ∀ j, j < k → Copy w.heap.size wr (V j) (Z j)
/-- .. and c bytes of row k, in block G. -/
structure Inn (w wi : World) (n k : Nat) (Z : Nat → List Int) (V : Nat → Value) (G c : Nat) : Prop where
  below : Below w.heap.size w wi
  gt : w.heap.size < G
  size : G < wi.heap.size
  row : wi.rowIs w.heap.size 28 n (fun j => if j < k then V j else .slice none 0 0)
  done : ∀ j, j < k → Copy w.heap.size wi (V j) (Z j)
  far : ∀ j, j < k → ∀ g, V j = .slice (some ⟨g, 0, none⟩) (Z j).length (Z j).length → g < G
  cur : wi.rowIs G 5 (Z k).length (fun i => if i < c then .int .u8 (fn (Z k) i) else .int .u8 0)

theorem out_start (w : World) (n : Nat) (Z : Nat → List Int) : Out w (w.alloc (.cells (madeCells #[.slice none 0 0] n) 28)) n 0 Z (fun _ => .slice none 0 0) :=
  ⟨(Below.refl _ _).alloc (Nat.le_refl _) _, by simp, (World.rowIs_made w _ n 28).congr (fun j _ => by simp), fun j hj => absurd hj (Nat.not_lt_zero _)⟩
theorem out_nil {w wr : World} {n k : Nat} {Z : Nat → List Int} {V : Nat → Value} (h : Out w wr n k Z V) (hz : Z k = []) : Out w wr n (k + 1) Z (fun j => if j < k then V j else .slice none 0 0) :=
  ⟨h.below, h.size, h.row.congr (fun j _ => by
      by_cases e : j < k
      · simp [e, show j < k + 1 by omega]
      · simp [e]), fun j hj => by
    by_cases e : j < k
    · simp only [e, if_true]; exact h.done j e
    · obtain rfl : j = k := by omega
      simp only [e, if_false]; exact .inl ⟨rfl, hz⟩⟩
theorem inn_start {w wr : World} {n k : Nat} {Z : Nat → List Int} {V : Nat → Value} (h : Out w wr n k Z V) :
    Inn w (wr.alloc (.cells (madeCells #[.int .u8 0] (Z k).length) 5)) n k Z V wr.heap.size 0 :=
  ⟨h.below.alloc (by have := h.size; omega) _, h.size, by simp, h.row.alloc _, fun j hj => (h.done j hj).alloc _, fun j hj g hg => by
    rcases h.done j hj with ⟨h1, _⟩ | ⟨g', _, h1, h3⟩
    · rw [h1] at hg; cases hg
    · rw [h1] at hg; cases hg; exact h3.lt, (World.rowIs_made wr _ (Z k).length 5).congr (fun j _ => by simp)⟩
theorem inn_step {w wi : World} {n k : Nat} {Z : Nat → List Int} {V : Nat → Value} {G c : Nat} (h : Inn w wi n k Z V G c) :
    Inn w (wi.setCell ⟨G, c, none⟩ (.int .u8 (fn (Z k) c))) n k Z V G (c + 1) :=
  ⟨h.below.setCell (by have := h.gt; show w.heap.size ≤ G; omega) _, h.gt, by simpa [World.setCell] using h.size, h.row.setOther (by have := h.gt; show w.heap.size ≠ G; omega) _,
    fun j hj => (h.done j hj).setOther _ _ (fun g hg _ => by have := h.far j hj g hg; show g ≠ G; omega), h.far, (h.cur.set c _).congr (fun i _ => by
      by_cases e : i = c
      · subst e; simp
      · rw [if_neg e]
        by_cases e2 : i < c
        · rw [if_pos e2, if_pos (by omega)]
        · rw [if_neg e2, if_neg (by omega)])⟩
theorem inn_done {w wi : World} {n k : Nat} {Z : Nat → List Int} {V : Nat → Value} {G : Nat} (h : Inn w wi n k Z V G (Z k).length) :
    Out w (wi.setCell ⟨w.heap.size, k, none⟩ (.slice (some ⟨G, 0, none⟩) (Z k).length (Z k).length)) n (k + 1) Z (fun j => if j < k then V j else .slice (some ⟨G, 0, none⟩) (Z k).length (Z k).length) :=
  ⟨h.below.setCell (Nat.le_refl _) _, by have := h.size; have := h.gt; simp [World.setCell]; omega, (h.row.set k _).congr (fun j _ => by
      by_cases e : j = k
      · subst e; simp
      · rw [if_neg e]
        by_cases e2 : j < k
        · simp [e2, show j < k + 1 by omega]
        · rw [if_neg e2, if_neg (by omega)]), fun j hj => by
    by_cases e : j < k
    · simp only [e, if_true]; exact (h.done j e).setOther _ _ (fun g _ hg => by show g ≠ w.heap.size; omega)
    · obtain rfl : j = k := by omega
      simp only [e, if_false]
      exact .inr ⟨G, h.gt, rfl, (h.cur.setOther (by have := h.gt; show G ≠ w.heap.size; omega) _).congr (fun i hi => by rw [if_pos hi])⟩⟩

theorem out_rws {w wr : World} {ls : List (List Int)} {V : Nat → Value} (h : Out w wr ls.length ls.length (fun r => ls.getD r []) V) (hb : ls.length ≤ maxLen) (hl : ∀ r, r < ls.length → (ls.getD r []).length ≤ maxLen) :
    Rws wr.heap.size wr (.slice (some ⟨w.heap.size, 0, none⟩) ls.length ls.length) ls := by
  refine ⟨(List.range ls.length).map V, by simp, sl_row h.row (by simp) (fun j x hj => ?_) (Nat.le_refl _) hb h.row.lt, fun r x l hx hl' => ?_⟩
  · have hjn : j < ls.length := by
      rcases Nat.lt_or_ge j ls.length with h1 | h1
      · exact h1
      · rw [List.getElem?_eq_none (by simp; exact h1)] at hj; cases hj
    simp [hjn] at hj ⊢
    exact hj
  · have hjn : r < ls.length := by
      rcases Nat.lt_or_ge r ls.length with h1 | h1
      · exact h1
      · rw [List.getElem?_eq_none h1] at hl'; cases hl'
    have e1 : x = V r := by simpa [hjn] using hx.symm
    have e2 : l = ls.getD r [] := by simp [hl']
    rw [e1, e2]
    exact (h.done r hjn).sl (Nat.le_refl _) (hl r hjn)

set_option maxHeartbeats 2000000 in
theorem clone2_walk (N : Nat) (w : World) (v : Value) (ls : List (List Int)) (h : Rws N w v ls) (hN : N ≤ w.heap.size) (hb : ls.length ≤ 1048576) (hbl : ∀ r, r < ls.length → (ls.getD r []).length ≤ 1048576) :
    Calls Tryf.prog 8 #[v] w fun e w' => ∃ v', e = .returned v' ∧ Rws w'.heap.size w' v' ls ∧ Below w.heap.size w w' := by
  obtain ⟨ao, b, o, cap, A, L, C, RB, RO, rfl, g⟩ := h.grid
  have hfin : ∀ (wr : World) V, Out w wr ls.length ls.length (fun r => ls.getD r []) V → Rws wr.heap.size wr (.slice (some ⟨w.heap.size, 0, none⟩) ls.length ls.length) ls := fun wr V ho => out_rws ho (by unfold maxLen; omega) (fun r hr => by have := hbl r hr; unfold maxLen; omega)
  cases ao with
  | none =>
    have hn : ls = [] := List.eq_nil_of_length_eq_zero (by have := g.nil rfl; have := g.le; omega)
    subst hn
    have hq := fun w => Lib.run_eql_slice_nil (P := Tryf.prog) w 22 28 none 0 cap 0 0 Tryf.underlying22
    clear g hfin h
    go_enter Tryf.func8, Tryf.ntmps8
    go_wp2
    go_ret
    exact ⟨_, rfl, ⟨[], rfl, sl_nil _ _, fun r x l hx => by simp at hx⟩, Below.refl _ _⟩
  | some a =>
    have hle := g.le
    have hat := g.at_
    have hlt0 := g.lt
    have hcell := g.cell
    have hrl := g.rlen
    have hrn := g.rnil
    have hrle := g.rle
    have hrat := g.rat
    have hrcell := g.rcell
    have HF : Hid (∀ (wr : World) V, Out w wr ls.length ls.length (fun r => ls.getD r []) V → Rws wr.heap.size wr (.slice (some ⟨w.heap.size, 0, none⟩) ls.length ls.length) ls) := hfin
    have hmk := run_make_row' (P := Tryf.prog) 22 28 (.slice none 0 0) 24 Tryf.underlying22 Tryf.info28 rfl .i64 .i64 ls.length (by omega) (by omega)
    have hq := fun w => Lib.run_eql_slice_nil (P := Tryf.prog) w 22 28 (some a) ls.length cap 0 0 Tryf.underlying22
    obtain ⟨r, hr⟩ : ∃ r, r = ls := ⟨_, rfl⟩
    clear hfin h g
    generalize hZ : (fun r => ls.getD r []) = Z at *
    have hbl' : ∀ r, r < ls.length → (Z r).length ≤ 1048576 := fun r hr => by have := hbl r hr; rw [← hZ]; exact this
    have hrl' : ∀ r, r < ls.length → (Z r).length = L r := fun r hr => by have := hrl r hr; rw [← hZ]; exact this
    have hrcell' : ∀ r, r < ls.length → ∀ j x, (Z r)[j]? = some x → w.cell? ⟨RB r, RO r + j, none⟩ = some (.int .u8 x) := fun r hr => by have := hrcell r hr; rw [← hZ]; exact this
    clear hrcell
    have hrcell := hrcell'
    clear hrcell'
    generalize hn : ls.length = n at *
    clear hbl hrl hn hZ
    have hst := out_start w n Z
    go_enter Tryf.func8, Tryf.ntmps8
    go_wp2
    clear hmk hq
    go_loopw [4] (fun i wr => ∃ (k : Nat) (V : Nat → Value), k ≤ n ∧ i = .int .i64 k ∧ Out w wr n k Z V) (fun i _ => n - (intOf i).toNat)
    case atStart => exact ⟨0, _, Nat.zero_le _, rfl, hst⟩
    case round =>
      obtain ⟨k, V, hk, rfl, hO⟩ := hrel
      clear hst
      by_cases hlt : k < n
      · obtain rfl := Option.some.inj (hat (by omega))
        have hbw : b < w.heap.size := by have := hlt0 (by omega); omega
        have g0 : wr.cell? ⟨b, o + k, none⟩ = some (.slice (A k) (L k) (C k)) := by rw [hO.below.cell (p := ⟨b, o + k, none⟩) hbw]; exact hcell k hlt
        have hLb : L k ≤ 1048576 := by rw [← hrl' k hlt]; exact hbl' k hlt
        by_cases hA : A k = none
        · have hz : Z k = [] := List.eq_nil_of_length_eq_zero (by have := hrn k hlt hA; have := (hrle k hlt).1; have := hrl' k hlt; omega)
          have hON := out_nil hO hz
          rw [hA] at g0
          have hq := fun w => run_neq_slice_nil_any (P := Tryf.prog) w 28 5 none (L k) (C k) 0 0 Tryf.underlying28
          clear hO hcell hrcell hrat hrn hrle hA
          go_wp2
          go_roundw
          case rel => exact ⟨k + 1, _, by omega, by go_num, hON⟩
          case measure => simp [intOf]; omega
        · obtain ⟨a', ha'⟩ : ∃ a', A k = some a' := by cases hx : A k with | none => exact absurd hx hA | some a' => exact ⟨a', rfl⟩
          have hrat' := fun hp => (hrat k hlt hp)
          rw [ha'] at hrat' g0
          have hq := fun w => run_neq_slice_nil_any (P := Tryf.prog) w 28 5 (some a') (L k) (C k) 0 0 Tryf.underlying28
          have hmk := run_make_row' (P := Tryf.prog) 28 5 (.int .u8 0) 1 Tryf.underlying28 Tryf.info5 rfl .i64 .i64 (L k) (by omega) (by omega)
          have hI := inn_start hO
          rw [hrl' k hlt] at hI
          have hcellk := hcell k hlt
          rw [ha'] at hcellk
          have hrc := hrcell k hlt
          have hzl := hrl' k hlt
          have HO : Hid (Out w wr n k Z V) := hO
          clear hO hA ha' hrat hrn hrle hcell hrcell
          go_wp2
          clear hmk hq g0
          obtain ⟨wo, rfl⟩ : ∃ wo : World, wo = wr := ⟨_, rfl⟩
          go_loopw [6] (fun i wi => ∃ c : Nat, c ≤ L k ∧ i = .int .i64 c ∧ Inn w wi n k Z V wo.heap.size c) (fun i _ => L k - (intOf i).toNat)
          case atStart => exact ⟨0, Nat.zero_le _, rfl, hI⟩
          case round =>
            clear hI
            obtain ⟨c, hcL, rfl, hI⟩ := hrel
            have t1 : wr.cell? ⟨b, o + k, none⟩ = some (.slice (some a') (L k) (C k)) := by rw [hI.below.cell (p := ⟨b, o + k, none⟩) hbw]; exact hcellk
            by_cases hlc : c < L k
            · obtain ⟨ha, hRB⟩ := hrat' (by omega)
              obtain rfl := Option.some.inj ha
              clear ha
              have t2 : wr.cell? ⟨RB k, RO k + c, none⟩ = some (.int .u8 (fn (Z k) c)) := by
                rw [hI.below.cell (p := ⟨RB k, RO k + c, none⟩) (by show RB k < w.heap.size; omega)]
                exact hrc c _ (fn_get (Z k) c (by omega))
              have hcz : c < (Z k).length := by omega
              have t3 := hI.cur.cell hcz
              rw [if_neg (Nat.lt_irrefl c)] at t3
              have t4 := hI.cur.frozen c
              have hS := inn_step hI
              generalize fn (Z k) c = x at *
              clear hI hrat' hrc hcellk
              go_wp2
              go_roundw
              case rel => exact ⟨c + 1, by omega, by go_num, hS⟩
              case measure => simp [intOf]; omega
            · obtain rfl : c = L k := by omega
              have t3 := hI.row.cell hlt
              rw [if_neg (Nat.lt_irrefl k)] at t3
              have t4 := hI.row.frozen k
              rw [← hzl] at hI
              have hD := inn_done hI
              rw [hzl] at hD
              clear hI hrat' hrc hcellk
              go_wp2
              go_roundw
              case rel => exact ⟨k + 1, _, by omega, by go_num, hD⟩
              case measure => simp [intOf]; omega
      · obtain rfl : k = n := by omega
        go_wp2
        go_ret
        exact ⟨_, rfl, HF.out _ _ hO, hO.below⟩
end Go.Proofs.Qxb6630537aFmt
