/-
  The lexer's quoted, walked (seat b6630611a).
-/
import Derived.Test.Qxb6630611aBld
import Derived.Test.Qxb6630611aShelf
import Derived.Test.Qxb6630611aPlain
import Derived.BigQuiet
import Derived.Deep.LoopGhost
import Derived.StillTailTactics
namespace Go.Proofs.Qxb6630611a
open Go.RowKit

theorem mixed : Try.prog.follows .mixedOrders = true := by kernel_rfl

/-- The lexer's struct in block Lx. -/
def Lex (w : World) (Lx : Nat) (s : ByteArray) (m p : Int) (ic rf : Bool) (we : Int) (qu : Bool) : Prop :=
  w.heap[Lx]? = some (.cells #[.string s, .int .u64 m, .int .i64 p, .bool ic, .bool rf, .int .i64 we, .bool qu] 32 (0, 0))

theorem heap_setCell_at {w : World} {C : Nat} {cs : Array Value} {t : TypeId} (h : w.heap[C]? = some (.cells cs t (0, 0))) (j : Nat) (v : Value) : (w.setCell ⟨C, j, none⟩ v).heap[C]? = some (.cells (cs.setIfInBounds j v) t (0, 0)) := by
  simp [World.setCell, Array.getElem?_modify, h]
theorem Lex.cells {w : World} {Lx : Nat} {s : ByteArray} {m p : Int} {ic rf : Bool} {we : Int} {qu : Bool} (h : Lex w Lx s m p ic rf we qu) :
    w.cell? ⟨Lx, 0, none⟩ = some (.string s) ∧ w.cell? ⟨Lx, 2, none⟩ = some (.int .i64 p) ∧ w.frozen? ⟨Lx, 2, none⟩ = false ∧ w.frozen? ⟨Lx, 4, none⟩ = false := by
  unfold Lex at h
  refine ⟨?_, ?_, ?_, ?_⟩ <;> simp [World.cell?, World.frozen?, h]

theorem Lex.cell4 {w : World} {Lx : Nat} {s : ByteArray} {m p : Int} {ic rf : Bool} {we : Int} {qu : Bool} (h : Lex w Lx s m p ic rf we qu) : w.cell? ⟨Lx, 4, none⟩ = some (.bool rf) := by
  unfold Lex at h
  simp [World.cell?, h]

theorem bld_setCell {B b : Nat} {bs : List Value} {w : World} (h : Lib.IsBuilder 37 5 B b bs w) {a : Addr} (ha : a.block < B) (u : Value) : Lib.IsBuilder 37 5 B b bs (w.setCell a u) := by
  rcases h with ⟨hB, v, hb, ho, hn⟩ | ⟨hB, v, hb, ho, hn⟩
  · exact .inl ⟨hB, v, by rw [Below.heap_setCell _ _ _ _ (by omega)]; exact hb, ownsRow_setCell_below ho ha u, hn⟩
  · exact .inr ⟨hB, v, by rw [Below.heap_setCell _ _ _ _ (by omega)]; exact hb, ownsRow_setCell_below ho ha u, hn⟩

/-- What stands in a round: the lexer at p, the builder's bytes, all below Lx as it was. -/
structure St (Lx : Nat) (w wr : World) (s : ByteArray) (m : Int) (p : Nat) (ic rf : Bool) (we : Int) (qu : Bool) (acc : List UInt8) : Prop where
  lex : Lex wr Lx s m p ic rf we qu
  bld : Lib.IsBuilder 37 5 (Lx + 1) (Lx + 1) (Lib.byteCells acc) wr
  frame : Below Lx w wr

section
variable {Lx : Nat} {w wr w' : World} {s : ByteArray} {m : Int} {p : Nat} {ic rf : Bool} {we : Int} {qu : Bool} {acc : List UInt8}
theorem St.lt (h : St Lx w wr s m p ic rf we qu acc) : Lx + 1 < wr.heap.size := by
  rcases h.bld with h | h
  · exact h.lt
  · exact h.lt
theorem St.drew (h : St Lx w wr s m p ic rf we qu acc) : St Lx w wr.drew s m p ic rf we qu acc := ⟨h.lex, h.bld, h.frame.drew⟩
theorem St.drewN (h : St Lx w wr s m p ic rf we qu acc) (q : Nat) : St Lx w (wr.drewN q) s m p ic rf we qu acc := by
  induction q with
  | zero => exact h
  | succ q ih => exact ⟨ih.lex, ih.bld, ih.frame.drew⟩
theorem St.set (h : St Lx w wr s m p ic rf we qu acc) (p' : Nat) : St Lx w (wr.setCell ⟨Lx, 2, none⟩ (.int .i64 p')) s m p' ic rf we qu acc :=
  ⟨by have := heap_setCell_at h.lex 2 (.int .i64 p'); exact this, bld_setCell h.bld (by show Lx < Lx + 1; omega) _, h.frame.setCell (p := ⟨Lx, 2, none⟩) (Nat.le_refl _) _⟩
theorem St.set1 (h : St Lx w wr s m p ic rf we qu acc) : St Lx w (wr.setCell ⟨Lx, 2, none⟩ (.int .i64 ((p : Int) + 1))) s m (p + 1) ic rf we qu acc := h.set (p + 1)
theorem St.refuse (h : St Lx w wr s m p ic rf we qu acc) : St Lx w (wr.setCell ⟨Lx, 4, none⟩ (.bool true)) s m p ic true we qu acc :=
  ⟨by have := heap_setCell_at h.lex 4 (.bool true); exact this, bld_setCell h.bld (by show Lx < Lx + 1; omega) _, h.frame.setCell (p := ⟨Lx, 4, none⟩) (Nat.le_refl _) _⟩
theorem St.wrote (h : St Lx w wr s m p ic rf we qu acc) {c : UInt8} (hb : Lib.BuilderAt 37 5 (Lx + 1) (Lx + 1) (.pointer (some ⟨Lx + 1, 0, none⟩)) (Lib.byteCells acc ++ [.int .u8 c.toNat]) w') (hk : Below (Lx + 1) wr w') : St Lx w w' s m p ic rf we qu (acc ++ [c]) := by
  refine ⟨?_, .inr ?_, h.frame.trans (hk.mono (by omega))⟩
  · have := h.lex; unfold Lex at this ⊢; rw [hk.block Lx (by omega)]; exact this
  · have e : Lib.byteCells (acc ++ [c]) = Lib.byteCells acc ++ [.int .u8 c.toNat] := by simp [Lib.byteCells]
    rw [e]; exact hb
end

/-- What quoted leaves. -/
def Left (Lx : Nat) (w w' : World) (s : ByteArray) (m : Int) (en : Nat) (ic rf : Bool) (we : Int) (qu : Bool) : Prop := Lex w' Lx s m en ic rf we qu ∧ Below Lx w w'
theorem St.left {Lx : Nat} {w wr w' : World} {s : ByteArray} {m : Int} {p : Nat} {ic rf : Bool} {we : Int} {qu : Bool} {acc : List UInt8} (h : St Lx w wr s m p ic rf we qu acc) (hk : Below (Lx + 1) wr w') : Left Lx w w' s m p ic rf we qu := by
  refine ⟨?_, h.frame.trans (hk.mono (by omega))⟩
  have := h.lex; unfold Lex at this ⊢; rw [hk.block Lx (by omega)]; exact this

/-- The loop's relation. -/
def Rel (Lx : Nat) (w wr : World) (s : ByteArray) (q : UInt8) (bk : Bool) (m : Int) (ic rf : Bool) (we : Int) (qu : Bool) (out : List UInt8) (E : Nat) (shut : Bool) (g : Nat) : Prop :=
  ∃ (p : Nat) (acc : List UInt8), p ≤ s.size ∧ s.size - p ≤ g ∧ St Lx w wr s m p ic rf we qu acc ∧ acc ++ (qrun s q bk g p).1 = out ∧ (qrun s q bk g p).2 = (E, shut)

theorem u8_ne {a b : UInt8} (h : a ≠ b) : ¬ ((a.toNat : Int) = b.toNat) := fun e => h (UInt8.toNat_inj.1 (by omega))

set_option maxRecDepth 20000 in
set_option maxHeartbeats 4000000 in
theorem quoted_walk (Lx : Nat) (w : World) (s : ByteArray) (q : UInt8) (bk : Bool) (m : Int) (pos : Nat) (ic rf : Bool) (we : Int) (qu : Bool) (hl : Lex w Lx s m pos ic rf we qu) (hw : w.heap.size = Lx + 1) (hp : pos < s.size) (hs : s.size ≤ 2097152)
    (out : List UInt8) (E : Nat) (shut : Bool) (hq : qrun s q bk s.size (pos + 1) = (out, E, shut)) :
    Calls Try.prog 8 #[.pointer (some ⟨Lx, 0, none⟩), .int .u8 q.toNat, .bool bk] w fun e w' => e = .returned (.string ⟨out.toArray⟩) ∧ Left Lx w w' s m E ic (rf || !shut) we qu := by
  have hout : out.length ≤ 2097152 := by
    have := qrun_out (s := s) (q := q) (bk := bk) s.size (pos + 1) (by omega)
    have h2 := (qrun_le (s := s) (q := q) (bk := bk) s.size (pos + 1) (by omega)).2
    rw [hq] at this h2
    simp only at this h2; omega
  have HQ : Hid (qrun s q bk s.size (pos + 1) = (out, E, shut)) := hq
  have HL : Hid (Lex w Lx s m pos ic rf we qu) := hl
  obtain ⟨c0, c2, f2, f4⟩ := hl.cells
  have hne : ¬ Lx = w.heap.size := by omega
  have e1 : IntKind.i64.wrap ((pos : Int) + 1) = (pos : Int) + 1 := by rw [IntKind.wrap_i64]; omega
  clear hq hl
  obtain ⟨qi, hqi⟩ : ∃ c : Int, c = (q.toNat : Int) := ⟨_, rfl⟩
  rw [← hqi]
  have HQI : Hid (qi = (q.toNat : Int)) := hqi
  clear hqi
  go_enter Try.func8, Try.ntmps8
  go_wp2
  go_loopg [8] s.size (fun g _ wr => Rel Lx w wr s q bk m ic rf we qu out E shut g)
  case atStart =>
    refine ⟨pos + 1, [], by omega, by omega, ⟨?_, ?_, ?_⟩, by rw [HQ.out]; rfl, by rw [HQ.out]⟩
    · have h1 : Lex (w.setCell ⟨Lx, 2, none⟩ (.int .i64 ((pos : Int) + 1))) Lx s m ((pos : Int) + 1) ic rf we qu := heap_setCell_at HL.out 2 (.int .i64 ((pos : Int) + 1))
      unfold Lex at h1 ⊢
      rw [Below.heap_alloc _ _ _ (by simp; omega)]
      exact h1
    · have h1 := Lib.fresh_isBuilder 37 5 (w.setCell ⟨Lx, 2, none⟩ (.int .i64 ((pos : Int) + 1)))
      have h2 : (w.setCell ⟨Lx, 2, none⟩ (.int .i64 ((pos : Int) + 1))).heap.size = Lx + 1 := by simp [hw]
      rw [h2] at h1
      exact h1
    · exact ((Below.refl Lx w).setCell (p := ⟨Lx, 2, none⟩) (Nat.le_refl _) _).alloc (by simp; omega) _
  case round =>
    clear c0 c2 f2 f4 hne e1 HQ HL hp
    obtain ⟨p, acc, hps, hg, hst, hacc, hE⟩ := hrel
    obtain ⟨c0, c2, f2, f4⟩ := hst.lex.cells
    have hal : acc.length ≤ 2097152 := by
      have := congrArg List.length hacc
      simp only [List.length_append] at this
      omega
    have HST : Hid (St Lx w wr s m p ic rf we qu acc) := hst
    have HACC : Hid (acc ++ (qrun s q bk gk p).1 = out) := hacc
    have HE : Hid ((qrun s q bk gk p).2 = (E, shut)) := hE
    clear hst hacc hE
    have e1 : IntKind.i64.wrap ((p : Int) + 1) = (p : Int) + 1 := by rw [IntKind.wrap_i64]; omega
    have e2 : IntKind.i64.wrap ((p : Int) + 1 + 1) = (p : Int) + 1 + 1 := by rw [IntKind.wrap_i64]; omega
    by_cases hlt : p < s.size
    · obtain ⟨gn, rfl⟩ : ∃ g', gk = g' + 1 := ⟨gk - 1, by omega⟩
      have i0 : ∀ w, (Instr.index 9 (.string s) (.int .i64 (p : Int))).run Try.prog w = .ok (.int .u8 (ch s p).toNat) w := fun w => by
        rw [run_index_string _ _ _ _ _ Try.underlying9, dif_pos ⟨by omega, by omega⟩]; simp [ch_at s p hlt]
      have HL : Hid (p < s.size) := hlt
      by_cases hesc : ch s p = 92 ∧ bk = true ∧ p + 1 < s.size
      · obtain ⟨h92, rfl, hp1⟩ := hesc
        have HX : Hid (qrun s q true (gn + 1) p = (ch s (p + 1) :: (qrun s q true gn (p + 2)).1, (qrun s q true gn (p + 2)).2)) := qrun_esc hlt ⟨h92, rfl, hp1⟩
        have i1 : ∀ w, (Instr.index 9 (.string s) (.int .i64 ((p : Int) + 1))).run Try.prog w = .ok (.int .u8 (ch s (p + 1)).toNat) w := fun w => by
          rw [run_index_string _ _ _ _ _ Try.underlying9, dif_pos ⟨by omega, by omega⟩]
          have : ((p : Int) + 1).toNat = p + 1 := by omega
          simp only [this, ch_at s (p + 1) hp1]
        have t1 : ((ch s p).toNat : Int) = 92 := by rw [h92]; rfl
        have t2 : (p : Int) + 1 < s.size := by omega
        generalize ((ch s p).toNat : Int) = c at *
        subst t1
        have t0 : (p : Int) < s.size := by omega
        have HN : Hid (s.size - p ≤ gn + 1 ∧ p + 1 < s.size) := ⟨hg, hp1⟩
        clear hg hps hlt hp1 h92 HL
        go_wp2
        go_quiet (fail)
        generalize nq = n1
        go_wp2
        go_quiet (fail)
        generalize nq = n2
        go_wp2
        generalize hW1 : ((wr.drewN (n1 + n2)).setCell ⟨Lx, 2, none⟩ (.int .i64 ((p : Int) + 1))) = w1
        have hs1 : St Lx w w1 s m (p + 1) ic rf we qu acc := by rw [← hW1]; exact (HST.out.drewN _).set1
        clear c0 c2 f2 f4 hW1
        obtain ⟨c0, c2, f2, f4⟩ := hs1.lex.cells
        have HS1 : Hid (St Lx w w1 s m (p + 1) ic rf we qu acc) := hs1
        clear hs1
        have z1 : (((p + 1 : Nat)) : Int) = (p : Int) + 1 := by omega
        rw [z1] at c2
        clear z1
        go_quiet (fail)
        generalize nq = n3
        go_wp2
        generalize hW2 : w1.drewN n3 = w2
        have hs1 : St Lx w w2 s m (p + 1) ic rf we qu acc := by rw [← hW2]; exact HS1.out.drewN _
        clear c0 c2 f2 f4 hW2 HS1
        obtain ⟨c0, c2, f2, f4⟩ := hs1.lex.cells
        have HS1 : Hid (St Lx w w2 s m (p + 1) ic rf we qu acc) := hs1
        have z1 : (((p + 1 : Nat)) : Int) = (p : Int) + 1 := by omega
        rw [z1] at c2
        clear hs1 z1
        refine wp_region_still_tail 9 mixed (by kernel_rfl) ?_
        simp only [List.take_succ_cons, List.take_zero, List.drop_succ_cons, List.drop_zero]
        repeat still_step
        try refine wpStill_nil ?_
        go_wp2_with fail
        refine (writeByte_any (Lx + 1) (Lx + 1) (Lib.byteCells acc) _ _ HS1.out.drew.bld (by rw [Lib.byteCells_length]; omega) (by have := HS1.out.lt; show _ ≤ w2.heap.size; omega)).mono ?_
        rintro e w3 ⟨rfl, hb3, hk3⟩
        have hs3 := HS1.out.drew.wrote hb3 hk3
        clear c0 c2 f2 f4 hb3 hk3 HS1
        obtain ⟨c0, c2, f2, f4⟩ := hs3.lex.cells
        have HS3 : Hid (St Lx w w3 s m (p + 1) ic rf we qu (acc ++ [ch s (p + 1)])) := hs3
        have z1 : (((p + 1 : Nat)) : Int) = (p : Int) + 1 := by omega
        rw [z1] at c2
        clear hs3 z1
        go_wp2
        go_roundg gn
        case measure => omega
        case rel =>
          have hN := HN.out
          have hX := HX.out
          have hE := HE.out
          have hA := HACC.out
          rw [hX] at hE hA
          refine ⟨p + 2, acc ++ [ch s (p + 1)], by omega, by omega, HS3.out.set (p + 2), ?_, hE⟩
          rw [List.append_assoc]; exact hA
      · have HH : Hid (¬ (ch s p = 92 ∧ bk = true ∧ p + 1 < s.size)) := hesc
        clear hesc
        obtain ⟨c, hc⟩ : ∃ c : Int, c = ((ch s p).toNat : Int) := ⟨_, rfl⟩
        rw [← hc] at i0
        have HC : Hid (c = ((ch s p).toNat : Int)) := hc
        have h92 : c = 92 ↔ ch s p = 92 := by rw [hc]; exact ⟨fun e => UInt8.toNat_inj.1 (by show (ch s p).toNat = 92; omega), fun e => by rw [e]; rfl⟩
        have hcq : c = qi ↔ ch s p = q := by rw [hc, HQI.out]; exact ⟨fun e => UInt8.toNat_inj.1 (by omega), fun e => by rw [e]⟩
        clear hc
        have hwhy : ¬ c = 92 ∨ (c = 92 ∧ bk = false) ∨ (c = 92 ∧ bk = true ∧ ¬ p + 1 < s.size) := by
          by_cases e1 : c = 92
          · by_cases e2 : bk = true
            · exact .inr (.inr ⟨e1, e2, fun x => HH.out ⟨h92.1 e1, e2, x⟩⟩)
            · exact .inr (.inl ⟨e1, by simpa using e2⟩)
          · exact .inl e1
        by_cases hq1 : ch s p = q
        · have hcq' : qi = c := (hcq.2 hq1).symm
          subst hcq'
          clear hcq
          by_cases hp1 : p + 1 < s.size
          · have i1 : ∀ w, (Instr.index 9 (.string s) (.int .i64 ((p : Int) + 1))).run Try.prog w = .ok (.int .u8 (ch s (p + 1)).toNat) w := fun w => by
              rw [run_index_string _ _ _ _ _ Try.underlying9, dif_pos ⟨by omega, by omega⟩]
              have : ((p : Int) + 1).toNat = p + 1 := by omega
              simp only [this, ch_at s (p + 1) hp1]
            have t2 : (p : Int) + 1 < s.size := by omega
            have HP : Hid (p + 1 < s.size) := hp1
            by_cases hd : ch s (p + 1) = q
            · have HX : Hid (qrun s q bk (gn + 1) p = (q :: (qrun s q bk gn (p + 2)).1, (qrun s q bk gn (p + 2)).2)) := qrun_twice hlt HH.out hq1 ⟨hp1, hd⟩
              rw [hd, ← HQI.out] at i1
              clear h92 hq1 hd
              rcases hwhy with hw92 | ⟨rfl, rfl⟩ | ⟨_, _, hx⟩
              · have d92 : (qi == 92) = false := by simpa using hw92
                clear hp1 hw92
                have t0 : (p : Int) < s.size := by omega
                have HN : Hid (s.size - p ≤ gn + 1 ∧ p < s.size) := ⟨hg, hlt⟩
                clear hg hps hlt HL
                go_wp2
                go_quiet (fail)
                generalize nq = n1
                go_wp2
                go_quiet (fail)
                generalize nq = n2
                go_wp2
                generalize hW1 : ((wr.drewN (n1 + n2)).setCell ⟨Lx, 2, none⟩ (.int .i64 ((p : Int) + 1))) = w1
                have hs1 : St Lx w w1 s m (p + 1) ic rf we qu acc := by rw [← hW1]; exact (HST.out.drewN _).set1
                clear c0 c2 f2 f4 hW1
                obtain ⟨c0, c2, f2, f4⟩ := hs1.lex.cells
                have HS1 : Hid (St Lx w w1 s m (p + 1) ic rf we qu acc) := hs1
                have z1 : (((p + 1 : Nat)) : Int) = (p : Int) + 1 := by omega
                rw [z1] at c2
                clear hs1 z1
                go_quiet (fail)
                generalize nq = n3
                go_wp2
                go_quiet (fail)
                generalize nq = n4
                go_wp2_with fail
                refine (writeByte_any (Lx + 1) (Lx + 1) (Lib.byteCells acc) _ _ (HS1.out.drewN _).bld (by rw [Lib.byteCells_length]; omega) (by have := (HS1.out.drewN (n3 + n4)).lt; omega)).mono ?_
                rintro e w3 ⟨rfl, hb3, hk3⟩
                have hb4 : Lib.BuilderAt 37 5 (Lx + 1) (Lx + 1) (.pointer (some ⟨Lx + 1, 0, none⟩)) (Lib.byteCells acc ++ [.int .u8 q.toNat]) w3 := by rw [← HQI.out]; exact hb3
                have hs3 := (HS1.out.drewN (n3 + n4)).wrote hb4 hk3
                clear c0 c2 f2 f4 hb3 hk3 HS1 hb4
                obtain ⟨c0, c2, f2, f4⟩ := hs3.lex.cells
                have HS3 : Hid (St Lx w w3 s m (p + 1) ic rf we qu (acc ++ [q])) := hs3
                have z1 : (((p + 1 : Nat)) : Int) = (p : Int) + 1 := by omega
                rw [z1] at c2
                clear hs3 z1
                go_wp2
                go_roundg gn
                case measure => omega
                case rel =>
                  have hN := HN.out
                  have hE := HE.out
                  have hA := HACC.out
                  rw [HX.out] at hE hA
                  refine ⟨p + 2, acc ++ [q], by have := HP.out; omega, by omega, HS3.out.set (p + 2), ?_, hE⟩
                  rw [List.append_assoc]; exact hA
              · clear hp1
                have t0 : (p : Int) < s.size := by omega
                have HN : Hid (s.size - p ≤ gn + 1 ∧ p < s.size) := ⟨hg, hlt⟩
                clear hg hps hlt HL
                go_wp2
                go_quiet (fail)
                generalize nq = n1
                go_wp2
                go_quiet (fail)
                generalize nq = n2
                go_wp2
                generalize hW1 : ((wr.drewN (n1 + n2)).setCell ⟨Lx, 2, none⟩ (.int .i64 ((p : Int) + 1))) = w1
                have hs1 : St Lx w w1 s m (p + 1) ic rf we qu acc := by rw [← hW1]; exact (HST.out.drewN _).set1
                clear c0 c2 f2 f4 hW1
                obtain ⟨c0, c2, f2, f4⟩ := hs1.lex.cells
                have HS1 : Hid (St Lx w w1 s m (p + 1) ic rf we qu acc) := hs1
                have z1 : (((p + 1 : Nat)) : Int) = (p : Int) + 1 := by omega
                rw [z1] at c2
                clear hs1 z1
                go_quiet (fail)
                generalize nq = n3
                go_wp2
                go_quiet (fail)
                generalize nq = n4
                go_wp2_with fail
                refine (writeByte_any (Lx + 1) (Lx + 1) (Lib.byteCells acc) _ _ (HS1.out.drewN _).bld (by rw [Lib.byteCells_length]; omega) (by have := (HS1.out.drewN (n3 + n4)).lt; omega)).mono ?_
                rintro e w3 ⟨rfl, hb3, hk3⟩
                have hb4 : Lib.BuilderAt 37 5 (Lx + 1) (Lx + 1) (.pointer (some ⟨Lx + 1, 0, none⟩)) (Lib.byteCells acc ++ [.int .u8 q.toNat]) w3 := by rw [← HQI.out]; exact hb3
                have hs3 := (HS1.out.drewN (n3 + n4)).wrote hb4 hk3
                clear c0 c2 f2 f4 hb3 hk3 HS1 hb4
                obtain ⟨c0, c2, f2, f4⟩ := hs3.lex.cells
                have HS3 : Hid (St Lx w w3 s m (p + 1) ic rf we qu (acc ++ [q])) := hs3
                have z1 : (((p + 1 : Nat)) : Int) = (p : Int) + 1 := by omega
                rw [z1] at c2
                clear hs3 z1
                go_wp2
                go_roundg gn
                case measure => omega
                case rel =>
                  have hN := HN.out
                  have hE := HE.out
                  have hA := HACC.out
                  rw [HX.out] at hE hA
                  refine ⟨p + 2, acc ++ [q], by have := HP.out; omega, by omega, HS3.out.set (p + 2), ?_, hE⟩
                  rw [List.append_assoc]; exact hA
              · exact absurd hp1 hx
            · have HX : Hid (qrun s q bk (gn + 1) p = ([], p + 1, true)) := qrun_close hlt HH.out hq1 (fun x => hd x.2)
              have hdd : (((ch s (p + 1)).toNat : Int) == qi) = false := by rw [HQI.out]; simpa using u8_ne hd
              generalize ((ch s (p + 1)).toNat : Int) = d at *
              clear h92 hq1 hd
              rcases hwhy with hw92 | ⟨rfl, rfl⟩ | ⟨_, _, hx⟩
              · have d92 : (qi == 92) = false := by simpa using hw92
                clear hp1 hw92
                have t0 : (p : Int) < s.size := by omega
                have HN : Hid (s.size - p ≤ gn + 1 ∧ p < s.size) := ⟨hg, hlt⟩
                clear hg hps hlt HL
                go_wp2
                go_quiet (fail)
                generalize nq = n1
                go_wp2
                go_quiet (fail)
                generalize nq = n2
                go_wp2
                generalize hW1 : ((wr.drewN (n1 + n2)).setCell ⟨Lx, 2, none⟩ (.int .i64 ((p : Int) + 1))) = w1
                have hs1 : St Lx w w1 s m (p + 1) ic rf we qu acc := by rw [← hW1]; exact (HST.out.drewN _).set1
                clear c0 c2 f2 f4 hW1
                obtain ⟨c0, c2, f2, f4⟩ := hs1.lex.cells
                have HS1 : Hid (St Lx w w1 s m (p + 1) ic rf we qu acc) := hs1
                have z1 : (((p + 1 : Nat)) : Int) = (p : Int) + 1 := by omega
                rw [z1] at c2
                clear hs1 z1
                go_quiet (fail)
                generalize nq = n3
                go_wp2
                go_quiet (fail)
                generalize nq = n4
                go_wp2_with fail
                refine (string_any (Lx + 1) (Lx + 1) acc _ (HS1.out.drewN _).bld (by have := (HS1.out.drewN (n3 + n4)).lt; omega)).mono ?_
                rintro e w3 ⟨rfl, hk3⟩
                have HL3 := (HS1.out.drewN (n3 + n4)).left hk3
                have HLL : Hid (Left Lx w w3 s m (p + 1 : Nat) ic rf we qu) := HL3
                have hk4 := hk3.size
                clear c0 c2 f2 f4 HS1 HL3 hk3
                go_wp2
                go_ret
                have hE := HE.out
                have hA := HACC.out
                rw [HX.out] at hE hA
                injection hE with hE1 hE2
                subst hE1 hE2
                have hA' : acc = out := by simpa using hA
                subst hA'
                exact ⟨rfl, by simpa using HLL.out⟩
              · clear hp1
                have t0 : (p : Int) < s.size := by omega
                have HN : Hid (s.size - p ≤ gn + 1 ∧ p < s.size) := ⟨hg, hlt⟩
                clear hg hps hlt HL
                go_wp2
                go_quiet (fail)
                generalize nq = n1
                go_wp2
                go_quiet (fail)
                generalize nq = n2
                go_wp2
                generalize hW1 : ((wr.drewN (n1 + n2)).setCell ⟨Lx, 2, none⟩ (.int .i64 ((p : Int) + 1))) = w1
                have hs1 : St Lx w w1 s m (p + 1) ic rf we qu acc := by rw [← hW1]; exact (HST.out.drewN _).set1
                clear c0 c2 f2 f4 hW1
                obtain ⟨c0, c2, f2, f4⟩ := hs1.lex.cells
                have HS1 : Hid (St Lx w w1 s m (p + 1) ic rf we qu acc) := hs1
                have z1 : (((p + 1 : Nat)) : Int) = (p : Int) + 1 := by omega
                rw [z1] at c2
                clear hs1 z1
                go_quiet (fail)
                generalize nq = n3
                go_wp2
                go_quiet (fail)
                generalize nq = n4
                go_wp2_with fail
                refine (string_any (Lx + 1) (Lx + 1) acc _ (HS1.out.drewN _).bld (by have := (HS1.out.drewN (n3 + n4)).lt; omega)).mono ?_
                rintro e w3 ⟨rfl, hk3⟩
                have HL3 := (HS1.out.drewN (n3 + n4)).left hk3
                have HLL : Hid (Left Lx w w3 s m (p + 1 : Nat) ic rf we qu) := HL3
                have hk4 := hk3.size
                clear c0 c2 f2 f4 HS1 HL3 hk3
                go_wp2
                go_ret
                have hE := HE.out
                have hA := HACC.out
                rw [HX.out] at hE hA
                injection hE with hE1 hE2
                subst hE1 hE2
                have hA' : acc = out := by simpa using hA
                subst hA'
                exact ⟨rfl, by simpa using HLL.out⟩
              · exact absurd hp1 hx
          · have HX : Hid (qrun s q bk (gn + 1) p = ([], p + 1, true)) := qrun_close hlt HH.out hq1 (fun x => hp1 x.1)
            have t2 : decide ((p : Int) + 1 < s.size) = false := decide_eq_false (by omega)
            clear h92 hq1
            rcases hwhy with hw92 | ⟨rfl, rfl⟩ | ⟨rfl, rfl, -⟩
            · have d92 : (qi == 92) = false := by simpa using hw92
              clear hp1 hw92
              have t0 : (p : Int) < s.size := by omega
              have HN : Hid (s.size - p ≤ gn + 1 ∧ p < s.size) := ⟨hg, hlt⟩
              clear hg hps hlt HL
              go_wp2
              go_quiet (fail)
              generalize nq = n1
              go_wp2
              go_quiet (fail)
              generalize nq = n2
              go_wp2
              generalize hW1 : ((wr.drewN (n1 + n2)).setCell ⟨Lx, 2, none⟩ (.int .i64 ((p : Int) + 1))) = w1
              have hs1 : St Lx w w1 s m (p + 1) ic rf we qu acc := by rw [← hW1]; exact (HST.out.drewN _).set1
              clear c0 c2 f2 f4 hW1
              obtain ⟨c0, c2, f2, f4⟩ := hs1.lex.cells
              have HS1 : Hid (St Lx w w1 s m (p + 1) ic rf we qu acc) := hs1
              have z1 : (((p + 1 : Nat)) : Int) = (p : Int) + 1 := by omega
              rw [z1] at c2
              clear hs1 z1
              go_quiet (fail)
              generalize nq = n3
              go_wp2
              go_quiet (fail)
              generalize nq = n4
              go_wp2_with fail
              refine (string_any (Lx + 1) (Lx + 1) acc _ (HS1.out.drewN _).bld (by have := (HS1.out.drewN (n3 + n4)).lt; omega)).mono ?_
              rintro e w3 ⟨rfl, hk3⟩
              have HL3 := (HS1.out.drewN (n3 + n4)).left hk3
              have HLL : Hid (Left Lx w w3 s m (p + 1 : Nat) ic rf we qu) := HL3
              have hk4 := hk3.size
              clear c0 c2 f2 f4 HS1 HL3 hk3
              go_wp2
              go_ret
              have hE := HE.out
              have hA := HACC.out
              rw [HX.out] at hE hA
              injection hE with hE1 hE2
              subst hE1 hE2
              have hA' : acc = out := by simpa using hA
              subst hA'
              exact ⟨rfl, by simpa using HLL.out⟩
            · clear hp1
              have t0 : (p : Int) < s.size := by omega
              have HN : Hid (s.size - p ≤ gn + 1 ∧ p < s.size) := ⟨hg, hlt⟩
              clear hg hps hlt HL
              go_wp2
              go_quiet (fail)
              generalize nq = n1
              go_wp2
              go_quiet (fail)
              generalize nq = n2
              go_wp2
              generalize hW1 : ((wr.drewN (n1 + n2)).setCell ⟨Lx, 2, none⟩ (.int .i64 ((p : Int) + 1))) = w1
              have hs1 : St Lx w w1 s m (p + 1) ic rf we qu acc := by rw [← hW1]; exact (HST.out.drewN _).set1
              clear c0 c2 f2 f4 hW1
              obtain ⟨c0, c2, f2, f4⟩ := hs1.lex.cells
              have HS1 : Hid (St Lx w w1 s m (p + 1) ic rf we qu acc) := hs1
              have z1 : (((p + 1 : Nat)) : Int) = (p : Int) + 1 := by omega
              rw [z1] at c2
              clear hs1 z1
              go_quiet (fail)
              generalize nq = n3
              go_wp2
              go_quiet (fail)
              generalize nq = n4
              go_wp2_with fail
              refine (string_any (Lx + 1) (Lx + 1) acc _ (HS1.out.drewN _).bld (by have := (HS1.out.drewN (n3 + n4)).lt; omega)).mono ?_
              rintro e w3 ⟨rfl, hk3⟩
              have HL3 := (HS1.out.drewN (n3 + n4)).left hk3
              have HLL : Hid (Left Lx w w3 s m (p + 1 : Nat) ic rf we qu) := HL3
              have hk4 := hk3.size
              clear c0 c2 f2 f4 HS1 HL3 hk3
              go_wp2
              go_ret
              have hE := HE.out
              have hA := HACC.out
              rw [HX.out] at hE hA
              injection hE with hE1 hE2
              subst hE1 hE2
              have hA' : acc = out := by simpa using hA
              subst hA'
              exact ⟨rfl, by simpa using HLL.out⟩
            · clear hp1
              have t0 : (p : Int) < s.size := by omega
              have HN : Hid (s.size - p ≤ gn + 1 ∧ p < s.size) := ⟨hg, hlt⟩
              clear hg hps hlt HL
              go_wp2
              go_quiet (fail)
              generalize nq = n1
              go_wp2
              go_quiet (fail)
              generalize nq = n2
              go_wp2
              generalize hW1 : ((wr.drewN (n1 + n2)).setCell ⟨Lx, 2, none⟩ (.int .i64 ((p : Int) + 1))) = w1
              have hs1 : St Lx w w1 s m (p + 1) ic rf we qu acc := by rw [← hW1]; exact (HST.out.drewN _).set1
              clear c0 c2 f2 f4 hW1
              obtain ⟨c0, c2, f2, f4⟩ := hs1.lex.cells
              have HS1 : Hid (St Lx w w1 s m (p + 1) ic rf we qu acc) := hs1
              have z1 : (((p + 1 : Nat)) : Int) = (p : Int) + 1 := by omega
              rw [z1] at c2
              clear hs1 z1
              go_quiet (fail)
              generalize nq = n3
              go_wp2
              go_quiet (fail)
              generalize nq = n4
              go_wp2_with fail
              refine (string_any (Lx + 1) (Lx + 1) acc _ (HS1.out.drewN _).bld (by have := (HS1.out.drewN (n3 + n4)).lt; omega)).mono ?_
              rintro e w3 ⟨rfl, hk3⟩
              have HL3 := (HS1.out.drewN (n3 + n4)).left hk3
              have HLL : Hid (Left Lx w w3 s m (p + 1 : Nat) ic rf we qu) := HL3
              have hk4 := hk3.size
              clear c0 c2 f2 f4 HS1 HL3 hk3
              go_wp2
              go_ret
              have hE := HE.out
              have hA := HACC.out
              rw [HX.out] at hE hA
              injection hE with hE1 hE2
              subst hE1 hE2
              have hA' : acc = out := by simpa using hA
              subst hA'
              exact ⟨rfl, by simpa using HLL.out⟩
        · have HX : Hid (qrun s q bk (gn + 1) p = (ch s p :: (qrun s q bk gn (p + 1)).1, (qrun s q bk gn (p + 1)).2)) := qrun_plain hlt HH.out hq1
          have hcq' : ¬ c = qi := fun x => hq1 (hcq.1 x)
          clear hcq h92 hq1
          rcases hwhy with hw92 | ⟨rfl, rfl⟩ | ⟨rfl, rfl, hx⟩
          · have d92 : (c == 92) = false := by simpa using hw92
            clear hw92
            have t0 : (p : Int) < s.size := by omega
            have HN : Hid (s.size - p ≤ gn + 1 ∧ p < s.size) := ⟨hg, hlt⟩
            clear hg hps hlt HL
            go_wp2
            go_quiet (fail)
            generalize nq = n1
            go_wp2
            go_quiet (fail)
            generalize nq = n2
            go_wp2
            generalize hW1 : ((wr.drewN (n1 + n2)).setCell ⟨Lx, 2, none⟩ (.int .i64 ((p : Int) + 1))) = w1
            have hs1 : St Lx w w1 s m (p + 1) ic rf we qu acc := by rw [← hW1]; exact (HST.out.drewN _).set1
            clear c0 c2 f2 f4 hW1
            obtain ⟨c0, c2, f2, f4⟩ := hs1.lex.cells
            have HS1 : Hid (St Lx w w1 s m (p + 1) ic rf we qu acc) := hs1
            have z1 : (((p + 1 : Nat)) : Int) = (p : Int) + 1 := by omega
            rw [z1] at c2
            clear hs1 z1
            go_quiet (fail)
            generalize nq = n3
            go_wp2_with fail
            refine (writeByte_any (Lx + 1) (Lx + 1) (Lib.byteCells acc) _ _ (HS1.out.drewN _).bld (by rw [Lib.byteCells_length]; omega) (by have := (HS1.out.drewN n3).lt; omega)).mono ?_
            rintro e w3 ⟨rfl, hb3, hk3⟩
            have hb4 : Lib.BuilderAt 37 5 (Lx + 1) (Lx + 1) (.pointer (some ⟨Lx + 1, 0, none⟩)) (Lib.byteCells acc ++ [.int .u8 (ch s p).toNat]) w3 := by rw [← HC.out]; exact hb3
            have HS3 : Hid (St Lx w w3 s m (p + 1) ic rf we qu (acc ++ [ch s p])) := (HS1.out.drewN n3).wrote hb4 hk3
            clear c0 c2 f2 f4 hb3 hk3 HS1 hb4
            go_wp2
            go_roundg gn
            case measure => omega
            case rel =>
              have hN := HN.out
              have hE := HE.out
              have hA := HACC.out
              rw [HX.out] at hE hA
              refine ⟨p + 1, acc ++ [ch s p], by omega, by omega, HS3.out, ?_, hE⟩
              rw [List.append_assoc]; exact hA
          · have t0 : (p : Int) < s.size := by omega
            have HN : Hid (s.size - p ≤ gn + 1 ∧ p < s.size) := ⟨hg, hlt⟩
            clear hg hps hlt HL
            go_wp2
            go_quiet (fail)
            generalize nq = n1
            go_wp2
            go_quiet (fail)
            generalize nq = n2
            go_wp2
            generalize hW1 : ((wr.drewN (n1 + n2)).setCell ⟨Lx, 2, none⟩ (.int .i64 ((p : Int) + 1))) = w1
            have hs1 : St Lx w w1 s m (p + 1) ic rf we qu acc := by rw [← hW1]; exact (HST.out.drewN _).set1
            clear c0 c2 f2 f4 hW1
            obtain ⟨c0, c2, f2, f4⟩ := hs1.lex.cells
            have HS1 : Hid (St Lx w w1 s m (p + 1) ic rf we qu acc) := hs1
            have z1 : (((p + 1 : Nat)) : Int) = (p : Int) + 1 := by omega
            rw [z1] at c2
            clear hs1 z1
            go_quiet (fail)
            generalize nq = n3
            go_wp2_with fail
            refine (writeByte_any (Lx + 1) (Lx + 1) (Lib.byteCells acc) _ _ (HS1.out.drewN _).bld (by rw [Lib.byteCells_length]; omega) (by have := (HS1.out.drewN n3).lt; omega)).mono ?_
            rintro e w3 ⟨rfl, hb3, hk3⟩
            have hb4 : Lib.BuilderAt 37 5 (Lx + 1) (Lx + 1) (.pointer (some ⟨Lx + 1, 0, none⟩)) (Lib.byteCells acc ++ [.int .u8 (ch s p).toNat]) w3 := by rw [← HC.out]; exact hb3
            have HS3 : Hid (St Lx w w3 s m (p + 1) ic rf we qu (acc ++ [ch s p])) := (HS1.out.drewN n3).wrote hb4 hk3
            clear c0 c2 f2 f4 hb3 hk3 HS1 hb4
            go_wp2
            go_roundg gn
            case measure => omega
            case rel =>
              have hN := HN.out
              have hE := HE.out
              have hA := HACC.out
              rw [HX.out] at hE hA
              refine ⟨p + 1, acc ++ [ch s p], by omega, by omega, HS3.out, ?_, hE⟩
              rw [List.append_assoc]; exact hA
          · have t2 : decide ((p : Int) + 1 < s.size) = false := decide_eq_false (by omega)
            clear hx
            have t0 : (p : Int) < s.size := by omega
            have HN : Hid (s.size - p ≤ gn + 1 ∧ p < s.size) := ⟨hg, hlt⟩
            clear hg hps hlt HL
            go_wp2
            go_quiet (fail)
            generalize nq = n1
            go_wp2
            go_quiet (fail)
            generalize nq = n2
            go_wp2
            generalize hW1 : ((wr.drewN (n1 + n2)).setCell ⟨Lx, 2, none⟩ (.int .i64 ((p : Int) + 1))) = w1
            have hs1 : St Lx w w1 s m (p + 1) ic rf we qu acc := by rw [← hW1]; exact (HST.out.drewN _).set1
            clear c0 c2 f2 f4 hW1
            obtain ⟨c0, c2, f2, f4⟩ := hs1.lex.cells
            have HS1 : Hid (St Lx w w1 s m (p + 1) ic rf we qu acc) := hs1
            have z1 : (((p + 1 : Nat)) : Int) = (p : Int) + 1 := by omega
            rw [z1] at c2
            clear hs1 z1
            go_quiet (fail)
            generalize nq = n3
            go_wp2_with fail
            refine (writeByte_any (Lx + 1) (Lx + 1) (Lib.byteCells acc) _ _ (HS1.out.drewN _).bld (by rw [Lib.byteCells_length]; omega) (by have := (HS1.out.drewN n3).lt; omega)).mono ?_
            rintro e w3 ⟨rfl, hb3, hk3⟩
            have hb4 : Lib.BuilderAt 37 5 (Lx + 1) (Lx + 1) (.pointer (some ⟨Lx + 1, 0, none⟩)) (Lib.byteCells acc ++ [.int .u8 (ch s p).toNat]) w3 := by rw [← HC.out]; exact hb3
            have HS3 : Hid (St Lx w w3 s m (p + 1) ic rf we qu (acc ++ [ch s p])) := (HS1.out.drewN n3).wrote hb4 hk3
            clear c0 c2 f2 f4 hb3 hk3 HS1 hb4
            go_wp2
            go_roundg gn
            case measure => omega
            case rel =>
              have hN := HN.out
              have hE := HE.out
              have hA := HACC.out
              rw [HX.out] at hE hA
              refine ⟨p + 1, acc ++ [ch s p], by omega, by omega, HS3.out, ?_, hE⟩
              rw [List.append_assoc]; exact hA
    · have t0 : ¬ ((p : Int) < s.size) := by omega
      have HX : Hid (qrun s q bk gk p = ([], p, false)) := qrun_end hlt
      have c4 := HST.out.lex.cell4
      clear hg hps
      go_wp2
      go_quiet (fail)
      generalize nq = n1
      go_wp2_with fail
      refine (string_any (Lx + 1) (Lx + 1) acc _ (HST.out.drewN n1).refuse.bld (by have := (HST.out.drewN n1).refuse.lt; omega)).mono ?_
      rintro e w3 ⟨rfl, hk3⟩
      have HLL : Hid (Left Lx w w3 s m p ic true we qu) := (HST.out.drewN n1).refuse.left hk3
      clear c0 c2 f2 f4 hk3 c4
      go_wp2
      go_ret
      have hE := HE.out
      have hA := HACC.out
      rw [HX.out] at hE hA
      injection hE with hE1 hE2
      subst hE1 hE2
      have hA' : acc = out := by simpa using hA
      subst hA'
      exact ⟨rfl, by simpa using HLL.out⟩
end Go.Proofs.Qxb6630611a
