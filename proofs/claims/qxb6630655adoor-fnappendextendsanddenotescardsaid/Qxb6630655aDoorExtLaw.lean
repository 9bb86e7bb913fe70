/-
  The law that Append extends its buffer and denotes its number, walked (seat b6630655aD).
-/
import Derived.Test.Qxb6630655aDoorExt
import Derived.Test.Qxb6630655aDoorInj
import Derived.Lib.LazyBuf
import Derived.Deep.LoopGhost
namespace Go.Proofs.Qxb6630655aDoor
open Go.RowKit
open Go.Lib (decDigits)

/-- The buffer that came in: n bytes Z, at an old block. -/
structure Buf (w : World) (ao : Option Addr) (n cap b o : Nat) (Z : Nat → Int) : Prop where
  le : n ≤ cap
  max : cap ≤ maxLen
  nil : ao = none → n = 0
  nilc : ao = none → cap = 0
  at_ : 0 < n → ao = some ⟨b, o, none⟩
  lt : 0 < n → b < w.heap.size
  cell : ∀ j, j < n → w.cell? ⟨b, o + j, none⟩ = some (.int .u8 (Z j))

theorem text_max (pc : Nat) (v : Int) (h : pc < 4294967296) : (text pc v).length ≤ 100 := by
  unfold text
  split
  · have l1 := dec_le (pc / 2048) (by omega)
    have l2 := dec_le (pc / 8 % 256) (by omega)
    have l3 := dec_le (pc % 8) (by omega)
    simp [parts]; omega
  · have := dec_le pc h; omega

set_option maxRecDepth 20000 in
set_option maxHeartbeats 8000000 in
theorem ext_walk (pc : Nat) (v : Int) (hpc : pc < 4294967296) (w : World) (ao : Option Addr) (n cap b o : Nat) (Z : Nat → Int) (hbuf : Buf w ao n cap b o Z) (htab : Tab w.heap.size w) :
    Calls Tryd.prog 3 #[.int .u32 pc, .slice ao n cap, .int .i64 v] w fun e w' => e = .returned (.bool true) ∧ Below w.heap.size w w' := by
  have HT : Hid (Tab w.heap.size w) := htab
  have HBUF : Hid (Buf w ao n cap b o Z) := hbuf
  have hcm := hbuf.max
  have hle := hbuf.le
  unfold maxLen at hcm
  clear htab hbuf
  by_cases hb : n ≤ 1048576
  case neg =>
    go_enter Tryd.func3, Tryd.ntmps3
    go_wp2_with fail
    refine (bytes_no pc v ao n cap _ hb).mono ?_
    rintro e w' ⟨rfl, rfl⟩
    go_wp2
    go_ret
    exact ⟨rfl, Below.refl _ _⟩
  case pos =>
    have t1 : ¬ ((1048576 : Int) < n) := by omega
    have hmk := run_make_row' (P := Tryd.prog) 23 5 (.int .u8 0) 1 Tryd.underlying23 Tryd.infoByte rfl .i64 .i64 n (by omega) (by omega)
    have hq := fun w => Go.run_neq_slice_nil (P := Tryd.prog) w 23 5 ao n cap Tryd.underlying23
    go_enter Tryd.func3, Tryd.ntmps3
    go_wp2_with fail
    refine (bytes_yes pc v ao n cap _ hb).mono ?_
    rintro e w' ⟨rfl, rfl⟩
    go_wp2
    go_loopw [8] (fun i wr => ∃ k : Nat, k ≤ n ∧ i = .int .i64 k ∧ Below w'.heap.size w' wr ∧ wr.heap.size = w'.heap.size + 1 ∧ wr.rowIs w'.heap.size 5 n (fun j => if j < k then .int .u8 (Z j) else .int .u8 0)) (fun i _ => n - (intOf i).toNat)
    case atStart => exact ⟨0, Nat.zero_le _, rfl, (Below.refl _ _).alloc (Nat.le_refl _) _, by simp, (World.rowIs_made w' _ n 5).congr (fun j _ => by simp)⟩
    case round =>
      obtain ⟨k, hk, rfl, hB, hsz, hrow⟩ := hrel
      by_cases hlt : k < n
      · have ha := HBUF.out.at_ (by omega)
        have hbN := HBUF.out.lt (by omega)
        subst ha
        have g1 : wr.cell? ⟨b, o + k, none⟩ = some (.int .u8 (Z k)) := by rw [hB.cell (p := ⟨b, o + k, none⟩) hbN]; exact HBUF.out.cell k hlt
        have g2 := hrow.cell hlt
        have g3 := hrow.frozen k
        have g4 : b ≠ w'.heap.size := by omega
        rw [if_neg (Nat.lt_irrefl k)] at g2
        have HR : Hid (Below w'.heap.size w' wr ∧ wr.rowIs w'.heap.size 5 n (fun j => if j < k then .int .u8 (Z j) else .int .u8 0)) := ⟨hB, hrow⟩
        clear hB hrow
        go_wp2
        go_roundw
        case rel =>
          obtain ⟨hB, hrow⟩ := HR.out
          refine ⟨k + 1, by omega, by go_num, hB.setCell (by exact Nat.le_refl _) _, by simpa [World.setCell] using hsz, (hrow.set k _).congr (fun j _ => ?_)⟩
          by_cases e : j = k
          · subst e; simp
          · rw [if_neg e]
            by_cases e2 : j < k
            · rw [if_pos e2, if_pos (by omega)]
            · rw [if_neg e2, if_neg (by omega)]
        case measure => simp [intOf]; omega
      · have hkn : n = k := by omega
        subst hkn
        have HR1 : Hid (Below w'.heap.size w' wr ∧ wr.heap.size = w'.heap.size + 1 ∧ wr.rowIs w'.heap.size 5 n (fun j => .int .u8 (Z j))) := ⟨hB, hsz, hrow.congr (fun j hj => by rw [if_pos hj])⟩
        clear hB hrow hlt hk
        cases ao with
        | none =>
          have hn0 : n = 0 := HBUF.out.nil rfl
          have HRB : Hid (Below w'.heap.size w' wr ∧ wr.rowIs w'.heap.size 5 n (fun j => .int .u8 (Z j)) ∧ w'.heap.size + 1 ≤ wr.heap.size) := ⟨HR1.out.1, HR1.out.2.2, by have := HR1.out.2.1; omega⟩
          have hc0 : cap = 0 := HBUF.out.nilc rfl
          subst hc0
          have HOW : Hid (wr.ownsRow (w'.heap.size + 1) 5 1 (.slice none n 0) n (zs Z n)) := by subst hn0; exact World.ownsRow_nil _ _ _ _
          clear hn0 HR1 hmk
          go_wp2_with fail
          refine (append_walk (w'.heap.size + 1) n pc v hpc (.slice none n 0) (zs Z n) wr HOW.out (by have := HRB.out; omega) (by omega) (fun x hx => (Lib.TabBelow.on HT.out HRB.out.1) x (hx.mono (by omega)))).mono ?_
          rintro e w1 ⟨v1, rfl, own1, hb1⟩
          have K1 : Hid (Below w'.heap.size w' w1 ∧ w1.rowIs w'.heap.size 5 n (fun j => .int .u8 (Z j)) ∧ w1.ownsRow (w'.heap.size + 1) 5 1 v1 (n + (text pc v).length) (zs Z n ++ Lib.byteCells (text pc v))) := ⟨HRB.out.1.trans (hb1.mono (by omega)), HRB.out.2.1.of_block (hb1.block _ (by omega)), own1⟩
          clear own1 hb1 HRB HOW
          go_wp2_with fail
          refine (append_walk w1.heap.size 0 pc v hpc (.slice none 0 0) [] w1 (World.ownsRow_nil _ _ _ _) (Nat.le_refl _) (by omega) (tab_on HT.out K1.out.1)).mono ?_
          rintro e w2 ⟨v2, rfl, own2, hb2⟩
          have hout : Out w2 v1 n (text pc v).length Z (byt (text pc v)) := out_of_own K1.out.2.2 (text_pos pc v) (fun g hg => hb2.block g (K1.out.2.2.lt g hg).2)
          have hal : Sl w2 v2 (text pc v) := sl_of_own (by rw [Nat.zero_add, List.nil_append] at own2; exact own2) (text_pos pc v)
          have K2 : Hid (Below w'.heap.size w' w2 ∧ w2.rowIs w'.heap.size 5 n (fun j => .int .u8 (Z j)) ∧ Sl w2 v2 (text pc v)) := ⟨K1.out.1.trans (hb2.mono K1.out.1.size), K1.out.2.1.of_block (hb2.block _ K1.out.2.1.lt), hal⟩
          have hm100 := text_max pc v hpc
          clear own2 hb2 K1
          obtain ⟨b1, o1, cap1, rfl, a1, a2, a3, a4⟩ := hout
          obtain ⟨b2, o2, cap2, rfl, a5, a6, a7⟩ := hal
          have O1 : Hid (∀ j, j < n → w2.cell? ⟨b1, o1 + j, none⟩ = some (.int .u8 (Z j))) := a3
          have O2 : Hid (∀ j, j < (text pc v).length → w2.cell? ⟨b1, o1 + (n + j), none⟩ = some (.int .u8 (byt (text pc v) j))) := a4
          have O3 : Hid (∀ j, j < (text pc v).length → w2.cell? ⟨b2, o2 + j, none⟩ = some (.int .u8 (byt (text pc v) j))) := a7
          unfold maxLen at a2 a6
          clear a3 a4 a7
          generalize (text pc v).length = m at *
          generalize byt (text pc v) = Y at *
          have e1 : IntKind.i64.wrap ((n : Int) + m) = (n : Int) + m := by rw [IntKind.wrap_i64]; omega
          go_wp2
          go_loopw [13] (fun i wr => ∃ k q : Nat, k ≤ n ∧ i = .int .i64 k ∧ wr = w2.drewN q) (fun i _ => n - (intOf i).toNat)
          case atStart => exact ⟨0, 0, Nat.zero_le _, rfl, rfl⟩
          case round =>
            obtain ⟨k, q, hk, rfl, rfl⟩ := hrel
            by_cases hlt : k < n
            · have c1 := O1.out k hlt
              have c2 : w2.cell? ⟨w'.heap.size, k, none⟩ = some (.int .u8 (Z k)) := K2.out.2.1.cell hlt
              go_wp2
              go_quiet (fail)
              go_wp2
              go_roundw
              case rel => exact ⟨k + 1, _, by omega, by go_num, rfl⟩
              case measure => simp [intOf]; omega
            · have hkn : n = k := by omega
              subst hkn
              clear hlt hk O1
              go_wp2
              go_loopw [14] (fun i wr => ∃ k q : Nat, k ≤ m ∧ i = .int .i64 k ∧ wr = w2.drewN q) (fun i _ => m - (intOf i).toNat)
              case atStart => exact ⟨0, q, Nat.zero_le _, rfl, rfl⟩
              case round =>
                obtain ⟨k, q, hk, rfl, rfl⟩ := hrel
                by_cases hlt : k < m
                · have c1 := O2.out k hlt
                  have c2 := O3.out k hlt
                  have e2 : IntKind.i64.wrap ((n : Int) + k) = (n : Int) + k := by rw [IntKind.wrap_i64]; omega
                  go_wp2
                  go_quiet (fail)
                  go_wp2
                  go_roundw
                  case rel => exact ⟨k + 1, _, by omega, by go_num, rfl⟩
                  case measure => simp [intOf]; omega
                · have hkm : m = k := by omega
                  subst hkm
                  clear hlt hk O2 O3
                  by_cases hv : v = 1
                  · by_cases hp : pc ≤ 16383
                    · have KS : Hid (Sl w2 (.slice (some ⟨b2, o2, none⟩) m cap2) (parts pc)) := by
                        have := K2.out.2.2
                        unfold text at this
                        rw [if_pos ⟨hv, hp⟩] at this
                        exact this
                      have x1 : (pc : Int) ≤ 16383 := by omega
                      subst hv
                      go_wp2_with fail
                      refine (three_walk _ _ pc hpc (KS.out.drewN _)).mono ?_
                      obtain ⟨A1, h1⟩ : ∃ A1, A1 = pc / 2048 := ⟨_, rfl⟩
                      obtain ⟨A2, h2⟩ : ∃ A2, A2 = pc / 8 % 256 := ⟨_, rfl⟩
                      obtain ⟨A3, h3⟩ : ∃ A3, A3 = pc % 8 := ⟨_, rfl⟩
                      rw [← h1, ← h2, ← h3]
                      have y1 : ¬ ((8 : Int) ≤ A1) := by omega
                      have y2 : ¬ ((256 : Int) ≤ A2) := by omega
                      have y3 : ¬ ((8 : Int) ≤ A3) := by omega
                      have y4 : (A1 : Int) * 2048 + A2 * 8 + A3 = pc := by omega
                      clear h1 h2 h3
                      have r1 : IntKind.u64.wrap ((A1 : Int) * 2048) = (A1 : Int) * 2048 := by rw [IntKind.wrap_u64]; omega
                      have r2 : IntKind.u64.wrap ((A2 : Int) * 8) = (A2 : Int) * 8 := by rw [IntKind.wrap_u64]; omega
                      have r3 : IntKind.u64.wrap ((A1 : Int) * 2048 + A2 * 8) = (A1 : Int) * 2048 + A2 * 8 := by rw [IntKind.wrap_u64]; omega
                      have r4 : IntKind.u64.wrap ((A1 : Int) * 2048 + A2 * 8 + A3) = (pc : Int) := by rw [IntKind.wrap_u64]; omega
                      have r5 : IntKind.u64.wrap (pc : Int) = (pc : Int) := by rw [IntKind.wrap_u64]; omega
                      rintro e w5 ⟨rfl, rfl⟩
                      go_wp2
                      go_ret
                      exact ⟨rfl, below_drewN K2.out.1 _⟩
                    · have KS : Hid (Sl w2 (.slice (some ⟨b2, o2, none⟩) m cap2) (decDigits pc)) := by
                        have := K2.out.2.2
                        unfold text at this
                        rw [if_neg (fun x => hp x.2)] at this
                        exact this
                      have x1 : ¬ ((pc : Int) ≤ 16383) := by omega
                      have r5 : IntKind.u64.wrap (pc : Int) = (pc : Int) := by rw [IntKind.wrap_u64]; omega
                      subst hv
                      go_wp2_with fail
                      refine (canon_walk _ _ pc hpc (KS.out.drewN _)).mono ?_
                      rintro e w5 ⟨rfl, rfl⟩
                      go_wp2
                      go_ret
                      exact ⟨rfl, below_drewN K2.out.1 _⟩
                  · have KS : Hid (Sl w2 (.slice (some ⟨b2, o2, none⟩) m cap2) (decDigits pc)) := by
                      have := K2.out.2.2
                      unfold text at this
                      rw [if_neg (fun x => hv x.1)] at this
                      exact this
                    have r5 : IntKind.u64.wrap (pc : Int) = (pc : Int) := by rw [IntKind.wrap_u64]; omega
                    go_wp2_with fail
                    refine (canon_walk _ _ pc hpc (KS.out.drewN _)).mono ?_
                    rintro e w5 ⟨rfl, rfl⟩
                    go_wp2
                    go_ret
                    exact ⟨rfl, below_drewN K2.out.1 _⟩
        | some A =>
          go_wp2
          go_loopw [10] (fun i wr => ∃ k : Nat, k ≤ n ∧ i = .int .i64 k ∧ Below w'.heap.size w' wr ∧ wr.heap.size = w'.heap.size + 2 ∧ wr.rowIs w'.heap.size 5 n (fun j => .int .u8 (Z j)) ∧ wr.rowIs (w'.heap.size + 1) 5 n (fun j => if j < k then .int .u8 (Z j) else .int .u8 0)) (fun i _ => n - (intOf i).toNat)
          case atStart =>
            obtain ⟨hB, hz, hr⟩ := HR1.out
            have hmd := World.rowIs_made wr (.int .u8 0) n 5
            rw [hz] at hmd
            exact ⟨0, Nat.zero_le _, rfl, hB.alloc (by omega) _, by simp; omega, hr.alloc _, hmd.congr (fun j _ => by simp)⟩
          case round =>
            clear HR1 hsz
            obtain ⟨k, hk, rfl, hB, hsz, hr0, hrow⟩ := hrel
            by_cases hlt : k < n
            · have ha := HBUF.out.at_ (by omega)
              have hbN := HBUF.out.lt (by omega)
              obtain rfl := Option.some.inj ha
              clear ha
              have g1 : wr.cell? ⟨b, o + k, none⟩ = some (.int .u8 (Z k)) := by rw [hB.cell (p := ⟨b, o + k, none⟩) hbN]; exact HBUF.out.cell k hlt
              have g2 := hrow.cell hlt
              have g3 := hrow.frozen k
              have g4 : b ≠ w'.heap.size + 1 := by omega
              rw [if_neg (Nat.lt_irrefl k)] at g2
              have HR : Hid (Below w'.heap.size w' wr ∧ wr.rowIs w'.heap.size 5 n (fun j => .int .u8 (Z j)) ∧ wr.rowIs (w'.heap.size + 1) 5 n (fun j => if j < k then .int .u8 (Z j) else .int .u8 0)) := ⟨hB, hr0, hrow⟩
              clear hB hrow hr0
              go_wp2
              go_roundw
              case rel =>
                obtain ⟨hB, hr0, hrow⟩ := HR.out
                refine ⟨k + 1, by omega, by go_num, hB.setCell (by show w'.heap.size ≤ w'.heap.size + 1; omega) _, by simpa [World.setCell] using hsz, hr0.setOther (by show w'.heap.size ≠ w'.heap.size + 1; omega) _, (hrow.set k _).congr (fun j _ => ?_)⟩
                by_cases e : j = k
                · subst e; simp
                · rw [if_neg e]
                  by_cases e2 : j < k
                  · rw [if_pos e2, if_pos (by omega)]
                  · rw [if_neg e2, if_neg (by omega)]
              case measure => simp [intOf]; omega
            · have hkn : n = k := by omega
              subst hkn
              have HRB : Hid (Below w'.heap.size w' wr ∧ wr.rowIs w'.heap.size 5 n (fun j => .int .u8 (Z j)) ∧ w'.heap.size + 1 ≤ wr.heap.size) := ⟨hB, hr0, by omega⟩
              have HOW : Hid (wr.ownsRow (w'.heap.size + 1) 5 1 (.slice (some ⟨w'.heap.size + 1, 0, none⟩) n n) n (zs Z n)) := own_of_row (hrow.congr (fun j hj => by rw [if_pos hj])) (Nat.le_refl _) (by unfold maxLen; omega)
              clear hB hr0 hrow hlt hk hmk hq
              go_wp2_with fail
              refine (append_walk (w'.heap.size + 1) n pc v hpc (.slice (some ⟨w'.heap.size + 1, 0, none⟩) n n) (zs Z n) wr HOW.out (by have := HRB.out; omega) (by omega) (fun x hx => (Lib.TabBelow.on HT.out HRB.out.1) x (hx.mono (by omega)))).mono ?_
              rintro e w1 ⟨v1, rfl, own1, hb1⟩
              have K1 : Hid (Below w'.heap.size w' w1 ∧ w1.rowIs w'.heap.size 5 n (fun j => .int .u8 (Z j)) ∧ w1.ownsRow (w'.heap.size + 1) 5 1 v1 (n + (text pc v).length) (zs Z n ++ Lib.byteCells (text pc v))) := ⟨HRB.out.1.trans (hb1.mono (by omega)), HRB.out.2.1.of_block (hb1.block _ (by omega)), own1⟩
              clear own1 hb1 HRB HOW
              go_wp2_with fail
              refine (append_walk w1.heap.size 0 pc v hpc (.slice none 0 0) [] w1 (World.ownsRow_nil _ _ _ _) (Nat.le_refl _) (by omega) (tab_on HT.out K1.out.1)).mono ?_
              rintro e w2 ⟨v2, rfl, own2, hb2⟩
              have hout : Out w2 v1 n (text pc v).length Z (byt (text pc v)) := out_of_own K1.out.2.2 (text_pos pc v) (fun g hg => hb2.block g (K1.out.2.2.lt g hg).2)
              have hal : Sl w2 v2 (text pc v) := sl_of_own (by rw [Nat.zero_add, List.nil_append] at own2; exact own2) (text_pos pc v)
              have K2 : Hid (Below w'.heap.size w' w2 ∧ w2.rowIs w'.heap.size 5 n (fun j => .int .u8 (Z j)) ∧ Sl w2 v2 (text pc v)) := ⟨K1.out.1.trans (hb2.mono K1.out.1.size), K1.out.2.1.of_block (hb2.block _ K1.out.2.1.lt), hal⟩
              have hm100 := text_max pc v hpc
              clear own2 hb2 K1
              obtain ⟨b1, o1, cap1, rfl, a1, a2, a3, a4⟩ := hout
              obtain ⟨b2, o2, cap2, rfl, a5, a6, a7⟩ := hal
              have O1 : Hid (∀ j, j < n → w2.cell? ⟨b1, o1 + j, none⟩ = some (.int .u8 (Z j))) := a3
              have O2 : Hid (∀ j, j < (text pc v).length → w2.cell? ⟨b1, o1 + (n + j), none⟩ = some (.int .u8 (byt (text pc v) j))) := a4
              have O3 : Hid (∀ j, j < (text pc v).length → w2.cell? ⟨b2, o2 + j, none⟩ = some (.int .u8 (byt (text pc v) j))) := a7
              unfold maxLen at a2 a6
              clear a3 a4 a7
              generalize (text pc v).length = m at *
              generalize byt (text pc v) = Y at *
              have e1 : IntKind.i64.wrap ((n : Int) + m) = (n : Int) + m := by rw [IntKind.wrap_i64]; omega
              go_wp2
              go_loopw [13] (fun i wr => ∃ k q : Nat, k ≤ n ∧ i = .int .i64 k ∧ wr = w2.drewN q) (fun i _ => n - (intOf i).toNat)
              case atStart => exact ⟨0, 0, Nat.zero_le _, rfl, rfl⟩
              case round =>
                obtain ⟨k, q, hk, rfl, rfl⟩ := hrel
                by_cases hlt : k < n
                · have c1 := O1.out k hlt
                  have c2 : w2.cell? ⟨w'.heap.size, k, none⟩ = some (.int .u8 (Z k)) := K2.out.2.1.cell hlt
                  go_wp2
                  go_quiet (fail)
                  go_wp2
                  go_roundw
                  case rel => exact ⟨k + 1, _, by omega, by go_num, rfl⟩
                  case measure => simp [intOf]; omega
                · have hkn : n = k := by omega
                  subst hkn
                  clear hlt hk O1
                  go_wp2
                  go_loopw [14] (fun i wr => ∃ k q : Nat, k ≤ m ∧ i = .int .i64 k ∧ wr = w2.drewN q) (fun i _ => m - (intOf i).toNat)
                  case atStart => exact ⟨0, q, Nat.zero_le _, rfl, rfl⟩
                  case round =>
                    obtain ⟨k, q, hk, rfl, rfl⟩ := hrel
                    by_cases hlt : k < m
                    · have c1 := O2.out k hlt
                      have c2 := O3.out k hlt
                      have e2 : IntKind.i64.wrap ((n : Int) + k) = (n : Int) + k := by rw [IntKind.wrap_i64]; omega
                      go_wp2
                      go_quiet (fail)
                      go_wp2
                      go_roundw
                      case rel => exact ⟨k + 1, _, by omega, by go_num, rfl⟩
                      case measure => simp [intOf]; omega
                    · have hkm : m = k := by omega
                      subst hkm
                      clear hlt hk O2 O3
                      by_cases hv : v = 1
                      · by_cases hp : pc ≤ 16383
                        · have KS : Hid (Sl w2 (.slice (some ⟨b2, o2, none⟩) m cap2) (parts pc)) := by
                            have := K2.out.2.2
                            unfold text at this
                            rw [if_pos ⟨hv, hp⟩] at this
                            exact this
                          have x1 : (pc : Int) ≤ 16383 := by omega
                          subst hv
                          go_wp2_with fail
                          refine (three_walk _ _ pc hpc (KS.out.drewN _)).mono ?_
                          obtain ⟨A1, h1⟩ : ∃ A1, A1 = pc / 2048 := ⟨_, rfl⟩
                          obtain ⟨A2, h2⟩ : ∃ A2, A2 = pc / 8 % 256 := ⟨_, rfl⟩
                          obtain ⟨A3, h3⟩ : ∃ A3, A3 = pc % 8 := ⟨_, rfl⟩
                          rw [← h1, ← h2, ← h3]
                          have y1 : ¬ ((8 : Int) ≤ A1) := by omega
                          have y2 : ¬ ((256 : Int) ≤ A2) := by omega
                          have y3 : ¬ ((8 : Int) ≤ A3) := by omega
                          have y4 : (A1 : Int) * 2048 + A2 * 8 + A3 = pc := by omega
                          clear h1 h2 h3
                          have r1 : IntKind.u64.wrap ((A1 : Int) * 2048) = (A1 : Int) * 2048 := by rw [IntKind.wrap_u64]; omega
                          have r2 : IntKind.u64.wrap ((A2 : Int) * 8) = (A2 : Int) * 8 := by rw [IntKind.wrap_u64]; omega
                          have r3 : IntKind.u64.wrap ((A1 : Int) * 2048 + A2 * 8) = (A1 : Int) * 2048 + A2 * 8 := by rw [IntKind.wrap_u64]; omega
                          have r4 : IntKind.u64.wrap ((A1 : Int) * 2048 + A2 * 8 + A3) = (pc : Int) := by rw [IntKind.wrap_u64]; omega
                          have r5 : IntKind.u64.wrap (pc : Int) = (pc : Int) := by rw [IntKind.wrap_u64]; omega
                          rintro e w5 ⟨rfl, rfl⟩
                          go_wp2
                          go_ret
                          exact ⟨rfl, below_drewN K2.out.1 _⟩
                        · have KS : Hid (Sl w2 (.slice (some ⟨b2, o2, none⟩) m cap2) (decDigits pc)) := by
                            have := K2.out.2.2
                            unfold text at this
                            rw [if_neg (fun x => hp x.2)] at this
                            exact this
                          have x1 : ¬ ((pc : Int) ≤ 16383) := by omega
                          have r5 : IntKind.u64.wrap (pc : Int) = (pc : Int) := by rw [IntKind.wrap_u64]; omega
                          subst hv
                          go_wp2_with fail
                          refine (canon_walk _ _ pc hpc (KS.out.drewN _)).mono ?_
                          rintro e w5 ⟨rfl, rfl⟩
                          go_wp2
                          go_ret
                          exact ⟨rfl, below_drewN K2.out.1 _⟩
                      · have KS : Hid (Sl w2 (.slice (some ⟨b2, o2, none⟩) m cap2) (decDigits pc)) := by
                          have := K2.out.2.2
                          unfold text at this
                          rw [if_neg (fun x => hv x.1)] at this
                          exact this
                        have r5 : IntKind.u64.wrap (pc : Int) = (pc : Int) := by rw [IntKind.wrap_u64]; omega
                        go_wp2_with fail
                        refine (canon_walk _ _ pc hpc (KS.out.drewN _)).mono ?_
                        rintro e w5 ⟨rfl, rfl⟩
                        go_wp2
                        go_ret
                        exact ⟨rfl, below_drewN K2.out.1 _⟩
end Go.Proofs.Qxb6630655aDoor
