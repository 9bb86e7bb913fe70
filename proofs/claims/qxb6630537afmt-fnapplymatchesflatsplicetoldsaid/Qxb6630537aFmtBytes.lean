/-
  zzBytes_FnApplyMatchesFlatSplice returns some bool (seat b6630537aF).
-/
import Derived.Test.Qxb6630537aFmtReads
namespace Go.Proofs.Qxb6630537aFmt
open Go.RowKit

set_option maxHeartbeats 2000000 in
theorem bytes_walk (N : Nat) (w : World) (v vt : Value) (ps ts : List (List Int)) (a1 a2 : Option Addr) (n1 c1 n2 c2 : Nat) (h : Rws N w v ps) (ht : Rws N w vt ts) (hn1 : n1 ≤ 9223372036854775807) (hn2 : n2 ≤ 9223372036854775807) :
    Calls Tryf.prog 5 #[v, .slice a1 n1 c1, .slice a2 n2 c2, vt] w fun e w' => Says e True ∧ w' = w := by
  obtain ⟨ao, b, o, cap, A, L, C, RB, RO, rfl, g⟩ := h.grid
  obtain ⟨ao', b', o', cap', A', L', C', RB', RO', rfl, g'⟩ := ht.grid
  have hle := g.le
  have hlm := g.lem
  have hat := g.at_
  have hcell := g.cell
  have hrc := g.rle
  have hle' := g'.le
  have hlm' := g'.lem
  have hat' := g'.at_
  have hcell' := g'.cell
  have hrc' := g'.rle
  unfold maxLen at hlm hrc hlm' hrc'
  generalize ps.length = n at *
  generalize ts.length = n' at *
  clear g g' h ht
  by_cases b1 : n ≤ 1048576
  · go_enter Tryf.func5, Tryf.ntmps5
    go_wp2
    go_loop [9, 10] (fun t i => ∃ (k : Nat) (T : Int), k ≤ n ∧ i = .int .i64 k ∧ t = .int .i64 T ∧ 0 ≤ T ∧ T ≤ 1048576) (fun _ i => n - (intOf i).toNat)
    case atStart => exact ⟨0, n, Nat.zero_le _, rfl, by simp, by omega, by omega⟩
    case round =>
      obtain ⟨k, T, hk, rfl, rfl, hT0, hT1⟩ := hrel
      by_cases hlt : k < n
      · obtain rfl := hat (by omega)
        have hc := hcell k hlt
        have hb := hrc k hlt
        by_cases hbig : 1048576 < L k
        · go_wp2
          go_ret
          exact ⟨Says.no, rfl⟩
        · by_cases hbig2 : 1048576 < T + L k
          · go_wp2
            go_ret
            exact ⟨Says.no, rfl⟩
          · go_wp2
            go_round
            case rel => exact ⟨k + 1, T + L k, by omega, by go_num, rfl, by omega, by omega⟩
            case measure => simp [intOf]; omega
      · clear hat hcell hrc
        by_cases d1 : 1048576 < n1
        · go_wp2
          go_ret
          exact ⟨Says.no, rfl⟩
        by_cases d2 : 1048576 < T + n1
        · go_wp2
          go_ret
          exact ⟨Says.no, rfl⟩
        by_cases d3 : 1048576 < n2
        · go_wp2
          go_ret
          exact ⟨Says.no, rfl⟩
        by_cases d4 : 1048576 < T + n1 + n2
        · go_wp2
          go_ret
          exact ⟨Says.no, rfl⟩
        by_cases d5 : 1048576 < n'
        · go_wp2
          go_ret
          exact ⟨Says.no, rfl⟩
        by_cases d6 : 1048576 < T + n1 + n2 + n'
        · go_wp2
          go_ret
          exact ⟨Says.no, rfl⟩
        go_wp2
        go_loop [9, 11] (fun t i => ∃ (k : Nat) (T : Int), k ≤ n' ∧ i = .int .i64 k ∧ t = .int .i64 T ∧ 0 ≤ T ∧ T ≤ 1048576) (fun _ i => n' - (intOf i).toNat)
        case atStart => exact ⟨0, _, Nat.zero_le _, rfl, rfl, by omega, by omega⟩
        case round =>
          obtain ⟨k', T', hk', rfl, rfl, hT0', hT1'⟩ := hrel
          by_cases hlt' : k' < n'
          · obtain rfl := hat' (by omega)
            have hc := hcell' k' hlt'
            have hb := hrc' k' hlt'
            by_cases hbig : 1048576 < L' k'
            · go_wp2
              go_ret
              exact ⟨Says.no, rfl⟩
            · by_cases hbig2 : 1048576 < T' + L' k'
              · go_wp2
                go_ret
                exact ⟨Says.no, rfl⟩
              · go_wp2
                go_round
                case rel => exact ⟨k' + 1, T' + L' k', by omega, by go_num, rfl, by omega, by omega⟩
                case measure => simp [intOf]; omega
          · go_wp2
            go_ret
            exact ⟨Says.yes trivial, rfl⟩
  · have b2 : 1048576 < n := by omega
    go_enter Tryf.func5, Tryf.ntmps5
    go_wp2
    go_ret
    exact ⟨Says.no, rfl⟩
end Go.Proofs.Qxb6630537aFmt
