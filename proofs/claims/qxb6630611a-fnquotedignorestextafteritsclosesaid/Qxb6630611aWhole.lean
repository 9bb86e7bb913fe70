/-
  ZZquoted, walked (seat b6630611a).
-/
import Derived.Test.Qxb6630611aQuoted
import Derived.Test.Qxb6630611aSmall
namespace Go.Proofs.Qxb6630611a
open Go.RowKit

theorem results_tmp8 {fn : Func} {t1 t2 t3 t4 t5 t6 t7 t8 : Tmp} (h : fn.results = #[.tmp t1, .tmp t2, .tmp t3, .tmp t4, .tmp t5, .tmp t6, .tmp t7, .tmp t8]) (tmps : Array Value) (P : Program) (w : World) :
    (results fn tmps).run P w = .ok (.tuple #[tmps.getD t1 undef, tmps.getD t2 undef, tmps.getD t3 undef, tmps.getD t4 undef, tmps.getD t5 undef, tmps.getD t6 undef, tmps.getD t7 undef, tmps.getD t8 undef]) w := by
  simp [results, h]

theorem Lex.all {w : World} {Lx : Nat} {s : ByteArray} {m p : Int} {ic rf : Bool} {we : Int} {qu : Bool} (h : Lex w Lx s m p ic rf we qu) :
    w.cell? ⟨Lx, 0, none⟩ = some (.string s) ∧ w.cell? ⟨Lx, 1, none⟩ = some (.int .u64 m) ∧ w.cell? ⟨Lx, 2, none⟩ = some (.int .i64 p) ∧ w.cell? ⟨Lx, 3, none⟩ = some (.bool ic) ∧ w.cell? ⟨Lx, 4, none⟩ = some (.bool rf) ∧ w.cell? ⟨Lx, 5, none⟩ = some (.int .i64 we) ∧ w.cell? ⟨Lx, 6, none⟩ = some (.bool qu) := by
  unfold Lex at h
  refine ⟨?_, ?_, ?_, ?_, ?_, ?_, ?_⟩ <;> simp [World.cell?, h]

/-- What ZZquoted hands back. -/
def gives (s : ByteArray) (m : Int) (ic rf : Bool) (we : Int) (qu : Bool) (out : List UInt8) (E : Nat) (shut : Bool) : Value :=
  .tuple #[.string ⟨out.toArray⟩, .int .i64 E, .bool (rf || !shut), .string s, .int .u64 m, .bool ic, .int .i64 we, .bool qu]

set_option maxRecDepth 20000 in
set_option maxHeartbeats 2000000 in
theorem whole_walk (w : World) (s : ByteArray) (q : UInt8) (bk : Bool) (m : Int) (pos : Nat) (ic rf : Bool) (we : Int) (qu : Bool) (hp : pos < s.size) (hs : s.size ≤ 2097152)
    (out : List UInt8) (E : Nat) (shut : Bool) (hq : qrun s q bk s.size (pos + 1) = (out, E, shut)) :
    Calls Try.prog 5 #[.string s, .int .u64 m, .int .i64 pos, .bool ic, .bool rf, .int .i64 we, .bool qu, .int .u8 q.toNat, .bool bk] w fun e w' => e = .returned (gives s m ic rf we qu out E shut) ∧ Below w.heap.size w w' := by
  have HQ : Hid (qrun s q bk s.size (pos + 1) = (out, E, shut)) := hq
  clear hq
  go_enter Try.func5, Try.ntmps5
  go_wp2_with fail
  refine (quoted_walk w.heap.size _ s q bk m pos ic rf we qu (by exact heap_alloc_new _ _) (by simp) hp hs out E shut HQ.out).mono ?_
  rintro e w1 ⟨rfl, hlex, hbel⟩
  have HB : Hid (Below w.heap.size w w1) := ((Below.refl _ _).alloc (Nat.le_refl _) _).trans hbel
  obtain ⟨c0, c1, c2, c3, c4, c5, c6⟩ := hlex.all
  clear hlex hbel
  go_wp2
  go_quiet (fail)
  go_wp2
  refine bodyPost_ret (results_tmp8 rfl _ _ _) rfl ?_
  refine ⟨rfl, ?_⟩
  generalize nq = n1
  induction n1 with
  | zero => exact HB.out
  | succ n ih => exact ih.drew
end Go.Proofs.Qxb6630611a
