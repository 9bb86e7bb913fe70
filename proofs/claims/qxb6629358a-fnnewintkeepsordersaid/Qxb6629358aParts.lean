/-
  THE CALLEES' CONTRACTS of seat b6629358a: NewInt, ZZIntNeg, ZZIntN, zzValue, zzCmpInt; and '^v' at every int64.
-/
import Derived.Test.Qxb6629358aRows
import Derived.WalkKit
import Derived.ProofKit
import Derived.OpenShut
namespace Go.Proofs.Qxb6629358a
open Go.RowKit

/-- '^v' of an int64 is '-1 - v'. -/
theorem not64 (a : Int) (h0 : -9223372036854775808 ≤ a) (h1 : a ≤ 9223372036854775807) : bits .xor .i64 (-1) a = -1 - a := by
  show IntKind.i64.wrap ((BitVec.ofInt 64 (-1) ^^^ BitVec.ofInt 64 a).toNat : Int) = _
  have h2 : BitVec.ofInt 64 (-1) = BitVec.allOnes 64 := by decide
  rw [h2, BitVec.allOnes_xor, BitVec.toNat_not, BitVec.toNat_ofInt]
  simp [IntKind.wrap, IntKind.bits, IntKind.signed]
  omega

/-- The argument of the head of NewInt(v). -/
def nOf (v : Int) : Int := if v < 0 then -1 - v else v
/-- NewInt's sign. -/
def sOf (v : Int) : Bool := decide (v < 0)

theorem newInt_any (v : Int) (h0 : -9223372036854775808 ≤ v) (h1 : v ≤ 9223372036854775807) (w : World) :
    Calls Try.prog 5 #[.int .i64 v] w fun e w' => e = .returned (.agg #[.bool (sOf v), .int .u64 (nOf v)]) ∧ w' = w.alloc (.cells #[.bool (sOf v), .int .u64 (nOf v)] 24) := by
  by_cases h : v < 0
  · have e1 : sOf v = true := by simp [sOf, h]
    have e2 : nOf v = -1 - v := by simp [nOf, h]
    have e3 : IntKind.u64.wrap (-(v + 1)) = -1 - v := by rw [IntKind.wrap_u64]; omega
    rw [e1, e2]
    clear e1 e2
    go_enter Try.func5, Try.ntmps5
    go_wp2
    simp [bodyPost, results, Try.results5, go_sem]
  · have e1 : sOf v = false := by simp [sOf, h]
    have e2 : nOf v = v := by simp [nOf, h]
    have h2 : 0 ≤ v := by omega
    rw [e1, e2]
    clear e1 e2
    go_enter Try.func5, Try.ntmps5
    go_wp2
    simp [bodyPost, results, Try.results5, go_sem]

theorem neg_any (b : Bool) (n : Int) (w : World) :
    Calls Try.prog 6 #[.agg #[.bool b, .int .u64 n]] w fun e w' => e = .returned (.bool b) ∧ w' = w.alloc (.cells #[.bool b, .int .u64 n] 24) := by
  go_enter Try.func6, Try.ntmps6
  go_wp2
  go_ret
  exact ⟨rfl, rfl⟩

theorem n_any (b : Bool) (n : Int) (w : World) :
    Calls Try.prog 7 #[.agg #[.bool b, .int .u64 n]] w fun e w' => e = .returned (.int .u64 n) ∧ w' = w.alloc (.cells #[.bool b, .int .u64 n] 24) := by
  go_enter Try.func7, Try.ntmps7
  go_wp2
  go_ret
  exact ⟨rfl, rfl⟩

/-- zzValue at the head of NewInt(v): v. -/
theorem value_any (v : Int) (h0 : -9223372036854775808 ≤ v) (h1 : v ≤ 9223372036854775807) (w : World) :
    Calls Try.prog 8 #[.bool (sOf v), .int .u64 (nOf v)] w fun e w' => e = .returned (.tuple #[.int .i64 v, .bool true]) ∧ w' = w := by
  by_cases h : v < 0
  · have e1 : sOf v = true := by simp [sOf, h]
    have e2 : nOf v = -1 - v := by simp [nOf, h]
    rw [e1, e2]
    clear e1 e2
    go_enter Try.func8, Try.ntmps8
    go_wp2
    go_ret2
    exact ⟨by simp; omega, rfl⟩
  · have e1 : sOf v = false := by simp [sOf, h]
    have e2 : nOf v = v := by simp [nOf, h]
    have h2 : 0 ≤ v := by omega
    rw [e1, e2]
    clear e1 e2
    go_enter Try.func8, Try.ntmps8
    go_wp2
    go_ret2
    exact ⟨rfl, rfl⟩

end Go.Proofs.Qxb6629358a
