/-
  zzCmpInt's contract at two heads of NewInt (seat b6629358a).
-/
import Derived.Test.Qxb6629358aParts
namespace Go.Proofs.Qxb6629358a
open Go.RowKit

/-- The order of two integers: -1, 0, 1. -/
def cmpI (v u : Int) : Int := if v < u then -1 else if u < v then 1 else 0

theorem cmp_any (v u : Int) (w : World) :
    Calls Try.prog 9 #[.bool (sOf v), .int .u64 (nOf v), .bool (sOf u), .int .u64 (nOf u)] w fun e w' => e = .returned (.int .i64 (cmpI v u)) ∧ w' = w := by
  by_cases h : v < 0
  · have e1 : sOf v = true := by simp [sOf, h]
    have e2 : nOf v = -1 - v := by simp [nOf, h]
    by_cases k : u < 0
    · have k1 : sOf u = true := by simp [sOf, k]
      have k2 : nOf u = -1 - u := by simp [nOf, k]
      rw [e1, e2, k1, k2]
      clear e1 e2 k1 k2
      by_cases c : v < u
      · have f : cmpI v u = -1 := by simp [cmpI, c]
        rw [f]
        have c1 : ((-1 - v : Int) == -1 - u) = false := by simp; omega
        have c2 : ¬ (-1 - v < -1 - u) := by omega
        clear f
        go_enter Try.func9, Try.ntmps9
        go_wp2
        go_ret
        exact ⟨rfl, rfl⟩
      · by_cases d : u < v
        · have f : cmpI v u = 1 := by simp [cmpI, c, d]
          rw [f]
          have c1 : ((-1 - v : Int) == -1 - u) = false := by simp; omega
          have c2 : (-1 - v < -1 - u) := by omega
          clear f
          go_enter Try.func9, Try.ntmps9
          go_wp2
          go_ret
          exact ⟨rfl, rfl⟩
        · obtain rfl : v = u := by omega
          have f : cmpI v v = 0 := by simp [cmpI]
          rw [f]
          clear f
          go_enter Try.func9, Try.ntmps9
          go_wp2
          go_ret
          exact ⟨rfl, rfl⟩
    · have k1 : sOf u = false := by simp [sOf, k]
      have f : cmpI v u = -1 := by have : v < u := by omega
                                   simp [cmpI, this]
      rw [e1, k1, f]
      clear e1 e2 k1 f
      go_enter Try.func9, Try.ntmps9
      go_wp2
      go_ret
      exact ⟨rfl, rfl⟩
  · have e1 : sOf v = false := by simp [sOf, h]
    have e2 : nOf v = v := by simp [nOf, h]
    by_cases k : u < 0
    · have k1 : sOf u = true := by simp [sOf, k]
      have f : cmpI v u = 1 := by have h1 : ¬ v < u := by omega
                                  have h2 : u < v := by omega
                                  simp [cmpI, h1, h2]
      rw [e1, k1, f]
      clear e1 e2 k1 f
      go_enter Try.func9, Try.ntmps9
      go_wp2
      go_ret
      exact ⟨rfl, rfl⟩
    · have k1 : sOf u = false := by simp [sOf, k]
      have k2 : nOf u = u := by simp [nOf, k]
      rw [e1, e2, k1, k2]
      clear e1 e2 k1 k2
      by_cases c : v < u
      · have f : cmpI v u = -1 := by simp [cmpI, c]
        rw [f]
        have c1 : ((v : Int) == u) = false := by simp; omega
        clear f
        go_enter Try.func9, Try.ntmps9
        go_wp2
        go_ret
        exact ⟨rfl, rfl⟩
      · by_cases d : u < v
        · have f : cmpI v u = 1 := by simp [cmpI, c, d]
          rw [f]
          have c1 : ((v : Int) == u) = false := by simp; omega
          clear f
          go_enter Try.func9, Try.ntmps9
          go_wp2
          go_ret
          exact ⟨rfl, rfl⟩
        · obtain rfl : v = u := by omega
          have f : cmpI v v = 0 := by simp [cmpI]
          rw [f]
          clear f
          go_enter Try.func9, Try.ntmps9
          go_wp2
          go_ret
          exact ⟨rfl, rfl⟩
end Go.Proofs.Qxb6629358a
