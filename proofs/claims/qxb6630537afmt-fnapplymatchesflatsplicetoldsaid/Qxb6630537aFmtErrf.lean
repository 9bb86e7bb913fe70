/-
  fmt.Errorf AT THIS DUMP (seat b6630537aF): the closed facts over fmt's stopped front, after the guide's Derived/Test/CheckFmt.lean; and what the one call of the program gives.
-/
import Derived.Test.Qxb6630537aFmtBase
import Derived.Stop.CallBack
import Derived.Stop.IfaceNil
import GoSem.ClaimData
namespace Go.Proofs.Qxb6630537aFmt
open Go.RowKit Go.Extern.Stop Go.Stop Go.Extern

theorem call25 (args : Array Value) (w : World) : (callFunc 25 args).run Tryf.prog w = ((FmtStop.errorf #[9, 55] #[33] args).run Tryf.prog w).andThen fun v w' => .ok (.value v) w' :=
  run_callFunc_extern Tryf.func25 (by kernel_rfl) (by kernel_rfl) (by kernel_rfl) (by kernel_rfl) args w
theorem guardF (name : String) (w : World) : (FmtStop.guard name).run Tryf.prog w = .ok () w := by kernel_rfl
theorem fmt0 : FmtStop.printed? ⟨#[99, 104, 97, 110, 103, 101, 32, 37, 100, 32, 111, 102, 32, 37, 100, 44, 32, 111, 102, 32, 116, 104, 101, 32, 98, 121, 116, 101, 115, 32, 102, 114, 111, 109, 32, 37, 100, 32, 116, 111, 32, 37, 100, 44, 32, 100, 111, 101, 115, 32, 110, 111, 116, 32, 108, 105, 101, 32, 105, 110, 32, 111, 114, 100, 101, 114, 32, 119, 105, 116, 104, 105, 110, 32, 116, 104, 101, 32, 37, 100, 32, 98, 121, 116, 101, 115, 32, 111, 102, 32, 116, 104, 101, 32, 116, 101, 120, 116]⟩ 5 = some [(0, 100, false), (1, 100, false), (2, 100, false), (3, 100, false), (4, 100, false)] := by kernel_rfl
theorem fmt0r (w : World) : (FmtDoors.printed ⟨#[99, 104, 97, 110, 103, 101, 32, 37, 100, 32, 111, 102, 32, 37, 100, 44, 32, 111, 102, 32, 116, 104, 101, 32, 98, 121, 116, 101, 115, 32, 102, 114, 111, 109, 32, 37, 100, 32, 116, 111, 32, 37, 100, 44, 32, 100, 111, 101, 115, 32, 110, 111, 116, 32, 108, 105, 101, 32, 105, 110, 32, 111, 114, 100, 101, 114, 32, 119, 105, 116, 104, 105, 110, 32, 116, 104, 101, 32, 37, 100, 32, 98, 121, 116, 101, 115, 32, 111, 102, 32, 116, 104, 101, 32, 116, 101, 120, 116]⟩ 5).run Tryf.prog w = .ok [(0, 100, false), (1, 100, false), (2, 100, false), (3, 100, false), (4, 100, false)] w := by kernel_rfl
def shape3 : List UInt8 := [5, 3, 0, 0, 0, 0, 0, 0, 0, 105, 110, 116]
theorem op3_100 (name : String) (x : Int) (w : World) : (FmtStop.operand name false 100 false (.iface 3 (.int .i64 x))).run Tryf.prog w = .ok (shape3, Go.Extern.Stop.digits 8 (x % 2 ^ 64).toNat) w := by kernel_rfl
theorem op3_100w (name : String) (x : Int) (w : World) : (FmtStop.operand name true 100 false (.iface 3 (.int .i64 x))).run Tryf.prog w = .ok (shape3, Go.Extern.Stop.digits 8 (x % 2 ^ 64).toNat) w := by kernel_rfl
theorem ptr58 (w : World) : (FmtStop.ptrTo "errors.errorString").run Tryf.prog w = .ok 58 w := by kernel_rfl
theorem elem58 (w : World) : (elemOf 58).run Tryf.prog w = .ok 60 w := by kernel_rfl
theorem isError58 (w : World) : (FmtDoors.textMethod 58 "Error").run Tryf.prog w = .ok true w := by kernel_rfl

attribute [local go_sem] call25 guardF fmt0 fmt0r op3_100 op3_100w ptr58 elem58 isError58

set_option maxHeartbeats 1000000 in
theorem errorf_walk (F : Interp) (x0 x1 x2 x3 x4 : Int) (b : Nat) (w : World) (hF : F.answers w.tape) (h0 : w.cell? ⟨b, 0, none⟩ = some (.iface 3 (.int .i64 x0))) (h1 : w.cell? ⟨b, 1, none⟩ = some (.iface 3 (.int .i64 x1))) (h2 : w.cell? ⟨b, 2, none⟩ = some (.iface 3 (.int .i64 x2))) (h3 : w.cell? ⟨b, 3, none⟩ = some (.iface 3 (.int .i64 x3))) (h4 : w.cell? ⟨b, 4, none⟩ = some (.iface 3 (.int .i64 x4))) :
    Calls Tryf.prog 23 #[.string ⟨#[99, 104, 97, 110, 103, 101, 32, 37, 100, 32, 111, 102, 32, 37, 100, 44, 32, 111, 102, 32, 116, 104, 101, 32, 98, 121, 116, 101, 115, 32, 102, 114, 111, 109, 32, 37, 100, 32, 116, 111, 32, 37, 100, 44, 32, 100, 111, 101, 115, 32, 110, 111, 116, 32, 108, 105, 101, 32, 105, 110, 32, 111, 114, 100, 101, 114, 32, 119, 105, 116, 104, 105, 110, 32, 116, 104, 101, 32, 37, 100, 32, 98, 121, 116, 101, 115, 32, 111, 102, 32, 116, 104, 101, 32, 116, 101, 120, 116]⟩, .slice (some ⟨b, 0, none⟩) 5 5] w fun e w' => ∃ p, e = .returned (.iface 58 (.pointer (some p))) ∧ Below w.heap.size w w' := by
  have hF' := hF
  unfold Interp.answers at hF'
  go_enter Tryf.func23, Tryf.ntmps23
  go_wp2
  go_ret
  exact ⟨_, rfl, ((Below.refl _ _).alloc (Nat.le_refl _) _).drew⟩
end Go.Proofs.Qxb6630537aFmt
