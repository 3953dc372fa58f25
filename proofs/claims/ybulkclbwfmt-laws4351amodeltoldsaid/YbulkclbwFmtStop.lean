/-
  The closed facts on the stopped fmt.Sprintf that errorNear's call wants, each by the kernel.
-/
import Derived.Test.YbulkclbwFmtSmall
import Derived.Stop.CallBack
import Derived.Stop.IfaceNil
import GoSem.ClaimData
namespace Go.Proofs.YbulkclbwFmt
open Go.RowKit Go.Extern.Stop Go.Stop Go.Extern

theorem call22 (args : Array Value) (w : World) : (callFunc 22 args).run Ybaf.prog w = (FmtCalls.sprintf #[9, 92] #[9] args).run Ybaf.prog w :=
  run_callFunc_next Ybaf.func22 (by kernel_rfl) (by kernel_rfl) (by kernel_rfl) args w
theorem fmtGuard (name : String) (w : World) : (FmtStop.guard name).run Ybaf.prog w = .ok () w := by kernel_rfl
theorem nextTurns : Extern.next FmtCalls.turnsRow = some (FmtCalls.begun #[] #[]) := by kernel_rfl
-- the format of errorNear, two operands
theorem fmtNear : FmtStop.printed? ⟨#[37, 115, 32, 97, 116, 32, 111, 114, 32, 110, 101, 97, 114, 32, 34, 37, 115, 34]⟩ 2 = some [(0, 115, false), (1, 115, false)] := by kernel_rfl
theorem fmtNearR (w : World) : (FmtDoors.printed ⟨#[37, 115, 32, 97, 116, 32, 111, 114, 32, 110, 101, 97, 114, 32, 34, 37, 115, 34]⟩ 2).run Ybaf.prog w = .ok [(0, 115, false), (1, 115, false)] w := by kernel_rfl
def shape9 : List UInt8 := [12, 6, 0, 0, 0, 0, 0, 0, 0, 115, 116, 114, 105, 110, 103]
theorem op9s (name : String) (x : ByteArray) (w : World) : (FmtStop.operand name false 115 false (.iface 9 (.string x))).run Ybaf.prog w = .ok (shape9, FmtStop.pack x.data.toList) w := by kernel_rfl
theorem act9s (name : String) (x : Value) (w : World) : (FmtCalls.act name false 115 false (.iface 9 x)).run Ybaf.prog w = .ok (.closed false) w := by kernel_rfl

attribute [local go_sem] call22 fmtGuard fmtNear fmtNearR op9s act9s

set_option maxHeartbeats 1000000 in
theorem errorNear_any (F : Interp) (m near : ByteArray) (w : World) (hF : F.answers w.tape) :
    Calls Ybaf.prog 18 #[.string m, .string near] w fun e w' => ∃ b : Nat, e = .returned (.pointer (some ⟨b, 0, none⟩)) ∧ w.heap.size ≤ b ∧ b < w'.heap.size ∧ w'.cell? ⟨b, 0, none⟩ = some (.string ⟨#[52, 50, 54, 48, 49]⟩) ∧ Below w.heap.size w w' := by
  have hF' := answers_open hF
  go_enter Ybaf.func18, Ybaf.ntmps18
  go_wp2
  apply rows_value nextTurns
  case hr => go_simp; exact ⟨rfl, rfl⟩
  case h =>
    go_wp2
    go_ret
    exact ⟨w.heap.size + 1, rfl, Nat.le_succ _, by simp, by go_simp, (((Below.refl _ _).alloc (Nat.le_refl _) _).alloc (by simp) _).drew⟩

end Go.Proofs.YbulkclbwFmt
