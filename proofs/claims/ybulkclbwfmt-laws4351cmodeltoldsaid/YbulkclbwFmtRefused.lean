/-
  zzs4351crefused at a refusal: the zero token, and an error whose code is the syntax code.
-/
import Derived.Test.YbulkclbwFmtSmall
namespace Go.Proofs.YbulkclbwFmt
open Go.RowKit

theorem as86 (v : Value) (w : World) : (Instr.typeAssert (.iface 86 v) 58 86 true).run Ybaf.prog w = .ok (.tuple #[v, .bool true]) w := by kernel_rfl
attribute [local go_sem] as86

set_option maxRecDepth 100000 in
set_option maxHeartbeats 400000 in
theorem refused_any (b : Nat) (w : World) (hb : b < w.heap.size) (hc : w.cell? ⟨b, 0, none⟩ = some (.string ⟨#[52, 50, 54, 48, 49]⟩)) :
    Calls Ybaf.prog 11 #[.agg #[.int .i64 0, .string ⟨#[]⟩, .string ⟨#[]⟩, .int .i64 0, .bool false], .iface 86 (.pointer (some ⟨b, 0, none⟩))] w fun e w' => e = .returned (.bool true) ∧ Below w.heap.size w w' := by
  go_enter Ybaf.func11, Ybaf.ntmps11
  go_wp2
  go_ret
  exact ⟨rfl, (Below.refl _ _).alloc (Nat.le_refl _) _⟩

end Go.Proofs.YbulkclbwFmt
