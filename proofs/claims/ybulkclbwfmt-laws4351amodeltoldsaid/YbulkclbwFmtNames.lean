/-
  The law's names and contexts.
-/
import Derived.Test.YbulkclbwFmtAddCasts
import Derived.Deep.MidRow
namespace Go.Proofs.YbulkclbwFmt
open Go.RowKit

theorem results_cell8 {fn : Func} {p : Tmp} {ty : TypeId} (h : fn.results = #[.cell p ty]) (tmps : Array Value) (P : Program) (w : World) :
    (results fn tmps).run P w = ((asAddr (tmps.getD p undef)).run P w).andThen fun a w₁ => (loadVar ty a).run P w₁ := by
  simp only [results, h]
  simp [Sem.run_bind, Result.andThen]
theorem info23 : (Ybaf.prog.info? 23).map (·.size) = some 8 := by kernel_rfl
theorem load_row8 (w : World) (cs : List Value) (h : cs.length = 8) : (loadVar 23 ⟨w.heap.size, 0, none⟩).run Ybaf.prog (w.alloc (.cells cs.toArray 23)) = .ok (.agg cs.toArray) (w.alloc (.cells cs.toArray 23)) := by
  refine run_loadVar_mid _ w.heap.size 0 23 cs _ ?_ Ybaf.underlying23 rfl (by rw [info23, h])
  intro j v hv
  have hn : (w.alloc (.cells cs.toArray 23)).heap[w.heap.size]? = some (.cells cs.toArray 23 (0, 0)) := by
    show (w.heap.push _)[w.heap.size]? = _
    rw [Array.getElem?_push, if_pos rfl]
  rw [cell_of_row _ w.heap.size (0 + j) cs.toArray 23 (0, 0) hn]
  simpa using hv

set_option maxRecDepth 100000 in
set_option maxHeartbeats 1000000 in
theorem names_any (w : World) : Calls Ybaf.prog 6 #[] w fun e w' => e = .returned (.agg #[.string sInt4, .string sText, .string sBool, .string sInt4, .string sText, .string sBool, .string ⟨#[]⟩, .string sNosuch]) ∧ Below w.heap.size w w' := by
  go_enter Ybaf.func6, Ybaf.ntmps6
  go_wp2
  refine bodyPost_ret (v := .agg #[.string sInt4, .string sText, .string sBool, .string sInt4, .string sText, .string sBool, .string ⟨#[]⟩, .string sNosuch]) ?_ rfl ⟨rfl, (Below.refl _ _).alloc (Nat.le_refl _) _⟩
  rw [results_cell8 Ybaf.results6]
  exact load_row8 w [.string sInt4, .string sText, .string sBool, .string sInt4, .string sText, .string sBool, .string ⟨#[]⟩, .string sNosuch] rfl

set_option maxRecDepth 100000 in
set_option maxHeartbeats 1000000 in
theorem ctxs_any (w : World) : Calls Ybaf.prog 7 #[] w fun e w' => e = .returned (.agg #[.string ⟨#[105]⟩, .string ⟨#[97]⟩, .string ⟨#[101]⟩, .string ⟨#[105]⟩, .string ⟨#[97]⟩, .string ⟨#[101]⟩, .string ⟨#[120]⟩, .string ⟨#[]⟩]) ∧ Below w.heap.size w w' := by
  go_enter Ybaf.func7, Ybaf.ntmps7
  go_wp2
  refine bodyPost_ret (v := .agg #[.string ⟨#[105]⟩, .string ⟨#[97]⟩, .string ⟨#[101]⟩, .string ⟨#[105]⟩, .string ⟨#[97]⟩, .string ⟨#[101]⟩, .string ⟨#[120]⟩, .string ⟨#[]⟩]) ?_ rfl ⟨rfl, (Below.refl _ _).alloc (Nat.le_refl _) _⟩
  rw [results_cell8 Ybaf.results7]
  exact load_row8 w [.string ⟨#[105]⟩, .string ⟨#[97]⟩, .string ⟨#[101]⟩, .string ⟨#[105]⟩, .string ⟨#[97]⟩, .string ⟨#[101]⟩, .string ⟨#[120]⟩, .string ⟨#[]⟩] rfl


end Go.Proofs.YbulkclbwFmt
