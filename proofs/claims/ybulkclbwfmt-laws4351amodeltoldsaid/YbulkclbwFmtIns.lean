/-
  The three stores that make the types' map.
-/
import Derived.Test.YbulkclbwFmtNames
namespace Go.Proofs.YbulkclbwFmt
open Go.RowKit Go.ChangeMaps

def e0 (v : Value) : MapEntry := { key := .string sInt4, val := v, born := 0 }
def e1 (v : Value) : MapEntry := { key := .string sText, val := v, born := 1 }
def e2 (v : Value) : MapEntry := { key := .string sBool, val := v, born := 2 }

theorem ins0 {t : Nat} {w : World} (h : w.heap[t]? = some (.map #[] 0)) (v : Value) :
    (Instr.mapUpdate 30 (.map (some t)) (.string sInt4) v).run Ybaf.prog w = .ok () (setBlock w t (.map #[e0 v] 1)) := by
  have hf : (Instr.findKey 9 (.string sInt4) []).run Ybaf.prog w = .ok none w := by
    simp [Instr.findKey, run_underlying Ybaf.underlying9, Result.andThen, Instr.findNow]
  simp [Instr.mapUpdate, run_underlying Ybaf.underlying30, MapKept.run_getObj_map h, check9, hf, MapKept.run_setObj_map _ h, Result.andThen, setBlock, e0]
theorem ins1 {t : Nat} {w : World} {v0 : Value} (h : w.heap[t]? = some (.map #[e0 v0] 1)) (v : Value) :
    (Instr.mapUpdate 30 (.map (some t)) (.string sText) v).run Ybaf.prog w = .ok () (setBlock w t (.map #[e0 v0, e1 v] 2)) := by
  have hf : (Instr.findKey 9 (.string sText) [e0 v0]).run Ybaf.prog w = .ok none w := by
    simp [Instr.findKey, Sem.run_bind, run_underlying Ybaf.underlying9, Result.andThen, Instr.findNow, Instr.sameNow, e0, bq10]
  simp [Instr.mapUpdate, run_underlying Ybaf.underlying30, MapKept.run_getObj_map h, check9, hf, MapKept.run_setObj_map _ h, Result.andThen, setBlock, e1]
theorem ins2 {t : Nat} {w : World} {v0 v1 : Value} (h : w.heap[t]? = some (.map #[e0 v0, e1 v1] 2)) (v : Value) :
    (Instr.mapUpdate 30 (.map (some t)) (.string sBool) v).run Ybaf.prog w = .ok () (setBlock w t (.map #[e0 v0, e1 v1, e2 v] 3)) := by
  have hf : (Instr.findKey 9 (.string sBool) [e0 v0, e1 v1]).run Ybaf.prog w = .ok none w := by
    simp [Instr.findKey, Sem.run_bind, run_underlying Ybaf.underlying9, Result.andThen, Instr.findNow, Instr.sameNow, e0, e1, bq20, bq21]
  simp [Instr.mapUpdate, run_underlying Ybaf.underlying30, MapKept.run_getObj_map h, check9, hf, MapKept.run_setObj_map _ h, Result.andThen, setBlock, e2]

theorem wpList_insert {ops : Array Oper} {rest : List Oper} {o : Oper} {a : Act} {w w' : World} {Q : Exit → Act → World → Prop} (hgd : o.guard = none) (t : TypeId) (x k y : Operand) (ho : o.op = .insert t x k y) (xv kv yv : Value) (hx : a.eval x = xv) (hk : a.eval k = kv) (hy : a.eval y = yv)
    (hr : (Instr.mapUpdate t xv kv yv).run Ybaf.prog w = .ok () w') (h : wpList Ybaf.prog ops Q rest (a.put o.dst undef) w') : wpList Ybaf.prog ops Q (o :: rest) a w := by
  refine wpList_plain hgd fun K hK => ?_
  unfold Oper.wp
  simp only [execOp, ho, hx, hk, hy]
  simp only [Sem.run_bind, hr, Result.andThen, Sem.run_pure]
  exact hK _ _ h

theorem types_of {B t : Nat} {w : World} (h : w.heap[t]? = some (.map #[e0 (tp B 0), e1 (tp B 1), e2 (tp B 2)] 3)) : Types B t w := ⟨_, _, h, rfl, rfl⟩

end Go.Proofs.YbulkclbwFmt
