/-
  A load of twenty bytes in a region that draws its order.
-/
import Derived.Test.YbulkcleoBuild
import Derived.BigQuiet
namespace Go.Proofs.Ybulkcleo
open Go.RowKit

theorem rangeAt_drewN {w : World} {b o : Nat} {cs : List Value} (h : w.rangeAt b o cs) (n : Nat) : (w.drewN n).rangeAt b o cs :=
  range_below h (below_drewN (Below.refl (max (b + 1) w.heap.size) _) n) (by omega)

theorem wpQuiet_loadL {ops : Array Oper} {rest : List Oper} {o : Oper} {a : Act} {w : World} {Q : Act → Prop} (hw : Region.wanted o (yielded ops a.tmps) = true) (ty : TypeId) (x : Operand) (ho : o.op = .load ty x) (b off : Nat) (hx : a.eval x = .pointer (some ⟨b, off, none⟩))
    (cs : List Value) (d : TypeDesc) (hc : w.rangeAt b off cs) (hu : Yba.prog.underlying ty = some d) (hd : d.isRow = true) (hi : (Yba.prog.info? ty).map (·.size) = some cs.length)
    (h : wpQuiet Yba.prog ops (fun w' => ∃ n, w' = w.drewN n) Q rest (a.put o.dst (.agg cs.toArray))) : wpQuiet Yba.prog ops (fun w' => ∃ n, w' = w.drewN n) Q (o :: rest) a := by
  refine BigFrame.wpQuiet_want hw fun K hK => ⟨.agg cs.toArray, ?_, hK _ h⟩
  rintro wx ⟨n, rfl⟩
  unfold Oper.quietAt execOp
  simp only [ho, hx, Instr.loadAt, Instr.sureAddr, Sem.run_bind, Sem.run_pure, Result.andThen_ok, run_loadVar_mid _ b off ty cs d (rangeAt_drewN hc n) hu hd hi]
  exact ⟨rfl, rfl⟩

theorem wpQuiet_load26 {ops : Array Oper} {rest : List Oper} {o : Oper} {a : Act} {w : World} {Q : Act → Prop} (hw : Region.wanted o (yielded ops a.tmps) = true) (x : Operand) (ho : o.op = .load 26 x) (b off : Nat) (hx : a.eval x = .pointer (some ⟨b, off, none⟩))
    (l : List Int) (hl : l.length = 20) (hc : w.rangeAt b off (bv l))
    (h : wpQuiet Yba.prog ops (fun w' => ∃ n, w' = w.drewN n) Q rest (a.put o.dst (.agg (bv l).toArray))) : wpQuiet Yba.prog ops (fun w' => ∃ n, w' = w.drewN n) Q (o :: rest) a :=
  wpQuiet_loadL hw 26 x ho b off hx (bv l) _ hc Yba.underlying26 isRow26 (by rw [info26, bv_length, hl]) h
theorem wpQuiet_load25 {ops : Array Oper} {rest : List Oper} {o : Oper} {a : Act} {w : World} {Q : Act → Prop} (hw : Region.wanted o (yielded ops a.tmps) = true) (x : Operand) (ho : o.op = .load 25 x) (b off : Nat) (hx : a.eval x = .pointer (some ⟨b, off, none⟩))
    (l : List Int) (hl : l.length = 20) (hc : w.rangeAt b off (bv l))
    (h : wpQuiet Yba.prog ops (fun w' => ∃ n, w' = w.drewN n) Q rest (a.put o.dst (.agg (bv l).toArray))) : wpQuiet Yba.prog ops (fun w' => ∃ n, w' = w.drewN n) Q (o :: rest) a :=
  wpQuiet_loadL hw 25 x ho b off hx (bv l) _ hc Yba.underlying25 isRow26 (by rw [info25, bv_length, hl]) h

end Go.Proofs.Ybulkcleo
