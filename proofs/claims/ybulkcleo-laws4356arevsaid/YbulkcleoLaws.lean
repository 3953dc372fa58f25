/-
  Laws for the operations over arrays of twenty bytes, kept whole.
-/
import Derived.Test.YbulkcleoEq
import Derived.Deep.MidRow
namespace Go.Proofs.Ybulkcleo
open Go.RowKit

def z20 : List Int := List.replicate 20 0
theorem z20_len : z20.length = 20 := rfl
theorem info26 : (Yba.prog.info? 26).map (·.size) = some 20 := by kernel_rfl
theorem info25 : (Yba.prog.info? 25).map (·.size) = some 20 := by kernel_rfl
theorem isRow26 : (TypeDesc.array 20 5).isRow = true := rfl

theorem build26 (w : World) : (Instr.build 26 #[]).run Yba.prog w = .ok (.agg (bv z20).toArray) w := by kernel_rfl
theorem alloc26 (w : World) : (Instr.alloc 26 true (.tuple #[])).run Yba.prog w = .ok (.pointer (some ⟨w.heap.size, 0, none⟩)) (w.alloc (.cells (bv z20).toArray 26)) := by kernel_rfl

theorem wpList_build26 {w : World} {ops : Array Oper} {rest : List Oper} {o : Oper} {a : Act} {Q : Exit → Act → World → Prop} (hgd : o.guard = none) (ho : o.op = .build 26 #[])
    (h : wpList Yba.prog ops Q rest (a.put o.dst (.agg (bv z20).toArray)) w) : wpList Yba.prog ops Q (o :: rest) a w := by
  refine wpList_plain hgd fun K hK => ?_
  unfold Oper.wp
  simp only [execOp, ho, Array.map_empty]
  simp only [Sem.run_bind, build26, Result.andThen, Sem.run_pure]
  exact hK _ _ h
theorem wpList_alloc26 {w : World} {ops : Array Oper} {rest : List Oper} {o : Oper} {a : Act} {Q : Exit → Act → World → Prop} (hgd : o.guard = none) (ho : o.op = .alloc 26)
    (h : wpList Yba.prog ops Q rest (a.put o.dst (.pointer (some ⟨w.heap.size, 0, none⟩))) (w.alloc (.cells (bv z20).toArray 26))) : wpList Yba.prog ops Q (o :: rest) a w := by
  refine wpList_plain hgd fun K hK => ?_
  unfold Oper.wp
  simp only [execOp, ho]
  simp only [Sem.run_bind, alloc26, Result.andThen, Sem.run_pure]
  exact hK _ _ h

theorem bv_one (l : List Int) : ∀ v ∈ bv l, v.oneCell' = true := by
  intro v hv
  obtain ⟨n, _, rfl⟩ := List.mem_map.1 hv
  rfl
theorem bv_all (l : List Int) : (bv l).toArray.all (·.oneCell') = true := all_oneCell_toArray (bv_one l)
theorem bv_size (l : List Int) (h : l.length = 20) : (bv l).toArray.size = 20 := by simp [bv, h]

/-- a load of a node -/
theorem wpList_load26 {ops : Array Oper} {rest : List Oper} {o : Oper} {a : Act} {w : World} {Q : Exit → Act → World → Prop} (hgd : o.guard = none) (x : Operand) (ho : o.op = .load 26 x) (b off : Nat) (hx : a.eval x = .pointer (some ⟨b, off, none⟩))
    (l : List Int) (hl : l.length = 20) (hc : w.rangeAt b off (bv l)) (h : wpList Yba.prog ops Q rest (a.put o.dst (.agg (bv l).toArray)) w) : wpList Yba.prog ops Q (o :: rest) a w :=
  wpList_load_mid hgd 26 x ho b off hx (bv l) _ hc Yba.underlying26 isRow26 (by rw [info26, bv_length, hl]) h
theorem wpList_load25 {ops : Array Oper} {rest : List Oper} {o : Oper} {a : Act} {w : World} {Q : Exit → Act → World → Prop} (hgd : o.guard = none) (x : Operand) (ho : o.op = .load 25 x) (b off : Nat) (hx : a.eval x = .pointer (some ⟨b, off, none⟩))
    (l : List Int) (hl : l.length = 20) (hc : w.rangeAt b off (bv l)) (h : wpList Yba.prog ops Q rest (a.put o.dst (.agg (bv l).toArray)) w) : wpList Yba.prog ops Q (o :: rest) a w :=
  wpList_load_mid hgd 25 x ho b off hx (bv l) _ hc Yba.underlying25 isRow26 (by rw [info25, bv_length, hl]) h
/-- a store of a node -/
theorem wpList_store26 {ops : Array Oper} {rest : List Oper} {o : Oper} {a : Act} {w : World} {Q : Exit → Act → World → Prop} (hgd : o.guard = none) (x y : Operand) (ho : o.op = .store 26 x y) (b off : Nat) (l : List Int) (hl : l.length = 20)
    (hx : a.eval x = .pointer (some ⟨b, off, none⟩)) (hy : a.eval y = .agg (bv l).toArray) (ht : w.there b off 20) (h : wpList Yba.prog ops Q rest (a.put o.dst undef) (w.setCells b off (bv l))) : wpList Yba.prog ops Q (o :: rest) a w :=
  wpList_store_mid hgd 26 x y ho b off (bv l).toArray hx hy (by rw [bv_size l hl]; exact ht) (by rw [info26, bv_size l hl]) (bv_all l) (by simpa using h)

/-- one result that lies in memory -/
theorem results_cell {fn : Func} {p : Tmp} {ty : TypeId} (h : fn.results = #[.cell p ty]) (tmps : Array Value) (P : Program) (w : World) :
    (results fn tmps).run P w = ((asAddr (tmps.getD p undef)).run P w).andThen fun a w₁ => (loadVar ty a).run P w₁ := by
  simp only [results, h]
  simp [Sem.run_bind, Result.andThen]

theorem new_cells (w : World) (C : Array Value) (t : TypeId) : (w.alloc (.cells C t)).heap[w.heap.size]? = some (.cells C t (0, 0)) := by
  show (w.heap.push _)[w.heap.size]? = _
  rw [Array.getElem?_push, if_pos rfl]

theorem there_new (w : World) (C : Array Value) (t : TypeId) (n : Nat) (hn : n ≤ C.size) : (w.alloc (.cells C t)).there w.heap.size 0 n := by
  intro j hj
  refine ⟨?_, ?_⟩
  · rw [cell_of_row _ w.heap.size (0 + j) C t (0, 0) (new_cells w C t), Array.getElem?_eq_getElem (by omega)]; rfl
  · go_simp

theorem below_setCells {B b : Nat} (hb : B ≤ b) {a : World} : ∀ (vs : List Value) (o : Nat) (w : World), Below B a w → Below B a (w.setCells b o vs)
  | [], _, _, h => h
  | v :: r, o, _, h => below_setCells hb r (o + 1) _ (h.setCell (p := ⟨b, o, none⟩) hb v)

end Go.Proofs.Ybulkcleo
