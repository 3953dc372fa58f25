/-
  (*Catalog).addCast by its contract; what a store into the cast map leaves alone.
-/
import Derived.Test.YbulkclbwFmtReqBad
namespace Go.Proofs.YbulkclbwFmt
open Go.RowKit Go.ChangeMaps

theorem wpList_mapUpdate {ops : Array Oper} {rest : List Oper} {o : Oper} {a : Act} {w w' : World} {Q : Exit → Act → World → Prop} (hgd : o.guard = none) (t : TypeId) (x k y : Operand) (ho : o.op = .mapUpdate t x k y) (xv kv yv : Value) (hx : a.eval x = xv) (hk : a.eval k = kv) (hy : a.eval y = yv)
    (hr : (Instr.mapUpdate t xv kv yv).run Ybaf.prog w = .ok () w') (h : wpList Ybaf.prog ops Q rest (a.put o.dst undef) w') : wpList Ybaf.prog ops Q (o :: rest) a w := by
  refine wpList_plain hgd fun K hK => ?_
  unfold Oper.wp
  simp only [execOp, ho, hx, hk, hy]
  simp only [Sem.run_bind, hr, Result.andThen, Sem.run_pure]
  exact hK _ _ h

theorem heap_setBlock_other (w : World) (b k : Nat) (o : Obj) (h : k ≠ b) : (setBlock w b o).heap[k]? = w.heap[k]? := by
  show (w.heap.setIfInBounds b o)[k]? = _
  rw [Array.getElem?_setIfInBounds_ne (by omega)]
theorem cell_setBlock (w : World) (b : Nat) (o : Obj) (p : Addr) (h : p.block ≠ b) : (setBlock w b o).cell? p = w.cell? p :=
  World.cell?_of_block (heap_setBlock_other w b p.block o h)
theorem below_setBlock {B b : Nat} (hb : B ≤ b) {a w : World} (h : Below B a w) (o : Obj) : Below B a (setBlock w b o) :=
  h.trans ⟨rfl, rfl, rfl, by simp [setBlock], fun k hk => heap_setBlock_other w b k o (by omega)⟩

/-- the loader with its two maps, the cast map's rows; the cast map's block is apart from all else -/
structure LC (l c t m B : Nat) (name : ByteArray) (L : List Row) (w : World) : Prop where
  ld : LD l c t m B name w
  rows : Casts B m L w
  apart : m ≠ l ∧ m ≠ c ∧ m ≠ t ∧ (m < B ∨ B + 3 ≤ m)

theorem LC.below {l c t m B : Nat} {name : ByteArray} {L : List Row} {w w' : World} (h : LC l c t m B name L w) (hb : Below w.heap.size w w') : LC l c t m B name L w' := by
  refine ⟨h.ld.below hb, ?_, h.apart⟩
  obtain ⟨es, clock, h1, h2⟩ := h.rows
  exact ⟨es, clock, (hb.block _ (lt_of_some h1)).trans h1, h2⟩

theorem LC.stored {l c t m B : Nat} {name : ByteArray} {L L' : List Row} {w : World} (h : LC l c t m B name L w) {es : Array MapEntry} {clock : Nat} (hr : Rep B L' es.toList) : LC l c t m B name L' (setBlock w m (.map es clock)) := by
  obtain ⟨h1, h2, h3, h4⟩ := h.apart
  obtain ⟨es0, clock0, hb, _⟩ := h.rows
  have hld := h.ld
  refine ⟨⟨?_, ?_, ?_, ?_, ?_, ?_⟩, ⟨es, clock, heap_setBlock_same hb _, hr⟩, h.apart⟩
  · rw [cell_setBlock _ _ _ _ (by show l ≠ m; omega)]; exact hld.fn
  · rw [cell_setBlock _ _ _ _ (by show l ≠ m; omega)]; exact hld.fc
  · rw [cell_setBlock _ _ _ _ (by show c ≠ m; omega)]; exact hld.ft
  · rw [cell_setBlock _ _ _ _ (by show c ≠ m; omega)]; exact hld.fm
  · obtain ⟨e, k, g1, g2⟩ := hld.ty
    exact ⟨e, k, by rw [heap_setBlock_other _ _ _ _ (by omega)]; exact g1, g2⟩
  · intro i hi
    obtain ⟨ca, ta, g1⟩ := hld.tys i hi
    exact ⟨ca, ta, by rw [heap_setBlock_other _ _ _ _ (by omega)]; exact g1⟩

set_option maxRecDepth 100000 in
set_option maxHeartbeats 1000000 in
theorem addCast_any {l c t m B : Nat} {name : ByteArray} {L : List Row} {w : World} (h : LC l c t m B name L w) (i j : Nat) (x : Int) (hi : i < 3) (hj : j < 3) :
    Calls Ybaf.prog 14 #[.pointer (some ⟨c, 0, none⟩), .pointer (some ⟨B + i, 0, none⟩), .pointer (some ⟨B + j, 0, none⟩), .int .u8 x] w fun e w' => e = .returned (.tuple #[]) ∧ ∃ es clock, w' = setBlock w m (.map es clock) ∧ Rep B (upd i j x L) es.toList := by
  obtain ⟨es, clock, hu, hr⟩ := update_casts h.ld.tys h.rows i j x hi hj
  have HU : Hid ((Instr.mapUpdate 31 (.map (some m)) (.agg #[.pointer (some ⟨B + i, 0, none⟩), .pointer (some ⟨B + j, 0, none⟩)]) (.int .u8 x)).run Ybaf.prog w = .ok () (setBlock w m (.map es clock))) := hu
  have f1 := h.ld.fm
  clear h hu
  go_enter Ybaf.func14, Ybaf.ntmps14
  go_wp2_with (refine wpList_mapUpdate rfl 31 _ _ _ rfl (.map (some m)) (.agg #[.pointer (some ⟨B + i, 0, none⟩), .pointer (some ⟨B + j, 0, none⟩)]) (.int .u8 x) rfl rfl rfl HU.out ?_)
  go_end0
  exact ⟨rfl, es, ⟨clock, rfl⟩, hr⟩

end Go.Proofs.YbulkclbwFmt
