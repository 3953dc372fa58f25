/-
  lexNumber by its contract.
-/
import Derived.Test.YbulkclbwFmtStop
import Derived.Test.YbulkclbwFmtLexPlain
import Derived.Deep.DeepCutAuto
import Derived.Deep.RegionHeld3
namespace Go.Proofs.YbulkclbwFmt
open Go.RowKit Go.Extern.Stop Go.Stop Go.Extern

/-- what lexNumber leaves -/
def LexPost (s : ByteArray) (st : Nat) (w : World) (e : Ending) (w' : World) : Prop :=
  (∃ k, numEnd s st = some k ∧ e = .returned (.tuple #[.agg #[.int .i64 3, .string (s.extract st k), .string (s.extract st k), .int .i64 st, .bool false], .nilIface]) ∧ Below w.heap.size w w') ∨
  (numEnd s st = none ∧ ∃ b : Nat, e = .returned (.tuple #[.agg #[.int .i64 0, .string ⟨#[]⟩, .string ⟨#[]⟩, .int .i64 0, .bool false], .iface 86 (.pointer (some ⟨b, 0, none⟩))]) ∧
    w.heap.size ≤ b ∧ b < w'.heap.size ∧ w'.cell? ⟨b, 0, none⟩ = some (.string ⟨#[52, 50, 54, 48, 49]⟩) ∧ Below w.heap.size w w')

/-- the world in the middle of lexNumber: the source's box, the result's slot, the counter -/
structure LexSt (w0 : World) (s : ByteArray) (i : Nat) (w1 : World) : Prop where
  src : w1.cell? ⟨w0.heap.size, 0, none⟩ = some (.string s)
  t0 : w1.cell? ⟨w0.heap.size + 1, 0, none⟩ = some (.int .i64 0)
  t1 : w1.cell? ⟨w0.heap.size + 1, 1, none⟩ = some (.string ⟨#[]⟩)
  t2 : w1.cell? ⟨w0.heap.size + 1, 2, none⟩ = some (.string ⟨#[]⟩)
  t3 : w1.cell? ⟨w0.heap.size + 1, 3, none⟩ = some (.int .i64 0)
  t4 : w1.cell? ⟨w0.heap.size + 1, 4, none⟩ = some (.bool false)
  tf : ∀ j, w1.frozen? ⟨w0.heap.size + 1, j, none⟩ = false
  ctr : w1.cell? ⟨w0.heap.size + 1 + 1, 0, none⟩ = some (.int .i64 i)
  fr : w1.frozen? ⟨w0.heap.size + 1 + 1, 0, none⟩ = false
  size : w1.heap.size = w0.heap.size + 1 + 1 + 1
  bel : Below w0.heap.size w0 w1

theorem LexSt.step {w0 : World} {s : ByteArray} {i j : Nat} {w1 w2 : World} (h : LexSt w0 s i w1) (hc : w2.cell? ⟨w0.heap.size + 1 + 1, 0, none⟩ = some (.int .i64 j)) (hf : w2.frozen? ⟨w0.heap.size + 1 + 1, 0, none⟩ = false)
    (hz : w2.heap.size = w1.heap.size) (hb : Below (w0.heap.size + 1 + 1) w1 w2) : LexSt w0 s j w2 :=
  ⟨(hb.cell (by simp <;> omega)).trans h.src, (hb.cell (by simp)).trans h.t0, (hb.cell (by simp)).trans h.t1, (hb.cell (by simp)).trans h.t2, (hb.cell (by simp)).trans h.t3, (hb.cell (by simp)).trans h.t4,
   fun j => (hb.frozen (by simp)).trans (h.tf j), hc, hf, hz.trans h.size, h.bel.trans (hb.mono (by omega))⟩

theorem LexSt.start (w0 : World) (s : ByteArray) (i : Nat) :
    LexSt w0 s i (((w0.alloc (Obj.cells #[Value.string s] 9)).alloc (Obj.cells #[Value.int IntKind.i64 0, Value.string { data := #[] }, Value.string { data := #[] }, Value.int IntKind.i64 0, Value.bool false] 71)).alloc (Obj.cells #[Value.int IntKind.i64 ↑i] 3)) := by
  constructor
  case bel => exact (((Below.refl _ _).alloc (Nat.le_refl _) _).alloc (by simp) _).alloc (by simp; omega) _
  case size => simp
  case tf => intro j; go_simp
  all_goals go_simp

theorem cell_far (w : World) (p a : Addr) (v : Value) (h : p.block ≠ a.block) : (w.setCell p v).cell? a = w.cell? a :=
  World.cell?_setCell_other _ _ _ _ (fun e => h (by rw [e]))

theorem LexSt.put {w0 : World} {s : ByteArray} {i j : Nat} {w1 w2 : World} {v : Value} (h : LexSt w0 s i w1) (hc : w2.cell? ⟨w0.heap.size + 1 + 1, 0, none⟩ = some (.int .i64 j)) (hf : w2.frozen? ⟨w0.heap.size + 1 + 1, 0, none⟩ = false)
    (hz : w2.heap.size = (w1.setCell ⟨w0.heap.size + 1 + 1, 0, none⟩ v).heap.size) (hb : Below (w0.heap.size + 1 + 1) (w1.setCell ⟨w0.heap.size + 1 + 1, 0, none⟩ v) w2) : LexSt w0 s j w2 :=
  h.step hc hf (by rw [hz]; simp) (((Below.refl (w0.heap.size + 1 + 1) w1).setCell (p := ⟨w0.heap.size + 1 + 1, 0, none⟩) (Nat.le_refl _) v).trans hb)

-- the result's slot behind errorNear's call
theorem LexSt.behind {w0 : World} {s : ByteArray} {i : Nat} {w1 w3 : World} (h : LexSt w0 s i w1) (hb : Below w1.heap.size w1 w3) :
    w3.cell? ⟨w0.heap.size + 1, 0, none⟩ = some (.int .i64 0) ∧ w3.cell? ⟨w0.heap.size + 1, 1, none⟩ = some (.string ⟨#[]⟩) ∧ w3.cell? ⟨w0.heap.size + 1, 2, none⟩ = some (.string ⟨#[]⟩) ∧
    w3.cell? ⟨w0.heap.size + 1, 3, none⟩ = some (.int .i64 0) ∧ w3.cell? ⟨w0.heap.size + 1, 4, none⟩ = some (.bool false) ∧ (∀ j, w3.frozen? ⟨w0.heap.size + 1, j, none⟩ = false) ∧ Below w0.heap.size w0 w3 ∧ w0.heap.size + 1 + 1 + 1 ≤ w3.heap.size := by
  have hz := h.size
  have hn := hb.size
  exact ⟨(hb.cell (by simp [hz])).trans h.t0, (hb.cell (by simp [hz])).trans h.t1, (hb.cell (by simp [hz])).trans h.t2, (hb.cell (by simp [hz])).trans h.t3, (hb.cell (by simp [hz])).trans h.t4,
    fun j => (hb.frozen (by simp [hz])).trans (h.tf j), h.bel.trans (hb.mono (by omega)), by omega⟩

theorem LexSt.drew {w0 : World} {s : ByteArray} {i : Nat} {w1 : World} (h : LexSt w0 s i w1) : LexSt w0 s i w1.drew :=
  ⟨h.src, h.t0, h.t1, h.t2, h.t3, h.t4, h.tf, h.ctr, h.fr, h.size, h.bel.drew⟩

theorem LexSt.behindS {w0 : World} {s : ByteArray} {i : Nat} {w1 w3 : World} (h : LexSt w0 s i w1) (hb : Below w1.heap.size w1 w3) :
    w3.cell? ⟨w0.heap.size, 0, none⟩ = some (.string s) ∧ w3.cell? ⟨w0.heap.size + 1 + 1, 0, none⟩ = some (.int .i64 i) := by
  have hz := h.size
  exact ⟨(hb.cell (by simp [hz]; omega)).trans h.src, (hb.cell (by simp [hz])).trans h.ctr⟩

-- the two ends of lexNumber
theorem lex_bad {w w3 : World} {s : ByteArray} {st eb n : Nat} (hN : numEnd s st = none) (hn : n = w.heap.size + 1 + 1 + 1) (hle : n ≤ eb) (hlt : eb < w3.heap.size) (hcode : w3.cell? ⟨eb, 0, none⟩ = some (.string ⟨#[52, 50, 54, 48, 49]⟩)) (hbel : Below w.heap.size w w3) :
    LexPost s st w (Ending.returned (Value.tuple #[Value.agg #[Value.int IntKind.i64 0, Value.string { data := #[] }, Value.string { data := #[] }, Value.int IntKind.i64 0, Value.bool false], Value.iface 86 (Value.pointer (some { block := eb, off := 0 }))]))
      (((((w3.setCell { block := w.heap.size + 1, off := 0 } (Value.int IntKind.i64 0)).setCell { block := w.heap.size + 1, off := 1 } (Value.string { data := #[] })).setCell { block := w.heap.size + 1, off := 2 } (Value.string { data := #[] })).setCell
          { block := w.heap.size + 1, off := 3 } (Value.int IntKind.i64 0)).setCell { block := w.heap.size + 1, off := 4 } (Value.bool false)) := by
  refine Or.inr ⟨hN, eb, rfl, by omega, by simpa using hlt, ?_, ?_⟩
  · rw [cell_far _ _ _ _ (by simp; omega), cell_far _ _ _ _ (by simp; omega), cell_far _ _ _ _ (by simp; omega), cell_far _ _ _ _ (by simp; omega), cell_far _ _ _ _ (by simp; omega)]
    exact hcode
  · exact ((((hbel.setCell (by simp) _).setCell (by simp) _).setCell (by simp) _).setCell (by simp) _).setCell (by simp) _

theorem lex_ok {w w3 : World} {s : ByteArray} {st k : Nat} {v0 v1 v2 v3 v4 : Value} (hN : numEnd s st = some k) (hbel : Below w.heap.size w w3) :
    LexPost s st w (.returned (.tuple #[.agg #[.int .i64 3, .string (s.extract st k), .string (s.extract st k), .int .i64 st, .bool false], .nilIface]))
      (((((w3.setCell { block := w.heap.size + 1, off := 0 } v0).setCell { block := w.heap.size + 1, off := 1 } v1).setCell { block := w.heap.size + 1, off := 2 } v2).setCell
          { block := w.heap.size + 1, off := 3 } v3).setCell { block := w.heap.size + 1, off := 4 } v4) :=
  Or.inl ⟨k, hN, rfl, ((((hbel.setCell (by simp) _).setCell (by simp) _).setCell (by simp) _).setCell (by simp) _).setCell (by simp) _⟩

end Go.Proofs.YbulkclbwFmt
