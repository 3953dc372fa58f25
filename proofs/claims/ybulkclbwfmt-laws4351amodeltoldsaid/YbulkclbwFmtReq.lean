/-
  (*loader).requiredType by its contract, at the eight names of the law.
-/
import Derived.Test.YbulkclbwFmtMal
import Derived.Test.YbulkclbwFmtCastPlain
namespace Go.Proofs.YbulkclbwFmt
open Go.RowKit Go.Extern.Stop Go.Stop Go.Extern

def sInt4 : ByteArray := ⟨#[105, 110, 116, 52]⟩
def sText : ByteArray := ⟨#[116, 101, 120, 116]⟩
def sBool : ByteArray := ⟨#[98, 111, 111, 108]⟩
def sNosuch : ByteArray := ⟨#[110, 111, 115, 117, 99, 104]⟩
def sCast : ByteArray := ⟨#[99, 97, 115, 116]⟩
/-- the law's names -/
def nm : Nat → ByteArray
  | 0 => sInt4
  | 1 => sText
  | 2 => sBool
  | 3 => sInt4
  | 4 => sText
  | 5 => sBool
  | 6 => ⟨#[]⟩
  | _ => sNosuch
/-- what a name leads to -/
def tyv (B k : Nat) : Value := if k < 6 then tp B (k % 3) else .pointer none

def Types (B t : Nat) (w : World) : Prop := ∃ es clock, w.heap[t]? = some (.map es clock) ∧ es.size = 3 ∧ es.toList.map (fun e => (e.key, e.val)) = [(Value.string sInt4, tp B 0), (Value.string sText, tp B 1), (Value.string sBool, tp B 2)]

theorem bq00 : (sInt4 == sInt4) = true := by decide
theorem bq10 : (sText == sInt4) = false := by decide
theorem bq11 : (sText == sText) = true := by decide
theorem bq20 : (sBool == sInt4) = false := by decide
theorem bq21 : (sBool == sText) = false := by decide
theorem bq22 : (sBool == sBool) = true := by decide
theorem bq30 : ((⟨#[]⟩ : ByteArray) == sInt4) = false := by decide
theorem bq31 : ((⟨#[]⟩ : ByteArray) == sText) = false := by decide
theorem bq32 : ((⟨#[]⟩ : ByteArray) == sBool) = false := by decide
theorem bq40 : (sNosuch == sInt4) = false := by decide
theorem bq41 : (sNosuch == sText) = false := by decide
theorem bq42 : (sNosuch == sBool) = false := by decide
theorem zero25 (w : World) : (zeroValue 25).run Ybaf.prog w = .ok (.pointer none) w := by kernel_rfl
theorem check9 (b : Bool) (s : ByteArray) (w : World) : (Instr.checkKey b 10000 9 (.string s)).run Ybaf.prog w = .ok () w := by
  show (Instr.checkKey b (9999 + 1) 9 (.string s)).run Ybaf.prog w = _
  rw [Instr.checkKey]
  simp [run_underlying Ybaf.underlying9]

theorem find3 {es : List MapEntry} {B : Nat} (h : es.map (fun e => (e.key, e.val)) = [(Value.string sInt4, tp B 0), (Value.string sText, tp B 1), (Value.string sBool, tp B 2)]) (k : Nat) (hk : k < 8) :
    Instr.findNow .string (.string (nm k)) es 0 = some (if k < 6 then some (k % 3, tp B (k % 3)) else none) := by
  have key : ∃ a b c, es = [a, b, c] := by
    have hl : es.length = 3 := by simpa using congrArg List.length h
    match es, hl with
    | [a, b, c], _ => exact ⟨a, b, c, rfl⟩
  obtain ⟨a, b, c, rfl⟩ := key
  simp only [List.map_cons, List.map_nil, List.cons.injEq, Prod.mk.injEq, and_true] at h
  obtain ⟨⟨h1, h2⟩, ⟨h3, h4⟩, h5, h6⟩ := h
  match k, hk with
  | 0, _ | 1, _ | 2, _ | 3, _ | 4, _ | 5, _ | 6, _ | 7, _ =>
    simp [Instr.findNow, Instr.sameNow, h1, h2, h3, h4, h5, h6, nm, bq00, bq10, bq11, bq20, bq21, bq22, bq30, bq31, bq32, bq40, bq41, bq42]

theorem lookup_types {B t : Nat} {w : World} (h : Types B t w) (k : Nat) (hk : k < 8) :
    (Instr.lookup 30 (.map (some t)) (.string (nm k)) false).run Ybaf.prog w = .ok (tyv B k) w := by
  obtain ⟨es, clock, hb, _, hs⟩ := h
  have hf : (Instr.findKey 9 (.string (nm k)) es.toList).run Ybaf.prog w = .ok (if k < 6 then some (k % 3, tp B (k % 3)) else none) w := by
    simp only [Instr.findKey, Sem.run_bind, run_underlying Ybaf.underlying9, Result.andThen, find3 hs k hk]
    rfl
  simp only [Instr.lookup, Sem.run_bind, run_underlying Ybaf.underlying30, MapKept.run_getObj_map hb, Sem.run_pure, Result.andThen, check9, hf]
  by_cases h6 : k < 6 <;> simp [tyv, h6]

/-- the loader in block l, the catalog in block c, its types' map in block t, its casts' map in block m, the three types from block B on -/
structure LD (l c t m B : Nat) (name : ByteArray) (w : World) : Prop where
  fn : w.cell? ⟨l, 0, none⟩ = some (.string name)
  fc : w.cell? ⟨l, 1, none⟩ = some (.pointer (some ⟨c, 0, none⟩))
  ft : w.cell? ⟨c, 0, none⟩ = some (.map (some t))
  fm : w.cell? ⟨c, 11, none⟩ = some (.map (some m))
  ty : Types B t w
  tys : Tys B w

theorem lt_of_some {w : World} {k : Nat} {o : Obj} (h : w.heap[k]? = some o) : k < w.heap.size := (Array.getElem?_eq_some_iff.1 h).1

theorem LD.below {l c t m B : Nat} {name : ByteArray} {w w' : World} (h : LD l c t m B name w) (hb : Below w.heap.size w w') : LD l c t m B name w' := by
  refine ⟨(hb.cell (World.block_lt_of_cell? w _ h.fn)).trans h.fn, (hb.cell (World.block_lt_of_cell? w _ h.fc)).trans h.fc, (hb.cell (World.block_lt_of_cell? w _ h.ft)).trans h.ft, (hb.cell (World.block_lt_of_cell? w _ h.fm)).trans h.fm, ?_, ?_⟩
  · obtain ⟨es, clock, h1, h2⟩ := h.ty
    exact ⟨es, clock, (hb.block _ (lt_of_some h1)).trans h1, h2⟩
  · intro i hi
    obtain ⟨ca, ta, h1⟩ := h.tys i hi
    exact ⟨ca, ta, (hb.block _ (lt_of_some h1)).trans h1⟩

theorem wpList_lookup {ops : Array Oper} {rest : List Oper} {o : Oper} {a : Act} {w : World} {Q : Exit → Act → World → Prop} (hgd : o.guard = none) (t : TypeId) (x k : Operand) (b : Bool) (ho : o.op = .lookup t x k b) (xv kv v : Value) (hx : a.eval x = xv) (hk : a.eval k = kv)
    (hr : (Instr.lookup t xv kv b).run Ybaf.prog w = .ok v w) (h : wpList Ybaf.prog ops Q rest (a.put o.dst v) w) : wpList Ybaf.prog ops Q (o :: rest) a w := by
  refine wpList_plain hgd fun K hK => ?_
  unfold Oper.wp
  simp only [execOp, ho, hx, hk]
  simp only [Sem.run_bind, hr, Result.andThen, Sem.run_pure]
  exact hK _ _ h

set_option maxRecDepth 100000 in
set_option maxHeartbeats 1000000 in
theorem req_ok {l c t m B : Nat} {name : ByteArray} {w : World} (h : LD l c t m B name w) (line : Int) (f i k : Nat) (hi : i < 4) (hf : w.cell? ⟨f, i, none⟩ = some (.string (nm k))) (hk : k < 6) :
    Calls Ybaf.prog 12 #[.pointer (some ⟨l, 0, none⟩), .agg #[.int .i64 line, .slice (some ⟨f, 0, none⟩) 4 4], .int .i64 i] w fun e w' => e = .returned (.tuple #[.pointer (some ⟨B + k % 3, 0, none⟩), .nilIface]) ∧ Below w.heap.size w w' := by
  have hbel : Below w.heap.size w (w.alloc (.cells #[.int .i64 line, .slice (some ⟨f, 0, none⟩) 4 4] 56)) := (Below.refl _ _).alloc (Nat.le_refl _) _
  have h' := h.below hbel
  have hf' := (hbel.cell (World.block_lt_of_cell? w _ hf)).trans hf
  have f1 := h'.fn
  have f2 := h'.fc
  have f3 := h'.ft
  have hl := lookup_types h'.ty k (by omega)
  have he : tyv B k = tp B (k % 3) := by simp [tyv, hk]
  rw [he] at hl
  unfold tp at hl
  clear h h' hf he
  have HL : Hid _ := hl
  clear hl
  generalize nm k = s at *
  generalize k % 3 = k' at *
  go_enter Ybaf.func12, Ybaf.ntmps12
  go_upto_region 3 with (refine wpList_lookup rfl 30 _ _ false rfl (.map (some t)) (.string s) _ rfl rfl HL.out ?_)
  go_wp2_with fail
  go_ret2
  exact ⟨rfl, hbel⟩

end Go.Proofs.YbulkclbwFmt
