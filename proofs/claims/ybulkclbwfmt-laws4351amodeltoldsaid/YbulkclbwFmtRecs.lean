/-
  The records that addCasts is handed, the plain model of what it does.
-/
import Derived.Test.YbulkclbwFmtAdd
namespace Go.Proofs.YbulkclbwFmt
open Go.RowKit Go.ChangeMaps

/-- the law's contexts -/
def cx : Nat → ByteArray
  | 0 => ⟨#[105]⟩
  | 1 => ⟨#[97]⟩
  | 2 => ⟨#[101]⟩
  | 3 => ⟨#[105]⟩
  | 4 => ⟨#[97]⟩
  | 5 => ⟨#[101]⟩
  | 6 => ⟨#[120]⟩
  | _ => ⟨#[]⟩
def letter (k : Nat) : Int := if k % 3 = 0 then 105 else if k % 3 = 1 then 97 else 101

/-- a step: from, to, context, line -/
structure St where
  fi : Nat
  ti : Nat
  ci : Nat
  line : Int
def St.bad (s : St) : Bool := decide (6 ≤ s.fi) || decide (6 ≤ s.ti) || decide (6 ≤ s.ci)
/-- the cast map's rows behind the first k steps -/
def rowsTo (st : Nat → St) : Nat → List Row
  | 0 => []
  | k + 1 => upd ((st k).fi % 3) ((st k).ti % 3) (letter (st k).ci) (rowsTo st k)

/-- all that was there is as it was, but block m -/
structure But (m : Nat) (w w' : World) : Prop where
  os : w'.os = w.os
  tape : w'.tape = w.tape
  output : w'.output = w.output
  size : w.heap.size ≤ w'.heap.size
  block : ∀ k, k < w.heap.size → k ≠ m → w'.heap[k]? = w.heap[k]?

theorem But.refl (m : Nat) (w : World) : But m w w := ⟨rfl, rfl, rfl, Nat.le_refl _, fun _ _ _ => rfl⟩
theorem But.trans {m : Nat} {a b c : World} (h : But m a b) (k : But m b c) : But m a c :=
  ⟨k.os.trans h.os, k.tape.trans h.tape, k.output.trans h.output, Nat.le_trans h.size k.size, fun i hi hm => (k.block i (Nat.lt_of_lt_of_le hi h.size) hm).trans (h.block i hi hm)⟩
theorem But.of_below {m : Nat} {w w' : World} (h : Below w.heap.size w w') : But m w w' := ⟨h.os, h.tape, h.output, h.size, fun k hk _ => h.block k hk⟩
theorem But.stored (m : Nat) (w : World) (o : Obj) : But m w (setBlock w m o) := ⟨rfl, rfl, rfl, by simp [setBlock], fun k _ hm => heap_setBlock_other w m k o hm⟩
theorem But.cell {m : Nat} {w w' : World} (h : But m w w') {p : Addr} (hp : p.block < w.heap.size) (hm : p.block ≠ m) : w'.cell? p = w.cell? p := World.cell?_of_block (h.block p.block hp hm)
theorem But.below {m B : Nat} {w w' : World} (h : But m w w') (hm : B ≤ m) (hB : B ≤ w.heap.size) : Below B w w' := ⟨h.os, h.tape, h.output, h.size, fun k hk => h.block k (by omega) (by omega)⟩

/-- the records: row R, record j's fields in block F j -/
structure Rec1 (R m : Nat) (F : Nat → Nat) (s : St) (j : Nat) (w : World) : Prop where
  line : w.cell? ⟨R, j * 2, none⟩ = some (.int .i64 s.line)
  fields : w.cell? ⟨R, j * 2 + 1, none⟩ = some (.slice (some ⟨F j, 0, none⟩) 4 4)
  c0 : w.cell? ⟨F j, 0, none⟩ = some (.string sCast)
  c1 : w.cell? ⟨F j, 1, none⟩ = some (.string (nm s.fi))
  c2 : w.cell? ⟨F j, 2, none⟩ = some (.string (nm s.ti))
  c3 : w.cell? ⟨F j, 3, none⟩ = some (.string (cx s.ci))
  apart : R ≠ m ∧ F j ≠ m
theorem Rec1.but {R m : Nat} {F : Nat → Nat} {s : St} {j : Nat} {w w' : World} (h : Rec1 R m F s j w) (hb : But m w w') : Rec1 R m F s j w' := by
  obtain ⟨h1, h2⟩ := h.apart
  exact ⟨(hb.cell (World.block_lt_of_cell? w _ h.line) h1).trans h.line, (hb.cell (World.block_lt_of_cell? w _ h.fields) h1).trans h.fields, (hb.cell (World.block_lt_of_cell? w _ h.c0) h2).trans h.c0,
    (hb.cell (World.block_lt_of_cell? w _ h.c1) h2).trans h.c1, (hb.cell (World.block_lt_of_cell? w _ h.c2) h2).trans h.c2, (hb.cell (World.block_lt_of_cell? w _ h.c3) h2).trans h.c3, h.apart⟩

end Go.Proofs.YbulkclbwFmt
