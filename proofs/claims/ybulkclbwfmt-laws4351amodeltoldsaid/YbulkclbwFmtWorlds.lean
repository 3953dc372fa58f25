/-
  The worlds that the law LawS4351AModel makes ahead of its loop.
-/
import Derived.Test.YbulkclbwFmtIns
namespace Go.Proofs.YbulkclbwFmt
open Go.RowKit Go.ChangeMaps Go.Extern.Stop Go.Stop Go.Extern

/-- a walk goes on in whatever world has what is asked of it -/
theorem wcut {P : Program} {C : Code} {Q : Exit → Act → World → Prop} {a : Act} {w : World} (R : World → Prop) (h : R w) (k : ∀ wx, R wx → C.wp P Q a wx) : C.wp P Q a w := k w h

structure S3 (w0 w : World) (N : Nat) : Prop where
  names : ∀ k, k < 8 → w.cell? ⟨N, k, none⟩ = some (.string (nm k))
  low : w0.heap.size ≤ N
  high : N < w.heap.size
  bel : Below w0.heap.size w0 w

theorem S3.mk' {w0 w1 : World} (hb : Below w0.heap.size w0 w1) : S3 w0 (w1.alloc (.cells #[.string sInt4, .string sText, .string sBool, .string sInt4, .string sText, .string sBool, .string ⟨#[]⟩, .string sNosuch] 23)) w1.heap.size := by
  refine ⟨?_, hb.size, by simp, hb.alloc hb.size _⟩
  intro k hk
  have hn : (w1.alloc (.cells #[.string sInt4, .string sText, .string sBool, .string sInt4, .string sText, .string sBool, .string ⟨#[]⟩, .string sNosuch] 23)).heap[w1.heap.size]? = some (.cells #[.string sInt4, .string sText, .string sBool, .string sInt4, .string sText, .string sBool, .string ⟨#[]⟩, .string sNosuch] 23 (0, 0)) := by
    show (w1.heap.push _)[w1.heap.size]? = _
    rw [Array.getElem?_push, if_pos rfl]
  rw [cell_of_row _ w1.heap.size k _ 23 (0, 0) hn]
  match k, hk with
  | 0, _ | 1, _ | 2, _ | 3, _ | 4, _ | 5, _ | 6, _ | 7, _ => rfl

theorem S3.below {w0 w w' : World} {N : Nat} (h : S3 w0 w N) (hb : Below w.heap.size w w') : S3 w0 w' N :=
  ⟨fun k hk => (hb.cell h.high).trans (h.names k hk), h.low, Nat.lt_of_lt_of_le h.high hb.size, h.bel.trans (hb.mono h.bel.size)⟩

structure S4 (w0 w : World) (N X : Nat) : Prop where
  s3 : S3 w0 w N
  ctxs : ∀ k, k < 8 → w.cell? ⟨X, k, none⟩ = some (.string (cx k))
  lt : N < X
  size : w.heap.size = X + 1

theorem S4.mk' {w0 w w1 : World} {N : Nat} (h : S3 w0 w N) (hb : Below w.heap.size w w1) : S4 w0 (w1.alloc (.cells #[.string ⟨#[105]⟩, .string ⟨#[97]⟩, .string ⟨#[101]⟩, .string ⟨#[105]⟩, .string ⟨#[97]⟩, .string ⟨#[101]⟩, .string ⟨#[120]⟩, .string ⟨#[]⟩] 23)) N w1.heap.size := by
  refine ⟨(h.below hb).below ((Below.refl _ _).alloc (Nat.le_refl _) _), ?_, (h.below hb).high, by simp⟩
  intro k hk
  have hn : (w1.alloc (.cells #[.string ⟨#[105]⟩, .string ⟨#[97]⟩, .string ⟨#[101]⟩, .string ⟨#[105]⟩, .string ⟨#[97]⟩, .string ⟨#[101]⟩, .string ⟨#[120]⟩, .string ⟨#[]⟩] 23)).heap[w1.heap.size]? = some (.cells #[.string ⟨#[105]⟩, .string ⟨#[97]⟩, .string ⟨#[101]⟩, .string ⟨#[105]⟩, .string ⟨#[97]⟩, .string ⟨#[101]⟩, .string ⟨#[120]⟩, .string ⟨#[]⟩] 23 (0, 0)) := by
    show (w1.heap.push _)[w1.heap.size]? = _
    rw [Array.getElem?_push, if_pos rfl]
  rw [cell_of_row _ w1.heap.size k _ 23 (0, 0) hn]
  match k, hk with
  | 0, _ | 1, _ | 2, _ | 3, _ | 4, _ | 5, _ | 6, _ | 7, _ => rfl

/-- behind the set-up of names, contexts and types -/
structure S5 (w0 w : World) (N X T : Nat) : Prop where
  names : ∀ k, k < 8 → w.cell? ⟨N, k, none⟩ = some (.string (nm k))
  ctxs : ∀ k, k < 8 → w.cell? ⟨X, k, none⟩ = some (.string (cx k))
  low : w0.heap.size ≤ N
  lt : N < X
  bel : Below w0.heap.size w0 w
  tys : Tys (X + 1) w
  ts : ∀ i, i < 3 → w.cell? ⟨T, i, none⟩ = some (tp (X + 1) i)
  eqT : T = X + 4

theorem push_at {w : World} {o : Obj} : (w.alloc o).heap[w.heap.size]? = some o := by
  show (w.heap.push o)[w.heap.size]? = _
  rw [Array.getElem?_push, if_pos rfl]
theorem push_past {w : World} {o o' : Obj} {k : Nat} (h : w.heap[k]? = some o) : (w.alloc o').heap[k]? = some o := by
  have hk := lt_of_some h
  show (w.heap.push o')[k]? = _
  rw [Array.getElem?_push, if_neg (by omega)]
  exact h
theorem size_alloc' (w : World) (o : Obj) : (w.alloc o).heap.size = w.heap.size + 1 := by simp

theorem S5.mk' {w0 w : World} {N X : Nat} (h : S4 w0 w N X) (c1 c2 c3 : Array Value) :
    S5 w0 ((((w.alloc (.cells c1 27)).alloc (.cells c2 27)).alloc (.cells c3 27)).alloc (.cells #[.pointer (some ⟨X + 1, 0, none⟩), .pointer (some ⟨X + 1 + 1, 0, none⟩), .pointer (some ⟨X + 1 + 1 + 1, 0, none⟩)] 28)) N X (X + 1 + 1 + 1 + 1)
    ∧ ((((w.alloc (.cells c1 27)).alloc (.cells c2 27)).alloc (.cells c3 27)).alloc (.cells #[.pointer (some ⟨X + 1, 0, none⟩), .pointer (some ⟨X + 1 + 1, 0, none⟩), .pointer (some ⟨X + 1 + 1 + 1, 0, none⟩)] 28)).heap.size = X + 5 := by
  have hs := h.size
  have hbel : Below w.heap.size w ((((w.alloc (.cells c1 27)).alloc (.cells c2 27)).alloc (.cells c3 27)).alloc (.cells #[.pointer (some ⟨X + 1, 0, none⟩), .pointer (some ⟨X + 1 + 1, 0, none⟩), .pointer (some ⟨X + 1 + 1 + 1, 0, none⟩)] 28)) := by
    refine Below.alloc (Below.alloc (Below.alloc (Below.alloc (Below.refl _ _) (Nat.le_refl _) _) ?_ _) ?_ _) ?_ _ <;> simp <;> omega
  have h1 : (w.alloc (.cells c1 27)).heap[X + 1]? = some (.cells c1 27 (0, 0)) := by rw [← hs]; exact push_at
  have h2 : ((w.alloc (.cells c1 27)).alloc (.cells c2 27)).heap[X + 2]? = some (.cells c2 27 (0, 0)) := by
    have : X + 2 = (w.alloc (.cells c1 27)).heap.size := by rw [size_alloc', hs]
    rw [this]; exact push_at
  have h3 : (((w.alloc (.cells c1 27)).alloc (.cells c2 27)).alloc (.cells c3 27)).heap[X + 3]? = some (.cells c3 27 (0, 0)) := by
    have : X + 3 = ((w.alloc (.cells c1 27)).alloc (.cells c2 27)).heap.size := by rw [size_alloc', size_alloc', hs]
    rw [this]; exact push_at
  have h4 : ((((w.alloc (.cells c1 27)).alloc (.cells c2 27)).alloc (.cells c3 27)).alloc (.cells #[.pointer (some ⟨X + 1, 0, none⟩), .pointer (some ⟨X + 1 + 1, 0, none⟩), .pointer (some ⟨X + 1 + 1 + 1, 0, none⟩)] 28)).heap[X + 4]? = some (.cells #[.pointer (some ⟨X + 1, 0, none⟩), .pointer (some ⟨X + 1 + 1, 0, none⟩), .pointer (some ⟨X + 1 + 1 + 1, 0, none⟩)] 28 (0, 0)) := by
    have : X + 4 = (((w.alloc (.cells c1 27)).alloc (.cells c2 27)).alloc (.cells c3 27)).heap.size := by rw [size_alloc', size_alloc', size_alloc', hs]
    rw [this]; exact push_at
  refine ⟨⟨fun k hk => (hbel.cell h.s3.high).trans (h.s3.names k hk), fun k hk => (hbel.cell (by show X < _; omega)).trans (h.ctxs k hk), h.s3.low, h.lt, h.s3.bel.trans (hbel.mono h.s3.bel.size), ?_, ?_, rfl⟩, by simp; omega⟩
  · intro i hi
    match i, hi with
    | 0, _ => exact ⟨c1, 27, push_past (push_past (push_past h1))⟩
    | 1, _ => exact ⟨c2, 27, push_past (push_past h2)⟩
    | 2, _ => exact ⟨c3, 27, push_past h3⟩
  · intro i hi
    show _ = some (Value.pointer (some ⟨X + 1 + i, 0, none⟩))
    rw [show X + 1 + 1 + 1 + 1 = X + 4 from rfl, cell_of_row _ (X + 4) i _ 28 (0, 0) h4]
    match i, hi with
    | 0, _ | 1, _ | 2, _ => rfl

theorem S5.below {w0 w w' : World} {N X T B : Nat} (h : S5 w0 w N X T) (hb : Below B w w') (hB : X + 5 ≤ B) : S5 w0 w' N X T := by
  have e := h.eqT
  have hl := h.lt
  have hw := h.low
  refine ⟨fun k hk => (hb.cell (by show N < B; omega)).trans (h.names k hk), fun k hk => (hb.cell (by show X < B; omega)).trans (h.ctxs k hk), h.low, h.lt, h.bel.trans (hb.mono (by omega)), ?_, fun i hi => (hb.cell (by show T < B; omega)).trans (h.ts i hi), e⟩
  intro i hi
  obtain ⟨ca, ta, h1⟩ := h.tys i hi
  exact ⟨ca, ta, (hb.block _ (by omega)).trans h1⟩

end Go.Proofs.YbulkclbwFmt
