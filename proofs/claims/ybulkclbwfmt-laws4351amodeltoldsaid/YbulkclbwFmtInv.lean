/-
  The state of the law LawS4351AModel at its loops' heads.
-/
import Derived.Test.YbulkclbwFmtWorlds
import Derived.Deep.QuietTactic
import Derived.BigQuiet
namespace Go.Proofs.YbulkclbwFmt
open Go.RowKit Go.ChangeMaps Go.Extern.Stop Go.Stop Go.Extern

/-- behind the catalog's making -/
structure S6 (w0 w : World) (N X T t m c : Nat) : Prop where
  s5 : S5 w0 w N X T
  ty : Types (X + 1) t w
  rows : Casts (X + 1) m [] w
  ft : w.cell? ⟨c, 0, none⟩ = some (.map (some t))
  fm : w.cell? ⟨c, 11, none⟩ = some (.map (some m))
  eqs : t = X + 5 ∧ m = X + 6 ∧ c = X + 7
  size : w.heap.size = X + 8

theorem S6.mk' {w0 w w3 : World} {N X T : Nat} (h : S5 w0 w N X T) (hs : w.heap.size = X + 5) (hb : Below (X + 5) w w3) (hm : w3.heap[w.heap.size]? = some (.map #[e0 (tp (X + 1) 0), e1 (tp (X + 1) 1), e2 (tp (X + 1) 2)] 3)) (hs3 : w3.heap.size = X + 6)
    (v1 v2 v3 v4 v5 v6 v7 v8 v9 v10 v12 : Value) :
    S6 w0 ((w3.alloc (.map #[] 0)).alloc (.cells #[.map (some w.heap.size), v1, v2, v3, v4, v5, v6, v7, v8, v9, v10, .map (some w3.heap.size), v12] 46)) N X T w.heap.size w3.heap.size (w3.heap.size + 1) := by
  have b1 : Below (X + 5) w3 ((w3.alloc (.map #[] 0)).alloc (.cells #[.map (some w.heap.size), v1, v2, v3, v4, v5, v6, v7, v8, v9, v10, .map (some w3.heap.size), v12] 46)) :=
    Below.alloc (Below.alloc (Below.refl _ _) (by omega) _) (by simp; omega) _
  have hc : ((w3.alloc (.map #[] 0)).alloc (.cells #[.map (some w.heap.size), v1, v2, v3, v4, v5, v6, v7, v8, v9, v10, .map (some w3.heap.size), v12] 46)).heap[w3.heap.size + 1]? = some (.cells #[.map (some w.heap.size), v1, v2, v3, v4, v5, v6, v7, v8, v9, v10, .map (some w3.heap.size), v12] 46 (0, 0)) := by
    rw [show w3.heap.size + 1 = (w3.alloc (.map #[] 0)).heap.size by simp]; exact push_at
  refine ⟨h.below (hb.trans b1) (Nat.le_refl _), types_of (push_past (push_past hm)), ⟨#[], 0, push_past push_at, ⟨rfl, fun x hx => by cases hx⟩⟩, ?_, ?_, ⟨hs, hs3, by omega⟩, by simp; omega⟩
  · rw [cell_of_row _ _ 0 _ 46 (0, 0) hc]; rfl
  · rw [cell_of_row _ _ 11 _ 46 (0, 0) hc]; rfl

theorem LC.lift {l c t m B K : Nat} {name : ByteArray} {L : List Row} {w w' : World} (h : LC l c t m B name L w) (hb : Below K w w') (h1 : l < K) (h2 : c < K) (h3 : t < K) (h4 : m < K) (h5 : B + 3 ≤ K) : LC l c t m B name L w' := by
  refine ⟨⟨(hb.cell h1).trans h.ld.fn, (hb.cell h1).trans h.ld.fc, (hb.cell h2).trans h.ld.ft, (hb.cell h2).trans h.ld.fm, ?_, ?_⟩, ?_, h.apart⟩
  · obtain ⟨es, clock, g1, g2⟩ := h.ld.ty
    exact ⟨es, clock, (hb.block _ h3).trans g1, g2⟩
  · intro i hi
    obtain ⟨ca, ta, g1⟩ := h.ld.tys i hi
    exact ⟨ca, ta, (hb.block _ (by omega)).trans g1⟩
  · obtain ⟨es, clock, g1, g2⟩ := h.rows
    exact ⟨es, clock, (hb.block _ h4).trans g1, g2⟩

/-- all that loop 1 leaves alone -/
structure G (w0 w : World) (N X T t m c l : Nat) (name : ByteArray) (L : List Row) : Prop where
  s5 : S5 w0 w N X T
  lc : LC l c t m (X + 1) name L w
  eqs : t = X + 5 ∧ m = X + 6 ∧ c = X + 7 ∧ l = X + 8
theorem G.lift {w0 w w' : World} {N X T t m c l K : Nat} {name : ByteArray} {L : List Row} (h : G w0 w N X T t m c l name L) (hb : Below K w w') (hK : X + 9 ≤ K) : G w0 w' N X T t m c l name L := by
  obtain ⟨h1, h2, h3, h4⟩ := h.eqs
  exact ⟨h.s5.below hb (by omega), h.lc.lift hb (by omega) (by omega) (by omega) (by omega) (by omega), h.eqs⟩

/-- the letter that stands in place p behind the first k steps -/
def exv (st : Nat → St) (k p : Nat) : Int := (gt (p / 3) (p % 3) (rowsTo st k)).getD 0

/-- the first k records are laid, and the letters of the first h steps -/
structure Inv (w0 w : World) (N X T t m c l R E n : Nat) (name : ByteArray) (st : Nat → St) (k h : Nat) : Prop where
  g : G w0 w N X T t m c l name []
  recs : ∃ F : Nat → Nat, ∀ j, j < k → Rec1 R m F (st j) j w ∧ E < F j
  thR : w.there R 0 (n * 2)
  thE : w.there E 0 9
  exp : ∀ p, p < 9 → w.cell? ⟨E, p, none⟩ = some (.int .u8 (exv st h p))
  eqR : R = X + 9
  ltE : R < E
  high : E < w.heap.size

theorem there_owned {w : World} {base E n : Nat} {xs : List Value} (h : w.ownsRow base 56 2 (.slice (some ⟨E, 0, none⟩) n n) n xs) : w.there E 0 (n * 2) := by
  intro j hj
  rw [Nat.zero_add]
  have hx : xs.length = n * 2 := h.1
  refine ⟨?_, h.frozenAt j⟩
  rw [h.cellAt j hj, List.getElem?_eq_getElem (by omega)]; rfl

theorem hi56 : Ybaf.prog.info? 56 = some Ybaf.t56 := by kernel_rfl
theorem sz56 : Ybaf.t56.size = 2 := rfl
theorem by56 : Ybaf.t56.bytes = 32 := rfl
theorem zero56 : ∃ z, Ybaf.t56.zero = some z := ⟨_, rfl⟩

theorem Inv.start {w0 w w1 : World} {N X T t m c n : Nat} {name : ByteArray} {st : Nat → St} {xs : List Value} {base : Nat} (h : S6 w0 w N X T t m c)
    (ho : w1.ownsRow base 56 2 (.slice (some ⟨(w.alloc (.cells #[.string name, .pointer (some ⟨c, 0, none⟩)] 49)).heap.size, 0, none⟩) n n) n xs)
    (hb : Below (X + 9) (w.alloc (.cells #[.string name, .pointer (some ⟨c, 0, none⟩)] 49)) w1) (hs : (w.alloc (.cells #[.string name, .pointer (some ⟨c, 0, none⟩)] 49)).heap.size < w1.heap.size) :
    Inv w0 (w1.alloc (.cells #[.int .u8 0, .int .u8 0, .int .u8 0, .int .u8 0, .int .u8 0, .int .u8 0, .int .u8 0, .int .u8 0, .int .u8 0] 52)) N X T t m c w.heap.size (w.alloc (.cells #[.string name, .pointer (some ⟨c, 0, none⟩)] 49)).heap.size w1.heap.size n name st 0 0 := by
  have hsz := h.size
  obtain ⟨e1, e2, e3⟩ := h.eqs
  have hl : (w.alloc (.cells #[.string name, .pointer (some ⟨c, 0, none⟩)] 49)).heap[w.heap.size]? = some (.cells #[.string name, .pointer (some ⟨c, 0, none⟩)] 49 (0, 0)) := push_at
  have ba : Below (X + 8) w (w.alloc (.cells #[.string name, .pointer (some ⟨c, 0, none⟩)] 49)) := (Below.refl _ _).alloc (by omega) _
  have s5 : S5 w0 (w.alloc (.cells #[.string name, .pointer (some ⟨c, 0, none⟩)] 49)) N X T := h.s5.below ba (by omega)
  have lc : LC w.heap.size c t m (X + 1) name [] (w.alloc (.cells #[.string name, .pointer (some ⟨c, 0, none⟩)] 49)) := by
    refine ⟨⟨?_, ?_, (ba.cell (by show c < _; omega)).trans h.ft, (ba.cell (by show c < _; omega)).trans h.fm, ?_, s5.tys⟩, ?_, by omega⟩
    · rw [cell_of_row _ _ 0 _ 49 (0, 0) hl]; rfl
    · rw [cell_of_row _ _ 1 _ 49 (0, 0) hl]; rfl
    · obtain ⟨es, clock, g1, g2⟩ := h.ty
      exact ⟨es, clock, push_past g1, g2⟩
    · obtain ⟨es, clock, g1, g2⟩ := h.rows
      exact ⟨es, clock, push_past g1, g2⟩
  have g : G w0 (w.alloc (.cells #[.string name, .pointer (some ⟨c, 0, none⟩)] 49)) N X T t m c w.heap.size name [] := ⟨s5, lc, by omega⟩
  have hsa := size_alloc' w (.cells #[.string name, .pointer (some ⟨c, 0, none⟩)] 49)
  have bb := hb.alloc (o := .cells #[.int .u8 0, .int .u8 0, .int .u8 0, .int .u8 0, .int .u8 0, .int .u8 0, .int .u8 0, .int .u8 0, .int .u8 0] 52) (by omega)
  refine ⟨g.lift bb (Nat.le_refl _), ⟨fun _ => 0, fun j hj => by omega⟩, World.there_alloc (there_owned ho) _, ?_, ?_, by omega, hs, by simp⟩
  · intro j hj
    have hE : (w1.alloc (.cells #[.int .u8 0, .int .u8 0, .int .u8 0, .int .u8 0, .int .u8 0, .int .u8 0, .int .u8 0, .int .u8 0, .int .u8 0] 52)).heap[w1.heap.size]? = some (.cells #[.int .u8 0, .int .u8 0, .int .u8 0, .int .u8 0, .int .u8 0, .int .u8 0, .int .u8 0, .int .u8 0, .int .u8 0] 52 (0, 0)) := push_at
    rw [Nat.zero_add]
    refine ⟨?_, World.frozen?_alloc_at _ _ _ _ rfl⟩
    rw [cell_of_row _ _ j _ 52 (0, 0) hE]
    match j, hj with
    | 0, _ | 1, _ | 2, _ | 3, _ | 4, _ | 5, _ | 6, _ | 7, _ | 8, _ => rfl
  · intro p hp
    have hE : (w1.alloc (.cells #[.int .u8 0, .int .u8 0, .int .u8 0, .int .u8 0, .int .u8 0, .int .u8 0, .int .u8 0, .int .u8 0, .int .u8 0] 52)).heap[w1.heap.size]? = some (.cells #[.int .u8 0, .int .u8 0, .int .u8 0, .int .u8 0, .int .u8 0, .int .u8 0, .int .u8 0, .int .u8 0, .int .u8 0] 52 (0, 0)) := push_at
    rw [cell_of_row _ _ p _ 52 (0, 0) hE]
    match p, hp with
    | 0, _ | 1, _ | 2, _ | 3, _ | 4, _ | 5, _ | 6, _ | 7, _ | 8, _ => rfl

/-- the argument: step j's four cells -/
def Steps (w : World) (a0 : Option Addr) (n : Nat) (fr tt cc ln : Nat → Int) : Prop :=
  n = 0 ∨ ∃ g o : Nat, a0 = some ⟨g, o, none⟩ ∧ g < w.heap.size ∧ ∀ j, j < n → w.cell? ⟨g, o + j * 4, none⟩ = some (.int .u8 (fr j)) ∧ w.cell? ⟨g, o + j * 4 + 1, none⟩ = some (.int .u8 (tt j)) ∧ w.cell? ⟨g, o + j * 4 + 2, none⟩ = some (.int .u8 (cc j)) ∧ w.cell? ⟨g, o + j * 4 + 3, none⟩ = some (.int .i64 (ln j))
def stOf (fr tt cc ln : Nat → Int) (j : Nat) : St := ⟨(fr j % 8).toNat, (tt j % 8).toNat, (cc j % 8).toNat, ln j⟩
def isByte (x : Int) : Prop := 0 ≤ x ∧ x < 256
/-- failAt behind k rounds -/
def fa (f k : Nat) : Int := if k ≤ f then -1 else f

theorem Inv.lift {w0 w w' : World} {N X T t m c l R E n : Nat} {name : ByteArray} {st : Nat → St} {k q : Nat} (h : Inv w0 w N X T t m c l R E n name st k q) (hb : Below w.heap.size w w') : Inv w0 w' N X T t m c l R E n name st k q := by
  have e1 := h.eqR
  have e2 := h.ltE
  have e3 := h.high
  have th : ∀ {b o q : Nat}, b < w.heap.size → w.there b o q → w'.there b o q := fun hbl ht j hj => by
    obtain ⟨h1, h2⟩ := ht j hj
    exact ⟨by rw [hb.cell hbl]; exact h1, by rw [hb.frozen hbl]; exact h2⟩
  refine ⟨h.g.lift hb (by omega), ?_, th (by omega) h.thR, th (by omega) h.thE, fun p hp => (hb.cell e3).trans (h.exp p hp), e1, e2, Nat.lt_of_lt_of_le e3 hb.size⟩
  obtain ⟨F, hF⟩ := h.recs
  exact ⟨F, fun j hj => ⟨(hF j hj).1.but (But.of_below hb), (hF j hj).2⟩⟩

theorem byte_mod {x : Int} (h : isByte x) : ∃ a : Nat, a < 8 ∧ wrap64 (x.tmod 8) = (a : Int) ∧ (x % 8).toNat = a := by
  obtain ⟨h1, h2⟩ := h
  refine ⟨(x % 8).toNat, by omega, ?_, rfl⟩
  rw [Int.tmod_eq_emod_of_nonneg h1]
  unfold wrap64
  omega

theorem keep_cell {w : World} {R i j : Nat} {v1 v2 : Value} {o : Obj} {p : Addr} {x : Value} (h : w.cell? p = some x) (hp : p.block ≠ R) : ((((w.setCell ⟨R, i, none⟩ v1).setCell ⟨R, j, none⟩ v2).alloc o).drew).cell? p = some x := by
  have hl := World.block_lt_of_cell? w _ h
  refine (World.cell?_of_block ?_).trans h
  show (((w.setCell ⟨R, i, none⟩ v1).setCell ⟨R, j, none⟩ v2).alloc o).heap[p.block]? = w.heap[p.block]?
  rw [Below.heap_alloc _ _ _ (by simp; exact hl), Below.heap_setCell _ _ _ _ hp, Below.heap_setCell _ _ _ _ hp]

theorem keep_one {w : World} {R i : Nat} {v : Value} {p : Addr} {x : Value} (h : w.cell? p = some x) (hp : p.block ≠ R) : ((w.setCell ⟨R, i, none⟩ v).drew).cell? p = some x := by
  rw [World.cell?_drew, World.cell?_setCell_other _ _ _ _ (fun e => hp (by rw [← e]))]
  exact h

theorem there_set {w : World} {b o n : Nat} (h : w.there b o n) (p : Addr) (v : Value) : (w.setCell p v).there b o n := by
  intro j hj
  obtain ⟨h1, h2⟩ := h j hj
  obtain ⟨u, hu⟩ := Option.isSome_iff_exists.1 h1
  obtain ⟨v', hv'⟩ := cell?_setCell_some (p := p) (x := v) hu
  exact ⟨by rw [hv']; rfl, by rw [World.frozen?_setCell]; exact h2⟩
theorem cell_set_there {w : World} {b o n : Nat} (h : w.there b 0 n) (ho : o < n) (v : Value) : (w.setCell ⟨b, o, none⟩ v).cell? ⟨b, o, none⟩ = some v := by
  obtain ⟨h1, _⟩ := h o ho
  rw [Nat.zero_add] at h1
  obtain ⟨u, hu⟩ := Option.isSome_iff_exists.1 h1
  exact World.cell?_setCell_same _ _ _ (by rw [hu])

/-- a record is laid -/
theorem Inv.laid {w0 w : World} {N X T t m c l R E n : Nat} {name : ByteArray} {st : Nat → St} {k q : Nat} (h : Inv w0 w N X T t m c l R E n name st k q) (hk : k < n) {a b d : Nat} {x : Int} (hs : st k = ⟨a, b, d, x⟩) :
    Inv w0 ((((w.setCell ⟨R, k * 2, none⟩ (.int .i64 x)).setCell ⟨R, k * 2 + 1, none⟩ (.slice (some ⟨w.heap.size, 0, none⟩) 4 4)).alloc (.cells #[.string ⟨#[99, 97, 115, 116]⟩, .string (nm a), .string (nm b), .string (cx d)] 9)).drew) N X T t m c l R E n name st (k + 1) q := by
  have e1 := h.eqR
  have e2 := h.ltE
  have e3 := h.high
  obtain ⟨q1, q2, q3, q4⟩ := h.g.eqs
  have t1 := there_set h.thR ⟨R, k * 2, none⟩ (.int .i64 x)
  have t2 := there_set t1 ⟨R, k * 2 + 1, none⟩ (.slice (some ⟨w.heap.size, 0, none⟩) 4 4)
  have t3 := there_set (there_set h.thE ⟨R, k * 2, none⟩ (.int .i64 x)) ⟨R, k * 2 + 1, none⟩ (.slice (some ⟨w.heap.size, 0, none⟩) 4 4)
  have hsz : ((w.setCell ⟨R, k * 2, none⟩ (.int .i64 x)).setCell ⟨R, k * 2 + 1, none⟩ (.slice (some ⟨w.heap.size, 0, none⟩) 4 4)).heap.size = w.heap.size := by simp
  have hbel : Below (X + 9) w ((((w.setCell ⟨R, k * 2, none⟩ (.int .i64 x)).setCell ⟨R, k * 2 + 1, none⟩ (.slice (some ⟨w.heap.size, 0, none⟩) 4 4)).alloc (.cells #[.string ⟨#[99, 97, 115, 116]⟩, .string (nm a), .string (nm b), .string (cx d)] 9)).drew) :=
    ((((Below.refl _ _).setCell (by show X + 9 ≤ R; omega) _).setCell (by show X + 9 ≤ R; omega) _).alloc (by rw [hsz]; omega) _).drew
  refine ⟨h.g.lift hbel (Nat.le_refl _), ?_, World.there_alloc t2 _, World.there_alloc t3 _, fun p hp => keep_cell (h.exp p hp) (by show E ≠ R; omega), e1, e2, by show E < (World.alloc _ _).heap.size; rw [size_alloc', hsz]; omega⟩
  obtain ⟨F, hF⟩ := h.recs
  refine ⟨fun j => if j = k then w.heap.size else F j, fun j hj => ?_⟩
  by_cases hjk : j = k
  · subst hjk
    have hn : (((w.setCell ⟨R, j * 2, none⟩ (.int .i64 x)).setCell ⟨R, j * 2 + 1, none⟩ (.slice (some ⟨w.heap.size, 0, none⟩) 4 4)).alloc (.cells #[.string ⟨#[99, 97, 115, 116]⟩, .string (nm a), .string (nm b), .string (cx d)] 9)).heap[w.heap.size]? = some (.cells #[.string ⟨#[99, 97, 115, 116]⟩, .string (nm a), .string (nm b), .string (cx d)] 9 (0, 0)) := by
      have hp := push_at (w := (w.setCell ⟨R, j * 2, none⟩ (.int .i64 x)).setCell ⟨R, j * 2 + 1, none⟩ (.slice (some ⟨w.heap.size, 0, none⟩) 4 4)) (o := .cells #[.string ⟨#[99, 97, 115, 116]⟩, .string (nm a), .string (nm b), .string (cx d)] 9)
      rw [hsz] at hp
      exact hp
    have hcell : ∀ i, ((((w.setCell ⟨R, j * 2, none⟩ (.int .i64 x)).setCell ⟨R, j * 2 + 1, none⟩ (.slice (some ⟨w.heap.size, 0, none⟩) 4 4)).alloc (.cells #[.string ⟨#[99, 97, 115, 116]⟩, .string (nm a), .string (nm b), .string (cx d)] 9)).drew).cell? ⟨w.heap.size, i, none⟩ = (#[.string ⟨#[99, 97, 115, 116]⟩, .string (nm a), .string (nm b), .string (cx d)] : Array Value)[i]? := fun i => by
      rw [World.cell?_drew]
      exact cell_of_row _ _ i _ 9 (0, 0) hn
    have hpast : ∀ (W : World) (o : Obj) (i : Nat) (u : Value), W.cell? ⟨R, i, none⟩ = some u → (W.alloc o).drew.cell? ⟨R, i, none⟩ = some u := fun W o i u hu => by
      rw [World.cell?_drew, World.cell?_alloc_past _ _ _ (World.block_lt_of_cell? W _ hu)]
      exact hu
    rw [hs]
    refine ⟨⟨?_, ?_, ?_, ?_, ?_, ?_, ?_⟩, ?_⟩
    · refine hpast _ _ _ _ ?_
      rw [World.cell?_setCell_other _ _ _ _ (fun e => by injection e; omega)]
      exact cell_set_there h.thR (by omega) _
    · refine hpast _ _ _ _ ?_
      rw [if_pos rfl]
      exact cell_set_there t1 (by omega) _
    · rw [if_pos rfl]; exact hcell 0
    · rw [if_pos rfl]; exact hcell 1
    · rw [if_pos rfl]; exact hcell 2
    · rw [if_pos rfl]; exact hcell 3
    · rw [if_pos rfl]; omega
    · show E < if j = j then w.heap.size else F j
      rw [if_pos rfl]; exact e3
  · obtain ⟨r, hlow⟩ := hF j (by omega)
    have hap := r.apart
    have hfr : ∀ {p : Addr} {v : Value}, p.block = F j → w.cell? p = some v → ((((w.setCell ⟨R, k * 2, none⟩ (.int .i64 x)).setCell ⟨R, k * 2 + 1, none⟩ (.slice (some ⟨w.heap.size, 0, none⟩) 4 4)).alloc (.cells #[.string ⟨#[99, 97, 115, 116]⟩, .string (nm a), .string (nm b), .string (cx d)] 9)).drew).cell? p = some v := fun hp hv => keep_cell hv (by omega)
    have hrr : ∀ {i : Nat} {v : Value}, i < k * 2 → w.cell? ⟨R, i, none⟩ = some v → ((((w.setCell ⟨R, k * 2, none⟩ (.int .i64 x)).setCell ⟨R, k * 2 + 1, none⟩ (.slice (some ⟨w.heap.size, 0, none⟩) 4 4)).alloc (.cells #[.string ⟨#[99, 97, 115, 116]⟩, .string (nm a), .string (nm b), .string (cx d)] 9)).drew).cell? ⟨R, i, none⟩ = some v := fun hi hv => by
      rw [World.cell?_drew, World.cell?_alloc_past _ _ _ (by rw [hsz]; omega), World.cell?_setCell_other _ _ _ _ (fun e => by injection e; omega), World.cell?_setCell_other _ _ _ _ (fun e => by injection e; omega)]
      exact hv
    refine ⟨⟨hrr (by omega) r.line, ?_, ?_, ?_, ?_, ?_, ?_⟩, ?_⟩
    · rw [if_neg hjk]; exact hrr (by omega) r.fields
    · rw [if_neg hjk]; exact hfr rfl r.c0
    · rw [if_neg hjk]; exact hfr rfl r.c1
    · rw [if_neg hjk]; exact hfr rfl r.c2
    · rw [if_neg hjk]; exact hfr rfl r.c3
    · rw [if_neg hjk]; exact hap
    · show E < if j = k then w.heap.size else F j
      rw [if_neg hjk]; exact hlow

theorem exv_succ (st : Nat → St) (k : Nat) (p : Nat) {a b d : Nat} {x : Int} (hs : st k = ⟨a, b, d, x⟩) : exv st (k + 1) p = if p = a % 3 * 3 + b % 3 then letter d else exv st k p := by
  unfold exv
  show (gt (p / 3) (p % 3) (upd ((st k).fi % 3) ((st k).ti % 3) (letter (st k).ci) (rowsTo st k))).getD 0 = _
  rw [gt_upd, hs]
  show (if p / 3 == a % 3 && p % 3 == b % 3 then some (letter d) else gt (p / 3) (p % 3) (rowsTo st k)).getD 0 = _
  by_cases h : p = a % 3 * 3 + b % 3
  · have h1 : p / 3 = a % 3 := by omega
    have h2 : p % 3 = b % 3 := by omega
    rw [if_pos h, h1, h2]
    simp
  · have h1 : (p / 3 == a % 3 && p % 3 == b % 3) = false := by
      cases hc : (p / 3 == a % 3 && p % 3 == b % 3)
      · rfl
      · simp only [Bool.and_eq_true, beq_iff_eq] at hc
        omega
    rw [if_neg h, h1]
    rfl

/-- a letter is laid -/
theorem Inv.letter {w0 w : World} {N X T t m c l R E n : Nat} {name : ByteArray} {st : Nat → St} {k q : Nat} (h : Inv w0 w N X T t m c l R E n name st k q) {a b d : Nat} {x : Int} (hs : st q = ⟨a, b, d, x⟩) :
    Inv w0 (w.setCell ⟨E, a % 3 * 3 + b % 3, none⟩ (.int .u8 (YbulkclbwFmt.letter d))) N X T t m c l R E n name st k (q + 1) := by
  have e1 := h.eqR
  have e2 := h.ltE
  have e3 := h.high
  obtain ⟨q1, q2, q3, q4⟩ := h.g.eqs
  have hoth : ∀ {p : Addr} {v : Value}, p.block ≠ E → w.cell? p = some v → (w.setCell ⟨E, a % 3 * 3 + b % 3, none⟩ (.int .u8 (YbulkclbwFmt.letter d))).cell? p = some v := fun hp hv => by
    rw [World.cell?_setCell_other _ _ _ _ (fun e => hp (by rw [← e]))]
    exact hv
  refine ⟨h.g.lift ((Below.refl (X + 9) _).setCell (by show X + 9 ≤ E; omega) _) (Nat.le_refl _), ?_, there_set h.thR _ _, there_set h.thE _ _, ?_, e1, e2, by simp; exact e3⟩
  · obtain ⟨F, hF⟩ := h.recs
    refine ⟨F, fun j hj => ?_⟩
    obtain ⟨r, hlow⟩ := hF j hj
    exact ⟨⟨hoth (by show R ≠ E; omega) r.line, hoth (by show R ≠ E; omega) r.fields, hoth (by show F j ≠ E; omega) r.c0, hoth (by show F j ≠ E; omega) r.c1, hoth (by show F j ≠ E; omega) r.c2, hoth (by show F j ≠ E; omega) r.c3, r.apart⟩, hlow⟩
  · intro p hp
    rw [exv_succ st q p hs]
    by_cases hpe : p = a % 3 * 3 + b % 3
    · subst hpe
      rw [if_pos rfl]
      exact cell_set_there h.thE (by omega) _
    · rw [if_neg hpe, World.cell?_setCell_other _ _ _ _ (fun e => by injection e; omega)]
      exact h.exp p hp

/-- what the checks behind addCasts read -/
structure Chk (w0 w : World) (X T t m c E : Nat) (L : List Row) : Prop where
  tys : Tys (X + 1) w
  ts : ∀ i, i < 3 → w.cell? ⟨T, i, none⟩ = some (tp (X + 1) i)
  ty : Types (X + 1) t w
  rows : Casts (X + 1) m L w
  ft : w.cell? ⟨c, 0, none⟩ = some (.map (some t))
  fm : w.cell? ⟨c, 11, none⟩ = some (.map (some m))
  exp : ∀ p, p < 9 → w.cell? ⟨E, p, none⟩ = some (.int .u8 ((gt (p / 3) (p % 3) L).getD 0))
  bel : Below w0.heap.size w0 w

theorem Chk.mk' {w0 w w' : World} {N X T t m c l R E n : Nat} {name : ByteArray} {st : Nat → St} {k q : Nat} (h : Inv w0 w N X T t m c l R E n name st k q) (hl : LC l c t m (X + 1) name (rowsTo st q) w') (hb : But m w w') : Chk w0 w' X T t m c E (rowsTo st q) := by
  have e1 := h.eqR
  have e2 := h.ltE
  have e3 := h.high
  have e4 := h.g.s5.eqT
  have e5 := h.g.s5.lt
  have e6 := h.g.s5.low
  obtain ⟨q1, q2, q3, q4⟩ := h.g.eqs
  exact ⟨hl.ld.tys, fun i hi => (hb.cell (by show T < _; omega) (by show T ≠ m; omega)).trans (h.g.s5.ts i hi), hl.ld.ty, hl.rows, hl.ld.ft, hl.ld.fm, fun p hp => (hb.cell (by show E < _; omega) (by show E ≠ m; omega)).trans (h.exp p hp), h.g.s5.bel.trans (hb.below (by omega) (by omega))⟩

theorem Chk.drew {w0 w : World} {X T t m c E : Nat} {L : List Row} (h : Chk w0 w X T t m c E L) (n : Nat) : Chk w0 (w.drewN n) X T t m c E L :=
  ⟨h.tys, h.ts, h.ty, h.rows, h.ft, h.fm, h.exp, ⟨h.bel.os, h.bel.tape, h.bel.output, h.bel.size, h.bel.block⟩⟩

theorem stOf_low (fr tt cc ln : Nat → Int) (j : Nat) : (stOf fr tt cc ln j).fi < 8 ∧ (stOf fr tt cc ln j).ti < 8 ∧ (stOf fr tt cc ln j).ci < 8 := by
  show (fr j % 8).toNat < 8 ∧ (tt j % 8).toNat < 8 ∧ (cc j % 8).toNat < 8
  omega

theorem CastsPost.val {l c t m B n f : Nat} {name : ByteArray} {st : Nat → St} {w : World} {e : Ending} {w' : World} (h : CastsPost l c t m B n f name st w e w') :
    ∃ v, e = .returned v ∧ LC l c t m B name (rowsTo st f) w' ∧ But m w w' ∧ ((f = n ∧ v = .nilIface) ∨ (f < n ∧ ∃ b, v = .iface 60 (.pointer (some ⟨b, 0, none⟩)) ∧ w'.cell? ⟨b, 0, none⟩ = some (.string name) ∧ w'.cell? ⟨b, 1, none⟩ = some (.int .i64 (st f).line))) := by
  obtain ⟨h1, h2, ⟨h3, rfl⟩ | ⟨h3, b, rfl, _, h5, h6⟩⟩ := h
  · exact ⟨_, rfl, h1, h2, Or.inl ⟨h3, rfl⟩⟩
  · exact ⟨_, rfl, h1, h2, Or.inr ⟨h3, b, rfl, h5, h6⟩⟩

theorem assert60 (W : World) (v : Value) : (Instr.typeAssert (.iface 60 v) 58 60 true).run Ybaf.prog W = .ok (.tuple #[v, .bool true]) W := by kernel_rfl

/-- rows: as many as places, no letter is zero -/
structure Good (L : List Row) : Prop where
  count : cn (set9 L) 9 = L.length
  letters : ∀ i j x, gt i j L = some x → x ≠ 0

theorem letter_ne (d : Nat) : letter d ≠ 0 := by
  unfold letter
  split
  · decide
  · split <;> decide

theorem Good.rows (st : Nat → St) : ∀ k, Good (rowsTo st k)
  | 0 => ⟨rfl, fun i j x h => by cases h⟩
  | k + 1 => by
    have ih := Good.rows st k
    refine ⟨count_upd _ _ _ (Nat.mod_lt _ (by omega)) (Nat.mod_lt _ (by omega)) _ ih.count, fun i j x h => ?_⟩
    simp only [rowsTo, gt_upd] at h
    split at h
    · cases h
      exact letter_ne _
    · exact ih.letters i j x h

theorem Chk.look {w0 w : World} {X T t m c E : Nat} {L : List Row} (h : Chk w0 w X T t m c E L) (i j : Nat) (hi : i < 3) (hj : j < 3) :
    ∀ n, (Instr.lookup 31 (.map (some m)) (.agg #[.pointer (some ⟨X + 1 + i, 0, none⟩), .pointer (some ⟨X + 1 + j, 0, none⟩)]) true).run Ybaf.prog (w.drewN n) = .ok (.tuple #[.int .u8 ((gt i j L).getD 0), .bool (gt i j L).isSome]) (w.drewN n) :=
  fun n => lookup_casts (h.drew n).tys (h.drew n).rows i j hi hj

theorem Chk.place {w0 w : World} {X T t m c E : Nat} {L : List Row} (h : Chk w0 w X T t m c E L) (i j : Nat) (hi : i < 3) (hj : j < 3) : w.cell? ⟨E, i * 3 + j, none⟩ = some (.int .u8 ((gt i j L).getD 0)) := by
  have := h.exp (i * 3 + j) (by omega)
  rw [show (i * 3 + j) / 3 = i by omega, show (i * 3 + j) % 3 = j by omega] at this
  exact this

theorem cn_set9 (L : List Row) (i j : Nat) (hj : j < 3) : cn (set9 L) (3 * i + j + 1) = cn (set9 L) (3 * i + j) + (gt i j L).isSome.toNat := by
  show _ + (set9 L (3 * i + j)).toNat = _
  unfold set9
  rw [show (3 * i + j) / 3 = i by omega, show (3 * i + j) % 3 = j by omega]

theorem cn_le (f : Nat → Bool) : ∀ k, cn f k ≤ k
  | 0 => Nat.le_refl _
  | k + 1 => by
    have := cn_le f k
    have h1 : (f k).toNat ≤ 1 := by cases f k <;> simp
    show cn f k + (f k).toNat ≤ k + 1
    omega

theorem Chk.lens {w0 w : World} {X T t m c E : Nat} {L : List Row} (h : Chk w0 w X T t m c E L) :
    ∃ es k es' k', es.size = L.length ∧ es'.size = 3 ∧ (∀ q, (getObj m).run Ybaf.prog (w.drewN q) = .ok (.map es k) (w.drewN q)) ∧ (∀ q, (getObj t).run Ybaf.prog (w.drewN q) = .ok (.map es' k') (w.drewN q)) := by
  obtain ⟨es, k, h1, h2⟩ := h.rows
  obtain ⟨es', k', h3, h4, _⟩ := h.ty
  refine ⟨es, k, es', k', ?_, h4, fun q => MapKept.run_getObj_map h1, fun q => MapKept.run_getObj_map h3⟩
  have := congrArg List.length h2.same
  simpa using this

theorem wpQuiet_maplen {ops : Array Oper} {rest : List Oper} {o : Oper} {a : Act} {w : World} {Q : Act → Prop} (x : Operand) (ty key val : TypeId) (ho : o.op = .call { callee := .builtin .len, args := #[x], argTypes := #[ty] }) (hw : Region.wanted o (yielded ops a.tmps) = true)
    (r : Nat) (hx : a.eval x = .map (some r)) (hu : Ybaf.prog.underlying ty = some (.map key val)) (es : Array MapEntry) (k : Nat) (hg : ∀ q, (getObj r).run Ybaf.prog (w.drewN q) = .ok (.map es k) (w.drewN q))
    (h : wpQuiet Ybaf.prog ops (fun w' => ∃ n, w' = w.drewN n) Q rest (a.put o.dst (.int .i64 es.size))) : wpQuiet Ybaf.prog ops (fun w' => ∃ n, w' = w.drewN n) Q (o :: rest) a := by
  refine BigFrame.wpQuiet_want hw fun K hK => ⟨.int .i64 es.size, ?_, hK _ h⟩
  rintro wx ⟨n, rfl⟩
  unfold Oper.quietAt execOp
  have hl : (Builtin.len_ #[ty] o.type #[.map (some r)]).run Ybaf.prog (w.drewN n) = .ok (.int .i64 es.size) (w.drewN n) := by
    simp [Builtin.len_, Sem.run_bind, run_underlying hu, hg, Result.andThen, goInt]
  simp [ho, hx, resolve, invoke, builtin, hl, Result.andThen, Oper.quietUpon]

theorem eq_self25d (d b : Nat) (w : World) : (Op.equalIn (d + 1) 25 (.pointer (some ⟨b, 0, none⟩)) (.pointer (some ⟨b, 0, none⟩))).run Ybaf.prog w = .ok true w := by
  obtain ⟨t, ht, _⟩ := inf27
  simp [Op.equalIn, run_underlying Ybaf.underlying25, sizeOf, typeInfo, ht, run_sameAddr_same]
theorem eq_self25 (b : Nat) (w : World) : (Op.equalIn 10000 25 (.pointer (some ⟨b, 0, none⟩)) (.pointer (some ⟨b, 0, none⟩))).run Ybaf.prog w = .ok true w := eq_self25d 9999 b w

theorem wpQuiet_eql25 {ops : Array Oper} {rest : List Oper} {o : Oper} {a : Act} {w : World} {Q : Act → Prop} (x y : Operand) (ho : o.op = .binOp .eql 25 x y 25) (hw : Region.wanted o (yielded ops a.tmps) = true)
    (b : Nat) (hx : a.eval x = .pointer (some ⟨b, 0, none⟩)) (hy : a.eval y = .pointer (some ⟨b, 0, none⟩))
    (h : wpQuiet Ybaf.prog ops (fun w' => ∃ n, w' = w.drewN n) Q rest (a.put o.dst (.bool true))) : wpQuiet Ybaf.prog ops (fun w' => ∃ n, w' = w.drewN n) Q (o :: rest) a := by
  refine BigFrame.wpQuiet_want hw fun K hK => ⟨.bool true, ?_, hK _ h⟩
  rintro wx ⟨n, rfl⟩
  unfold Oper.quietAt execOp
  simp only [ho, hx, hy]
  have hg : eqGuard .eql 25 x y (.pointer (some ⟨b, 0, none⟩)) (.pointer (some ⟨b, 0, none⟩)) = pure () := rfl
  have hb : (binOp .eql 25 (.pointer (some ⟨b, 0, none⟩)) (.pointer (some ⟨b, 0, none⟩))).run Ybaf.prog (w.drewN n) = .ok (.bool true) (w.drewN n) := by
    have he : (Op.equal 25 (.pointer (some ⟨b, 0, none⟩)) (.pointer (some ⟨b, 0, none⟩))).run Ybaf.prog (w.drewN n) = .ok true (w.drewN n) := eq_self25 b _
    show (do pure (Value.bool (← Op.equal 25 (.pointer (some ⟨b, 0, none⟩)) (.pointer (some ⟨b, 0, none⟩)))) : Sem Value).run Ybaf.prog (w.drewN n) = _
    simp only [Sem.run_bind, he, Result.andThen, Sem.run_pure]
  simp only [hg, Sem.run_bind, Sem.run_pure, Result.andThen, hb]
  exact ⟨rfl, rfl⟩

end Go.Proofs.YbulkclbwFmt
