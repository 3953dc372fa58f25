/-
  The cast map of the law LawS4351AModel: keys of two pointers among three types.
-/
import Derived.Test.YbulkclbwFmtSmall
import Derived.LaidEqlPtr
import Derived.ChangeMaps5
namespace Go.Proofs.YbulkclbwFmt
open Go.RowKit

/-- the three types' blocks -/
def Tys (B : Nat) (w : World) : Prop := ∀ i, i < 3 → ∃ ca ta, w.heap[B + i]? = some (.cells ca ta (0, 0))
def tp (B i : Nat) : Value := .pointer (some ⟨B + i, 0, none⟩)
def ckey (B i j : Nat) : Value := .agg #[tp B i, tp B j]

theorem inf27 : ∃ t, Ybaf.prog.info? 27 = some t ∧ t.size ≠ 0 := ⟨Ybaf.t27, by kernel_rfl, by decide⟩

theorem eq_tp {B : Nat} {w : World} (h : Tys B w) (d i j : Nat) (hi : i < 3) (hj : j < 3) : (Op.equalIn (d + 1) 25 (tp B i) (tp B j)).run Ybaf.prog w = .ok (i == j) w := by
  obtain ⟨t, ht, hs⟩ := inf27
  by_cases hij : i = j
  · subst hij
    simp [tp, Op.equalIn, run_underlying Ybaf.underlying25, sizeOf, typeInfo, ht, run_sameAddr_same]
  · obtain ⟨ca, ta, ha⟩ := h i hi
    obtain ⟨cb, tb, hb⟩ := h j hj
    have hne : (⟨B + i, 0, none⟩ : Addr) ≠ ⟨B + j, 0, none⟩ := fun e => by injection e; omega
    simp [tp, Op.equalIn, run_underlying Ybaf.underlying25, sizeOf, typeInfo, ht, hs, run_sameAddr_other w hne ha hb, hij]

theorem part25_0 (a b : Value) (w : World) : (part 25 #[a, b] 0).run Ybaf.prog w = .ok a w := by
  simp [part, Sem.run_bind]
theorem part25_1 (a b : Value) (w : World) : (part 25 #[a, b] 1).run Ybaf.prog w = .ok b w := by
  simp [part, Sem.run_bind]

theorem eq_key {B : Nat} {w : World} (h : Tys B w) (i j i' j' : Nat) (hi : i < 3) (hj : j < 3) (hi' : i' < 3) (hj' : j' < 3) :
    (Op.equal 66 (ckey B i j) (ckey B i' j')).run Ybaf.prog w = .ok (i == i' && j == j') w := by
  show (Op.equalIn (9999 + 1) 66 (ckey B i j) (ckey B i' j')).run Ybaf.prog w = _
  rw [Op.equalIn]
  have e1 : (Op.equalIn 9999 25 (tp B i) (tp B i')).run Ybaf.prog w = .ok (i == i') w := eq_tp h 9998 i i' hi hi'
  have e2 : (Op.equalIn 9999 25 (tp B j) (tp B j')).run Ybaf.prog w = .ok (j == j') w := eq_tp h 9998 j j' hj hj'
  simp [ckey, run_underlying Ybaf.underlying66, Sem.run_bind]
  simp only [part25_0, part25_1, Result.andThen, e1, e2]
  cases (i == i') <;> cases (j == j') <;> simp

/-! ### the map's entries -/
/-- source, target, letter -/
abbrev Row := Nat × Nat × Int
def fnd (i j : Nat) : List Row → Nat → Option (Nat × Int)
  | [], _ => none
  | x :: r, n => if i == x.1 && j == x.2.1 then some (n, x.2.2) else fnd i j r (n + 1)
def gt (i j : Nat) (L : List Row) : Option Int := (fnd i j L 0).map (·.2)
/-- the entries are these rows -/
structure Rep (B : Nat) (L : List Row) (es : List MapEntry) : Prop where
  same : es.map (fun e => (e.key, e.val)) = L.map fun x => (ckey B x.1 x.2.1, Value.int .u8 x.2.2)
  low : ∀ x ∈ L, x.1 < 3 ∧ x.2.1 < 3

theorem find_asking {B : Nat} {w : World} (h : Tys B w) (i j : Nat) (hi : i < 3) (hj : j < 3) : ∀ (L : List Row) (es : List MapEntry) (n : Nat), Rep B L es →
    (Instr.findAsking 66 (ckey B i j) es n).run Ybaf.prog w = .ok ((fnd i j L n).map fun p => (p.1, Value.int .u8 p.2)) w
  | [], [], n, _ => rfl
  | [], e :: es, n, r => by have := r.same; simp at this
  | x :: L, [], n, r => by have := r.same; simp at this
  | x :: L, e :: es, n, r => by
    have hs := r.same
    simp only [List.map_cons, List.cons.injEq, Prod.mk.injEq] at hs
    obtain ⟨⟨hk, hv⟩, hr⟩ := hs
    have hl := r.low x (by simp)
    have ih := find_asking h i j hi hj L es (n + 1) ⟨hr, fun y hy => r.low y (by simp [hy])⟩
    simp only [Instr.findAsking, Sem.run_bind, hk, eq_key h i j x.1 x.2.1 hi hj hl.1 hl.2, Result.andThen, fnd]
    cases hc : (i == x.1 && j == x.2.1) with
    | true => simp [hv]
    | false => simpa using ih

theorem find_key {B : Nat} {w : World} (h : Tys B w) (i j : Nat) (hi : i < 3) (hj : j < 3) (L : List Row) (es : List MapEntry) (r : Rep B L es) :
    (Instr.findKey 66 (ckey B i j) es).run Ybaf.prog w = .ok ((fnd i j L 0).map fun p => (p.1, Value.int .u8 p.2)) w := by
  simp only [Instr.findKey, Sem.run_bind, run_underlying Ybaf.underlying66, Result.andThen]
  match es, L, r with
  | [], [], r => rfl
  | [], x :: L, r => have := r.same; simp at this
  | e :: es, L, r => exact find_asking h i j hi hj L (e :: es) 0 r

/-! ### a store -/
def upd (i j : Nat) (c : Int) : List Row → List Row
  | [] => [(i, j, c)]
  | x :: r => if i == x.1 && j == x.2.1 then (i, j, c) :: r else x :: upd i j c r

theorem fnd_some (i j : Nat) (c : Int) : ∀ (L : List Row) (k n : Nat) (v : Int), fnd i j L k = some (n, v) → ∃ m, n = k + m ∧ m < L.length ∧ upd i j c L = L.set m (i, j, c) ∧ L[m]? = some (i, j, v)
  | [], k, n, v, h => by simp [fnd] at h
  | x :: L, k, n, v, h => by
    simp only [fnd] at h
    split at h
    · rename_i hc
      simp only [Option.some.injEq, Prod.mk.injEq] at h
      obtain ⟨rfl, rfl⟩ := h
      obtain ⟨a, b, d⟩ := x
      simp only [Bool.and_eq_true, beq_iff_eq] at hc
      obtain ⟨rfl, rfl⟩ := hc
      exact ⟨0, rfl, by simp, by simp [upd], rfl⟩
    · rename_i hc
      obtain ⟨m, h1, h2, h3, h4⟩ := fnd_some i j c L (k + 1) n v h
      exact ⟨m + 1, by omega, by simp; omega, by simp [upd, hc, h3], by simpa using h4⟩
theorem fnd_none (i j : Nat) (c : Int) : ∀ (L : List Row) (k : Nat), fnd i j L k = none → upd i j c L = L ++ [(i, j, c)]
  | [], k, _ => rfl
  | x :: L, k, h => by
    simp only [fnd] at h
    split at h
    · cases h
    · rename_i hc
      simp [upd, hc, fnd_none i j c L (k + 1) h]

theorem upd_low {i j : Nat} (c : Int) (hi : i < 3) (hj : j < 3) : ∀ {L : List Row}, (∀ x ∈ L, x.1 < 3 ∧ x.2.1 < 3) → ∀ x ∈ upd i j c L, x.1 < 3 ∧ x.2.1 < 3
  | [], _, x, hx => by simp [upd] at hx; subst hx; exact ⟨hi, hj⟩
  | y :: L, h, x, hx => by
    simp only [upd] at hx
    split at hx
    · rcases List.mem_cons.1 hx with rfl | hx
      · exact ⟨hi, hj⟩
      · exact h x (by simp [hx])
    · rcases List.mem_cons.1 hx with rfl | hx
      · exact h x (by simp)
      · exact upd_low c hi hj (fun z hz => h z (by simp [hz])) x hx

theorem Rep.push {B : Nat} {L : List Row} {es : Array MapEntry} (r : Rep B L es.toList) {i j : Nat} (c : Int) (hi : i < 3) (hj : j < 3) (hf : fnd i j L 0 = none) (born : Nat) :
    Rep B (upd i j c L) (es.push { key := ckey B i j, val := .int .u8 c, born := born }).toList := by
  refine ⟨?_, upd_low c hi hj r.low⟩
  rw [fnd_none i j c L 0 hf]
  simp [r.same]
theorem Rep.modify {B : Nat} {L : List Row} {es : Array MapEntry} (r : Rep B L es.toList) {i j : Nat} (c : Int) (hi : i < 3) (hj : j < 3) {m : Nat} {v : Int} (hf : fnd i j L 0 = some (m, v)) :
    Rep B (upd i j c L) (es.modify m fun e => { e with key := ckey B i j, val := .int .u8 c }).toList ∧ (es[m]?).map (·.key) = some (ckey B i j) := by
  obtain ⟨m', h1, h2, h3, h4⟩ := fnd_some i j c L 0 m v hf
  obtain rfl : m = m' := by omega
  have hget : ∀ k : Nat, (es[k]?).map (fun e : MapEntry => (e.key, e.val)) = (L[k]?).map fun x : Row => (ckey B x.1 x.2.1, Value.int .u8 x.2.2) := by
    intro k
    have := congrArg (fun l => l[k]?) r.same
    simpa using this
  refine ⟨⟨?_, upd_low c hi hj r.low⟩, ?_⟩
  · rw [h3]
    apply List.ext_getElem?
    intro k
    have hk := hget k
    by_cases hmk : m = k
    · subst hmk
      rw [h4] at hk
      obtain ⟨e, he⟩ : ∃ e, es[m]? = some e := by
        cases h : es[m]? with
        | none => rw [h] at hk; simp at hk
        | some e => exact ⟨e, rfl⟩
      simp [he, h2]
    · simp only [List.getElem?_map, Array.getElem?_toList, Array.getElem?_modify, hmk, if_false, List.getElem?_set_ne hmk]
      exact hk
  · have hk := hget m
    rw [h4] at hk
    cases h : es[m]? with
    | none => rw [h] at hk; simp at hk
    | some e => rw [h] at hk; simp at hk; simp [hk.1]

theorem check_key (B i j : Nat) (b : Bool) (w : World) : (Instr.checkKey b 10000 66 (ckey B i j)).run Ybaf.prog w = .ok () w := by
  show (Instr.checkKey b (9998 + 1 + 1) 66 (ckey B i j)).run Ybaf.prog w = _
  have hp : ∀ k, (Instr.checkKey b (9998 + 1) 25 (tp B k)).run Ybaf.prog w = .ok () w := fun k => by
    rw [Instr.checkKey]
    simp [run_underlying Ybaf.underlying25, tp]
  rw [Instr.checkKey]
  simp [ckey, run_underlying Ybaf.underlying66, Sem.run_bind]
  simp only [part25_0, part25_1, Result.andThen, hp]

theorem same_key (B i j : Nat) (w : World) : (Instr.keyThatStays (ckey B i j) (ckey B i j)).run Ybaf.prog w = .ok (ckey B i j) w := by
  have : Instr.sameBits 10000 (ckey B i j) (ckey B i j) = true := by simp [ckey, tp, Instr.sameBits]
  simp [Instr.keyThatStays, this]

theorem zero5 (w : World) : (zeroValue 5).run Ybaf.prog w = .ok (.int .u8 0) w := by kernel_rfl

/-- the map in block r holds these rows -/
def Casts (B r : Nat) (L : List Row) (w : World) : Prop := ∃ es clock, w.heap[r]? = some (.map es clock) ∧ Rep B L es.toList

theorem lookup_casts {B r : Nat} {L : List Row} {w : World} (h : Tys B w) (hc : Casts B r L w) (i j : Nat) (hi : i < 3) (hj : j < 3) :
    (Instr.lookup 31 (.map (some r)) (ckey B i j) true).run Ybaf.prog w = .ok (.tuple #[.int .u8 ((gt i j L).getD 0), .bool (gt i j L).isSome]) w := by
  obtain ⟨es, clock, hb, rp⟩ := hc
  have hf := find_key h i j hi hj L es.toList rp
  simp only [Instr.lookup, Sem.run_bind, run_underlying Ybaf.underlying31, MapKept.run_getObj_map hb, Sem.run_pure, Result.andThen, check_key, hf]
  unfold gt
  cases fnd i j L 0 with
  | none => simp [Result.andThen]
  | some p => simp

theorem update_casts {B r : Nat} {L : List Row} {w : World} (h : Tys B w) (hc : Casts B r L w) (i j : Nat) (c : Int) (hi : i < 3) (hj : j < 3) :
    ∃ es' clock', (Instr.mapUpdate 31 (.map (some r)) (ckey B i j) (.int .u8 c)).run Ybaf.prog w = .ok () (ChangeMaps.setBlock w r (.map es' clock')) ∧ Rep B (upd i j c L) es'.toList := by
  obtain ⟨es, clock, hb, rp⟩ := hc
  have hf := find_key h i j hi hj L es.toList rp
  cases hq : fnd i j L 0 with
  | none =>
    rw [hq] at hf
    refine ⟨_, clock + 1, ?_, rp.push c hi hj hq clock⟩
    simp [Instr.mapUpdate, run_underlying Ybaf.underlying31, MapKept.run_getObj_map hb, check_key, hf, MapKept.run_setObj_map _ hb, Result.andThen, ChangeMaps.setBlock]
  | some p =>
    obtain ⟨m, v⟩ := p
    rw [hq] at hf
    obtain ⟨h1, h2⟩ := rp.modify c hi hj hq
    refine ⟨_, clock, ?_, h1⟩
    obtain ⟨e, he, hek⟩ := Option.map_eq_some_iff.1 h2
    simp [Instr.mapUpdate, run_underlying Ybaf.underlying31, MapKept.run_getObj_map hb, check_key, hf, he, hek, same_key, MapKept.run_setObj_map _ hb, Result.andThen, ChangeMaps.setBlock]

end Go.Proofs.YbulkclbwFmt
