/-
  '==' on arrays of twenty bytes.
-/
import Derived.Test.YbulkcleoRows
import Derived.WalkKit
import Derived.WalkSpells
import Derived.WalkLawsBesides
namespace Go.Proofs.Ybulkcleo
open Go.RowKit

def bv (l : List Int) : List Value := l.map (Value.int .u8)
theorem bv_length (l : List Int) : (bv l).length = l.length := by simp [bv]
theorem sizeOf5 (w : World) : (sizeOf 5).run Yba.prog w = .ok 1 w := by kernel_rfl

theorem eqIn_elem (d : Nat) (a b : Int) (w : World) : (Op.equalIn (d + 1) 5 (.int .u8 a) (.int .u8 b)).run Yba.prog w = .ok (a == b) w := by
  simp [Op.equalIn, run_underlying Yba.underlying5]

theorem isAgg5 (w : World) : (isAgg 5).run Yba.prog w = .ok false w := by kernel_rfl
theorem part5 (xs : List Int) (i : Nat) (h : i < xs.length) (w : World) : (part 5 (bv xs).toArray (i * 1)).run Yba.prog w = .ok (.int .u8 (xs.getD i 0)) w := by
  unfold part
  have hc : (bv xs).toArray[i * 1]? = some (.int .u8 (xs.getD i 0)) := by
    simp [bv, h]
  simp only [Sem.run_bind, isAgg5, Result.andThen, hc]
  rfl

theorem loop_run (f : Nat → (Option Bool × Unit) → Sem (ForInStep (Option Bool × Unit))) (g : Nat → Bool) (w : World) :
    ∀ L : List Nat, (∀ i ∈ L, ∀ s, (f i s).run Yba.prog w = .ok (if g i = true then .yield (none, ()) else .done (some false, ())) w) →
      (forIn L ((none, ()) : Option Bool × Unit) f).run Yba.prog w = .ok (if L.all g = true then (none, ()) else (some false, ())) w
  | [], _ => by simp [Sem.run_pure]
  | i :: L, h => by
    have ih := loop_run f g w L (fun j hj => h j (List.mem_cons_of_mem _ hj))
    simp only [List.forIn_cons, Sem.run_bind, h i (List.mem_cons_self) _, Result.andThen]
    cases hg : g i with
    | true => simp only [if_true, List.all_cons, hg, Bool.true_and]; exact ih
    | false => simp [hg, Sem.run_pure]

theorem all_eq (xs ys : List Int) (n : Nat) (hx : xs.length = n) (hy : ys.length = n) : (List.range' 0 n).all (fun i => xs.getD i 0 == ys.getD i 0) = (xs == ys) := by
  rw [Bool.eq_iff_iff, List.all_eq_true]
  constructor
  · intro h
    have : xs = ys := by
      apply List.ext_getElem (by omega)
      intro i h1 h2
      have := h i (by simp; omega)
      simpa [h1, h2] using this
    simp [this]
  · intro h i _
    have : xs = ys := by simpa using h
    simp [this]

theorem eqIn_bytes (t : TypeId) (ht : Yba.prog.underlying t = some (.array 20 5)) (xs ys : List Int) (hx : xs.length = 20) (hy : ys.length = 20) (w : World) :
    (Op.equalIn 10000 t (.agg (bv xs).toArray) (.agg (bv ys).toArray)).run Yba.prog w = .ok (xs == ys) w := by
  show (Op.equalIn (9999 + 1) t (.agg (bv xs).toArray) (.agg (bv ys).toArray)).run Yba.prog w = _
  rw [Op.equalIn]
  simp only [Sem.run_bind, run_underlying ht, Result.andThen, sizeOf5]
  rw [Std.Legacy.Range.forIn_eq_forIn_range']
  rw [loop_run _ (fun i => xs.getD i 0 == ys.getD i 0) w]
  · rw [show ([:20] : Std.Legacy.Range).size = 20 from rfl]
    rw [all_eq xs ys 20 hx hy]
    cases xs == ys <;> rfl
  · intro i hi s
    have hi' : i < 20 := by simpa using hi
    simp only [Sem.run_bind, part5 xs i (by omega), part5 ys i (by omega), Result.andThen]
    rw [eqIn_elem 9998]
    cases h : (xs.getD i 0 == ys.getD i 0) <;> rfl
theorem eqIn26 (xs ys : List Int) (hx : xs.length = 20) (hy : ys.length = 20) (w : World) : (Op.equalIn 10000 26 (.agg (bv xs).toArray) (.agg (bv ys).toArray)).run Yba.prog w = .ok (xs == ys) w := eqIn_bytes 26 Yba.underlying26 xs ys hx hy w
theorem eqIn25 (xs ys : List Int) (hx : xs.length = 20) (hy : ys.length = 20) (w : World) : (Op.equalIn 10000 25 (.agg (bv xs).toArray) (.agg (bv ys).toArray)).run Yba.prog w = .ok (xs == ys) w := eqIn_bytes 25 Yba.underlying25 xs ys hx hy w

end Go.Proofs.Ybulkcleo
