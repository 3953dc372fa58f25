/-
  The plain functions of the seat: a map filled from keys and values, told as a fold.
-/
import Derived.Maps.OwnSet
namespace Go.Proofs.Ybulkclea
open Go.Maps

/-- the number at k; beyond the end: 0 -/
def nth (l : List Int) (k : Nat) : Int := l.getD k 0
/-- the value at the last place below k whose key is x -/
def lv (ks vs : List Int) : Nat → Int → Option Int
  | 0, _ => none
  | k + 1, x => if nth ks k = x then some (nth vs k) else lv ks vs k x
/-- how many different keys stand below k -/
def dist (ks vs : List Int) : Nat → Nat
  | 0 => 0
  | k + 1 => dist ks vs k + if (lv ks vs k (nth ks k)).isNone = true then 1 else 0
/-- the map after k rounds -/
def D (ks vs : List Int) : Nat → DataW Unit
  | 0 => .map []
  | k + 1 => (D ks vs k).put (.int .i32 (nth ks k)) (.lit (.int .i32 (nth vs k)))

theorem isKey (x : Int) : WideAt.IsKeyLit (.int .i32 x) := trivial

theorem lit_ne {a b : Int} (h : a ≠ b) : Lit.int .i32 a ≠ Lit.int .i32 b := fun e => h (by injection e)

theorem D_tidy (ks vs : List Int) : ∀ k, Tidy (D ks vs k)
  | 0 => tidy_empty
  | k + 1 => (D_tidy ks vs k).put (isKey _) _

theorem D_at (ks vs : List Int) : ∀ k x, (D ks vs k).atKey (.int .i32 x) (.lit (.int .i32 0)) = .lit (.int .i32 ((lv ks vs k x).getD 0))
  | 0, x => rfl
  | k + 1, x => by
    unfold D lv
    by_cases h : nth ks k = x
    · subst h
      rw [if_pos rfl, atKey_put_same (D_tidy ks vs k).isMap (isKey _)]; rfl
    · rw [if_neg h, atKey_put_other (lit_ne (fun e => h e.symm)), D_at ks vs k x]

theorem D_has (ks vs : List Int) : ∀ k x, Maps.has (D ks vs k) (.int .i32 x) = (lv ks vs k x).isSome
  | 0, x => rfl
  | k + 1, x => by
    unfold D lv
    by_cases h : nth ks k = x
    · subst h
      rw [if_pos rfl, has_put_same (D_tidy ks vs k).isMap (isKey _)]; rfl
    · rw [if_neg h, has_put_other (lit_ne (fun e => h e.symm)), D_has ks vs k x]

theorem D_size (ks vs : List Int) : ∀ k, Maps.size (D ks vs k) = dist ks vs k
  | 0 => rfl
  | k + 1 => by
    unfold D dist
    rw [size_put (D_tidy ks vs k), D_size ks vs k, D_has ks vs k]
    cases lv ks vs k (nth ks k) <;> simp

theorem dist_le (ks vs : List Int) : ∀ k, dist ks vs k ≤ k
  | 0 => Nat.le_refl _
  | k + 1 => by
    have := dist_le ks vs k
    unfold dist
    split <;> omega

theorem lv_some (ks vs : List Int) : ∀ n i, i < n → (lv ks vs n (nth ks i)).isSome = true
  | 0, i, h => by omega
  | n + 1, i, h => by
    unfold lv
    by_cases e : nth ks n = nth ks i
    · rw [if_pos e]; rfl
    · rw [if_neg e]
      refine lv_some ks vs n i ?_
      rcases Nat.lt_succ_iff_lt_or_eq.1 h with h1 | h1
      · exact h1
      · subst h1; exact absurd rfl e

/-- the last value seen from place i on, below m -/
def ex (ks vs : List Int) (i m : Nat) : Int := if m ≤ i then 0 else (lv ks vs m (nth ks i)).getD 0
theorem ex_start (ks vs : List Int) (i : Nat) : ex ks vs i i = 0 := by unfold ex; rw [if_pos (Nat.le_refl _)]
theorem ex_hit (ks vs : List Int) (i m : Nat) (hm : i ≤ m) (h : (nth ks m == nth ks i) = true) : ex ks vs i (m + 1) = nth vs m := by
  have h' : nth ks m = nth ks i := by simpa using h
  unfold ex lv
  rw [if_neg (by omega), if_pos h']; rfl
theorem ex_miss (ks vs : List Int) (i m : Nat) (hm : i ≤ m) (h : (nth ks m == nth ks i) = false) : ex ks vs i (m + 1) = ex ks vs i m := by
  have h' : ¬ nth ks m = nth ks i := by simpa using h
  have hne : i ≠ m := fun e => h' (by rw [e])
  unfold ex
  rw [if_neg (by omega), if_neg (by omega)]
  conv => lhs; unfold lv
  rw [if_neg h']
theorem ex_end (ks vs : List Int) (i k : Nat) (h : i < k) : ex ks vs i k = (lv ks vs k (nth ks i)).getD 0 := by unfold ex; rw [if_neg (by omega)]
theorem none_hit (ks vs : List Int) (i m : Nat) (h : (nth ks m == nth ks i) = true) : false = (lv ks vs (m + 1) (nth ks i)).isNone := by
  have h' : nth ks m = nth ks i := by simpa using h
  unfold lv; rw [if_pos h']; rfl
theorem none_miss (ks vs : List Int) (i m : Nat) (h : (nth ks m == nth ks i) = false) : (lv ks vs m (nth ks i)).isNone = (lv ks vs (m + 1) (nth ks i)).isNone := by
  have h' : ¬ nth ks m = nth ks i := by simpa using h
  conv => rhs; unfold lv
  rw [if_neg h']
theorem dist_new (ks vs : List Int) (i : Nat) (h : (lv ks vs i (nth ks i)).isNone = true) : dist ks vs (i + 1) = dist ks vs i + 1 := by
  conv => lhs; unfold dist
  rw [if_pos h]
theorem dist_old (ks vs : List Int) (i : Nat) (h : (lv ks vs i (nth ks i)).isNone = false) : dist ks vs (i + 1) = dist ks vs i := by
  conv => lhs; unfold dist
  rw [if_neg (by simp [h]), Nat.add_zero]
theorem lit_val {a b : Int} (h : (DataW.lit (.int .i32 a) : DataW Unit) = .lit (.int .i32 b)) : a = b := by
  injection h with h1
  injection h1

end Go.Proofs.Ybulkclea
