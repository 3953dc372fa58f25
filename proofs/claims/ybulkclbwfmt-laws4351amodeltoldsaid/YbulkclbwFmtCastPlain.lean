/-
  The rows of the cast map: what is found behind a store, how many there are.
-/
import Derived.Test.YbulkclbwFmtCast
namespace Go.Proofs.YbulkclbwFmt
open Go.RowKit

theorem fnd_val (i j : Nat) : ∀ (L : List Row) (k k' : Nat), (fnd i j L k).map (·.2) = (fnd i j L k').map (·.2)
  | [], _, _ => rfl
  | x :: L, k, k' => by
    simp only [fnd]
    split
    · rfl
    · exact fnd_val i j L (k + 1) (k' + 1)
theorem gt_cons (i j : Nat) (x : Row) (L : List Row) : gt i j (x :: L) = if i == x.1 && j == x.2.1 then some x.2.2 else gt i j L := by
  unfold gt
  simp only [fnd]
  split
  · rfl
  · exact fnd_val i j L _ _
theorem gt_upd (i j : Nat) (c : Int) (i' j' : Nat) : ∀ L : List Row, gt i' j' (upd i j c L) = if i' == i && j' == j then some c else gt i' j' L
  | [] => by simp only [upd, gt_cons]
  | x :: L => by
    simp only [upd]
    split
    · rename_i hc
      simp only [gt_cons]
      simp only [Bool.and_eq_true, beq_iff_eq] at hc
      rw [← hc.1, ← hc.2]
      split <;> rfl
    · rename_i hc
      simp only [gt_cons, gt_upd i j c i' j' L]
      split
      · rename_i h1
        split
        · rename_i h2
          exfalso
          apply hc
          simp only [Bool.and_eq_true, beq_iff_eq] at h1 h2 ⊢
          exact ⟨h2.1 ▸ h1.1, h2.2 ▸ h1.2⟩
        · rfl
      · rfl
theorem len_upd (i j : Nat) (c : Int) : ∀ L : List Row, (upd i j c L).length = L.length + (!(gt i j L).isSome).toNat
  | [] => rfl
  | x :: L => by
    simp only [upd, gt_cons]
    split
    · simp
    · simp [len_upd i j c L]; omega

/-- how many of the first k places hold -/
def cn (f : Nat → Bool) : Nat → Nat
  | 0 => 0
  | k + 1 => cn f k + (f k).toNat
theorem cn_add (f g : Nat → Bool) (p : Nat) (h : ∀ m, g m = (f m || m == p)) : ∀ k, cn g k = cn f k + (decide (p < k) && !f p).toNat
  | 0 => by simp [cn]
  | k + 1 => by
    simp only [cn, cn_add f g p h k, h k]
    by_cases hk : k = p
    · subst hk
      cases f k <;> simp
    · have h1 : (k == p) = false := by simpa using hk
      have h2 : (p < k + 1) ↔ (p < k) := by omega
      simp only [h1, Bool.or_false, h2]
      omega

def set9 (L : List Row) (m : Nat) : Bool := (gt (m / 3) (m % 3) L).isSome
theorem set9_upd (i j : Nat) (c : Int) (hj : j < 3) (L : List Row) (m : Nat) : set9 (upd i j c L) m = (set9 L m || m == 3 * i + j) := by
  unfold set9
  rw [gt_upd]
  by_cases h : m = 3 * i + j
  · have h1 : m / 3 = i := by omega
    have h2 : m % 3 = j := by omega
    have h3 : (m == 3 * i + j) = true := by simpa using h
    rw [h1, h2, h3]
    simp
  · have : (m / 3 == i && m % 3 == j) = false := by
      cases hc : (m / 3 == i && m % 3 == j)
      · rfl
      · simp only [Bool.and_eq_true, beq_iff_eq] at hc
        omega
    rw [this]
    simp [h]
theorem count_upd (i j : Nat) (c : Int) (hi : i < 3) (hj : j < 3) (L : List Row) (h : cn (set9 L) 9 = L.length) : cn (set9 (upd i j c L)) 9 = (upd i j c L).length := by
  rw [cn_add (set9 L) _ (3 * i + j) (fun m => set9_upd i j c hj L m) 9, len_upd, h]
  have h1 : decide (3 * i + j < 9) = true := by simp; omega
  have h2 : set9 L (3 * i + j) = (gt i j L).isSome := by
    unfold set9
    rw [show (3 * i + j) / 3 = i from by omega, show (3 * i + j) % 3 = j from by omega]
  rw [h1, h2]
  simp

end Go.Proofs.YbulkclbwFmt
