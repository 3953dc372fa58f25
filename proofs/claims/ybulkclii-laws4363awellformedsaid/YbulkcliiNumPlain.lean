/-
  What numL comes to, way by way.
-/
import Derived.Test.YbulkcliiPlain
namespace Go.Proofs.Ybulkclii

theorem eq_of_beq' {a b : Int} (h : (a == b) = true) : a = b := by simpa using h
theorem ne_of_beq' {a b : Int} (h : (a == b) = false) : a ≠ b := by simpa using h

theorem negE_yes (bs : List Int) (i : Nat) (h : (pk bs i == 45) = true) : negE bs i = i + 1 ∧ i < bs.length :=
  have e := eq_of_beq' h
  ⟨by unfold negE; rw [if_pos e], pk_lt bs i (by rw [e]; decide)⟩
theorem negE_no (bs : List Int) (i : Nat) (h : (pk bs i == 45) = false) : negE bs i = i := by unfold negE; rw [if_neg (ne_of_beq' h)]
theorem wholeE_zero (bs : List Int) (i : Nat) (h : (pk bs i == 48) = true) : wholeE bs i = (true, i + 1) ∧ i < bs.length :=
  have e := eq_of_beq' h
  ⟨by unfold wholeE; rw [if_pos e], pk_lt bs i (by rw [e]; decide)⟩
theorem wholeE_more (bs : List Int) (i : Nat) (h : (pk bs i == 48) = false) : wholeE bs i = (decide (i < skip bs i), skip bs i) := by unfold wholeE; rw [if_neg (ne_of_beq' h)]
theorem fracE_yes (bs : List Int) (i : Nat) (h : (pk bs i == 46) = true) : fracE bs i = (decide (i + 1 < skip bs (i + 1)), skip bs (i + 1)) ∧ i < bs.length :=
  have e := eq_of_beq' h
  ⟨by unfold fracE; rw [if_pos e], pk_lt bs i (by rw [e]; decide)⟩
theorem fracE_no (bs : List Int) (i : Nat) (h : (pk bs i == 46) = false) : fracE bs i = (true, i) := by unfold fracE; rw [if_neg (ne_of_beq' h)]
/-- is there an exponent's letter -/
def isE (bs : List Int) (i : Nat) : Bool := pk bs i == 101 || pk bs i == 69
def isS (bs : List Int) (i : Nat) : Bool := pk bs i == 43 || pk bs i == 45
theorem isE_yes (bs : List Int) (i : Nat) (h : isE bs i = true) : expE bs i = (decide (sgnE bs (i + 1) < skip bs (sgnE bs (i + 1))), skip bs (sgnE bs (i + 1))) ∧ i < bs.length := by
  have e : pk bs i = 101 ∨ pk bs i = 69 := by unfold isE at h; simpa using h
  exact ⟨by unfold expE; rw [if_pos e], pk_lt bs i (by rcases e with e | e <;> rw [e] <;> decide)⟩
theorem isE_no (bs : List Int) (i : Nat) (h : isE bs i = false) : expE bs i = (true, i) := by
  have e : ¬ (pk bs i = 101 ∨ pk bs i = 69) := by unfold isE at h; simpa using h
  unfold expE; rw [if_neg e]
theorem isS_yes (bs : List Int) (i : Nat) (h : isS bs i = true) : sgnE bs i = i + 1 ∧ i < bs.length := by
  have e : pk bs i = 43 ∨ pk bs i = 45 := by unfold isS at h; simpa using h
  exact ⟨by unfold sgnE; rw [if_pos e], pk_lt bs i (by rcases e with e | e <;> rw [e] <;> decide)⟩
theorem isS_no (bs : List Int) (i : Nat) (h : isS bs i = false) : sgnE bs i = i := by
  have e : ¬ (pk bs i = 43 ∨ pk bs i = 45) := by unfold isS at h; simpa using h
  unfold sgnE; rw [if_neg e]

theorem numL_whole (bs : List Int) (p i k : Nat) (hi : i = negE bs p) (h : wholeE bs i = (false, k)) : numL bs p = (false, k) := by
  unfold numL; rw [← hi, h]; simp
theorem numL_frac (bs : List Int) (p i j k : Nat) (hi : i = negE bs p) (h : wholeE bs i = (true, j)) (h2 : fracE bs j = (false, k)) : numL bs p = (false, k) := by
  unfold numL; rw [← hi, h]; simp [h2]
theorem numL_exp (bs : List Int) (p i j k : Nat) (hi : i = negE bs p) (h : wholeE bs i = (true, j)) (h2 : fracE bs j = (true, k)) : numL bs p = expE bs k := by
  unfold numL; rw [← hi, h]; simp [h2]

end Go.Proofs.Ybulkclii
