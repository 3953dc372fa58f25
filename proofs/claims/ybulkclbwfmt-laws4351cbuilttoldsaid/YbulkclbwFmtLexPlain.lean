/-
  The plain function that lexNumber computes: no Go in sight.
-/
import Derived.Test.YbulkclbwFmtBytes
namespace Go.Proofs.YbulkclbwFmt

/-- a point that no other follows -/
def dotB (s : ByteArray) (a : Nat) : Bool := decide (at' s a = 46 ∧ at' s (a + 1) ≠ 46)
/-- behind the digits and the point's digits -/
def fracE (s : ByteArray) (a : Nat) : Nat := if dotB s a = true then skip digI s (a + 1) else a
def expB (s : ByteArray) (b : Nat) : Bool := decide (at' s b = 101 ∨ at' s b = 69)
def sgnB (s : ByteArray) (j : Nat) : Bool := decide (at' s j = 43 ∨ at' s j = 45)
/-- behind the sign, if there is one -/
def sgnE (s : ByteArray) (b : Nat) : Nat := if sgnB s (b + 1) = true then b + 2 else b + 1
/-- behind the exponent; none: a sign that no digit follows -/
def expE (s : ByteArray) (b : Nat) : Option Nat :=
  if expB s b = true then (if digI (at' s (sgnE s b)) = true then some (skip digI s (sgnE s b)) else if sgnB s (b + 1) = true then none else some b) else some b
/-- where the number that begins at 'st' ends; none: trailing junk -/
def numEnd (s : ByteArray) (st : Nat) : Option Nat :=
  match expE s (fracE s (skip digI s st)) with
  | none => none
  | some c => if idI (at' s c) = true then none else some c

theorem at_neg (s : ByteArray) (i : Nat) (h : ¬ i < s.size) : at' s i = -1 := by unfold at'; rw [dif_neg h]
theorem lt_of_at (s : ByteArray) (i : Nat) (h : 0 ≤ at' s i) : i < s.size := by
  by_cases hc : i < s.size
  · exact hc
  · rw [at_neg s i hc] at h; omega
theorem fracE_ge (s : ByteArray) (a : Nat) : a ≤ fracE s a := by
  unfold fracE
  split
  · exact Nat.le_trans (Nat.le_succ a) (skip_ge digI s (a + 1))
  · exact Nat.le_refl _
theorem fracE_le (s : ByteArray) (a : Nat) (h : a ≤ s.size) : fracE s a ≤ s.size := by
  unfold fracE
  split
  · rename_i hd
    have : at' s a = 46 := (of_decide_eq_true hd).1
    have := lt_of_at s a (by omega)
    exact skip_le digI s (a + 1) this
  · exact h

theorem dot_yes (s : ByteArray) (a : Nat) (h1 : a < s.size) (h : ((s[a]'h1).toNat : Int) = 46) :
    (!decide (1 < s.size - a) || (!decide (at' (s.extract a s.size) 0 = 46) || !decide (at' (s.extract a s.size) 1 = 46))) = dotB s a := by
  rw [← at_lt s a h1] at h
  rw [at_extract, at_extract, Nat.add_zero]
  unfold dotB
  by_cases h2 : a + 1 < s.size
  · have : 1 < s.size - a := by omega
    rw [Bool.eq_iff_iff]; simp [h, this]
  · have e := at_neg s (a + 1) h2
    have : ¬ 1 < s.size - a := by omega
    rw [Bool.eq_iff_iff]; simp [h, this, e]
theorem dot_no (s : ByteArray) (a : Nat) (h1 : a < s.size) (h : ¬ ((s[a]'h1).toNat : Int) = 46) : false = dotB s a := by
  rw [← at_lt s a h1] at h
  unfold dotB; simp [h]
theorem dot_end (s : ByteArray) (a : Nat) (h1 : ¬ a < s.size) : false = dotB s a := by
  unfold dotB; rw [at_neg s a h1]; simp
theorem dot_lt (s : ByteArray) (a : Nat) (h : dotB s a = true) : a < s.size := by
  have h' : at' s a = 46 := (of_decide_eq_true h).1
  exact lt_of_at s a (by omega)
theorem fracE_yes (s : ByteArray) (a : Nat) (h : dotB s a = true) : fracE s a = skip digI s (a + 1) := by unfold fracE; rw [if_pos h]
theorem fracE_no (s : ByteArray) (a : Nat) (h : dotB s a = false) : fracE s a = a := by unfold fracE; rw [if_neg (by simp [h])]

theorem exp_one (s : ByteArray) (b : Nat) (h1 : b < s.size) (h : ((s[b]'h1).toNat : Int) = 101) : true = expB s b := by
  rw [← at_lt s b h1] at h
  unfold expB; simp [h]
theorem exp_two (s : ByteArray) (b : Nat) (h1 : b < s.size) (h : ¬ ((s[b]'h1).toNat : Int) = 101) : (((s[b]'h1).toNat : Int) == 101 || ((s[b]'h1).toNat : Int) == 69) = expB s b := by
  rw [← at_lt s b h1] at h ⊢
  unfold expB; rw [Bool.eq_iff_iff]; simp [h]
theorem exp_end (s : ByteArray) (b : Nat) (h1 : ¬ b < s.size) : false = expB s b := by
  unfold expB; rw [at_neg s b h1]; simp
theorem exp_lt (s : ByteArray) (b : Nat) (h : expB s b = true) : b < s.size := by
  have h' := of_decide_eq_true h
  exact lt_of_at s b (by omega)
theorem sgn_one (s : ByteArray) (b : Nat) (h1 : b < s.size) (h : ((s[b]'h1).toNat : Int) = 43) : true = sgnB s b := by
  rw [← at_lt s b h1] at h
  unfold sgnB; simp [h]
theorem sgn_two (s : ByteArray) (b : Nat) (h1 : b < s.size) (h : ¬ ((s[b]'h1).toNat : Int) = 43) : (((s[b]'h1).toNat : Int) == 43 || ((s[b]'h1).toNat : Int) == 45) = sgnB s b := by
  rw [← at_lt s b h1] at h ⊢
  unfold sgnB; rw [Bool.eq_iff_iff]; simp [h]
theorem sgn_end (s : ByteArray) (b : Nat) (h1 : ¬ b < s.size) : false = sgnB s b := by
  unfold sgnB; rw [at_neg s b h1]; simp
theorem sgn_lt (s : ByteArray) (b : Nat) (h : sgnB s b = true) : b < s.size := by
  have h' := of_decide_eq_true h
  exact lt_of_at s b (by omega)
theorem sgnE_yes (s : ByteArray) (b : Nat) (h : sgnB s (b + 1) = true) : sgnE s b = b + 2 := by unfold sgnE; rw [if_pos h]
theorem sgnE_no (s : ByteArray) (b : Nat) (h : sgnB s (b + 1) = false) : sgnE s b = b + 1 := by unfold sgnE; rw [if_neg (by simp [h])]
theorem expE_none (s : ByteArray) (b : Nat) (h : expB s b = false) : expE s b = some b := by unfold expE; rw [if_neg (by simp [h])]
theorem expE_dig (s : ByteArray) (b : Nat) (h : expB s b = true) (hd : digI (at' s (sgnE s b)) = true) : expE s b = some (skip digI s (sgnE s b)) := by unfold expE; rw [if_pos h, if_pos hd]
theorem expE_bad (s : ByteArray) (b : Nat) (h : expB s b = true) (hd : digI (at' s (sgnE s b)) = false) (hg : sgnB s (b + 1) = true) : expE s b = none := by unfold expE; rw [if_pos h, if_neg (by simp [hd]), if_pos hg]
theorem expE_bare (s : ByteArray) (b : Nat) (h : expB s b = true) (hd : digI (at' s (sgnE s b)) = false) (hg : sgnB s (b + 1) = false) : expE s b = some b := by unfold expE; rw [if_pos h, if_neg (by simp [hd]), if_neg (by simp [hg])]
theorem dig_lt (s : ByteArray) (b : Nat) (h : digI (at' s b) = true) : b < s.size := by
  have h' : 48 ≤ at' s b ∧ at' s b ≤ 57 := by unfold digI at h; simpa using h
  exact lt_of_at s b (by omega)
theorem id_lt (s : ByteArray) (b : Nat) (h : idI (at' s b) = true) : b < s.size := by
  by_cases hb : b < s.size
  · exact hb
  · rw [at_neg s b hb] at h; exact absurd h (by decide)
theorem expE_ge (s : ByteArray) (b c : Nat) (h : expE s b = some c) : b ≤ c := by
  unfold expE at h
  split at h
  · split at h
    · obtain rfl := Option.some.inj h
      have := skip_ge digI s (sgnE s b)
      have h2 : b + 1 ≤ sgnE s b := by unfold sgnE; split <;> omega
      omega
    · split at h
      · cases h
      · obtain rfl := Option.some.inj h; omega
  · obtain rfl := Option.some.inj h; omega
theorem expE_le (s : ByteArray) (b c : Nat) (hb : b ≤ s.size) (h : expE s b = some c) : c ≤ s.size := by
  unfold expE at h
  split at h
  · split at h
    · rename_i hd
      obtain rfl := Option.some.inj h
      exact skip_le digI s _ (Nat.le_of_lt (dig_lt s _ hd))
    · split at h
      · cases h
      · obtain rfl := Option.some.inj h; omega
  · obtain rfl := Option.some.inj h; omega
theorem numEnd_bad (s : ByteArray) (st : Nat) (h : expE s (fracE s (skip digI s st)) = none) : numEnd s st = none := by unfold numEnd; rw [h]
theorem numEnd_id (s : ByteArray) (st c : Nat) (h : expE s (fracE s (skip digI s st)) = some c) (hi : idI (at' s c) = true) : numEnd s st = none := by unfold numEnd; rw [h]; simp [hi]
theorem numEnd_ok (s : ByteArray) (st c : Nat) (h : expE s (fracE s (skip digI s st)) = some c) (hi : idI (at' s c) = false) : numEnd s st = some c := by unfold numEnd; rw [h]; simp [hi]

end Go.Proofs.YbulkclbwFmt
