/-
  The plain functions of the seat: no Go in sight.
-/
namespace Go.Proofs.YbulkclbwFmt

/-- a digit's byte -/
def digI (c : Int) : Bool := decide (48 ≤ c) && decide (c ≤ 57)
/-- a byte that begins a name -/
def idI (c : Int) : Bool := (decide (97 ≤ c) && decide (c ≤ 122)) || (decide (65 ≤ c) && decide (c ≤ 90)) || c == 95 || decide (128 ≤ c)
/-- a byte that goes on a name -/
def contI (c : Int) : Bool := idI c || digI c || c == 36

/-- the byte at i, as a number; beyond the end: -1 -/
def at' (s : ByteArray) (i : Nat) : Int := if h : i < s.size then ((s[i]'h).toNat : Int) else -1

/-- behind the run of bytes that meet p, at most n of them -/
def skipN (p : Int → Bool) (s : ByteArray) : Nat → Nat → Nat
  | 0, i => i
  | n + 1, i => if i < s.size ∧ p (at' s i) = true then skipN p s n (i + 1) else i
def skip (p : Int → Bool) (s : ByteArray) (i : Nat) : Nat := skipN p s (s.size - i) i

theorem skip_yes (p : Int → Bool) (s : ByteArray) (i : Nat) (h : i < s.size) (hp : p (at' s i) = true) : skip p s i = skip p s (i + 1) := by
  unfold skip
  have e : s.size - i = (s.size - (i + 1)) + 1 := by omega
  rw [e, skipN, if_pos ⟨h, hp⟩]
theorem skip_no (p : Int → Bool) (s : ByteArray) (i : Nat) (h : ¬ (i < s.size ∧ p (at' s i) = true)) : skip p s i = i := by
  unfold skip
  cases e : s.size - i with
  | zero => rfl
  | succ n => rw [skipN, if_neg h]
theorem skipN_ge (p : Int → Bool) (s : ByteArray) : ∀ n i, i ≤ skipN p s n i
  | 0, i => Nat.le_refl _
  | n + 1, i => by
    rw [skipN]
    split
    · exact Nat.le_trans (Nat.le_succ i) (skipN_ge p s n (i + 1))
    · exact Nat.le_refl _
theorem skipN_le (p : Int → Bool) (s : ByteArray) : ∀ n i, i ≤ s.size → skipN p s n i ≤ s.size
  | 0, i, h => h
  | n + 1, i, h => by
    rw [skipN]
    split
    · rename_i hc; exact skipN_le p s n (i + 1) hc.1
    · exact h
theorem skip_ge (p : Int → Bool) (s : ByteArray) (i : Nat) : i ≤ skip p s i := skipN_ge p s _ i
theorem skip_le (p : Int → Bool) (s : ByteArray) (i : Nat) (h : i ≤ s.size) : skip p s i ≤ s.size := skipN_le p s _ i h

theorem at_lt (s : ByteArray) (i : Nat) (h : i < s.size) : at' s i = ((s[i]'h).toNat : Int) := by unfold at'; rw [dif_pos h]
theorem at_range (s : ByteArray) (i : Nat) : -1 ≤ at' s i ∧ at' s i ≤ 255 := by
  unfold at'
  split
  · rename_i h
    have := (s[i]'h).toNat_lt
    omega
  · omega

end Go.Proofs.YbulkclbwFmt
