/-
  The plain functions of the seat: no Go in sight.
-/
namespace Go.Proofs.Ybulkclii

/-- the byte at i; beyond the end: 0 -/
def pk (bs : List Int) (i : Nat) : Int := bs.getD i 0
def digI (c : Int) : Bool := decide (48 ≤ c) && decide (c ≤ 57)
theorem digI_iff (c : Int) : digI c = true ↔ 48 ≤ c ∧ c ≤ 57 := by unfold digI; simp
theorem digI_no (c : Int) : digI c = false ↔ ¬ (48 ≤ c ∧ c ≤ 57) := by rw [← digI_iff]; simp

theorem pk_end (bs : List Int) (i : Nat) (h : bs.length ≤ i) : pk bs i = 0 := by
  unfold pk; rw [List.getD_eq_getElem?_getD, List.getElem?_eq_none h]; rfl
theorem pk_lt (bs : List Int) (i : Nat) (h : pk bs i ≠ 0) : i < bs.length := by
  by_cases hc : i < bs.length
  · exact hc
  · exact absurd (pk_end bs i (by omega)) h
theorem dig_lt (bs : List Int) (i : Nat) (h : digI (pk bs i) = true) : i < bs.length := by
  refine pk_lt bs i (fun e => ?_)
  rw [e] at h; exact absurd h (by decide)

def skipN (bs : List Int) : Nat → Nat → Nat
  | 0, i => i
  | n + 1, i => if digI (pk bs i) = true then skipN bs n (i + 1) else i
/-- behind the digits that begin at i -/
def skip (bs : List Int) (i : Nat) : Nat := skipN bs (bs.length - i) i

theorem skip_yes (bs : List Int) (i : Nat) (hp : digI (pk bs i) = true) : skip bs i = skip bs (i + 1) := by
  have h := dig_lt bs i hp
  unfold skip
  have e : bs.length - i = (bs.length - (i + 1)) + 1 := by omega
  rw [e, skipN, if_pos hp]
theorem skip_no (bs : List Int) (i : Nat) (h : digI (pk bs i) = false) : skip bs i = i := by
  unfold skip
  cases e : bs.length - i with
  | zero => rfl
  | succ n => rw [skipN, if_neg (by simp [h])]
theorem skipN_ge (bs : List Int) : ∀ n i, i ≤ skipN bs n i
  | 0, i => Nat.le_refl _
  | n + 1, i => by
    rw [skipN]
    split
    · exact Nat.le_trans (Nat.le_succ i) (skipN_ge bs n (i + 1))
    · exact Nat.le_refl _
theorem skipN_le (bs : List Int) : ∀ n i, i ≤ bs.length → skipN bs n i ≤ bs.length
  | 0, i, h => h
  | n + 1, i, h => by
    rw [skipN]
    split
    · rename_i hc; exact skipN_le bs n (i + 1) (dig_lt bs i hc)
    · exact h
theorem skip_ge (bs : List Int) (i : Nat) : i ≤ skip bs i := skipN_ge bs _ i
theorem skip_le (bs : List Int) (i : Nat) (h : i ≤ bs.length) : skip bs i ≤ bs.length := skipN_le bs _ i h
theorem skip_end (bs : List Int) (i : Nat) (h : bs.length ≤ i) : skip bs i = i := by
  unfold skip
  have : bs.length - i = 0 := by omega
  rw [this, skipN]

/-- behind a minus sign or none -/
def negE (bs : List Int) (i : Nat) : Nat := if pk bs i = 45 then i + 1 else i
/-- the whole part: is there one, and where it ends -/
def wholeE (bs : List Int) (i : Nat) : Bool × Nat := if pk bs i = 48 then (true, i + 1) else (decide (i < skip bs i), skip bs i)
/-- the fraction or none -/
def fracE (bs : List Int) (i : Nat) : Bool × Nat := if pk bs i = 46 then (decide (i + 1 < skip bs (i + 1)), skip bs (i + 1)) else (true, i)
/-- behind the exponent's sign or none -/
def sgnE (bs : List Int) (i : Nat) : Nat := if pk bs i = 43 ∨ pk bs i = 45 then i + 1 else i
/-- the exponent or none -/
def expE (bs : List Int) (i : Nat) : Bool × Nat := if pk bs i = 101 ∨ pk bs i = 69 then (decide (sgnE bs (i + 1) < skip bs (sgnE bs (i + 1))), skip bs (sgnE bs (i + 1))) else (true, i)
/-- the number at p: is it well formed, and where the scan stopped -/
def numL (bs : List Int) (p : Nat) : Bool × Nat :=
  if (wholeE bs (negE bs p)).1 = true then
    (if (fracE bs (wholeE bs (negE bs p)).2).1 = true then expE bs (fracE bs (wholeE bs (negE bs p)).2).2 else fracE bs (wholeE bs (negE bs p)).2)
  else wholeE bs (negE bs p)

theorem negE_le (bs : List Int) (i : Nat) (h : i ≤ bs.length) : negE bs i ≤ bs.length := by
  unfold negE; split
  · rename_i hc; exact pk_lt bs i (by rw [hc]; decide)
  · exact h
theorem wholeE_le (bs : List Int) (i : Nat) (h : i ≤ bs.length) : (wholeE bs i).2 ≤ bs.length := by
  unfold wholeE; split
  · rename_i hc; exact pk_lt bs i (by rw [hc]; decide)
  · exact skip_le bs i h
theorem fracE_le (bs : List Int) (i : Nat) (h : i ≤ bs.length) : (fracE bs i).2 ≤ bs.length := by
  unfold fracE; split
  · rename_i hc; exact skip_le bs _ (pk_lt bs i (by rw [hc]; decide))
  · exact h
theorem sgnE_le (bs : List Int) (i : Nat) (h : i ≤ bs.length) : sgnE bs i ≤ bs.length := by
  unfold sgnE; split
  · rename_i hc; exact pk_lt bs i (by rcases hc with hc | hc <;> rw [hc] <;> decide)
  · exact h

end Go.Proofs.Ybulkclii
