/-
  Plain facts on bytes: no Go in sight.
-/
import Derived.Test.YbulkclbwFmtPlain
import Derived.Laws.Strings
import Derived.Lib.Strings
namespace Go.Proofs.YbulkclbwFmt

/-- the byte at i of a list, as a number; beyond the end: -1 -/
def atL (l : List UInt8) (i : Nat) : Int := match l[i]? with
  | some c => (c.toNat : Int)
  | none => -1

theorem at_list (s : ByteArray) (i : Nat) : at' s i = atL s.data.toList i := by
  unfold atL
  by_cases h : i < s.size
  · rw [at_lt s i h, List.getElem?_eq_getElem (by simpa using h)]; rfl
  · unfold at'
    rw [dif_neg h, List.getElem?_eq_none (by simpa using h)]

theorem prefix_plain (t : ByteArray) (h : 2 ≤ t.size) : ((t.extract 0 2).toList == [46, 46]) = decide (1 < t.size ∧ at' t 0 = 46 ∧ at' t 1 = 46) := by
  rw [ByteArray.toList_eq, Lib.extract_data, at_list, at_list]
  have hl : t.data.toList.length = t.size := by simp
  rw [← hl] at h ⊢
  generalize t.data.toList = l at *
  match l, h with
  | a :: b :: r, _ =>
    rw [Bool.eq_iff_iff]
    simp [atL, ← UInt8.toNat_inj]
    omega

theorem atL_drop (l : List UInt8) (a i : Nat) : atL (l.drop a) i = atL l (a + i) := by
  unfold atL; rw [List.getElem?_drop]

theorem at_extract (s : ByteArray) (a i : Nat) : at' (s.extract a s.size) i = at' s (a + i) := by
  rw [at_list, at_list, Lib.extract_data, List.take_of_length_le (by simp), atL_drop]

end Go.Proofs.YbulkclbwFmt
