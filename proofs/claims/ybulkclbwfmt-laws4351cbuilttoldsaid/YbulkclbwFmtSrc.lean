/-
  The source that LawS4351CBuilt lays together: plain facts on its bytes.
-/
import Derived.Test.YbulkclbwFmtBuilt
import Derived.WideShapes
namespace Go.Proofs.YbulkclbwFmt

theorem nums_append (a b : ByteArray) : nums (a ++ b) = nums a ++ nums b := by
  unfold nums; rw [ByteArray.data_append]; simp

def byteB (n : Int) : Prop := 0 ≤ n ∧ n ≤ 255
theorem nums_str (l : List Int) (h : ∀ n ∈ l, byteB n) : nums (strOfNums l) = l := by
  unfold nums
  rw [strOfNums_data, List.map_map]
  conv => rhs; rw [← List.map_id l]
  apply List.map_congr_left
  intro n hn
  obtain ⟨h0, h1⟩ := h n hn
  show (((UInt8.ofNat n.toNat).toNat : Nat) : Int) = n
  rw [UInt8.toNat_ofNat_of_lt' (by show n.toNat < 256; omega)]
  omega

theorem digs_byte (zs : List Int) : ∀ n ∈ digs zs, byteB n := by
  intro n hn
  unfold digs at hn
  obtain ⟨z, _, rfl⟩ := List.mem_map.1 hn
  unfold dg byteB
  omega
theorem built_byte (is : List Int) (frac : Bool) (fs : List Int) (e up : Bool) (sg : Int) (es : List Int) : ∀ n ∈ digs is ++ (fracL frac fs ++ expL e up sg es), byteB n := by
  intro n hn
  rcases List.mem_append.1 hn with h | h
  · exact digs_byte _ _ h
  · rcases List.mem_append.1 h with h | h
    · unfold fracL at h
      split at h
      · rcases List.mem_cons.1 h with rfl | h
        · exact ⟨by decide, by decide⟩
        · exact digs_byte _ _ h
      · cases h
    · unfold expL at h
      split at h
      · rcases List.mem_cons.1 h with rfl | h
        · unfold letL byteB; split <;> omega
        · rcases List.mem_append.1 h with h | h
          · unfold sgnL at h
            split at h
            · rw [List.mem_singleton.1 h]; exact ⟨by decide, by decide⟩
            · split at h
              · rw [List.mem_singleton.1 h]; exact ⟨by decide, by decide⟩
              · cases h
          · rcases List.mem_cons.1 h with rfl | h
            · exact ⟨by decide, by decide⟩
            · exact digs_byte _ _ h
      · cases h

theorem src_R (pre tl : ByteArray) (l : List Int) (h : ∀ n ∈ l, byteB n) : R (pre ++ strOfNums l ++ ⟨#[32]⟩ ++ tl) pre.size (l ++ 32 :: nums tl) := by
  refine ⟨by simp [ByteArray.size_append]; omega, ?_⟩
  rw [nums_append, nums_append, nums_append, nums_str l h, List.append_assoc, List.append_assoc]
  rw [show pre.size = (nums pre).length from (nums_length pre).symm, List.drop_left]
  rfl

theorem src_num (pre tl : ByteArray) (is : List Int) (frac : Bool) (fs : List Int) (e up : Bool) (sg : Int) (es : List Int) :
    numEnd (pre ++ strOfNums (digs is ++ (fracL frac fs ++ expL e up sg es)) ++ ⟨#[32]⟩ ++ tl) pre.size = some (pre.size + (digs is ++ (fracL frac fs ++ expL e up sg es)).length) := by
  refine built_num _ _ is frac fs e up sg es (nums tl) ?_
  have h := src_R pre tl _ (built_byte is frac fs e up sg es)
  rw [List.append_assoc, List.append_assoc] at h
  exact h

theorem src_mid (pre s b tl : ByteArray) : (pre ++ s ++ b ++ tl).extract pre.size (pre.size + s.size) = s := by
  apply WideShapes.bytes_inj
  rw [Lib.extract_data]
  simp only [ByteArray.data_append, Array.toList_append, List.append_assoc]
  have e : pre.size = pre.data.toList.length := by simp
  rw [e, List.drop_left]
  have e2 : pre.data.toList.length + s.size - pre.data.toList.length = s.data.toList.length := by simp
  rw [e2, List.take_left]

end Go.Proofs.YbulkclbwFmt
