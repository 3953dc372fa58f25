/-
  The law LawS4351CBuilt at long arguments: true at once.
-/
import Derived.Test.YbulkclbwFmtOwn
namespace Go.Proofs.YbulkclbwFmt
open Go.RowKit

set_option maxRecDepth 100000 in
set_option maxHeartbeats 1000000 in
theorem built_big (pre tl : ByteArray) (a1 : Option Addr) (len1 cap1 : Nat) (frac : Bool) (a3 : Option Addr) (len3 cap3 : Nat) (ex up : Bool) (sg : Int) (a7 : Option Addr) (len7 cap7 : Nat) (w : World)
    (m0 : pre.size ≤ maxLen) (m1 : len1 ≤ maxLen) (m3 : len3 ≤ maxLen) (m7 : len7 ≤ maxLen) (m8 : tl.size ≤ maxLen) (h : ¬ (pre.size ≤ 1024 ∧ tl.size ≤ 1024 ∧ len1 ≤ 1024 ∧ len3 ≤ 1024 ∧ len7 ≤ 1024)) :
    Calls Ybaf.prog 5 #[.string pre, .slice a1 len1 cap1, .bool frac, .slice a3 len3 cap3, .bool ex, .bool up, .int .u8 sg, .slice a7 len7 cap7, .string tl] w fun e w' => e = .returned (.bool true) ∧ Below w.heap.size w w' := by
  unfold maxLen at *
  by_cases h0 : 1024 < pre.size
  · clear h
    go_enter Ybaf.func5, Ybaf.ntmps5
    go_wp2
    go_ret
    exact ⟨rfl, Below.refl _ _⟩
  · by_cases h1 : 1024 < len1
    · clear h
      go_enter Ybaf.func5, Ybaf.ntmps5
      go_wp2
      go_ret
      exact ⟨rfl, Below.refl _ _⟩
    · by_cases h3 : 1024 < len3
      · clear h
        go_enter Ybaf.func5, Ybaf.ntmps5
        go_wp2
        go_ret
        exact ⟨rfl, Below.refl _ _⟩
      · by_cases h7 : 1024 < len7
        · clear h
          go_enter Ybaf.func5, Ybaf.ntmps5
          go_wp2
          go_ret
          exact ⟨rfl, Below.refl _ _⟩
        · have h8 : 1024 < tl.size := by omega
          clear h
          go_enter Ybaf.func5, Ybaf.ntmps5
          go_wp2
          go_ret
          exact ⟨rfl, Below.refl _ _⟩

end Go.Proofs.YbulkclbwFmt
