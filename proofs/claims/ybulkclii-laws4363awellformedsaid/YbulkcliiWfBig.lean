/-
  The law LawS4363AWellFormed at long arguments: true at once.
-/
import Derived.Test.YbulkcliiAModel
namespace Go.Proofs.Ybulkclii
open Go.RowKit

set_option maxRecDepth 100000 in
set_option maxHeartbeats 1000000 in
theorem wf_big (a0 : Option Addr) (len0 cap0 : Nat) (neg : Bool) (a2 : Option Addr) (len2 cap2 : Nat) (a3 : Option Addr) (len3 cap3 : Nat) (a4 : Option Addr) (len4 cap4 : Nat) (es ts : Int) (w : World)
    (m0 : len0 ≤ maxLen) (m2 : len2 ≤ maxLen) (m3 : len3 ≤ maxLen) (m4 : len4 ≤ maxLen) (h : ¬ (len0 ≤ 1024 ∧ len2 ≤ 1024 ∧ len3 ≤ 1024 ∧ len4 ≤ 1024)) :
    Calls Yba.prog 4 #[.slice a0 len0 cap0, .bool neg, .slice a2 len2 cap2, .slice a3 len3 cap3, .slice a4 len4 cap4, .int .u8 es, .int .u8 ts] w fun e w' => e = .returned (.bool true) ∧ Below w.heap.size w w' := by
  unfold maxLen at *
  by_cases h0 : 1024 < len0
  · clear h
    go_enter Yba.func4, Yba.ntmps4
    go_wp2
    go_ret
    exact ⟨rfl, Below.refl _ _⟩
  · by_cases h2 : 1024 < len2
    · clear h
      go_enter Yba.func4, Yba.ntmps4
      go_wp2
      go_ret
      exact ⟨rfl, Below.refl _ _⟩
    · by_cases h3 : 1024 < len3
      · clear h
        go_enter Yba.func4, Yba.ntmps4
        go_wp2
        go_ret
        exact ⟨rfl, Below.refl _ _⟩
      · have h4 : 1024 < len4 := by omega
        clear h
        go_enter Yba.func4, Yba.ntmps4
        go_wp2
        go_ret
        exact ⟨rfl, Below.refl _ _⟩

end Go.Proofs.Ybulkclii
