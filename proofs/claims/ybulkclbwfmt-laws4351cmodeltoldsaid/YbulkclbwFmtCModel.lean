/-
  The law LawS4351CModel: the walk.
-/
import Derived.Test.YbulkclbwFmtLexWalk
import Derived.Test.YbulkclbwFmtModel
import Derived.Test.YbulkclbwFmtRefused
namespace Go.Proofs.YbulkclbwFmt
open Go.RowKit Go.Extern.Stop Go.Stop Go.Extern

theorem numEnd_bounds (s : ByteArray) (st k : Nat) (h : st ≤ s.size) (hk : numEnd s st = some k) : st ≤ k ∧ k ≤ s.size := by
  unfold numEnd at hk
  have h1 := skip_ge digI s st
  have h2 := skip_le digI s st h
  have h3 := fracE_ge s (skip digI s st)
  have h4 := fracE_le s (skip digI s st) h2
  split at hk
  · cases hk
  · rename_i c hc
    have h5 := expE_ge _ _ _ hc
    have h6 := expE_le _ _ _ h4 hc
    split at hk
    · cases hk
    · obtain rfl := Option.some.inj hk; omega

theorem start_nat (n : Int) (m : Nat) (hm : m ≤ 1024) : ∃ st : Nat, wrap64 (n % ((m : Int) + 1)) = (st : Int) ∧ st ≤ m := by
  have h1 := Int.emod_nonneg n (show ((m : Int) + 1) ≠ 0 by omega)
  have h2 := Int.emod_lt_of_pos n (show (0 : Int) < (m : Int) + 1 by omega)
  generalize n % ((m : Int) + 1) = r at *
  obtain ⟨st, rfl⟩ := Int.eq_ofNat_of_zero_le h1
  exact ⟨st, by unfold wrap64; omega, by omega⟩

set_option maxRecDepth 100000 in
set_option maxHeartbeats 1000000 in
theorem cmodel_walk (F : Interp) (s : ByteArray) (n : Int) (w : World) (hF : F.answers w.tape) (h0 : 0 ≤ n) (h1 : n < 18446744073709551616) (hs : s.size ≤ 9223372036854775807) :
    Calls Ybaf.prog 4 #[.string s, .int .u64 n] w fun e w' => e = .returned (.bool true) ∧ Below w.heap.size w w' := by
  by_cases hbig : 1024 < s.size
  · go_enter Ybaf.func4, Ybaf.ntmps4
    go_wp2
    go_ret
    exact ⟨rfl, Below.refl _ _⟩
  · obtain ⟨st, hst, hle⟩ := start_nat n s.size (by omega)
    have HS : Hid (wrap64 (n % ((s.size : Int) + 1)) = (st : Int)) := hst
    clear hst
    go_enter Ybaf.func4, Ybaf.ntmps4
    go_wp2_with fail
    rw [HS.out]
    clear HS h0 h1
    refine (lexNumber_any F s st _ hF (by omega) hle).mono ?_
    intro e w1 hpost
    rcases hpost with ⟨k, hk, rfl, hb⟩ | ⟨hk, b, rfl, hb1, hb2, hcode, hb⟩
    · have HK : Hid (numEnd s st = some k) := hk
      have hkb := numEnd_bounds s st k hle hk
      clear hk
      obtain ⟨hk1, hk2⟩ := hkb
      go_wp2_with fail
      refine (cmodel_any s st _ (by omega) hle).mono ?_
      rintro e w2 ⟨hp, hw⟩
      obtain rfl := hw.symm
      rcases hp with ⟨k', hk', rfl⟩ | ⟨hk', j, rfl⟩
      · have : k' = k := Option.some.inj (hk'.symm.trans HK.out)
        subst this
        clear hk' HK
        go_wp2_with fail
        go_ret
        exact ⟨rfl, hb.alloc hb.size _⟩
      · rw [HK.out] at hk'; cases hk'
    · have HK : Hid (numEnd s st = none) := hk
      clear hk
      go_wp2_with fail
      refine (cmodel_any s st _ (by omega) hle).mono ?_
      rintro e w2 ⟨hp, hw⟩
      obtain rfl := hw.symm
      rcases hp with ⟨k', hk', rfl⟩ | ⟨hk', j, rfl⟩
      · rw [HK.out] at hk'; cases hk'
      · clear hk' HK
        go_wp2_with fail
        refine (refused_any b _ (by simp; omega) ?hc).mono ?_
        case hc => rw [((Below.refl w1.heap.size w1).alloc (Nat.le_refl _) _).cell (by exact hb2)]; exact hcode
        rintro e w3 ⟨rfl, hb3⟩
        go_wp2_with fail
        go_ret
        exact ⟨rfl, (hb.alloc hb.size _).trans (hb3.mono (by have := hb.size; simp; omega))⟩

end Go.Proofs.YbulkclbwFmt
