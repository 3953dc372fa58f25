/-
  The law LawS4356ARev: the walk.
-/
import Derived.Test.YbulkcleoRev
import Derived.Test.YbulkcleoQuiet
import Derived.Test.YbulkcleoExact
namespace Go.Proofs.Ybulkcleo
open Go.RowKit

theorem first_of (p : Nat → Bool) (st : Nat) (h : p st = true) : ∃ f, f ≤ st ∧ p f = true ∧ ∀ j, j < f → p j = false := by
  induction st using Nat.strongRecOn with
  | ind st ih =>
    by_cases hx : ∃ j, j < st ∧ p j = true
    · obtain ⟨j, hj, hp⟩ := hx
      obtain ⟨f, h1, h2, h3⟩ := ih j hj hp
      exact ⟨f, by omega, h2, h3⟩
    · refine ⟨st, Nat.le_refl _, h, fun j hj => ?_⟩
      cases hp : p j
      · rfl
      · exact absurd ⟨j, hj, hp⟩ hx

theorem start_at (x : Int) (n : Nat) (h0 : 0 < n) (hm : n ≤ 1024) : ∃ st : Nat, wrap64 (x % (n : Int)) = (st : Int) ∧ st < n := by
  have h1 := Int.emod_nonneg x (show (n : Int) ≠ 0 by omega)
  have h2 := Int.emod_lt_of_pos x (show (0 : Int) < (n : Int) by omega)
  generalize x % (n : Int) = r at *
  obtain ⟨st, rfl⟩ := Int.eq_ofNat_of_zero_le h1
  exact ⟨st, by unfold wrap64; omega, by omega⟩

set_option maxRecDepth 100000 in
set_option maxHeartbeats 1000000 in
theorem arev_walk (a0 : Option Addr) (n cap : Nat) (nd : Nat → List Int) (x : Int) (w : World) (hm : n ≤ maxLen) (h : Nodes w a0 n nd) (hlen : ∀ i, (nd i).length = 20) (hx0 : 0 ≤ x) (hx1 : x < 18446744073709551616) :
    Calls Yba.prog 4 #[.slice a0 n cap, .int .u64 x] w fun e w' => e = .returned (.bool true) ∧ Below w.heap.size w w' := by
  unfold maxLen at hm
  by_cases hbig : 1024 < n
  · clear h hlen
    go_enter Yba.func4, Yba.ntmps4
    go_wp2
    go_ret
    exact ⟨rfl, Below.refl _ _⟩
  · have HN : Hid (Nodes w a0 n nd) := h
    have HL : Hid (∀ i, (nd i).length = 20) := hlen
    have e0 := fun wx => eq_self26 z20 z20_len wx
    clear h hlen
    by_cases hz : n = 0
    · subst hz
      have HC := build_full a0 0 cap nd w (by omega) HN.out HL.out
      have HCH : Hid _ := HC
      clear HC
      go_enter Yba.func4, Yba.ntmps4
      go_wp2_with (first | (go_at_call 5; refine Calls.mono HCH.out ?_; rintro e w1 ⟨b, E, rfl, hrl, hfl, hbel⟩) | (go_at_call 6; refine (node_null _ _).mono ?_; rintro e w2 ⟨rfl, hb2⟩) | (refine wpList_build26 rfl rfl ?_))
      go_ret
      exact ⟨rfl, hbel.trans (hb2.mono hbel.size)⟩
    · obtain ⟨st, hst, hlt⟩ := start_at x n (by omega) (by omega)
      obtain ⟨f, hfs, hff, hfb⟩ := first_of (fun j => nd j == nd st) st (by simp)
      have HS : Hid (wrap64 (x % (n : Int)) = (st : Int)) := hst
      have HFF : Hid ((nd f == nd st) = true) := hff
      have HFB : Hid (∀ j, j < f → (nd j == nd st) = false) := hfb
      clear hst hff hfb e0
      rcases HN.out with h0 | ⟨g, o, rfl, hg, hc⟩
      · exact absurd h0 hz
      have HC : Hid (∀ j, j < n → w.rangeAt g (o + j * 20) (bv (nd j))) := hc
      clear hc
      have hls := HL.out st
      have hst0 : (0 : Int) ≤ (st : Int) := by omega
      have hst1 : (st : Int) < (n : Int) := by omega
      have hfst : (f : Int) ≤ (st : Int) := by omega
      go_enter Yba.func4, Yba.ntmps4
      go_upto_region 7 with fail
      rw [HS.out]
      have HCH : Hid (Calls Yba.prog 5 #[.slice (some ⟨g, o, none⟩) n cap] w fun e w' => ∃ b E, e = .returned (.pointer (some ⟨b, 0, none⟩)) ∧ RL b E n nd w' ∧ Full E n w' ∧ Below w.heap.size w w') := build_full _ n cap nd w (by omega) HN.out HL.out
      go_upto_region 8 with (go_at_call 5; refine Calls.mono HCH.out ?_; rintro e w1 ⟨b, E, rfl, hrl, hfl, hbel⟩)
      have HR : Hid (RL b E n nd w1) := hrl
      have HF : Hid (Full E n w1) := hfl
      have HBL : Hid (Below w.heap.size w w1) := hbel
      have HCN : Hid (Calls Yba.prog 6 #[.pointer (some ⟨b, 0, none⟩), .int .i64 st] w1 fun e w' => e = .returned (.agg (bv (nd st)).toArray) ∧ Below w1.heap.size w1 w') := node_any hrl st hlt
      clear hrl hfl hbel HCH
      go_upto_region 9 with (first | (go_at_call 6; refine Calls.mono HCN.out ?_; rintro e w2 ⟨rfl, hb2⟩) | (refine wpList_alloc26 rfl rfl ?_) | (refine wpList_store26 rfl _ _ rfl w2.heap.size 0 (nd st) hls rfl rfl (there_new w2 (bv z20).toArray 26 20 (by simp [bv, z20])) ?_))
      simp only [Act.put, List.setIfInBounds_toArray, List.set_cons_zero, List.set_cons_succ]
      obtain ⟨w3, hw3⟩ : ∃ w3, w3 = (w2.alloc (.cells (bv z20).toArray 26)).setCells w2.heap.size 0 (bv (nd st)) := ⟨_, rfl⟩
      rw [← hw3]
      have hb3 : Below w1.heap.size w1 w3 := by rw [hw3]; exact below_setCells hb2.size _ _ _ (hb2.alloc hb2.size _)
      have hr3 : w3.rangeAt w2.heap.size 0 (bv (nd st)) := by
        rw [hw3]; exact World.rangeAt_setCells_same _ _ _ _ (by rw [bv_length, hls]; exact there_new w2 (bv z20).toArray 26 20 (by simp [bv, z20]))
      have HR3 : Hid (RL b E n nd w3) := HR.out.below hb3
      have HF3 : Hid (Full E n w3) := HF.out.below hb3
      have hbel3 : Below w.heap.size w w3 := HBL.out.trans (hb3.mono HBL.out.size)
      have hgs := range_below (HC.out st hlt) hbel3 hg
      generalize w2.heap.size = q at hr3 ⊢
      clear hw3 hb2 hb3 HR HF HBL HCN
      have ek := fun wx => eq_self26 (nd st) hls wx
      refine wp_region_quiet_lit (by kernel_rfl) (by kernel_rfl) ?_
      repeat (first | (refine wpQuiet_load26 (by kernel_rfl) _ rfl q 0 rfl (nd st) hls hr3 ?_; simp only [Act.put, List.setIfInBounds_toArray, List.set_cons_zero, List.set_cons_succ]) | (refine wpQuiet_load25 (by kernel_rfl) _ rfl g (o + st * 20) rfl (nd st) hls hgs ?_; simp only [Act.put, List.setIfInBounds_toArray, List.set_cons_zero, List.set_cons_succ]) | go_big_quiet_step (fail))
      refine wpQuiet_nil ?_
      intro _ hw'
      obtain ⟨nq0, hw''⟩ := hw'
      subst hw''
      go_wp2_with fail
      go_loopw [10] (fun t wy => ∃ k : Nat, k ≤ f ∧ t = .int .i64 k ∧ ∃ nq, wy = w3.drewN nq) (fun t _ => f - (intOf t).toNat)
      case atStart => exact ⟨0, by omega, by go_num, _, rfl⟩
      case round =>
        obtain ⟨k, hk, rfl, nq, rfl⟩ := hrel
        have hlk := HL.out k
        have hk0 : (0 : Int) ≤ (k : Int) := by omega
        have hk1 : (k : Int) < (n : Int) := by omega
        have hgk := rangeAt_drewN (range_below (HC.out k (by omega)) hbel3 hg) nq
        have hgs' := rangeAt_drewN hgs nq
        by_cases hkf : k = f
        · subst hkf
          have eq25 := fun wx => eqIn25 (nd k) (nd st) hlk hls wx
          rw [HFF.out] at eq25
          go_upto_region 15 with fail
          refine wp_region_quiet_lit (by kernel_rfl) (by kernel_rfl) ?_
          repeat (first | (refine wpQuiet_load25 (by kernel_rfl) _ rfl g (o + k * 20) rfl (nd k) hlk hgk ?_; simp only [Act.put, List.setIfInBounds_toArray, List.set_cons_zero, List.set_cons_succ]) | (refine wpQuiet_load25 (by kernel_rfl) _ rfl g (o + st * 20) rfl (nd st) hls hgs' ?_; simp only [Act.put, List.setIfInBounds_toArray, List.set_cons_zero, List.set_cons_succ]) | go_big_quiet_step (fail))
          refine wpQuiet_nil ?_
          intro _ hw'
          obtain ⟨nq', hw''⟩ := hw'
          subst hw''
          have hbd : Below w3.heap.size w3 ((w3.drewN nq).drewN nq') := below_drewN (below_drewN (Below.refl _ _) _) _
          have HCR : Hid (Calls Yba.prog 7 #[.pointer (some ⟨b, 0, none⟩), .agg (bv (nd st)).toArray] ((w3.drewN nq).drewN nq') fun e w' => e = .returned (.tuple #[.int .i64 k, .bool true]) ∧ Below ((w3.drewN nq).drewN nq').heap.size ((w3.drewN nq).drewN nq') w') := rev_any (HR3.out.below hbd) (HF3.out.below hbd) (nd st) hls k (by omega) HFF.out HFB.out
          have hq3 := rangeAt_drewN (rangeAt_drewN hr3 nq) nq'
          have hbe : Below w.heap.size w ((w3.drewN nq).drewN nq') := below_drewN (below_drewN hbel3 _) _
          clear hbd
          rw [World.drewN_drewN] at HCR hq3 hbe ⊢
          go_wp2_with (first | (refine wpList_load26 rfl _ rfl q 0 rfl (nd st) hls hq3 ?_) | (go_at_call 7; refine Calls.mono HCR.out ?_; rintro e w4 ⟨rfl, hb4⟩))
          go_ret
          exact ⟨rfl, hbe.trans (hb4.mono hbe.size)⟩
        · have hno := HFB.out k (by omega)
          have eq25 := fun wx => eqIn25 (nd k) (nd st) hlk hls wx
          rw [hno] at eq25
          go_upto_region 15 with fail
          refine wp_region_quiet_lit (by kernel_rfl) (by kernel_rfl) ?_
          repeat (first | (refine wpQuiet_load25 (by kernel_rfl) _ rfl g (o + k * 20) rfl (nd k) hlk hgk ?_; simp only [Act.put, List.setIfInBounds_toArray, List.set_cons_zero, List.set_cons_succ]) | (refine wpQuiet_load25 (by kernel_rfl) _ rfl g (o + st * 20) rfl (nd st) hls hgs' ?_; simp only [Act.put, List.setIfInBounds_toArray, List.set_cons_zero, List.set_cons_succ]) | go_big_quiet_step (fail))
          refine wpQuiet_nil ?_
          intro _ hw'
          obtain ⟨nq', hw''⟩ := hw'
          subst hw''
          go_wp2_with fail
          go_roundw
          case rel => exact ⟨k + 1, by omega, by go_num, _, rfl⟩
          case measure => simp [intOf]; omega

end Go.Proofs.Ybulkcleo
