/-
  The law LawS4356AExact: the walk.
-/
import Derived.Test.YbulkcleoQuiet
namespace Go.Proofs.Ybulkcleo
open Go.RowKit

theorem eq_self26 (l : List Int) (h : l.length = 20) (w : World) : (Op.equalIn 10000 26 (.agg (bv l).toArray) (.agg (bv l).toArray)).run Yba.prog w = .ok true w := by
  rw [eqIn26 l l h h]; simp

theorem RL.drew {b E n : Nat} {nd : Nat → List Int} {w : World} (h : RL b E n nd w) : RL b E n nd w.drew := h.below ((Below.refl _ _).drew)

set_option maxRecDepth 100000 in
set_option maxHeartbeats 1000000 in
theorem exact_walk (a0 : Option Addr) (n cap : Nat) (nd : Nat → List Int) (w : World) (hm : n ≤ maxLen) (h : Nodes w a0 n nd) (hlen : ∀ i, (nd i).length = 20) :
    Calls Yba.prog 3 #[.slice a0 n cap] w fun e w' => e = .returned (.bool true) ∧ Below w.heap.size w w' := by
  unfold maxLen at hm
  by_cases hbig : 1024 < n
  · clear h hlen
    go_enter Yba.func3, Yba.ntmps3
    go_wp2
    go_ret
    exact ⟨rfl, Below.refl _ _⟩
  · have HN : Hid (Nodes w a0 n nd) := h
    have HL : Hid (∀ i, (nd i).length = 20) := hlen
    have e0 := fun wx => eq_self26 z20 z20_len wx
    clear h hlen
    go_enter Yba.func3, Yba.ntmps3
    go_wp2_with fail
    refine (build_any a0 n cap nd w (by omega) HN.out HL.out).mono ?_
    rintro e w1 ⟨b, E, rfl, hrl, hbel⟩
    have HR : Hid (RL b E n nd w1) := hrl
    clear hrl
    go_wp2_with (first | (go_at_call 6; refine (node_null b _).mono ?_; rintro e w2 ⟨rfl, hb2⟩) | (refine wpList_build26 rfl rfl ?_))
    have HR2 : Hid (RL b E n nd w2) := HR.out.below hb2
    have hbel2 : Below w.heap.size w w2 := hbel.trans (hb2.mono hbel.size)
    clear HR hb2 hbel
    go_loopw [4] (fun t wr => ∃ k : Nat, k ≤ n ∧ t = .int .i64 k ∧ Hid (RL b E n nd wr) ∧ Below w.heap.size w wr) (fun t _ => n - (intOf t).toNat)
    case atStart => exact ⟨0, by omega, by go_num, HR2, hbel2⟩
    case round =>
      obtain ⟨k, hk, rfl, hrl, hbel3⟩ := hrel
      clear HR2 hbel2
      by_cases hlt : k < n
      · rcases HN.out with h0 | ⟨g, o, rfl, hg, hc⟩
        · omega
        · have hr := range_below (hc k hlt) hbel3 hg
          have hl := HL.out k
          have ek := fun wx => eq_self26 (nd k) hl wx
          have hu25 := Yba.underlying25
          have hi25 : (Yba.prog.info? 25).map (·.size) = some (bv (nd k)).length := by rw [info25, bv_length, hl]
          have hbl : (bv (nd k)).length = 20 := by rw [bv_length, hl]
          have h1c := bv_one (nd k)
          have hk1 : (k : Int) < (n : Int) := by omega
          have hk0 : (0 : Int) ≤ (k : Int) := by omega
          have HC : Hid (∀ wy, RL b E n nd wy → Calls Yba.prog 6 #[.pointer (some ⟨b, 0, none⟩), .int .i64 k] wy fun e w' => e = .returned (.agg (bv (nd k)).toArray) ∧ Below wy.heap.size wy w') := fun wy h => node_any h k hlt
          have HRd : Hid (RL b E n nd wr.drew) := hrl.out.drew
          have HGD : Hid (g < wr.drew.heap.size) := Nat.lt_of_lt_of_le hg hbel3.size
          have HRG : Hid (wr.drew.rangeAt g (o + k * 20) (bv (nd k))) := (World.rangeAt_drew _ _ _ _).2 hr
          clear hc e0
          go_upto_region 9 with fail
          go_region_held3 (fun wy => wy.rangeAt g (o + k * 20) (bv (nd k))) (first | go_keep_ranges | exact range_below HRG.out hb4 HGD.out) ((go_at_call 6; refine (HC.out _ HRd.out).mono ?_; rintro e w4 ⟨rfl, hb4⟩))
          have HR4 : Hid (RL b E n nd w4) := HRd.out.below hb4
          have hbel4 : Below w.heap.size w w4 := hbel3.drew.trans (hb4.mono hbel3.size)
          clear hb4 hr hbel3 hrl HRd HGD HRG
          go_wp2_with fail
          go_roundw
          case rel => exact ⟨k + 1, by omega, by go_num, HR4, hbel4⟩
          case measure => simp [intOf]; omega
      · obtain rfl : k = n := by omega
        have f0 := hrl.out.ent
        go_wp2_with fail
        go_loopw [5] (fun t wy => ∃ i : Nat, i ≤ k ∧ t = .int .i64 i ∧ ∃ nq, wy = wr.drewN nq) (fun t _ => k - (intOf t).toNat)
        case atStart => exact ⟨0, by omega, by go_num, 0, rfl⟩
        case round =>
          obtain ⟨i, hi, rfl, nq, rfl⟩ := hrel
          by_cases hlt2 : i < k
          · rcases HN.out with h0 | ⟨g, o, rfl, hg, hc⟩
            · omega
            · have hr := range_below (hc i hlt2) (below_drewN hbel3 nq) hg
              have hr2 := (hrl.out.below (below_drewN (Below.refl _ _) nq)).node i hlt2
              have hf := (hrl.out.below (below_drewN (Below.refl _ _) nq)).ent
              have hl := HL.out i
              have ek := fun wx => eq_self26 (nd i) hl wx
              have hu25 := Yba.underlying25
              have hu26 := Yba.underlying26
              have hi25 : (Yba.prog.info? 25).map (·.size) = some (bv (nd i)).length := by rw [info25, bv_length, hl]
              have hi26 : (Yba.prog.info? 26).map (·.size) = some (bv (nd i)).length := by rw [info26, bv_length, hl]
              have hbl : (bv (nd i)).length = 20 := by rw [bv_length, hl]
              have h1c := bv_one (nd i)
              have hk1 : (i : Int) < (k : Int) := by omega
              have hk0 : (0 : Int) ≤ (i : Int) := by omega
              clear hc e0
              go_upto_region 16 with fail
              refine wp_region_quiet_lit (by kernel_rfl) (by kernel_rfl) ?_
              repeat (first | (refine wpQuiet_load26 (by kernel_rfl) _ rfl E (i * 27 + 7) rfl (nd i) hl hr2 ?_; simp only [Act.put, List.setIfInBounds_toArray, List.set_cons_zero, List.set_cons_succ]) | (refine wpQuiet_load25 (by kernel_rfl) _ rfl g (o + i * 20) rfl (nd i) hl hr ?_; simp only [Act.put, List.setIfInBounds_toArray, List.set_cons_zero, List.set_cons_succ]) | go_big_quiet_step (fail))
              refine wpQuiet_nil ?_
              intro _ hw'
              obtain ⟨nq', hw''⟩ := hw'
              subst hw''
              go_wp2_with fail
              go_roundw
              case rel => exact ⟨i + 1, by omega, by go_num, _, rfl⟩
              case measure => simp [intOf]; omega
          · obtain rfl : i = k := by omega
            go_wp2_with fail
            go_ret
            exact ⟨rfl, below_drewN hbel3 nq⟩

end Go.Proofs.Ybulkcleo
