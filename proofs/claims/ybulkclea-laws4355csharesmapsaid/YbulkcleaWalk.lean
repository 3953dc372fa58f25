/-
  The law LawS4355CSharesMap where the map is made: the walk.
-/
import Derived.Test.YbulkcleaSmall
namespace Go.Proofs.Ybulkclea
open Go.RowKit Go.Maps

attribute [local go_sem] eqNone eqSome

theorem law : Keyed Yba.prog 21 := int_keyed Yba.underlying21
theorem zeroE (w : World) : (zeroValue 27).run Yba.prog w = .ok (.int .i32 0) w := by kernel_rfl

set_option maxRecDepth 100000 in
set_option maxHeartbeats 1000000 in
theorem map_walk (a0 : Option Addr) (len0 cap0 : Nat) (a1 : Option Addr) (len1 cap1 : Nat) (iv : Int) (ks vs : List Int) (w : World) (hl : len0 ≤ 1024)
    (hv : vs.length = len1) (r0 : RowAt w w.heap.size a0 len0 ks) (r1 : RowAt w w.heap.size a1 len1 vs)
    (wk : ∀ j, (Lit.int .i32 (nth ks j)).wf = true) (wv : ∀ j, (Lit.int .i32 (nth vs j)).wf = true) :
    Calls Yba.prog 3 #[.slice a0 len0 cap0, .slice a1 len1 cap1, .int .i64 iv, .bool false] w fun e w' => e = .returned (.bool true) ∧ Below w.heap.size w w' := by
  have HV : Hid (vs.length = len1) := hv
  have R0 : Hid (RowAt w w.heap.size a0 len0 ks) := r0
  have R1 : Hid (RowAt w w.heap.size a1 len1 vs) := r1
  have WK : Hid (∀ j, (Lit.int .i32 (nth ks j)).wf = true) := wk
  have WV : Hid (∀ j, (Lit.int .i32 (nth vs j)).wf = true) := wv
  clear hv r0 r1 wk wv
  have hmm := @run_makeMap Yba.prog
  go_enter Yba.func3, Yba.ntmps3
  go_upto_region 4 with (first | (refine wpList_build46 rfl rfl ?_) | (refine wpList_box46 rfl _ rfl rfl ?_))
  have q := MS.start w
  generalize w.alloc (.cells zeroMsg 46) = wx at *
  go_wp2_with fail
  refine (setI_any q iv).mono ?_
  rintro e w1 ⟨rfl, rfl⟩
  have q1 := q.setI iv
  generalize wx.setCell ⟨w.heap.size, 4, none⟩ (.int .i64 iv) = w1 at *
  clear q
  go_wp2_with fail
  have hB := q1.size
  have hmade := World.ownsMap_made w1 Yba.prog 21 (plainElem (H := Unit) Yba.prog 27)
  go_loopw [11] (fun t wr => ∃ k : Nat, k ≤ len0 ∧ t = .int .i64 k ∧ wr.ownsMap Yba.prog 21 (plainElem Yba.prog 27) w1.heap.size k (D ks vs k) ∧ Below w1.heap.size w1 wr) (fun t _ => len0 - (intOf t).toNat)
  case atStart => exact ⟨0, by omega, by go_num, hmade, (Below.refl _ _).alloc (Nat.le_refl _) _⟩
  case round =>
    obtain ⟨k, hk, rfl, hown, hbel⟩ := hrel
    by_cases hlt : k < len0
    · rcases R0.out with h0 | ⟨g, o, rfl, hg, hc⟩
      · omega
      · have hbw : Below w.heap.size w wr := q1.bel.trans (hbel.mono (by omega))
        have hck := (hbw.cell (by exact hg)).trans (hc k hlt)
        have hr1 := R1.out.below hbw (Nat.le_refl _)
        have hkey := keyOf_int_mk Yba.underlying21 (WK.out k)
        have hval := plainElem_int (H := Unit) (P := Yba.prog) Yba.underlying27 (WV.out k)
        obtain ⟨w', hrun, hown', hgrow⟩ := hown.drew.update law Yba.underlying40 (by unfold maxLen; omega) hkey hval
        have hbel' : Below w1.heap.size w1 w' := hbel.drew.grown hgrow hbel.size (fun j hj => by cases hj; exact Nat.le_refl _)
        have hck' := (hbel'.cell (p := ⟨g, o + k, none⟩) (by show g < _; omega)).trans ((hbel.cell (p := ⟨g, o + k, none⟩) (by show g < _; omega)).symm.trans hck)
        have HO : Hid (w'.ownsMap Yba.prog 21 (plainElem Yba.prog 27) w1.heap.size (k + 1) (D ks vs (k + 1))) := hown'
        have hk1 : (k : Int) < (len0 : Int) := by omega
        have hk0 : (0 : Int) ≤ (k : Int) := by omega
        clear hown' hgrow hown hmade hkey hval hc
        have HC : Hid (∀ wy, (RowAt wy w.heap.size a1 len1 vs) → Calls Yba.prog 9 #[.slice a1 len1 cap1, .int .i64 k] wy fun e w' => e = .returned (.int .i32 (nth vs k)) ∧ w' = wy) := fun wy h => cval_any h HV.out (by omega)
        have HR1 : Hid (RowAt wr.drew w.heap.size a1 len1 vs) := hr1.below ((Below.refl _ wr).drew) (Nat.le_refl _)
        clear hr1
        go_upto_region 12 with fail
        go_region_held3 (fun wy => wy.cell? ⟨g, o + k, none⟩ = some (.int .i32 (nth ks k))) (first | go_keep | exact hck') ((go_at_call 9; refine (HC.out _ HR1.out).mono ?_; rintro e w'' ⟨rfl, hw⟩; obtain rfl := hw.symm))
        go_wp2_with fail
        go_roundw
        case rel => exact ⟨k + 1, by omega, by go_num, HO.out, hbel'⟩
        case measure => simp [intOf]; omega
    · obtain rfl : k = len0 := by omega
      clear hlt hmade hk
      have q2 := q1.below (hbel.mono hB)
      have hbw : Below w.heap.size w wr := q2.bel
      go_wp2_with fail
      refine (setM_any q2 (some w1.heap.size)).mono ?_
      rintro e w2 ⟨rfl, rfl⟩
      have q3 := q2.setM (some w1.heap.size)
      have hown2 := hown.setCell (a := ⟨w.heap.size, 30, none⟩) (by show w1.heap.size ≠ w.heap.size; omega) (.map (some w1.heap.size))
      generalize wr.setCell ⟨w.heap.size, 30, none⟩ (.map (some w1.heap.size)) = w2 at *
      clear hown hbel q2 q1 hbw
      have HB : Hid (w.heap.size + 1 ≤ w1.heap.size) := hB
      clear hB
      generalize w1.heap.size = B at *
      have HO : Hid (w2.ownsMap Yba.prog 21 (plainElem Yba.prog 27) B k (D ks vs k)) := hown2
      clear hown2
      go_wp2_with (go_at_call 7; refine (getM_any q3).mono ?_; rintro e w3 ⟨rfl, hw⟩; obtain rfl := hw.symm)
      go_loopw [13, 14] (fun d t wr => ∃ i : Nat, i ≤ k ∧ t = .int .i64 i ∧ d = .int .i64 (dist ks vs i : Nat) ∧ ∃ nq, wr = w2.drewN nq) (fun _ t _ => k - (intOf t).toNat)
      case atStart => exact ⟨0, by omega, by go_num, rfl, 0, rfl⟩
      case round =>
        obtain ⟨i, hi, rfl, rfl, nq, rfl⟩ := hrel
        have hdl := dist_le ks vs i
        by_cases hlt : i < k
        · rcases R0.out with h0 | ⟨g, o, rfl, hg, hc⟩
          · omega
          · have hcw : ∀ j, j < k → w2.cell? ⟨g, o + j, none⟩ = some (.int .i32 (nth ks j)) := fun j hj => (q3.bel.cell (by exact hg)).trans (hc j hj)
            have HC : Hid (∀ j, j < k → w2.cell? ⟨g, o + j, none⟩ = some (.int .i32 (nth ks j))) := hcw
            have hci := hcw i hlt
            clear hcw hc
            go_wp2_with fail
            go_loopw [15, 16] (fun f t wr => ∃ m : Nat, m ≤ i ∧ t = .int .i64 m ∧ f = .bool (lv ks vs m (nth ks i)).isNone ∧ ∃ nq, wr = w2.drewN nq) (fun _ t _ => i - (intOf t).toNat)
            case atStart => exact ⟨0, by omega, by go_num, rfl, nq, rfl⟩
            case round =>
              obtain ⟨m, hm, rfl, rfl, nq2, rfl⟩ := hrel
              by_cases hlm : m < i
              · have hcm := HC.out m (by omega)
                have hm1 : (m : Int) < (k : Int) := by omega
                have hi1 : (i : Int) < (k : Int) := by omega
                go_upto_region 25 with fail
                go_quiet (fail)
                cases hx : (nth ks m == nth ks i) with
                | true =>
                  have Hn : Hid (false = (lv ks vs (m + 1) (nth ks i)).isNone) := none_hit ks vs i m hx
                  clear hx
                  go_wp2_with fail
                  go_roundw
                  case rel => exact ⟨m + 1, by omega, by go_num, congrArg Value.bool Hn.out, _, rfl⟩
                  case measure => simp [intOf]; omega
                | false =>
                  have Hn : Hid ((lv ks vs m (nth ks i)).isNone = (lv ks vs (m + 1) (nth ks i)).isNone) := none_miss ks vs i m hx
                  clear hx
                  go_wp2_with fail
                  go_roundw
                  case rel => exact ⟨m + 1, by omega, by go_num, congrArg Value.bool Hn.out, _, rfl⟩
                  case measure => simp [intOf]; omega
              · obtain rfl : i = m := by omega
                go_upto_if 83 with fail
                go_cut [13, 15] (fun d _ wx => d = .int .i64 (dist ks vs (i + 1) : Nat) ∧ wx = w2.drewN nq2)
                case first => as_aux_lemma =>
                  cases hx : (lv ks vs i (nth ks i)).isNone with
                  | true =>
                    have Hd : Hid (dist ks vs (i + 1) = dist ks vs i + 1) := dist_new ks vs i hx
                    clear hx
                    generalize dist ks vs i = di at *
                    go_wp2_with fail
                    go_meet
                    case rel => exact ⟨by rw [Hd.out]; go_num, rfl⟩
                  | false =>
                    have Hd : Hid (dist ks vs (i + 1) = dist ks vs i) := dist_old ks vs i hx
                    clear hx
                    go_wp2_with fail
                    go_meet
                    case rel => exact ⟨by rw [Hd.out], rfl⟩
                case rest =>
                  obtain ⟨rfl, hw⟩ := hcut; obtain rfl := hw.symm
                  have HRv : Hid (∀ n, RowAt (w2.drewN n) w.heap.size a1 len1 vs) := fun n => R1.out.below (below_drewN q3.bel n) (Nat.le_refl _)
                  go_wp2_with fail
                  go_loopw [17, 18] (fun e t wr => ∃ m : Nat, i ≤ m ∧ m ≤ k ∧ t = .int .i64 m ∧ e = .int .i32 (ex ks vs i m) ∧ ∃ nq, wr = w2.drewN nq) (fun _ t _ => k - (intOf t).toNat)
                  case atStart => exact ⟨i, by omega, by omega, by go_num, by rw [ex_start], nq2, rfl⟩
                  case round =>
                    obtain ⟨m, hm0, hm, rfl, rfl, nq3, rfl⟩ := hrel
                    by_cases hlm' : m < k
                    · have hcm := HC.out m hlm'
                      have hm1 : (m : Int) < (k : Int) := by omega
                      have hi1 : (i : Int) < (k : Int) := by omega
                      go_upto_region 33 with fail
                      go_quiet (fail)
                      cases hx : (nth ks m == nth ks i) with
                      | true =>
                        have Hn : Hid (ex ks vs i (m + 1) = nth vs m) := ex_hit ks vs i m hm0 hx
                        clear hx
                        go_wp2_with fail
                        refine (cval_any (HRv.out _) HV.out (by omega)).mono ?_
                        rintro e w5 ⟨rfl, hw⟩
                        obtain rfl := hw.symm
                        clear hw
                        go_wp2_with fail
                        go_roundw
                        case rel => exact ⟨m + 1, by omega, by omega, by go_num, by rw [Hn.out], _, rfl⟩
                        case measure => simp [intOf]; omega
                      | false =>
                        have Hn : Hid (ex ks vs i (m + 1) = ex ks vs i m) := ex_miss ks vs i m hm0 hx
                        clear hx
                        go_wp2_with fail
                        go_roundw
                        case rel => exact ⟨m + 1, by omega, by omega, by go_num, by rw [Hn.out], _, rfl⟩
                        case measure => simp [intOf]; omega
                    · obtain rfl : k = m := by omega
                      have hex := ex_end ks vs i k hlt
                      rw [hex]
                      clear hex
                      have Hs := lv_some ks vs k i hlt
                      have HS : Hid ((lv ks vs k (nth ks i)).isSome = true) := Hs
                      clear Hs
                      generalize HE : (lv ks vs k (nth ks i)).getD 0 = E at *
                      have HE' : Hid ((lv ks vs k (nth ks i)).getD 0 = E) := HE
                      clear HE
                      go_wp2_with (at_lookup; refine wpList_lookup_own_ok_int _ rfl _ _ 40 rfl 21 27 .i32 law Yba.underlying40 Yba.underlying27 (zeroE _) B k (D ks vs k) rfl (by exact HO.out) _ _ rfl (keyOf_int_mk Yba.underlying21 (WK.out i)) ?_; intro c hat hwc; rw [D_at, HE'.out] at hat; rw [D_has, HS.out]; obtain rfl := lit_val hat)
                      go_roundw
                      case rel => exact ⟨i + 1, by omega, by go_num, rfl, _, rfl⟩
                      case measure => simp [intOf]; omega
        · obtain rfl : k = i := by omega
          have hsz := D_size ks vs k
          have HZ : Hid (Maps.size (D ks vs k) = dist ks vs k) := hsz
          have hown0 : (w2.drewN nq).ownsMap Yba.prog 21 (plainElem Yba.prog 27) B k (D ks vs k) := HO.out
          have hky : keyOf Yba.prog 21 (.int .i32 12345) = some (.int .i32 12345) := keyOf_int_mk Yba.underlying21 (by decide)
          have hvl : plainElem (H := Unit) Yba.prog 27 (.int .i32 77) = some (.lit (.int .i32 77), []) := plainElem_int Yba.underlying27 (by decide)
          clear hsz
          have q4 : MS w iv (some B) (w2.drewN nq) := q3.below (below_drewN (Below.refl _ _) nq)
          have Hat : Hid (∀ c : Int, ((D ks vs k).put (.int .i32 12345) (.lit (.int .i32 77))).atKey (.int .i32 12345) (.lit (.int .i32 0)) = .lit (.int .i32 c) → c = 77) := by
            intro c hc
            rw [atKey_put_same (D_tidy ks vs k).isMap (isKey _)] at hc
            exact (lit_val hc).symm
          go_wp2_with (first | (at_len; refine wpList_len_own _ rfl _ 40 rfl 21 27 Yba.underlying40 _ B k (D ks vs k) rfl (by exact HO.out) ?_; rw [HZ.out]) | (at_mapUpdate; refine wpList_mapUpdate_own _ rfl _ _ _ 40 rfl 21 27 law Yba.underlying40 _ B k (D ks vs k) rfl hown0 (by unfold maxLen; omega) _ _ _ rfl rfl hky _ [] hvl ?_; intro w6 hown6 hgrow6; have q6 := q4.below ((Below.refl (w.heap.size + 1) _).grown hgrow6 q4.size (fun j hj => by cases hj; exact HB.out))) | (at_lookup; refine wpList_lookup_own_int _ rfl _ _ 40 rfl 21 27 .i32 law Yba.underlying40 Yba.underlying27 (zeroE _) B (k + 1) _ rfl hown6 _ _ rfl hky ?_; intro c hat hwc; obtain rfl := Hat.out c hat) | (go_at_call 7; refine (getM_any q6).mono ?_; rintro e w7 ⟨rfl, hw7⟩; obtain rfl := hw7.symm) | (go_at_call 8; refine (getI_any q6).mono ?_; rintro e w7 ⟨rfl, hw7⟩; obtain rfl := hw7.symm))
          go_ret
          exact ⟨by simp, q6.bel⟩

end Go.Proofs.Ybulkclea
