/-
  zzs4363amodel by its contract: it computes numL.
-/
import Derived.Test.YbulkcliiSmall
import Derived.Test.YbulkcliiNumPlain
import Derived.Deep.DeepCutAuto
import Derived.Deep.CutBlock
import Derived.Deep.Light
namespace Go.Proofs.Ybulkclii
open Go.RowKit

theorem beq_same (i k : Nat) (h : decide (i < k) = false) (hg : i ≤ k) : ((k : Int) == (i : Int)) = true := by
  have := of_decide_eq_false h
  simp; omega
theorem beq_more (i k : Nat) (h : decide (i < k) = true) : ((k : Int) == (i : Int)) = false := by
  have := of_decide_eq_true h
  simp; omega

set_option maxRecDepth 100000 in
set_option maxHeartbeats 4000000 in
theorem model_cells (g o len cap p : Nat) (bs : List Int) (w : World) (hc : ∀ j, j < len → w.cell? ⟨g, o + j, none⟩ = some (.int .u8 (pk bs j))) (hn : bs.length = len) (hl : len ≤ 1000000000) (hp : p ≤ len) :
    Calls Yba.prog 7 #[.slice (some ⟨g, o, none⟩) len cap, .int .i64 p] w fun e w' => e = .returned (.tuple #[.bool (numL bs p).1, .int .i64 ((numL bs p).2 : Nat)]) ∧ w' = w := by
  go_enter Yba.func7, Yba.ntmps7
  go_upto_region 3 with fail
  go_cut [23] (fun t wx => t = .bool (pk bs p == 45) ∧ wx = w)
  case first => as_aux_lemma =>
    by_cases h1 : p < len
    · have hck := hc p h1
      go_wp2_with fail
      go_meet
      case rel => exact ⟨rfl, rfl⟩
    · have hpe := pk_end bs p (by rw [hn]; omega)
      have Hpe : Hid (pk bs p = 0) := hpe
      clear hpe
      go_wp2_with fail
      go_meet
      case rel => rw [Hpe.out]; exact ⟨rfl, rfl⟩
  case rest =>
    obtain ⟨rfl, hw⟩ := hcut; obtain rfl := hw.symm
    go_upto_if 23 with fail
    go_cut [7] (fun t wx => t = .int .i64 (negE bs p : Nat) ∧ wx = w)
    case first => as_aux_lemma =>
      cases hx : (pk bs p == 45) with
      | true =>
        have hq := negE_yes bs p hx
        have hlt : p < len := by rw [← hn]; exact hq.2
        have Hp : Hid (negE bs p = p + 1) := hq.1
        clear hx hq
        go_wp2_with fail
        go_meet
        case rel => rw [Hp.out]; exact ⟨by go_num, rfl⟩
      | false =>
        have Hp : Hid (negE bs p = p) := negE_no bs p hx
        clear hx
        go_wp2_with fail
        go_meet
        case rel => rw [Hp.out]; exact ⟨rfl, rfl⟩
    case rest =>
      obtain ⟨rfl, hw⟩ := hcut; obtain rfl := hw.symm
      have hi2 : negE bs p ≤ len := by have := negE_le bs p (by rw [hn]; exact hp); rw [hn] at this; exact this
      obtain ⟨i, hi⟩ : ∃ i, i = negE bs p := ⟨_, rfl⟩
      rw [← hi] at hi2 ⊢
      have Hi : Hid (i = negE bs p) := hi
      clear hi
      go_upto_region 5 with fail
      go_cut [35] (fun t wx => t = .bool (pk bs i == 48) ∧ wx = w)
      case first => as_aux_lemma =>
        by_cases h1 : i < len
        · have hck := hc i h1
          go_wp2_with fail
          go_meet
          case rel => exact ⟨rfl, rfl⟩
        · have hpe := pk_end bs i (by rw [hn]; omega)
          have Hpe : Hid (pk bs i = 0) := hpe
          clear hpe
          go_wp2_with fail
          go_meet
          case rel => rw [Hpe.out]; exact ⟨rfl, rfl⟩
      case rest =>
        obtain ⟨rfl, hw⟩ := hcut; obtain rfl := hw.symm
        go_upto_if 35 with fail
        go_cut [7] (fun t wx => (∃ j : Nat, wholeE bs i = (true, j) ∧ t = .int .i64 j) ∧ wx = w)
        case first => as_aux_lemma =>
          cases hx : (pk bs i == 48) with
          | true =>
            have hq := wholeE_zero bs i hx
            have hlt : i < len := by rw [← hn]; exact hq.2
            have Hp : Hid (wholeE bs i = (true, i + 1)) := hq.1
            clear hx hq
            go_wp2_with fail
            go_meet
            case rel => exact ⟨⟨i + 1, Hp.out, by go_num⟩, rfl⟩
          | false =>
            have Hp : Hid (wholeE bs i = (decide (i < skip bs i), skip bs i)) := wholeE_more bs i hx
            clear hx
            go_upto_block 0 with fail
            go_cut [7] (fun t wx => t = .int .i64 (skip bs (i) : Nat) ∧ wx = w)
            case first => as_aux_lemma =>
              go_wp2_with fail
              go_loop [7] (fun t => ∃ k : Nat, k ≤ len ∧ t = .int .i64 k ∧ Hid (skip bs (i) = skip bs k)) (fun t => len - (intOf t).toNat)
              case atStart => exact ⟨i, by omega, by go_num, rfl⟩
              case round =>
                obtain ⟨k, hk, rfl, hsk⟩ := hrel
                by_cases hlt' : k < len
                · have hck := hc k hlt'
                  cases hd : digI (pk bs k) with
                  | true =>
                    obtain ⟨hd1, hd2⟩ := (digI_iff _).1 hd
                    have hst' : Hid (skip bs (i) = skip bs (k + 1)) := hsk.out.trans (skip_yes bs k hd)
                    clear hd hsk
                    go_wp2_with fail
                    go_round
                    case rel => exact ⟨k + 1, by omega, by go_num, hst'⟩
                    case measure => simp [intOf]; omega
                  | false =>
                    have hst' : Hid (skip bs (i) = k) := hsk.out.trans (skip_no bs k hd)
                    have hd' := (digI_no _).1 hd
                    clear hd hsk
                    by_cases hd1 : 48 ≤ pk bs k
                    · have hd2 : ¬ pk bs k ≤ 57 := fun h => hd' ⟨hd1, h⟩
                      clear hd'
                      go_wp2_with fail
                      go_meet
                      case rel => rw [hst'.out]; exact ⟨rfl, rfl⟩
                    · clear hd'
                      go_wp2_with fail
                      go_meet
                      case rel => rw [hst'.out]; exact ⟨rfl, rfl⟩
                · have hst' : Hid (skip bs (i) = k) := hsk.out.trans (skip_no bs k (by rw [pk_end bs k (by rw [hn]; omega)]; rfl))
                  clear hsk
                  go_wp2_with fail
                  go_meet
                  case rel => rw [hst'.out]; exact ⟨rfl, rfl⟩
            case rest =>
              obtain ⟨rfl, hw⟩ := hcut; obtain rfl := hw.symm
              have hge := skip_ge bs i
              have hle := skip_le bs i (by rw [hn]; omega)
              rw [hn] at hle
              cases hx : decide (i < skip bs i) with
              | true =>
                have Hq : Hid (wholeE bs i = (true, skip bs i)) := by rw [← hx]; exact Hp.out
                have hb := beq_more i (skip bs i) hx
                clear hx
                generalize skip bs i = k at *
                go_wp2_with fail
                go_meet
                case rel => exact ⟨⟨_, Hq.out, rfl⟩, rfl⟩
              | false =>
                have Hq : Hid (wholeE bs i = (false, skip bs i)) := by rw [← hx]; exact Hp.out
                have hb := beq_same i (skip bs i) hx hge
                clear hx
                generalize skip bs i = k at *
                go_wp2_with fail
                go_ret2
                rw [numL_whole bs p i _ Hi.out Hq.out]
                exact ⟨rfl, rfl⟩
        case rest =>
          obtain ⟨⟨j, hj, rfl⟩, hw⟩ := hcut; obtain rfl := hw.symm
          have hj2 : j ≤ len := by have := wholeE_le bs i (by rw [hn]; exact hi2); rw [hj, hn] at this; exact this
          have Hj : Hid (wholeE bs i = (true, j)) := hj
          clear hj
          go_upto_region 12 with fail
          go_cut [71] (fun t wx => t = .bool (pk bs j == 46) ∧ wx = w)
          case first => as_aux_lemma =>
            by_cases h1 : j < len
            · have hck := hc j h1
              go_wp2_with fail
              go_meet
              case rel => exact ⟨rfl, rfl⟩
            · have hpe := pk_end bs j (by rw [hn]; omega)
              have Hpe : Hid (pk bs j = 0) := hpe
              clear hpe
              go_wp2_with fail
              go_meet
              case rel => rw [Hpe.out]; exact ⟨rfl, rfl⟩
          case rest =>
            obtain ⟨rfl, hw⟩ := hcut; obtain rfl := hw.symm
            go_upto_if 71 with fail
            go_cut [7] (fun t wx => (∃ k : Nat, fracE bs j = (true, k) ∧ t = .int .i64 k) ∧ wx = w)
            case first => as_aux_lemma =>
              cases hx : (pk bs j == 46) with
              | true =>
                have hq := fracE_yes bs j hx
                have hlt : j < len := by rw [← hn]; exact hq.2
                have Hp : Hid (fracE bs j = (decide (j + 1 < skip bs (j + 1)), skip bs (j + 1))) := hq.1
                clear hx hq
                go_upto_block 2 with fail
                go_cut [7] (fun t wx => t = .int .i64 (skip bs (j + 1) : Nat) ∧ wx = w)
                case first => as_aux_lemma =>
                  go_wp2_with fail
                  go_loop [7] (fun t => ∃ k : Nat, k ≤ len ∧ t = .int .i64 k ∧ Hid (skip bs (j + 1) = skip bs k)) (fun t => len - (intOf t).toNat)
                  case atStart => exact ⟨j + 1, by omega, by go_num, rfl⟩
                  case round =>
                    obtain ⟨k, hk, rfl, hsk⟩ := hrel
                    by_cases hlt' : k < len
                    · have hck := hc k hlt'
                      cases hd : digI (pk bs k) with
                      | true =>
                        obtain ⟨hd1, hd2⟩ := (digI_iff _).1 hd
                        have hst' : Hid (skip bs (j + 1) = skip bs (k + 1)) := hsk.out.trans (skip_yes bs k hd)
                        clear hd hsk
                        go_wp2_with fail
                        go_round
                        case rel => exact ⟨k + 1, by omega, by go_num, hst'⟩
                        case measure => simp [intOf]; omega
                      | false =>
                        have hst' : Hid (skip bs (j + 1) = k) := hsk.out.trans (skip_no bs k hd)
                        have hd' := (digI_no _).1 hd
                        clear hd hsk
                        by_cases hd1 : 48 ≤ pk bs k
                        · have hd2 : ¬ pk bs k ≤ 57 := fun h => hd' ⟨hd1, h⟩
                          clear hd'
                          go_wp2_with fail
                          go_meet
                          case rel => rw [hst'.out]; exact ⟨rfl, rfl⟩
                        · clear hd'
                          go_wp2_with fail
                          go_meet
                          case rel => rw [hst'.out]; exact ⟨rfl, rfl⟩
                    · have hst' : Hid (skip bs (j + 1) = k) := hsk.out.trans (skip_no bs k (by rw [pk_end bs k (by rw [hn]; omega)]; rfl))
                      clear hsk
                      go_wp2_with fail
                      go_meet
                      case rel => rw [hst'.out]; exact ⟨rfl, rfl⟩
                case rest =>
                  obtain ⟨rfl, hw⟩ := hcut; obtain rfl := hw.symm
                  have hge := skip_ge bs (j + 1)
                  have hle := skip_le bs (j + 1) (by rw [hn]; omega)
                  rw [hn] at hle
                  cases hx : decide (j + 1 < skip bs (j + 1)) with
                  | true =>
                    have Hq : Hid (fracE bs j = (true, skip bs (j + 1))) := by rw [← hx]; exact Hp.out
                    have hb := beq_more (j + 1) (skip bs (j + 1)) hx
                    rw [show ((j + 1 : Nat) : Int) = (j : Int) + 1 from by omega] at hb
                    clear hx
                    generalize skip bs (j + 1) = k at *
                    go_wp2_with fail
                    go_meet
                    case rel => exact ⟨⟨_, Hq.out, rfl⟩, rfl⟩
                  | false =>
                    have Hq : Hid (fracE bs j = (false, skip bs (j + 1))) := by rw [← hx]; exact Hp.out
                    have hb := beq_same (j + 1) (skip bs (j + 1)) hx hge
                    rw [show ((j + 1 : Nat) : Int) = (j : Int) + 1 from by omega] at hb
                    clear hx
                    generalize skip bs (j + 1) = k at *
                    go_wp2_with fail
                    go_ret2
                    rw [numL_frac bs p i j _ Hi.out Hj.out Hq.out]
                    exact ⟨rfl, rfl⟩
              | false =>
                have Hp : Hid (fracE bs j = (true, j)) := fracE_no bs j hx
                clear hx
                go_wp2_with fail
                go_meet
                case rel => exact ⟨⟨_, Hp.out, rfl⟩, rfl⟩
            case rest =>
              obtain ⟨⟨k, hk, rfl⟩, hw⟩ := hcut; obtain rfl := hw.symm
              have hk2 : k ≤ len := by have := fracE_le bs j (by rw [hn]; exact hj2); rw [hk, hn] at this; exact this
              have HK : Hid (numL bs p = expE bs k) := numL_exp bs p i j k Hi.out Hj.out hk
              clear hk
              go_upto_region 19 with fail
              go_cut [114] (fun t wx => t = .bool (isE bs (k)) ∧ wx = w)
              case first => as_aux_lemma =>
                have He : Hid (isE bs (k) = (pk bs (k) == 101 || pk bs (k) == 69)) := rfl
                by_cases h1 : k < len
                · have hck := hc (k) h1
                  go_wp2_with fail
                  · have hx : pk bs (k) = 101 := by assumption
                    go_meet
                    case rel => exact ⟨congrArg Value.bool (by rw [He.out, hx]; rfl), rfl⟩
                  · have hx : ¬ pk bs (k) = 101 := by assumption
                    go_meet
                    case rel => exact ⟨congrArg Value.bool He.out.symm, rfl⟩
                · have hpe := pk_end bs (k) (by rw [hn]; omega)
                  have Hpe : Hid (pk bs (k) = 0) := hpe
                  clear hpe
                  go_wp2_with fail
                  go_meet
                  case rel => exact ⟨congrArg Value.bool (by rw [He.out, Hpe.out]; rfl), rfl⟩
              case rest =>
                obtain ⟨rfl, hw⟩ := hcut; obtain rfl := hw.symm
                cases hx : isE bs k with
                | false =>
                  have Hp : Hid (expE bs k = (true, k)) := isE_no bs k hx
                  clear hx
                  go_wp2_with fail
                  go_ret2
                  rw [HK.out, Hp.out]
                  exact ⟨rfl, rfl⟩
                | true =>
                  have hq := isE_yes bs k hx
                  have hlt : k < len := by rw [← hn]; exact hq.2
                  have Hp : Hid (expE bs k = (decide (sgnE bs (k + 1) < skip bs (sgnE bs (k + 1))), skip bs (sgnE bs (k + 1)))) := hq.1
                  clear hx hq
                  go_upto_region 21 with fail
                  go_cut [133] (fun t wx => t = .bool (isS bs (k + 1)) ∧ wx = w)
                  case first => as_aux_lemma =>
                    have He : Hid (isS bs (k + 1) = (pk bs (k + 1) == 43 || pk bs (k + 1) == 45)) := rfl
                    by_cases h1 : k + 1 < len
                    · have hck := hc (k + 1) h1
                      go_wp2_with fail
                      · have hx : pk bs (k + 1) = 43 := by assumption
                        go_meet
                        case rel => exact ⟨congrArg Value.bool (by rw [He.out, hx]; rfl), rfl⟩
                      · have hx : ¬ pk bs (k + 1) = 43 := by assumption
                        go_meet
                        case rel => exact ⟨congrArg Value.bool He.out.symm, rfl⟩
                    · have hpe := pk_end bs (k + 1) (by rw [hn]; omega)
                      have Hpe : Hid (pk bs (k + 1) = 0) := hpe
                      clear hpe
                      go_wp2_with fail
                      go_meet
                      case rel => exact ⟨congrArg Value.bool (by rw [He.out, Hpe.out]; rfl), rfl⟩
                  case rest =>
                    obtain ⟨rfl, hw⟩ := hcut; obtain rfl := hw.symm
                    go_upto_if 133 with fail
                    go_cut [7] (fun t wx => t = .int .i64 (sgnE bs (k + 1) : Nat) ∧ wx = w)
                    case first => as_aux_lemma =>
                      cases hx : isS bs (k + 1) with
                      | true =>
                        have hq := isS_yes bs (k + 1) hx
                        have hlt2 : k + 1 < len := by rw [← hn]; exact hq.2
                        have Hq : Hid (sgnE bs (k + 1) = k + 1 + 1) := hq.1
                        clear hx hq
                        go_wp2_with fail
                        go_meet
                        case rel => rw [Hq.out]; exact ⟨by go_num, rfl⟩
                      | false =>
                        have Hq : Hid (sgnE bs (k + 1) = k + 1) := isS_no bs (k + 1) hx
                        clear hx
                        go_wp2_with fail
                        go_meet
                        case rel => rw [Hq.out]; exact ⟨by go_num, rfl⟩
                    case rest =>
                      obtain ⟨rfl, hw⟩ := hcut; obtain rfl := hw.symm
                      have hq2 : sgnE bs (k + 1) ≤ len := by have := sgnE_le bs (k + 1) (by rw [hn]; exact hlt); rw [hn] at this; exact this
                      obtain ⟨q, hq⟩ : ∃ q, q = sgnE bs (k + 1) := ⟨_, rfl⟩
                      rw [← hq] at hq2 ⊢
                      have Hr : Hid (expE bs k = (decide (q < skip bs q), skip bs q)) := by rw [hq]; exact Hp.out
                      clear hq Hp
                      go_upto_block 4 with fail
                      go_cut [7] (fun t wx => t = .int .i64 (skip bs (q) : Nat) ∧ wx = w)
                      case first => as_aux_lemma =>
                        go_wp2_with fail
                        go_loop [7] (fun t => ∃ k : Nat, k ≤ len ∧ t = .int .i64 k ∧ Hid (skip bs (q) = skip bs k)) (fun t => len - (intOf t).toNat)
                        case atStart => exact ⟨q, by omega, by go_num, rfl⟩
                        case round =>
                          obtain ⟨k, hk, rfl, hsk⟩ := hrel
                          by_cases hlt' : k < len
                          · have hck := hc k hlt'
                            cases hd : digI (pk bs k) with
                            | true =>
                              obtain ⟨hd1, hd2⟩ := (digI_iff _).1 hd
                              have hst' : Hid (skip bs (q) = skip bs (k + 1)) := hsk.out.trans (skip_yes bs k hd)
                              clear hd hsk
                              go_wp2_with fail
                              go_round
                              case rel => exact ⟨k + 1, by omega, by go_num, hst'⟩
                              case measure => simp [intOf]; omega
                            | false =>
                              have hst' : Hid (skip bs (q) = k) := hsk.out.trans (skip_no bs k hd)
                              have hd' := (digI_no _).1 hd
                              clear hd hsk
                              by_cases hd1 : 48 ≤ pk bs k
                              · have hd2 : ¬ pk bs k ≤ 57 := fun h => hd' ⟨hd1, h⟩
                                clear hd'
                                go_wp2_with fail
                                go_meet
                                case rel => rw [hst'.out]; exact ⟨rfl, rfl⟩
                              · clear hd'
                                go_wp2_with fail
                                go_meet
                                case rel => rw [hst'.out]; exact ⟨rfl, rfl⟩
                          · have hst' : Hid (skip bs (q) = k) := hsk.out.trans (skip_no bs k (by rw [pk_end bs k (by rw [hn]; omega)]; rfl))
                            clear hsk
                            go_wp2_with fail
                            go_meet
                            case rel => rw [hst'.out]; exact ⟨rfl, rfl⟩
                      case rest =>
                        obtain ⟨rfl, hw⟩ := hcut; obtain rfl := hw.symm
                        have hge := skip_ge bs q
                        have hle := skip_le bs q (by rw [hn]; omega)
                        rw [hn] at hle
                        cases hx : decide (q < skip bs q) with
                        | true =>
                          have Hq : Hid (expE bs k = (true, skip bs q)) := by rw [← hx]; exact Hr.out
                          have hb := beq_more q (skip bs q) hx
                          clear hx
                          generalize skip bs q = k' at *
                          go_wp2_with fail
                          go_ret2
                          rw [HK.out, Hq.out]
                          exact ⟨rfl, rfl⟩
                        | false =>
                          have Hq : Hid (expE bs k = (false, skip bs q)) := by rw [← hx]; exact Hr.out
                          have hb := beq_same q (skip bs q) hx hge
                          clear hx
                          generalize skip bs q = k' at *
                          go_wp2_with fail
                          go_ret2
                          rw [HK.out, Hq.out]
                          exact ⟨rfl, rfl⟩

end Go.Proofs.Ybulkclii
