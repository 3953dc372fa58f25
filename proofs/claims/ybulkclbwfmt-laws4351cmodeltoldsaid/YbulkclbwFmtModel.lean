/-
  zzs4351cmodel by its contract: it computes numEnd.
-/
import Derived.Test.YbulkclbwFmtSmall
import Derived.Test.YbulkclbwFmtLexPlain
import Derived.Deep.DeepCutAuto
import Derived.Deep.CutBlock
import Derived.Deep.Light
namespace Go.Proofs.YbulkclbwFmt
open Go.RowKit

theorem dot_in (s : ByteArray) (a : Nat) (h1 : a + 1 < s.size) (h : at' s a = 46) : (!(((s[a + 1]'h1).toNat : Int) == 46)) = dotB s a := by
  rw [← at_lt s (a + 1) h1]
  unfold dotB; rw [Bool.eq_iff_iff]; simp [h]
theorem dot_out (s : ByteArray) (a : Nat) (h1 : ¬ a + 1 < s.size) (h : at' s a = 46) : true = dotB s a := by
  unfold dotB; rw [at_neg s (a + 1) h1]; simp [h]

def isDot (s : ByteArray) (a : Nat) : Bool := decide (at' s a = 46)
theorem isDot_lt (s : ByteArray) (a : Nat) (h : a < s.size) : (((s[a]'h).toNat : Int) == 46) = isDot s a := by
  unfold isDot; rw [at_lt s a h]; rfl
theorem isDot_end (s : ByteArray) (a : Nat) (h : ¬ a < s.size) : false = isDot s a := by
  unfold isDot; rw [at_neg s a h]; rfl

def ModelPost (s : ByteArray) (st : Nat) (e : Ending) : Prop :=
  (∃ k, numEnd s st = some k ∧ e = .returned (.tuple #[.int .i64 (k : Nat), .bool true])) ∨ (numEnd s st = none ∧ ∃ j : Int, e = .returned (.tuple #[.int .i64 j, .bool false]))

set_option maxRecDepth 100000 in
set_option maxHeartbeats 4000000 in
theorem cmodel_any (s : ByteArray) (st : Nat) (w : World) (hs : s.size ≤ 1000000000) (hst : st ≤ s.size) :
    Calls Ybaf.prog 10 #[.string s, .int .i64 st] w fun e w' => ModelPost s st e ∧ w' = w := by
  go_enter Ybaf.func10, Ybaf.ntmps10
  go_upto_block 0 with fail
  go_cut [7] (fun t wx => t = .int .i64 (skip digI s st : Nat) ∧ wx = w)
  case first =>
    go_wp2_with fail
    go_loop [7] (fun i => ∃ k : Nat, k ≤ s.size ∧ i = .int .i64 k ∧ Hid (skip digI s st = skip digI s k)) (fun i => s.size - (intOf i).toNat)
    case atStart => exact ⟨st, by omega, by go_num, rfl⟩
    case round =>
      obtain ⟨k, hk, rfl, hsk⟩ := hrel
      by_cases hlt : k < s.size
      · have ha := at_lt s k hlt
        cases hc : digI (at' s k) with
        | true =>
          have hst' : Hid (skip digI s st = skip digI s (k + 1)) := hsk.out.trans (skip_yes digI s k hlt hc)
          rw [ha] at hc
          clear ha hsk
          go_wp2_with (go_at_call 21; refine (cdig_any _ _).mono ?_; rintro e w' ⟨rfl, hw⟩; obtain rfl := hw.symm)
          go_round
          case rel => exact ⟨k + 1, by omega, by go_num, hst'⟩
          case measure => simp [intOf]; omega
        | false =>
          have hst' : Hid (skip digI s st = k) := hsk.out.trans (skip_no digI s k (by simp [hc]))
          rw [ha] at hc
          clear ha hsk
          go_wp2_with (go_at_call 21; refine (cdig_any _ _).mono ?_; rintro e w' ⟨rfl, hw⟩; obtain rfl := hw.symm)
          go_meet
          case rel => rw [hst'.out]; exact ⟨rfl, rfl⟩
      · have hst' : Hid (skip digI s st = k) := hsk.out.trans (skip_no digI s k (by simp [hlt]))
        clear hsk
        go_wp2_with fail
        go_meet
        case rel => rw [hst'.out]; exact ⟨rfl, rfl⟩
  case rest =>
    obtain ⟨rfl, rfl⟩ := hcut
    obtain ⟨a, ha⟩ : ∃ a, a = skip digI s st := ⟨_, rfl⟩
    rw [← ha]
    have Ha : Hid (a = skip digI s st) := ha
    have ha2 : a ≤ s.size := by rw [ha]; exact skip_le _ _ _ hst
    clear ha
    go_upto_region 5 with fail
    go_cut [33] (fun t wx => t = .bool (isDot s a) ∧ wx = wc)
    case first =>
      by_cases h1 : a < s.size
      · go_wp2_with fail
        go_meet
        case rel => exact ⟨congrArg Value.bool (isDot_lt s a h1), rfl⟩
      · go_wp2_with fail
        go_meet
        case rel => exact ⟨congrArg Value.bool (isDot_end s a h1), rfl⟩
    case rest =>
      obtain ⟨rfl, rfl⟩ := hcut
      go_upto_if 33 with fail
      go_cut [7] (fun t wx => t = .int .i64 (fracE s a : Nat) ∧ wx = wc)
      case first =>
        cases hd46 : isDot s a with
        | true =>
          have h46 : at' s a = 46 := of_decide_eq_true hd46
          clear hd46
          have hlt := lt_of_at s a (by omega)
          have H46 : Hid (at' s a = 46) := h46
          clear h46
          by_cases h1 : a + 1 < s.size
          · by_cases h2 : at' s (a + 1) = 46
            · have hb2 : (((s[a + 1]'h1).toNat : Int) == 46) = true := by rw [← at_lt s (a + 1) h1, h2]; rfl
              have He : Hid (fracE s a = a) := fracE_no s a (by rw [← dot_in s a h1 H46.out, hb2]; rfl)
              clear h2
              go_wp2_with fail
              go_meet
              case rel => rw [He.out]; exact ⟨rfl, rfl⟩
            · have hb2 : (((s[a + 1]'h1).toNat : Int) == 46) = false := by rw [← at_lt s (a + 1) h1]; simp [h2]
              have He : Hid (fracE s a = skip digI s (a + 1)) := fracE_yes s a (by rw [← dot_in s a h1 H46.out, hb2]; rfl)
              clear h2
              go_wp2_with fail
              go_loop [7] (fun i => ∃ k : Nat, k ≤ s.size ∧ i = .int .i64 k ∧ Hid (skip digI s (a + 1) = skip digI s k)) (fun i => s.size - (intOf i).toNat)
              case atStart => exact ⟨a + 1, by omega, by go_num, rfl⟩
              case round =>
                obtain ⟨k, hk, rfl, hsk⟩ := hrel
                by_cases hlt' : k < s.size
                · have ha := at_lt s k hlt'
                  cases hc : digI (at' s k) with
                  | true =>
                    have hst' : Hid (skip digI s (a + 1) = skip digI s (k + 1)) := hsk.out.trans (skip_yes digI s k hlt' hc)
                    rw [ha] at hc
                    clear ha hsk
                    go_wp2_with (go_at_call 21; refine (cdig_any _ _).mono ?_; rintro e w' ⟨rfl, hw⟩; obtain rfl := hw.symm)
                    go_round
                    case rel => exact ⟨k + 1, by omega, by go_num, hst'⟩
                    case measure => simp [intOf]; omega
                  | false =>
                    have hst' : Hid (skip digI s (a + 1) = k) := hsk.out.trans (skip_no digI s k (by simp [hc]))
                    rw [ha] at hc
                    clear ha hsk
                    go_wp2_with (go_at_call 21; refine (cdig_any _ _).mono ?_; rintro e w' ⟨rfl, hw⟩; obtain rfl := hw.symm)
                    go_meet
                    case rel => rw [He.out, hst'.out]; exact ⟨rfl, rfl⟩
                · have hst' : Hid (skip digI s (a + 1) = k) := hsk.out.trans (skip_no digI s k (by simp [hlt']))
                  clear hsk
                  go_wp2_with fail
                  go_meet
                  case rel => rw [He.out, hst'.out]; exact ⟨rfl, rfl⟩
          · have He : Hid (fracE s a = skip digI s (a + 1)) := fracE_yes s a (dot_out s a h1 H46.out).symm
            go_wp2_with fail
            go_loop [7] (fun i => ∃ k : Nat, k ≤ s.size ∧ i = .int .i64 k ∧ Hid (skip digI s (a + 1) = skip digI s k)) (fun i => s.size - (intOf i).toNat)
            case atStart => exact ⟨a + 1, by omega, by go_num, rfl⟩
            case round =>
              obtain ⟨k, hk, rfl, hsk⟩ := hrel
              by_cases hlt' : k < s.size
              · have ha := at_lt s k hlt'
                cases hc : digI (at' s k) with
                | true =>
                  have hst' : Hid (skip digI s (a + 1) = skip digI s (k + 1)) := hsk.out.trans (skip_yes digI s k hlt' hc)
                  rw [ha] at hc
                  clear ha hsk
                  go_wp2_with (go_at_call 21; refine (cdig_any _ _).mono ?_; rintro e w' ⟨rfl, hw⟩; obtain rfl := hw.symm)
                  go_round
                  case rel => exact ⟨k + 1, by omega, by go_num, hst'⟩
                  case measure => simp [intOf]; omega
                | false =>
                  have hst' : Hid (skip digI s (a + 1) = k) := hsk.out.trans (skip_no digI s k (by simp [hc]))
                  rw [ha] at hc
                  clear ha hsk
                  go_wp2_with (go_at_call 21; refine (cdig_any _ _).mono ?_; rintro e w' ⟨rfl, hw⟩; obtain rfl := hw.symm)
                  go_meet
                  case rel => rw [He.out, hst'.out]; exact ⟨rfl, rfl⟩
              · have hst' : Hid (skip digI s (a + 1) = k) := hsk.out.trans (skip_no digI s k (by simp [hlt']))
                clear hsk
                go_wp2_with fail
                go_meet
                case rel => rw [He.out, hst'.out]; exact ⟨rfl, rfl⟩
        | false =>
          have h46 : ¬ at' s a = 46 := of_decide_eq_false hd46
          have He : Hid (fracE s a = a) := fracE_no s a (by unfold dotB; simp [h46])
          clear h46
          go_wp2_with fail
          go_meet
          case rel => rw [He.out]; exact ⟨rfl, rfl⟩
      case rest =>
        obtain ⟨rfl, rfl⟩ := hcut
        have hb2 := fracE_le s a ha2
        obtain ⟨b, hb⟩ : ∃ b, b = fracE s a := ⟨_, rfl⟩
        rw [← hb] at hb2 ⊢
        have Hb : Hid (b = fracE s a) := hb
        clear hb
        go_upto_region 10 with fail
        go_cut [73] (fun t wx => t = .bool (expB s b) ∧ wx = wc)
        case first =>
          by_cases h1 : b < s.size
          · go_wp2_with fail
            · have h2 : ((s[b]'h1).toNat : Int) = 101 := by assumption
              go_meet
              case rel => exact ⟨congrArg Value.bool (exp_one s b h1 h2), rfl⟩
            · have h2 : ¬ ((s[b]'h1).toNat : Int) = 101 := by assumption
              go_meet
              case rel => exact ⟨congrArg Value.bool (exp_two s b h1 h2), rfl⟩
          · go_wp2_with fail
            go_meet
            case rel => exact ⟨congrArg Value.bool (exp_end s b h1), rfl⟩
        case rest =>
          obtain ⟨rfl, rfl⟩ := hcut
          go_upto_if 73 with fail
          go_cut [7] (fun t wx => (∃ c : Nat, expE s b = some c ∧ t = .int .i64 c) ∧ wx = wc)
          case first =>
            cases he : expB s b with
            | false =>
              go_wp2_with fail
              go_meet
              case rel => exact ⟨⟨b, expE_none s b he, rfl⟩, rfl⟩
            | true =>
              have hlt := exp_lt s b he
              go_upto_region 13 with fail
              go_cut [90] (fun t wx => t = .bool (sgnB s (b + 1)) ∧ wx = wc)
              case first =>
                by_cases h1 : b + 1 < s.size
                · go_wp2_with fail
                  · have h2 : ((s[b + 1]'h1).toNat : Int) = 43 := by assumption
                    go_meet
                    case rel => exact ⟨congrArg Value.bool (sgn_one s (b + 1) h1 h2), rfl⟩
                  · have h2 : ¬ ((s[b + 1]'h1).toNat : Int) = 43 := by assumption
                    go_meet
                    case rel => exact ⟨congrArg Value.bool (sgn_two s (b + 1) h1 h2), rfl⟩
                · go_wp2_with fail
                  go_meet
                  case rel => exact ⟨congrArg Value.bool (sgn_end s (b + 1) h1), rfl⟩
              case rest =>
                obtain ⟨rfl, rfl⟩ := hcut
                cases hg : sgnB s (b + 1) with
                | true =>
                  have hj1 := sgn_lt s (b + 1) hg
                  have Hg : Hid (sgnB s (b + 1) = true) := hg
                  have Hj : Hid (sgnE s b = b + 2) := sgnE_yes s b hg
                  cases hd : digI (at' s (b + 2)) with
                  | true =>
                    have hj2 := dig_lt s (b + 2) hd
                    have Hx : Hid (expE s b = some (skip digI s (b + 2))) := by rw [← Hj.out]; exact expE_dig s b he (by rw [Hj.out]; exact hd)
                    rw [at_lt s (b + 2) hj2] at hd
                    clear he
                    go_wp2_with (go_at_call 21; refine (cdig_any _ _).mono ?_; rintro e w' ⟨rfl, hw⟩; obtain rfl := hw.symm)
                    go_loop [7] (fun i => ∃ k : Nat, k ≤ s.size ∧ i = .int .i64 k ∧ Hid (skip digI s (b + 2) = skip digI s k)) (fun i => s.size - (intOf i).toNat)
                    case atStart => exact ⟨b + 2, by omega, by go_num, rfl⟩
                    case round =>
                      obtain ⟨k, hk, rfl, hsk⟩ := hrel
                      by_cases hlt' : k < s.size
                      · have ha := at_lt s k hlt'
                        cases hc : digI (at' s k) with
                        | true =>
                          have hst' : Hid (skip digI s (b + 2) = skip digI s (k + 1)) := hsk.out.trans (skip_yes digI s k hlt' hc)
                          rw [ha] at hc
                          clear ha hsk
                          go_wp2_with (go_at_call 21; refine (cdig_any _ _).mono ?_; rintro e w' ⟨rfl, hw⟩; obtain rfl := hw.symm)
                          go_round
                          case rel => exact ⟨k + 1, by omega, by go_num, hst'⟩
                          case measure => simp [intOf]; omega
                        | false =>
                          have hst' : Hid (skip digI s (b + 2) = k) := hsk.out.trans (skip_no digI s k (by simp [hc]))
                          rw [ha] at hc
                          clear ha hsk
                          go_wp2_with (go_at_call 21; refine (cdig_any _ _).mono ?_; rintro e w' ⟨rfl, hw⟩; obtain rfl := hw.symm)
                          go_meet
                          case rel => exact ⟨⟨k, by rw [Hx.out, hst'.out], rfl⟩, rfl⟩
                      · have hst' : Hid (skip digI s (b + 2) = k) := hsk.out.trans (skip_no digI s k (by simp [hlt']))
                        clear hsk
                        go_wp2_with fail
                        go_meet
                        case rel => exact ⟨⟨k, by rw [Hx.out, hst'.out], rfl⟩, rfl⟩
                  | false =>
                    have Hx : Hid (expE s b = none) := expE_bad s b he (by rw [Hj.out]; exact hd) Hg.out
                    clear he
                    by_cases hj2 : b + 2 < s.size
                    · rw [at_lt s (b + 2) hj2] at hd
                      go_wp2_with (go_at_call 21; refine (cdig_any _ _).mono ?_; rintro e w' ⟨rfl, hw⟩; obtain rfl := hw.symm)
                      go_ret2
                      exact ⟨Or.inr ⟨numEnd_bad s st (by rw [← Ha.out, ← Hb.out]; exact Hx.out), _, rfl⟩, rfl⟩
                    · clear hd
                      go_wp2_with fail
                      go_ret2
                      exact ⟨Or.inr ⟨numEnd_bad s st (by rw [← Ha.out, ← Hb.out]; exact Hx.out), _, rfl⟩, rfl⟩
                | false =>
                  have Hg : Hid (sgnB s (b + 1) = false) := hg
                  have Hj : Hid (sgnE s b = b + 1) := sgnE_no s b hg
                  cases hd : digI (at' s (b + 1)) with
                  | true =>
                    have hj2 := dig_lt s (b + 1) hd
                    have Hx : Hid (expE s b = some (skip digI s (b + 1))) := by rw [← Hj.out]; exact expE_dig s b he (by rw [Hj.out]; exact hd)
                    rw [at_lt s (b + 1) hj2] at hd
                    clear he
                    go_wp2_with (go_at_call 21; refine (cdig_any _ _).mono ?_; rintro e w' ⟨rfl, hw⟩; obtain rfl := hw.symm)
                    go_loop [7] (fun i => ∃ k : Nat, k ≤ s.size ∧ i = .int .i64 k ∧ Hid (skip digI s (b + 1) = skip digI s k)) (fun i => s.size - (intOf i).toNat)
                    case atStart => exact ⟨b + 1, by omega, by go_num, rfl⟩
                    case round =>
                      obtain ⟨k, hk, rfl, hsk⟩ := hrel
                      by_cases hlt' : k < s.size
                      · have ha := at_lt s k hlt'
                        cases hc : digI (at' s k) with
                        | true =>
                          have hst' : Hid (skip digI s (b + 1) = skip digI s (k + 1)) := hsk.out.trans (skip_yes digI s k hlt' hc)
                          rw [ha] at hc
                          clear ha hsk
                          go_wp2_with (go_at_call 21; refine (cdig_any _ _).mono ?_; rintro e w' ⟨rfl, hw⟩; obtain rfl := hw.symm)
                          go_round
                          case rel => exact ⟨k + 1, by omega, by go_num, hst'⟩
                          case measure => simp [intOf]; omega
                        | false =>
                          have hst' : Hid (skip digI s (b + 1) = k) := hsk.out.trans (skip_no digI s k (by simp [hc]))
                          rw [ha] at hc
                          clear ha hsk
                          go_wp2_with (go_at_call 21; refine (cdig_any _ _).mono ?_; rintro e w' ⟨rfl, hw⟩; obtain rfl := hw.symm)
                          go_meet
                          case rel => exact ⟨⟨k, by rw [Hx.out, hst'.out], rfl⟩, rfl⟩
                      · have hst' : Hid (skip digI s (b + 1) = k) := hsk.out.trans (skip_no digI s k (by simp [hlt']))
                        clear hsk
                        go_wp2_with fail
                        go_meet
                        case rel => exact ⟨⟨k, by rw [Hx.out, hst'.out], rfl⟩, rfl⟩
                  | false =>
                    have Hx : Hid (expE s b = some b) := expE_bare s b he (by rw [Hj.out]; exact hd) Hg.out
                    clear he
                    by_cases hj2 : b + 1 < s.size
                    · rw [at_lt s (b + 1) hj2] at hd
                      go_wp2_with (go_at_call 21; refine (cdig_any _ _).mono ?_; rintro e w' ⟨rfl, hw⟩; obtain rfl := hw.symm)
                      go_meet
                      case rel => exact ⟨⟨b, Hx.out, rfl⟩, rfl⟩
                    · clear hd
                      go_wp2_with fail
                      go_meet
                      case rel => exact ⟨⟨b, Hx.out, rfl⟩, rfl⟩
          case rest =>
            obtain ⟨⟨c, hx, rfl⟩, rfl⟩ := hcut
            have hc2 := expE_le s b c hb2 hx
            have Hx : Hid (expE s (fracE s (skip digI s st)) = some c) := by rw [← Ha.out, ← Hb.out]; exact hx
            clear hx
            by_cases hlt : c < s.size
            · have ha := at_lt s c hlt
              have Ha' : Hid (at' s c = ((s[c]'hlt).toNat : Int)) := ha
              clear ha
              go_upto_region 24 with fail
              go_cut [10, 143] (fun _ t wx => t = .bool (idI (at' s c)) ∧ wx = wc)
              case first =>
                go_wp2_with fail
                all_goals
                  go_meet
                  case rel => exact ⟨congrArg Value.bool (by rw [Bool.eq_iff_iff, idI_iff, Ha'.out]; simp <;> omega), rfl⟩
              case rest =>
                obtain ⟨rfl, rfl⟩ := hcut
                cases hi : idI (at' s c) with
                | true =>
                  have HN : Hid (numEnd s st = none) := numEnd_id s st c Hx.out hi
                  go_wp2_with fail
                  go_ret2
                  exact ⟨Or.inr ⟨HN.out, _, rfl⟩, rfl⟩
                | false =>
                  have HN : Hid (numEnd s st = some c) := numEnd_ok s st c Hx.out hi
                  go_wp2_with fail
                  go_ret2
                  exact ⟨Or.inl ⟨c, HN.out, rfl⟩, rfl⟩
            · have HN : Hid (numEnd s st = some c) := numEnd_ok s st c Hx.out (by rw [at_neg s c hlt]; decide)
              go_wp2_with fail
              go_ret2
              exact ⟨Or.inl ⟨c, HN.out, rfl⟩, rfl⟩

end Go.Proofs.YbulkclbwFmt
