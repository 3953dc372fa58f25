/-
  (*validator).number by its contract: it computes numL.
-/
import Derived.Test.YbulkcliiSmall
import Derived.Test.YbulkcliiNumPlain
import Derived.Deep.DeepCutAuto
import Derived.Deep.Light
namespace Go.Proofs.Ybulkclii
open Go.RowKit

set_option maxRecDepth 100000 in
set_option maxHeartbeats 4000000 in
theorem number_any {w0 : World} {b : Nat} {ta : Option Addr} {len cap : Nat} {bs : List Int} {dep : Int} {p : Nat} {w : World} (h : VS w0 b ta len cap bs dep p w) (hl : len ≤ 1000000000) :
    Calls Yba.prog 6 #[.pointer (some ⟨b, 0, none⟩)] w fun e w' => e = .returned (.bool (numL bs p).1) ∧ VS w0 b ta len cap bs dep (numL bs p).2 w' := by
  have hn := h.eqlen
  have HN : Hid (bs.length = len) := hn
  clear hn
  go_enter Yba.func6, Yba.ntmps6
  go_upto_if 7 with (go_at_call 12; refine (peek_any h).mono ?_; rintro e w1 ⟨rfl, h1⟩)
  go_cut [] (fun wx => VS w0 b ta len cap bs dep (negE bs p) wx)
  case first =>
    cases hc : (pk bs p == 45) with
    | true =>
      have hp := negE_yes bs p hc
      have hlt : p < len := by rw [← HN.out]; exact hp.2
      have Hp : Hid (negE bs p = p + 1) := hp.1
      have f1 := h1.f1
      have fz := h1.fz 1
      clear hc hp
      go_wp2_with fail
      go_meet
      case rel => rw [Hp.out]; exact h1.put (p + 1) _ (by omega) (by go_num)
    | false =>
      have Hp : Hid (negE bs p = p) := negE_no bs p hc
      clear hc
      go_wp2_with fail
      go_meet
      case rel => rw [Hp.out]; exact h1
  case rest =>
    have h2 := hcut
    clear hcut h1 h
    obtain ⟨i, hi⟩ : ∃ i, i = negE bs p := ⟨_, rfl⟩
    rw [← hi] at h2
    have Hi : Hid (i = negE bs p) := hi
    clear hi
    go_upto_if 17 with (go_at_call 12; refine (peek_any h2).mono ?_; rintro e w2 ⟨rfl, h3⟩)
    go_cut [] (fun wx => ∃ j, wholeE bs i = (true, j) ∧ VS w0 b ta len cap bs dep j wx)
    case first =>
      cases hc : (pk bs i == 48) with
      | true =>
        have hp := wholeE_zero bs i hc
        have hlt : i < len := by rw [← HN.out]; exact hp.2
        have Hp : Hid (wholeE bs i = (true, i + 1)) := hp.1
        have f1 := h3.f1
        have fz := h3.fz 1
        clear hc hp
        go_wp2_with fail
        go_meet
        case rel => exact ⟨_, Hp.out, h3.put (i + 1) _ (by omega) (by go_num)⟩
      | false =>
        have hp := wholeE_more bs i hc
        have Hp : Hid (wholeE bs i = (decide (i < skip bs i), skip bs i)) := hp
        clear hc hp
        go_wp2_with fail
        refine (digits_any h3 hl).mono ?_
        rintro e w4 ⟨rfl, h4⟩
        cases hx : decide (i < skip bs i) with
        | true =>
          have Hq : Hid (wholeE bs i = (true, skip bs i)) := by rw [← hx]; exact Hp.out
          clear hx
          go_wp2_with fail
          go_meet
          case rel => exact ⟨_, Hq.out, h4⟩
        | false =>
          have Hq : Hid (wholeE bs i = (false, skip bs i)) := by rw [← hx]; exact Hp.out
          clear hx
          go_wp2_with fail
          go_ret
          rw [numL_whole bs p i _ Hi.out Hq.out]
          exact ⟨rfl, h4⟩
    case rest =>
      obtain ⟨j, hj, h4⟩ := hcut
      have Hj : Hid (wholeE bs i = (true, j)) := hj
      clear hj h3 h2
      go_upto_if 30 with (go_at_call 12; refine (peek_any h4).mono ?_; rintro e w2 ⟨rfl, h5⟩)
      go_cut [] (fun wx => ∃ k, fracE bs j = (true, k) ∧ VS w0 b ta len cap bs dep k wx)
      case first =>
        cases hc : (pk bs j == 46) with
        | true =>
          have hp := fracE_yes bs j hc
          have hlt : j < len := by rw [← HN.out]; exact hp.2
          have Hp : Hid (fracE bs j = (decide (j + 1 < skip bs (j + 1)), skip bs (j + 1))) := hp.1
          have f1 := h5.f1
          have fz := h5.fz 1
          clear hc hp
          go_wp2_with fail
          refine (digits_any (h5.put (j + 1) _ (by omega) (by go_num)) hl).mono ?_
          rintro e w4 ⟨rfl, h6⟩
          cases hx : decide (j + 1 < skip bs (j + 1)) with
          | true =>
            have Hq : Hid (fracE bs j = (true, skip bs (j + 1))) := by rw [← hx]; exact Hp.out
            clear hx
            go_wp2_with fail
            go_meet
            case rel => exact ⟨_, Hq.out, h6⟩
          | false =>
            have Hq : Hid (fracE bs j = (false, skip bs (j + 1))) := by rw [← hx]; exact Hp.out
            clear hx
            go_wp2_with fail
            go_ret
            rw [numL_frac bs p i j _ Hi.out Hj.out Hq.out]
            exact ⟨rfl, h6⟩
        | false =>
          have Hp : Hid (fracE bs j = (true, j)) := fracE_no bs j hc
          clear hc
          go_wp2_with fail
          go_meet
          case rel => exact ⟨_, Hp.out, h5⟩
      case rest =>
        obtain ⟨k, hk, h6⟩ := hcut
        have HK : Hid (numL bs p = expE bs k) := numL_exp bs p i j k Hi.out Hj.out hk
        clear hk h5 h4
        go_upto_region 12 with (go_at_call 12; refine (peek_any h6).mono ?_; rintro e w2 ⟨rfl, h7⟩)
        go_cut [3, 48] (fun _ t wx => t = .bool (isE bs k) ∧ VS w0 b ta len cap bs dep k wx)
        case first =>
          have He : Hid (isE bs k = (pk bs k == 101 || pk bs k == 69)) := rfl
          go_wp2_with fail
          · have hx : pk bs k = 101 := by assumption
            go_meet
            case rel => exact ⟨congrArg Value.bool (by rw [He.out, hx]; rfl), h7⟩
          · have hx : ¬ pk bs k = 101 := by assumption
            go_meet
            case rel => exact ⟨congrArg Value.bool He.out.symm, h7⟩
        case rest =>
          clear h7 h6
          obtain ⟨rfl, h7⟩ := hcut
          cases hc : isE bs k with
          | false =>
            have Hp : Hid (expE bs k = (true, k)) := isE_no bs k hc
            clear hc
            go_wp2_with fail
            go_ret
            rw [HK.out, Hp.out]
            exact ⟨rfl, h7⟩
          | true =>
            have hp := isE_yes bs k hc
            have hlt : k < len := by rw [← HN.out]; exact hp.2
            have Hp : Hid (expE bs k = (decide (sgnE bs (k + 1) < skip bs (sgnE bs (k + 1))), skip bs (sgnE bs (k + 1)))) := hp.1
            have f1 := h7.f1
            have fz := h7.fz 1
            clear hc hp
            go_upto_region 15 with (go_at_call 12; refine (peek_any (h7.put (k + 1) _ (by omega) (by go_num))).mono ?_; rintro e w2 ⟨rfl, h8⟩)
            go_cut [4, 63] (fun _ t wx => t = .bool (isS bs (k + 1)) ∧ VS w0 b ta len cap bs dep (k + 1) wx)
            case first =>
              have He : Hid (isS bs (k + 1) = (pk bs (k + 1) == 43 || pk bs (k + 1) == 45)) := rfl
              go_wp2_with fail
              · have hx : pk bs (k + 1) = 43 := by assumption
                go_meet
                case rel => exact ⟨congrArg Value.bool (by rw [He.out, hx]; rfl), h8⟩
              · have hx : ¬ pk bs (k + 1) = 43 := by assumption
                go_meet
                case rel => exact ⟨congrArg Value.bool He.out.symm, h8⟩
            case rest =>
              clear h8 h7 f1 fz
              obtain ⟨rfl, h8⟩ := hcut
              go_upto_if 63 with fail
              go_cut [] (fun wx => VS w0 b ta len cap bs dep (sgnE bs (k + 1)) wx)
              case first =>
                cases hc : isS bs (k + 1) with
                | true =>
                  have hq := isS_yes bs (k + 1) hc
                  have hlt2 : k + 1 < len := by rw [← HN.out]; exact hq.2
                  have Hq : Hid (sgnE bs (k + 1) = k + 1 + 1) := hq.1
                  have f1 := h8.f1
                  have fz := h8.fz 1
                  clear hc hq
                  go_wp2_with fail
                  go_meet
                  case rel => rw [Hq.out]; exact h8.put (k + 1 + 1) _ (by omega) (by go_num)
                | false =>
                  have Hq : Hid (sgnE bs (k + 1) = k + 1) := isS_no bs (k + 1) hc
                  clear hc
                  go_wp2_with fail
                  go_meet
                  case rel => rw [Hq.out]; exact h8
              case rest =>
                clear h8
                have h8 := hcut
                clear hcut
                obtain ⟨q, hq⟩ : ∃ q, q = sgnE bs (k + 1) := ⟨_, rfl⟩
                rw [← hq] at h8
                have Hr : Hid (expE bs k = (decide (q < skip bs q), skip bs q)) := by rw [hq]; exact Hp.out
                clear hq Hp
                go_wp2_with fail
                refine (digits_any h8 hl).mono ?_
                rintro e w4 ⟨rfl, h9⟩
                cases hx : decide (q < skip bs q) with
                | true =>
                  have Hs : Hid (expE bs k = (true, skip bs q)) := by rw [← hx]; exact Hr.out
                  clear hx
                  go_wp2_with fail
                  go_ret
                  rw [HK.out, Hs.out]
                  exact ⟨rfl, h9⟩
                | false =>
                  have Hs : Hid (expE bs k = (false, skip bs q)) := by rw [← hx]; exact Hr.out
                  clear hx
                  go_wp2_with fail
                  go_ret
                  rw [HK.out, Hs.out]
                  exact ⟨rfl, h9⟩

end Go.Proofs.Ybulkclii
