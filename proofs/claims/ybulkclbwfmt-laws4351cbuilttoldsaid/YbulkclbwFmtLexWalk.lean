/-
  lexNumber by its contract: the walk.
-/
import Derived.Test.YbulkclbwFmtLex
import Derived.Deep.Light
namespace Go.Proofs.YbulkclbwFmt
open Go.RowKit Go.Extern.Stop Go.Stop Go.Extern

set_option maxRecDepth 100000 in
set_option maxHeartbeats 4000000 in
theorem lexNumber_any (F : Interp) (s : ByteArray) (st : Nat) (w : World) (hF : F.answers w.tape) (hs : s.size ≤ 1000000000) (hst : st ≤ s.size) :
    Calls Ybaf.prog 9 #[.string s, .int .i64 st] w fun e w' => LexPost s st w e w' := by
  have q0 := LexSt.start w s st
  go_enter Ybaf.func9, Ybaf.ntmps9
  go_wp2_with fail
  refine (digits_any s st w.heap.size (w.heap.size + 1 + 1) _ hs hst (by omega) q0.src q0.ctr q0.fr).mono ?_
  rintro e w1 ⟨rfl, hc1, hf1, hz1, hb1⟩
  have q1 := q0.step hc1 hf1 hz1 hb1
  clear hc1 hf1 hz1 hb1 q0
  obtain ⟨a, ha⟩ : ∃ a, a = skip digI s st := ⟨_, rfl⟩
  rw [← ha] at q1
  have Ha : Hid (a = skip digI s st) := ha
  have ha1 : st ≤ a := by rw [ha]; exact skip_ge _ _ _
  have ha2 : a ≤ s.size := by rw [ha]; exact skip_le _ _ _ hst
  clear ha
  have c0 := q1.src
  have c1 := q1.ctr
  have f1 := q1.fr
  go_upto_region 4 with fail
  go_cut [31] (fun t31 wx => t31 = .bool (dotB s a) ∧ wx = w1)
  case first =>
    by_cases h1 : a < s.size
    · go_wp2_with (go_at_call 17; refine (hasPrefix_any _ _).mono ?_; rintro e w' ⟨rfl, hw⟩; obtain rfl := hw.symm)
      · have h2 : ((s[a]'h1).toNat : Int) = 46 := by assumption
        go_meet
        case rel => exact ⟨congrArg Value.bool (dot_yes s a h1 h2), rfl⟩
      · have h2 : ¬ ((s[a]'h1).toNat : Int) = 46 := by assumption
        go_meet
        case rel => exact ⟨congrArg Value.bool (dot_no s a h1 h2), rfl⟩
    · go_wp2_with fail
      go_meet
      case rel => exact ⟨congrArg Value.bool (dot_end s a h1), rfl⟩
  case rest =>
    obtain ⟨rfl, rfl⟩ := hcut
    go_upto_if 31 with fail
    go_cut [] (fun wx => LexSt w s (fracE s a) wx)
    case first =>
      cases hd : dotB s a with
      | true =>
        have hlt := dot_lt s a hd
        have he := fracE_yes s a hd
        have He : Hid (fracE s a = skip digI s (a + 1)) := he
        clear he
        go_wp2_with fail
        refine (digits_any s (a + 1) w.heap.size (w.heap.size + 1 + 1) _ hs (by omega) (by omega) ?cs ?ci ?fi).mono ?_
        case cs => rw [cell_far _ _ _ _ (by simp; omega)]; exact c0
        case ci => rw [World.cell?_setCell_same _ _ _ c1]; go_num
        case fi => rw [World.frozen?_setCell]; exact f1
        rintro e w2 ⟨rfl, hc2, hf2, hz2, hb2⟩
        have q2 : LexSt w s (fracE s a) w2 := by
          rw [He.out]
          exact q1.put hc2 hf2 hz2 hb2
        clear hc2 hf2 hz2 hb2
        go_wp2_with fail
        go_meet
        case rel => exact q2
      | false =>
        have he := fracE_no s a hd
        go_wp2_with fail
        go_meet
        case rel => rw [he]; exact q1
    case rest =>
      rename LexSt w s (fracE s a) _ => q2
      have hb1 := fracE_ge s a
      have hb2 := fracE_le s a ha2
      obtain ⟨b, hb⟩ : ∃ b, b = fracE s a := ⟨_, rfl⟩
      have Hb : Hid (b = fracE s a) := hb
      rw [← hb] at q2 hb1 hb2
      clear hb c0 c1 f1 q1
      have c0 := q2.src
      have c1 := q2.ctr
      have f1 := q2.fr
      go_upto_region 7 with fail
      go_cut [51] (fun t51 wx => t51 = .bool (expB s b) ∧ wx = wc)
      case first =>
        by_cases h1 : b < s.size
        · go_wp2_with fail
          · have h2 : ((s[b]'h1).toNat : Int) = 101 := by assumption
            go_meet
            case rel => exact ⟨congrArg Value.bool (exp_one s b h1 h2), rfl⟩
          · have h2 : ¬ ((s[b]'h1).toNat : Int) = 101 := by assumption
            go_meet
            case rel => exact ⟨congrArg Value.bool (exp_two s b h1 h2), rfl⟩
        · go_wp2_with fail
          go_meet
          case rel => exact ⟨congrArg Value.bool (exp_end s b h1), rfl⟩
      case rest =>
        obtain ⟨rfl, rfl⟩ := hcut
        go_upto_if 51 with fail
        go_cut [] (fun wx => ∃ c, expE s b = some c ∧ LexSt w s c wx)
        case first =>
          cases he : expB s b with
          | false =>
            go_wp2_with fail
            go_meet
            case rel => exact ⟨b, expE_none s b he, q2⟩
          | true =>
            have hlt := exp_lt s b he
            go_upto_region 9 with fail
            go_cut [9] (fun t9 wx => t9 = .bool (sgnB s (b + 1)) ∧ wx = wc)
            case first =>
              by_cases h1 : b + 1 < s.size
              · go_wp2_with fail
                · have h2 : ((s[b + 1]'h1).toNat : Int) = 43 := by assumption
                  go_meet
                  case rel => exact ⟨congrArg Value.bool (sgn_one s (b + 1) h1 h2), rfl⟩
                · have h2 : ¬ ((s[b + 1]'h1).toNat : Int) = 43 := by assumption
                  go_meet
                  case rel => exact ⟨congrArg Value.bool (sgn_two s (b + 1) h1 h2), rfl⟩
              · go_wp2_with fail
                go_meet
                case rel => exact ⟨congrArg Value.bool (sgn_end s (b + 1) h1), rfl⟩
            case rest =>
              obtain ⟨rfl, rfl⟩ := hcut
              have hFc : F.answers wc.tape := by rw [q2.bel.tape]; exact hF
              cases hg : sgnB s (b + 1) with
              | true =>
                have hj1 := sgn_lt s (b + 1) hg
                have Hg : Hid (sgnB s (b + 1) = true) := hg
                have Hj : Hid (sgnE s b = b + 2) := sgnE_yes s b hg
                clear hg
                cases hd : digI (at' s (b + 2)) with
                | true =>
                  have hj2 := dig_lt s (b + 2) hd
                  have Hx : Hid (expE s b = some (skip digI s (b + 2))) := by rw [← Hj.out]; exact expE_dig s b he (by rw [Hj.out]; exact hd)
                  rw [at_lt s (b + 2) hj2] at hd
                  clear he
                  go_wp2_with (go_at_call 16; refine (isDigit_any _ _).mono ?_; rintro e w' ⟨rfl, hw⟩; obtain rfl := hw.symm)
                  refine (digits_any s (b + 2) w.heap.size (w.heap.size + 1 + 1) _ hs (by omega) (by omega) ?cs ?ci ?fi).mono ?_
                  case cs => rw [cell_far _ _ _ _ (by simp; omega)]; exact c0
                  case ci => rw [World.cell?_setCell_same _ _ _ c1]; go_num
                  case fi => rw [World.frozen?_setCell]; exact f1
                  rintro e w2 ⟨rfl, hc2, hf2, hz2, hb2'⟩
                  have q3 := q2.put hc2 hf2 hz2 hb2'
                  clear hc2 hf2 hz2 hb2'
                  go_wp2_with fail
                  go_meet
                  case rel => exact ⟨_, Hx.out, q3⟩
                | false =>
                  have Hx : Hid (expE s b = none) := expE_bad s b he (by rw [Hj.out]; exact hd) Hg.out
                  clear he
                  by_cases hj2 : b + 2 < s.size
                  · rw [at_lt s (b + 2) hj2] at hd
                    go_wp2_with (go_at_call 16; refine (isDigit_any _ _).mono ?_; rintro e w' ⟨rfl, hw⟩; obtain rfl := hw.symm)
                    have hzc := q2.size
                    refine (errorNear_any F _ _ _ (by exact hFc)).mono ?_
                    rintro e w3 ⟨eb, rfl, hle, hlt3, hcode, hb3⟩
                    obtain ⟨d0, d1, d2, d3, d4, df, hbel, hsz⟩ := q2.behind hb3
                    clear c0 c1 f1 q2 hb3
                    go_wp2
                    exact bodyPost_ret (v := .tuple #[.agg #[.int .i64 0, .string ⟨#[]⟩, .string ⟨#[]⟩, .int .i64 0, .bool false], .iface 86 (.pointer (some ⟨eb, 0, none⟩))]) (by simp [results, Ybaf.results9, go_sem, d0, d1, d2, d3, d4]) rfl (lex_bad (numEnd_bad s st (by rw [← Ha.out, ← Hb.out]; exact Hx.out)) hzc hle hlt3 hcode hbel)
                  · clear hd
                    go_wp2_with fail
                    have hzc := q2.size
                    refine (errorNear_any F _ _ _ (by exact hFc)).mono ?_
                    rintro e w3 ⟨eb, rfl, hle, hlt3, hcode, hb3⟩
                    obtain ⟨d0, d1, d2, d3, d4, df, hbel, hsz⟩ := q2.behind hb3
                    clear c0 c1 f1 q2 hb3
                    go_wp2
                    exact bodyPost_ret (v := .tuple #[.agg #[.int .i64 0, .string ⟨#[]⟩, .string ⟨#[]⟩, .int .i64 0, .bool false], .iface 86 (.pointer (some ⟨eb, 0, none⟩))]) (by simp [results, Ybaf.results9, go_sem, d0, d1, d2, d3, d4]) rfl (lex_bad (numEnd_bad s st (by rw [← Ha.out, ← Hb.out]; exact Hx.out)) hzc hle hlt3 hcode hbel)
              | false =>
                have Hg : Hid (sgnB s (b + 1) = false) := hg
                have Hj : Hid (sgnE s b = b + 1) := sgnE_no s b hg
                clear hg
                cases hd : digI (at' s (b + 1)) with
                | true =>
                  have hj2 := dig_lt s (b + 1) hd
                  have Hx : Hid (expE s b = some (skip digI s (b + 1))) := by rw [← Hj.out]; exact expE_dig s b he (by rw [Hj.out]; exact hd)
                  rw [at_lt s (b + 1) hj2] at hd
                  clear he
                  go_wp2_with (go_at_call 16; refine (isDigit_any _ _).mono ?_; rintro e w' ⟨rfl, hw⟩; obtain rfl := hw.symm)
                  refine (digits_any s (b + 1) w.heap.size (w.heap.size + 1 + 1) _ hs (by omega) (by omega) ?cs ?ci ?fi).mono ?_
                  case cs => rw [cell_far _ _ _ _ (by simp; omega)]; exact c0
                  case ci => rw [World.cell?_setCell_same _ _ _ c1]; go_num
                  case fi => rw [World.frozen?_setCell]; exact f1
                  rintro e w2 ⟨rfl, hc2, hf2, hz2, hb2'⟩
                  have q3 := q2.put hc2 hf2 hz2 hb2'
                  clear hc2 hf2 hz2 hb2'
                  go_wp2_with fail
                  go_meet
                  case rel => exact ⟨_, Hx.out, q3⟩
                | false =>
                  have Hx : Hid (expE s b = some b) := expE_bare s b he (by rw [Hj.out]; exact hd) Hg.out
                  clear he
                  by_cases hj2 : b + 1 < s.size
                  · rw [at_lt s (b + 1) hj2] at hd
                    go_wp2_with (go_at_call 16; refine (isDigit_any _ _).mono ?_; rintro e w' ⟨rfl, hw⟩; obtain rfl := hw.symm)
                    go_meet
                    case rel => exact ⟨_, Hx.out, q2⟩
                  · clear hd
                    go_wp2_with fail
                    go_meet
                    case rel => exact ⟨_, Hx.out, q2⟩
        case rest =>
          clear c0 c1 f1 q2
          obtain ⟨c, hx, q3⟩ := hcut
          have hc1 := expE_ge s b c hx
          have hc2 := expE_le s b c hb2 hx
          have Hx : Hid (expE s (fracE s (skip digI s st)) = some c) := by rw [← Ha.out, ← Hb.out]; exact hx
          clear hx
          have c0 := q3.src
          have c1 := q3.ctr
          have hFc : F.answers wc.tape := by rw [q3.bel.tape]; exact hF
          cases hi : idI (at' s c) with
          | true =>
            have hlt := id_lt s c hi
            have HN : Hid (numEnd s st = none) := numEnd_id s st c Hx.out hi
            rw [at_lt s c hlt] at hi
            have hzc := q3.size
            go_upto_region 18 with (go_at_call 19; refine (isIdentStart_any _ _).mono ?_; rintro e w' ⟨rfl, hw⟩; obtain rfl := hw.symm)
            obtain ⟨k, hk⟩ : ∃ k, k = skip contI s (c + 1) := ⟨_, rfl⟩
            have hk1 : c + 1 ≤ k := by rw [hk]; exact skip_ge _ _ _
            have hk2 : k ≤ s.size := by rw [hk]; exact skip_le _ _ _ (by omega)
            have hid : ∀ wx, Calls Ybaf.prog 20 #[.string s, .int .i64 c] wx fun e w' => e = .returned (.int .i64 k) ∧ w' = wx := by
              intro wx
              rw [hk]
              exact identEnd_any s c wx hs hlt
            have Hid20 : Hid (∀ wx, Calls Ybaf.prog 20 #[.string s, .int .i64 c] wx fun e w' => e = .returned (.int .i64 k) ∧ w' = wx) := hid
            clear hid hk
            have hk3 : st ≤ k := by omega
            have hk4 : (st : Int) ≤ (k : Int) := by omega
            have hk5 : (k : Int) ≤ (s.size : Int) := by omega
            have hk6 : (0 : Int) ≤ (st : Int) := by omega
            go_region_held3 (fun w' => w'.cell? ⟨w.heap.size, 0, none⟩ = some (.string s) ∧ w'.cell? ⟨w.heap.size + 1 + 1, 0, none⟩ = some (.int .i64 c)) (first | go_keep | exact q3.drew.behindS hb3) (first | (go_at_call 20; refine (Hid20.out _).mono ?_; rintro e w' ⟨rfl, rfl⟩) | (go_at_call 18; refine (errorNear_any F _ _ _ (by exact hFc)).mono ?_; rintro e w3 ⟨eb, rfl, hle, hlt3, hcode, hb3⟩; obtain ⟨d0, d1, d2, d3, d4, df, hbel, hsz⟩ := q3.drew.behind hb3))
            go_wp2
            exact bodyPost_ret (v := .tuple #[.agg #[.int .i64 0, .string ⟨#[]⟩, .string ⟨#[]⟩, .int .i64 0, .bool false], .iface 86 (.pointer (some ⟨eb, 0, none⟩))]) (by simp [results, Ybaf.results9, go_sem, d0, d1, d2, d3, d4]) rfl (lex_bad HN.out hzc hle hlt3 hcode hbel)
          | false =>
            have HN : Hid (numEnd s st = some c) := numEnd_ok s st c Hx.out hi
            have t0 := q3.t0
            have t1 := q3.t1
            have t2 := q3.t2
            have t3 := q3.t3
            have t4 := q3.t4
            have tf := q3.tf
            have hbel := q3.bel
            clear q3
            by_cases hlt : c < s.size
            · rw [at_lt s c hlt] at hi
              go_wp2_with (go_at_call 19; refine (isIdentStart_any _ _).mono ?_; rintro e w' ⟨rfl, hw⟩; obtain rfl := hw.symm)
              exact bodyPost_ret (v := .tuple #[.agg #[.int .i64 3, .string (s.extract st c), .string (s.extract st c), .int .i64 st, .bool false], .nilIface]) (by simp [results, Ybaf.results9, go_sem, t0, t1, t2, t3, t4]) rfl (lex_ok HN.out hbel)
            · clear hi
              go_wp2_with fail
              exact bodyPost_ret (v := .tuple #[.agg #[.int .i64 3, .string (s.extract st c), .string (s.extract st c), .int .i64 st, .bool false], .nilIface]) (by simp [results, Ybaf.results9, go_sem, t0, t1, t2, t3, t4]) rfl (lex_ok HN.out hbel)

end Go.Proofs.YbulkclbwFmt
