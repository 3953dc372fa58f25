/-
  The law LawS4351CBuilt: the walk up to the call of lexNumber, and behind it.
-/
import Derived.Test.YbulkclbwFmtOwn
import Derived.Test.YbulkclbwFmtSrc
import Derived.Test.YbulkclbwFmtLexWalk
namespace Go.Proofs.YbulkclbwFmt
open Go.RowKit Go.Extern.Stop Go.Stop Go.Extern

set_option maxRecDepth 100000 in
set_option maxHeartbeats 4000000 in
theorem built_walk (F : Interp) (pre tl : ByteArray) (a1 : Option Addr) (len1 cap1 : Nat) (is : List Int) (frac : Bool) (a3 : Option Addr) (len3 cap3 : Nat) (fs : List Int) (ex up : Bool) (sg : Int) (a7 : Option Addr) (len7 cap7 : Nat) (es : List Int) (w : World)
    (hF : F.answers w.tape) (hl1 : is.length = len1) (hl3 : fs.length = len3) (hl7 : es.length = len7)
    (ht1 : TextAt w w.heap.size a1 len1 is) (ht3 : TextAt w w.heap.size a3 len3 fs) (ht7 : TextAt w w.heap.size a7 len7 es)
    (hb1 : ∀ j, 0 ≤ nth is j ∧ nth is j ≤ 255) (hb3 : ∀ j, 0 ≤ nth fs j ∧ nth fs j ≤ 255) (hb7 : ∀ j, 0 ≤ nth es j ∧ nth es j ≤ 255)
    (hs0 : 0 ≤ sg) (hs1 : sg ≤ 255) (kp : pre.size ≤ 1024) (kt : tl.size ≤ 1024) (k1 : len1 ≤ 1024) (k3 : len3 ≤ 1024) (k7 : len7 ≤ 1024) :
    Calls Ybaf.prog 5 #[.string pre, .slice a1 len1 cap1, .bool frac, .slice a3 len3 cap3, .bool ex, .bool up, .int .u8 sg, .slice a7 len7 cap7, .string tl] w fun e w' => e = .returned (.bool true) ∧ Below w.heap.size w w' := by
  obtain ⟨i0, hi, hz0, hz1, hz2⟩ := info_parts info5
  have HLis : Hid (is.length = len1) := hl1
  have HLfs : Hid (fs.length = len3) := hl3
  have HLes : Hid (es.length = len7) := hl7
  have HT1 : Hid (TextAt w w.heap.size a1 len1 is) := ht1
  have HT3 : Hid (TextAt w w.heap.size a3 len3 fs) := ht3
  have HT7 : Hid (TextAt w w.heap.size a7 len7 es) := ht7
  have HBis : Hid (∀ j, 0 ≤ nth is j ∧ nth is j ≤ 255) := hb1
  have HBfs : Hid (∀ j, 0 ≤ nth fs j ∧ nth fs j ≤ 255) := hb3
  have HBes : Hid (∀ j, 0 ≤ nth es j ∧ nth es j ≤ 255) := hb7
  clear hl1 hl3 hl7 ht1 ht3 ht7 hb1 hb3 hb7
  go_enter Ybaf.func5, Ybaf.ntmps5
  go_upto_region 3 with fail
  go_cut [19] (fun t wx => Bd w [] t wx)
  case first => as_aux_lemma =>
    go_wp2_with (at_make; refine wpList_make_own _ rfl _ _ 78 rfl w.heap.size 5 i0 (.int .u8 0) 1 Ybaf.underlying78 hi hz0 hz1 _ _ _ (len1 + len3 + len7 + 4) rfl rfl (by omega) (by rw [hz2]; omega) (by unfold maxLen; omega) (Nat.le_refl _) ?_; intro w1 hown hgrow)
    go_meet
    case rel => exact ⟨_, _, rfl, hown, (Below.refl _ w).grown hgrow (Nat.le_refl _) (fun k hk => by cases hk)⟩
  case rest =>
    obtain ⟨ta, cp, rfl, hown, hbel⟩ := hcut
    obtain ⟨l0, hl0⟩ : ∃ l0 : List Int, l0 = [] := ⟨_, rfl⟩
    rw [← hl0] at hown ⊢
    have H0 : Hid (l0 = []) := hl0
    have hll0 : l0.length ≤ 0 := by rw [hl0]; exact Nat.le_refl _
    clear hl0
    go_upto_block 0 with fail
    go_cut [19] (fun t wx => Bd w (l0 ++ digs is) t wx)
    case first => as_aux_lemma =>
      go_wp2_with fail
      go_loopw [19, 65] (fun v t wr => ∃ k : Nat, k ≤ len1 ∧ t = .int .i64 k ∧ Bd w (l0 ++ digs (is.take k)) v wr) (fun _ t _ => len1 - (intOf t).toNat)
      case atStart => exact ⟨0, by omega, by go_num, by simp [digs]; exact ⟨_, _, rfl, hown, hbel⟩⟩
      case round =>
        obtain ⟨k, hk, rfl, ta', cp', rfl, hown1, hbel1⟩ := hrel
        by_cases hlt : k < len1
        · rcases HT1.out with h00 | ⟨g, o, rfl, hg, hc⟩
          · omega
          · have hck := (hbel1.cell (by exact hg)).trans (hc k hlt)
            have hpb := HBis.out k
            have hst : Hid (l0 ++ digs (is.take (k + 1)) = (l0 ++ digs (is.take k)) ++ [48 + nth is k % 10]) := digs_snoc l0 is k (by rw [HLis.out]; exact hlt)
            have hll' : (l0 ++ digs (is.take k)).length ≤ l0.length + 1024 := by simp [digs]; omega
            obtain ⟨pb1, pb2⟩ := hpb
            generalize l0 ++ digs (is.take k) = l' at *
            generalize nth is k = pkk at *
            clear hown hbel
            go_wp2_with (at_builtin; refine wpList_append_own _ rfl _ _ 78 rfl w.heap.size 5 i0 (.int .u8 0) 1 1 Ybaf.underlying78 hi hz0 hz1 hz2 rfl (by decide) _ _ _ rfl (hown1.alloc _) ⟨wr.heap.size, 0, none⟩ 1 1 [.int .u8 (48 + pkk % 10)] rfl rfl (cell_one_new _ _ _) (one_u8 _) (by unfold maxLen; omega) (by omega) (by have := hbel1.size; simp; omega) ?_; intro v' w1 hown' hgrow _)
            have hB := Bd.push hbel1 hown1 hown' hgrow
            clear hown' hgrow hown1 hck
            obtain ⟨ta2, cp2, rfl, hown2, hbel2⟩ := hB
            go_wp2_with fail
            go_roundw
            case rel => exact ⟨k + 1, by omega, by go_num, by rw [hst.out]; exact ⟨_, _, rfl, hown2, hbel2⟩⟩
            case measure => simp [intOf]; omega
        · have hke : is.take k = is := List.take_of_length_le (by rw [HLis.out]; omega)
          rw [hke] at hown1
          rw [hke]
          clear hke hown hbel
          go_wp2_with fail
          go_meet
          case rel => exact ⟨_, _, rfl, hown1, hbel1⟩
    case rest =>
      clear hown hbel
      obtain ⟨ta1, cp1, rfl, hown, hbel⟩ := hcut
      have hll : (l0 ++ digs is).length ≤ 1024 := by have := HLis.out; simp [digs]; omega
      obtain ⟨l, hl⟩ : ∃ l, l = l0 ++ digs is := ⟨_, rfl⟩
      rw [← hl] at hll hown ⊢
      have Hl : Hid (l = digs is) := by rw [hl, H0.out]; rfl
      clear hl H0 hll0
      clear l0
      go_upto_if 76 with fail
      go_cut [19] (fun t wx => Bd w (l ++ fracL frac fs) t wx)
      case first => as_aux_lemma =>
        cases frac with
        | true =>
          have HW : Hid (l ++ fracL true fs = l ++ [46] ++ digs fs) := by show _ = _; simp [fracL]
          go_wp2_with (at_builtin; refine wpList_append_own _ rfl _ _ 78 rfl w.heap.size 5 i0 (.int .u8 0) 1 1 Ybaf.underlying78 hi hz0 hz1 hz2 rfl (by decide) _ _ _ rfl (hown.alloc _) ⟨wc.heap.size, 0, none⟩ 1 1 [.int .u8 (46)] rfl rfl (cell_one_new _ _ _) (one_u8 _) (by unfold maxLen; omega) (by omega) (by have := hbel.size; simp; omega) ?_; intro v' w1 hown' hgrow _)
          have hB := Bd.push hbel hown hown' hgrow
          clear hown' hgrow hown hbel
          obtain ⟨ta3, cp3, rfl, hown, hbel⟩ := hB
          have hll3 : (l ++ [46]).length ≤ 1025 := by simp; omega
          obtain ⟨l3, hl3⟩ : ∃ l3, l3 = l ++ [46] := ⟨_, rfl⟩
          rw [← hl3] at hll3 hown ⊢
          have HW2 : Hid (l ++ fracL true fs = l3 ++ digs fs) := by rw [HW.out, hl3]; rfl
          clear hl3 HW
          go_wp2_with fail
          go_loopw [19, 82] (fun v t wr => ∃ k : Nat, k ≤ len3 ∧ t = .int .i64 k ∧ Bd w (l3 ++ digs (fs.take k)) v wr) (fun _ t _ => len3 - (intOf t).toNat)
          case atStart => exact ⟨0, by omega, by go_num, by simp [digs]; exact ⟨_, _, rfl, hown, hbel⟩⟩
          case round =>
            obtain ⟨k, hk, rfl, ta', cp', rfl, hown1, hbel1⟩ := hrel
            by_cases hlt : k < len3
            · rcases HT3.out with h00 | ⟨g, o, rfl, hg, hc⟩
              · omega
              · have hck := (hbel1.cell (by exact hg)).trans (hc k hlt)
                have hpb := HBfs.out k
                have hst : Hid (l3 ++ digs (fs.take (k + 1)) = (l3 ++ digs (fs.take k)) ++ [48 + nth fs k % 10]) := digs_snoc l3 fs k (by rw [HLfs.out]; exact hlt)
                have hll' : (l3 ++ digs (fs.take k)).length ≤ l3.length + 1024 := by simp [digs]; omega
                obtain ⟨pb1, pb2⟩ := hpb
                generalize l3 ++ digs (fs.take k) = l' at *
                generalize nth fs k = pkk at *
                clear hown hbel
                go_wp2_with (at_builtin; refine wpList_append_own _ rfl _ _ 78 rfl w.heap.size 5 i0 (.int .u8 0) 1 1 Ybaf.underlying78 hi hz0 hz1 hz2 rfl (by decide) _ _ _ rfl (hown1.alloc _) ⟨wr.heap.size, 0, none⟩ 1 1 [.int .u8 (48 + pkk % 10)] rfl rfl (cell_one_new _ _ _) (one_u8 _) (by unfold maxLen; omega) (by omega) (by have := hbel1.size; simp; omega) ?_; intro v' w1 hown' hgrow _)
                have hB := Bd.push hbel1 hown1 hown' hgrow
                clear hown' hgrow hown1 hck
                obtain ⟨ta2, cp2, rfl, hown2, hbel2⟩ := hB
                go_wp2_with fail
                go_roundw
                case rel => exact ⟨k + 1, by omega, by go_num, by rw [hst.out]; exact ⟨_, _, rfl, hown2, hbel2⟩⟩
                case measure => simp [intOf]; omega
            · have hke : fs.take k = fs := List.take_of_length_le (by rw [HLfs.out]; omega)
              rw [hke] at hown1
              rw [hke]
              clear hke hown hbel
              have HO : Hid (Bd w (l3 ++ digs fs) (.slice ta' (l3 ++ digs fs).length cp') wr) := ⟨_, _, rfl, hown1, hbel1⟩
              clear hown1 hbel1
              go_wp2_with fail
              go_meet
              case rel => rw [HW2.out]; exact HO.out
        | false =>
          go_wp2_with fail
          go_meet
          case rel => simp only [fracL]; simp; exact ⟨_, _, rfl, hown, hbel⟩
      case rest =>
        clear hown hbel
        obtain ⟨ta3, cp3, rfl, hown, hbel⟩ := hcut
        have hll4 : (l ++ fracL frac fs).length ≤ 2050 := by
          have := HLfs.out
          cases frac <;> simp [fracL, digs] <;> omega
        obtain ⟨l4, hl4⟩ : ∃ l4, l4 = l ++ fracL frac fs := ⟨_, rfl⟩
        rw [← hl4] at hll4 hown ⊢
        have Hl4 : Hid (l4 = digs is ++ fracL frac fs) := by rw [hl4, Hl.out]; rfl
        clear hl4 Hl hll
        go_upto_if 93 with fail
        go_cut [19] (fun t wx => Bd w (l4 ++ expL ex up sg es) t wx)
        case first => as_aux_lemma =>
          cases ex with
          | true =>
            go_upto_if 94 with fail
            go_cut [19] (fun t wx => Bd w (l4 ++ [letL up]) t wx)
            case first => as_aux_lemma =>
              cases up with
              | true =>
                go_wp2_with (at_builtin; refine wpList_append_own _ rfl _ _ 78 rfl w.heap.size 5 i0 (.int .u8 0) 1 1 Ybaf.underlying78 hi hz0 hz1 hz2 rfl (by decide) _ _ _ rfl (hown.alloc _) ⟨wc.heap.size, 0, none⟩ 1 1 [.int .u8 (69)] rfl rfl (cell_one_new _ _ _) (one_u8 _) (by unfold maxLen; omega) (by omega) (by have := hbel.size; simp; omega) ?_; intro v' w1 hown' hgrow _)
                have hB := Bd.push hbel hown hown' hgrow
                clear hown' hgrow
                obtain ⟨ta', cp', rfl, hown2, hbel2⟩ := hB
                go_wp2_with fail
                go_meet
                case rel => exact ⟨_, _, rfl, hown2, hbel2⟩
              | false =>
                go_wp2_with (at_builtin; refine wpList_append_own _ rfl _ _ 78 rfl w.heap.size 5 i0 (.int .u8 0) 1 1 Ybaf.underlying78 hi hz0 hz1 hz2 rfl (by decide) _ _ _ rfl (hown.alloc _) ⟨wc.heap.size, 0, none⟩ 1 1 [.int .u8 (101)] rfl rfl (cell_one_new _ _ _) (one_u8 _) (by unfold maxLen; omega) (by omega) (by have := hbel.size; simp; omega) ?_; intro v' w1 hown' hgrow _)
                have hB := Bd.push hbel hown hown' hgrow
                clear hown' hgrow
                obtain ⟨ta', cp', rfl, hown2, hbel2⟩ := hB
                go_wp2_with fail
                go_meet
                case rel => exact ⟨_, _, rfl, hown2, hbel2⟩
            case rest =>
              clear hown hbel
              obtain ⟨ta5, cp5, rfl, hown, hbel⟩ := hcut
              have hll5 : (l4 ++ [letL up]).length ≤ 2060 := by simp; omega
              obtain ⟨l5, hl5⟩ : ∃ l5, l5 = l4 ++ [letL up] := ⟨_, rfl⟩
              rw [← hl5] at hll5 hown ⊢
              have H5 : Hid (l5 = l4 ++ [letL up]) := hl5
              clear hl5
              have hs30 : 0 ≤ sg % 3 ∧ sg % 3 ≤ 2 := by omega
              obtain ⟨hs31, hs32⟩ := hs30
              go_upto_region 20 with fail
              go_cut [102] (fun t wx => (∃ s : Int, t = .int .u8 s ∧ 0 ≤ s ∧ s ≤ 2 ∧ Hid (s = sg % 3)) ∧ wx = wc)
              case first => as_aux_lemma =>
                go_wp2_with fail
                go_meet
                case rel => exact ⟨⟨_, rfl, hs31, hs32, rfl⟩, rfl⟩
              case rest =>
                obtain ⟨⟨s, rfl, hs0', hs1', Hs⟩, hw⟩ := hcut; obtain rfl := hw.symm
                clear hs31 hs32 hw
                go_upto_block 4 with fail
                go_cut [19] (fun t wx => Bd w (l5 ++ sgnL sg) t wx)
                case first => as_aux_lemma =>
                  rcases (show s = 0 ∨ s = 1 ∨ s = 2 from by omega) with rfl | rfl | rfl
                  · have HL : Hid (sgnL sg = []) := by unfold sgnL; rw [← Hs.out]; rfl
                    go_wp2_with fail
                    go_meet
                    case rel => rw [HL.out, List.append_nil]; exact ⟨_, _, rfl, hown, hbel⟩
                  · have HL : Hid (sgnL sg = [43]) := by unfold sgnL; rw [← Hs.out]; rfl
                    go_wp2_with (at_builtin; refine wpList_append_own _ rfl _ _ 78 rfl w.heap.size 5 i0 (.int .u8 0) 1 1 Ybaf.underlying78 hi hz0 hz1 hz2 rfl (by decide) _ _ _ rfl (hown.alloc _) ⟨wc.heap.size, 0, none⟩ 1 1 [.int .u8 (43)] rfl rfl (cell_one_new _ _ _) (one_u8 _) (by unfold maxLen; omega) (by omega) (by have := hbel.size; simp; omega) ?_; intro v' w1 hown' hgrow _)
                    have hB := Bd.push hbel hown hown' hgrow
                    clear hown' hgrow
                    obtain ⟨ta', cp', rfl, hown2, hbel2⟩ := hB
                    go_wp2_with fail
                    go_meet
                    case rel => rw [HL.out]; exact ⟨_, _, rfl, hown2, hbel2⟩
                  · have HL : Hid (sgnL sg = [45]) := by unfold sgnL; rw [← Hs.out]; rfl
                    go_wp2_with (at_builtin; refine wpList_append_own _ rfl _ _ 78 rfl w.heap.size 5 i0 (.int .u8 0) 1 1 Ybaf.underlying78 hi hz0 hz1 hz2 rfl (by decide) _ _ _ rfl (hown.alloc _) ⟨wc.heap.size, 0, none⟩ 1 1 [.int .u8 (45)] rfl rfl (cell_one_new _ _ _) (one_u8 _) (by unfold maxLen; omega) (by omega) (by have := hbel.size; simp; omega) ?_; intro v' w1 hown' hgrow _)
                    have hB := Bd.push hbel hown hown' hgrow
                    clear hown' hgrow
                    obtain ⟨ta', cp', rfl, hown2, hbel2⟩ := hB
                    go_wp2_with fail
                    go_meet
                    case rel => rw [HL.out]; exact ⟨_, _, rfl, hown2, hbel2⟩
                case rest =>
                  clear hown hbel
                  obtain ⟨ta6, cp6, rfl, hown, hbel⟩ := hcut
                  have hll6 : (l5 ++ sgnL sg).length ≤ 2070 := by unfold sgnL; split <;> (try split) <;> simp <;> omega
                  obtain ⟨l6, hl6⟩ : ∃ l6, l6 = l5 ++ sgnL sg := ⟨_, rfl⟩
                  rw [← hl6] at hll6 hown ⊢
                  have H6 : Hid (l6 = l4 ++ [letL up] ++ sgnL sg) := by show _ = _; rw [hl6, H5.out]
                  clear hl6 H5 hll5 Hs
                  go_wp2_with (at_builtin; refine wpList_append_own _ rfl _ _ 78 rfl w.heap.size 5 i0 (.int .u8 0) 1 1 Ybaf.underlying78 hi hz0 hz1 hz2 rfl (by decide) _ _ _ rfl (hown.alloc _) ⟨wc.heap.size, 0, none⟩ 1 1 [.int .u8 (49)] rfl rfl (cell_one_new _ _ _) (one_u8 _) (by unfold maxLen; omega) (by omega) (by have := hbel.size; simp; omega) ?_; intro v' w1 hown' hgrow _)
                  have hB := Bd.push hbel hown hown' hgrow
                  clear hown' hgrow hown hbel
                  obtain ⟨ta7, cp7, rfl, hown, hbel⟩ := hB
                  have hll7 : (l6 ++ [49]).length ≤ 2080 := by simp; omega
                  obtain ⟨l7, hl7⟩ : ∃ l7, l7 = l6 ++ [49] := ⟨_, rfl⟩
                  rw [← hl7] at hll7 hown ⊢
                  have HF : Hid (l4 ++ expL true up sg es = l7 ++ digs es) := by show _ = _; rw [hl7, H6.out]; simp [expL]
                  clear hl7 H6 hll6
                  go_wp2_with fail
                  go_loopw [19, 118] (fun v t wr => ∃ k : Nat, k ≤ len7 ∧ t = .int .i64 k ∧ Bd w (l7 ++ digs (es.take k)) v wr) (fun _ t _ => len7 - (intOf t).toNat)
                  case atStart => exact ⟨0, by omega, by go_num, by simp [digs]; exact ⟨_, _, rfl, hown, hbel⟩⟩
                  case round =>
                    obtain ⟨k, hk, rfl, ta', cp', rfl, hown1, hbel1⟩ := hrel
                    by_cases hlt : k < len7
                    · rcases HT7.out with h00 | ⟨g, o, rfl, hg, hc⟩
                      · omega
                      · have hck := (hbel1.cell (by exact hg)).trans (hc k hlt)
                        have hpb := HBes.out k
                        have hst : Hid (l7 ++ digs (es.take (k + 1)) = (l7 ++ digs (es.take k)) ++ [48 + nth es k % 10]) := digs_snoc l7 es k (by rw [HLes.out]; exact hlt)
                        have hll' : (l7 ++ digs (es.take k)).length ≤ l7.length + 1024 := by simp [digs]; omega
                        obtain ⟨pb1, pb2⟩ := hpb
                        generalize l7 ++ digs (es.take k) = l' at *
                        generalize nth es k = pkk at *
                        clear hown hbel
                        go_wp2_with (at_builtin; refine wpList_append_own _ rfl _ _ 78 rfl w.heap.size 5 i0 (.int .u8 0) 1 1 Ybaf.underlying78 hi hz0 hz1 hz2 rfl (by decide) _ _ _ rfl (hown1.alloc _) ⟨wr.heap.size, 0, none⟩ 1 1 [.int .u8 (48 + pkk % 10)] rfl rfl (cell_one_new _ _ _) (one_u8 _) (by unfold maxLen; omega) (by omega) (by have := hbel1.size; simp; omega) ?_; intro v' w1 hown' hgrow _)
                        have hB := Bd.push hbel1 hown1 hown' hgrow
                        clear hown' hgrow hown1 hck
                        obtain ⟨ta2, cp2, rfl, hown2, hbel2⟩ := hB
                        go_wp2_with fail
                        go_roundw
                        case rel => exact ⟨k + 1, by omega, by go_num, by rw [hst.out]; exact ⟨_, _, rfl, hown2, hbel2⟩⟩
                        case measure => simp [intOf]; omega
                    · have hke : es.take k = es := List.take_of_length_le (by rw [HLes.out]; omega)
                      rw [hke] at hown1
                      rw [hke]
                      clear hke hown hbel
                      have HO : Hid (Bd w (l7 ++ digs es) (.slice ta' (l7 ++ digs es).length cp') wr) := ⟨_, _, rfl, hown1, hbel1⟩
                      clear hown1 hbel1
                      go_wp2_with fail
                      go_meet
                      case rel => rw [HF.out]; exact HO.out
          | false =>
            go_wp2_with fail
            go_meet
            case rel => simp only [expL]; simp; exact ⟨_, _, rfl, hown, hbel⟩
        case rest =>
          clear hown hbel
          obtain ⟨ta8, cp8, rfl, hown, hbel⟩ := hcut
          have HX : Hid (l4 ++ expL ex up sg es = digs is ++ (fracL frac fs ++ expL ex up sg es)) := by show _ = _; rw [Hl4.out, List.append_assoc]
          have hll8 : (l4 ++ expL ex up sg es).length ≤ 4000 := by
            have := HLes.out
            have h5 : (sgnL sg).length ≤ 1 := by unfold sgnL; split <;> (try split) <;> simp
            cases ex <;> simp [expL, digs] <;> omega
          obtain ⟨ta9, cp9, he9, htx⟩ := text_of_owns hown
          obtain ⟨rfl, rfl⟩ : ta8 = ta9 ∧ cp8 = cp9 := by simpa using he9
          have hconv := conv_text (cap := cp8) htx rfl
          have HN : Hid (∀ l, l = l4 ++ expL ex up sg es → numEnd (pre ++ strOfNums l ++ ⟨#[32]⟩ ++ tl) pre.size = some (pre.size + (strOfNums l).size)) := by
            intro l hl
            rw [strOfNums_size, hl, HX.out]
            exact src_num pre tl is frac fs ex up sg es
          obtain ⟨L, hL⟩ : ∃ L, L = l4 ++ expL ex up sg es := ⟨_, rfl⟩
          have hn := HN.out L hL
          have hsz : (strOfNums L).size ≤ 4000 := by rw [strOfNums_size, hL]; exact hll8
          rw [← hL] at hconv ⊢
          clear hL htx he9 hown hll8 HX Hl4 hll4 HN
          obtain ⟨ns, hns⟩ : ∃ ns, ns = strOfNums L := ⟨_, rfl⟩
          rw [← hns] at hn hsz hconv
          clear hns
          have HNum : Hid (numEnd (pre ++ ns ++ ⟨#[32]⟩ ++ tl) pre.size = some (pre.size + ns.size)) := hn
          clear hn
          have hFc : F.answers wc.tape := by rw [hbel.tape]; exact hF
          have hs1 : (pre ++ ns).size = pre.size + ns.size := ByteArray.size_append
          go_wp2_with fail
          have HM : Hid ((pre ++ ns ++ ⟨#[32]⟩ ++ tl).extract pre.size (pre.size + ns.size) = ns) := src_mid pre ns ⟨#[32]⟩ tl
          have hsrc : (pre ++ ns ++ ⟨#[32]⟩ ++ tl).size = pre.size + ns.size + 1 + tl.size := by simp [ByteArray.size_append]; rfl
          refine (lexNumber_any F _ pre.size _ (by exact hFc) (by rw [hsrc]; omega) (by rw [hsrc]; omega)).mono ?_
          intro e w1 hpost
          generalize (pre ++ ns ++ ⟨#[32]⟩ ++ tl) = src at *
          rcases hpost with ⟨k, hk, rfl, hb⟩ | ⟨hk, _⟩
          · obtain rfl : k = pre.size + ns.size := Option.some.inj (hk.symm.trans HNum.out)
            rw [HM.out]
            have hbw : Below w.heap.size w w1 := hbel.trans (hb.mono hbel.size)
            clear hk HNum HM hb hbel hsrc hconv hs1
            go_wp2_with fail
            go_ret
            exact ⟨rfl, hbw.alloc hbw.size _⟩
          · rw [HNum.out] at hk; cases hk

end Go.Proofs.YbulkclbwFmt
