/-
  The law LawS4351AModel: the walk.
-/
import Derived.Test.YbulkclbwFmtInv
import Derived.Deep.QuietTactic
import Derived.BigQuiet
namespace Go.Proofs.YbulkclbwFmt
open Go.RowKit Go.ChangeMaps Go.Extern.Stop Go.Stop Go.Extern

set_option maxRecDepth 100000 in
set_option maxHeartbeats 4000000 in
theorem am_walk (I : Interp) (a0 : Option Addr) (n cap : Nat) (name : ByteArray) (w : World) (hF : I.answers w.tape) (hm : n ≤ 1024)
    (fr tt cc ln : Nat → Int) (hst : Steps w a0 n fr tt cc ln) (hby : ∀ j, j < n → isByte (fr j) ∧ isByte (tt j) ∧ isByte (cc j)) (f : Nat) (hfn : f ≤ n) (hgood : ∀ j, j < f → (stOf fr tt cc ln j).bad = false) (hbad : f < n → (stOf fr tt cc ln f).bad = true) :
    Calls Ybaf.prog 3 #[.string name, .slice a0 n cap] w fun e w' => e = .returned (.bool true) ∧ Below w.heap.size w w' := by
  have HST : Hid (Steps w a0 n fr tt cc ln) := hst
  have HBY : Hid (∀ j, j < n → isByte (fr j) ∧ isByte (tt j) ∧ isByte (cc j)) := hby
  have HGD : Hid (∀ j, j < f → (stOf fr tt cc ln j).bad = false) := hgood
  have HBD : Hid (f < n → (stOf fr tt cc ln f).bad = true) := hbad
  have HF : Hid (I.answers w.tape) := hF
  clear hst hby hgood hbad hF
  have hmm := @run_makeMap Ybaf.prog
  go_enter Ybaf.func3, Ybaf.ntmps3
  go_upto_region 5 with (first | (go_at_call 6; refine Calls.mono (names_any _) ?_; rintro e w1 ⟨rfl, hb1⟩) | (go_at_call 7; refine Calls.mono (ctxs_any _) ?_; rintro e w2 ⟨rfl, hb2⟩))
  go_upto_region 6 with fail
  refine wcut (fun wx => S5 w wx w1.heap.size w2.heap.size (w2.heap.size + 1 + 1 + 1 + 1) ∧ wx.heap.size = w2.heap.size + 5) (S5.mk' (S4.mk' (S3.mk' hb1) hb2) _ _ _) ?_
  clear hb1 hb2
  generalize w1.heap.size = N
  generalize w2.heap.size = X
  clear w1 w2
  generalize hT : X + 1 + 1 + 1 + 1 = T
  clear hT
  rintro wx ⟨h5, hs⟩
  have H5 : Hid (S5 w wx N X T) := h5
  have t0 : wx.cell? ⟨T, 0, none⟩ = some (.pointer (some ⟨X + 1, 0, none⟩)) := h5.ts 0 (by omega)
  have t1 : ∀ o, (setBlock (wx.alloc (.map #[] 0)) wx.heap.size o).cell? ⟨T, 1, none⟩ = some (.pointer (some ⟨X + 1 + 1, 0, none⟩)) := fun o => by
    have e := h5.eqT
    rw [cell_setBlock _ _ _ _ (by show T ≠ _; omega), World.cell?_alloc_past _ _ _ (by omega)]
    exact h5.ts 1 (by omega)
  have t2 : ∀ o o', (setBlock (setBlock (wx.alloc (.map #[] 0)) wx.heap.size o) wx.heap.size o').cell? ⟨T, 2, none⟩ = some (.pointer (some ⟨X + 1 + 2, 0, none⟩)) := fun o o' => by
    have e := h5.eqT
    rw [cell_setBlock _ _ _ _ (by show T ≠ _; omega), cell_setBlock _ _ _ _ (by show T ≠ _; omega), World.cell?_alloc_past _ _ _ (by omega)]
    exact h5.ts 2 (by omega)
  have hTlt : T < wx.heap.size := by rw [h5.eqT, hs]; omega
  have HS : Hid (wx.heap.size = X + 5) := hs
  clear h5 hs
  have i0 : (Instr.mapUpdate 30 (.map (some wx.heap.size)) (.string ⟨#[105, 110, 116, 52]⟩) (.pointer (some ⟨X + 1, 0, none⟩))).run Ybaf.prog (wx.alloc (.map #[] 0)) = .ok () (setBlock (wx.alloc (.map #[] 0)) wx.heap.size (.map #[e0 (tp (X + 1) 0)] 1)) := ins0 push_at _
  have i1 : (Instr.mapUpdate 30 (.map (some wx.heap.size)) (.string ⟨#[116, 101, 120, 116]⟩) (.pointer (some ⟨X + 1 + 1, 0, none⟩))).run Ybaf.prog (setBlock (wx.alloc (.map #[] 0)) wx.heap.size (.map #[e0 (tp (X + 1) 0)] 1)) = .ok () (setBlock (setBlock (wx.alloc (.map #[] 0)) wx.heap.size (.map #[e0 (tp (X + 1) 0)] 1)) wx.heap.size (.map #[e0 (tp (X + 1) 0), e1 (tp (X + 1) 1)] 2)) := ins1 (heap_setBlock_same push_at _) _
  obtain ⟨w3, i2, hb3, hm3, hs3⟩ : ∃ w3, (Instr.mapUpdate 30 (.map (some wx.heap.size)) (.string ⟨#[98, 111, 111, 108]⟩) (.pointer (some ⟨X + 1 + 2, 0, none⟩))).run Ybaf.prog (setBlock (setBlock (wx.alloc (.map #[] 0)) wx.heap.size (.map #[e0 (tp (X + 1) 0)] 1)) wx.heap.size (.map #[e0 (tp (X + 1) 0), e1 (tp (X + 1) 1)] 2)) = .ok () w3 ∧ Hid (Below (X + 5) wx w3) ∧ Hid (w3.heap[wx.heap.size]? = some (.map #[e0 (tp (X + 1) 0), e1 (tp (X + 1) 1), e2 (tp (X + 1) 2)] 3)) ∧ Hid (w3.heap.size = X + 6) :=
    ⟨_, ins2 (heap_setBlock_same (heap_setBlock_same push_at _) _) _, below_setBlock (by rw [HS.out]; exact Nat.le_refl _) (below_setBlock (by rw [HS.out]; exact Nat.le_refl _) (below_setBlock (by rw [HS.out]; exact Nat.le_refl _) ((Below.refl _ _).alloc (by rw [HS.out]; exact Nat.le_refl _) _) _) _) _, heap_setBlock_same (heap_setBlock_same (heap_setBlock_same push_at _) _) _, by
      show (setBlock _ _ _).heap.size = _
      have := HS.out
      simp [setBlock]
      exact this⟩
  go_upto_region 7 with fail
  clear i0 i1 i2 t0 t1 t2 hTlt hmm
  refine wcut (fun wy => Hid (S6 w wy N X T wx.heap.size w3.heap.size (w3.heap.size + 1))) (S6.mk' H5.out HS.out hb3.out hm3.out hs3.out _ _ _ _ _ _ _ _ _ _ _) ?_
  clear hb3 hm3 hs3 HS H5
  generalize wx.heap.size = t
  generalize w3.heap.size = m
  clear wx w3
  generalize m + 1 = c
  intro wx H6
  obtain ⟨z, hz⟩ := zero56
  go_upto_region 9 with (at_make; refine wpList_make_full _ rfl _ _ 50 rfl (wx.alloc (.cells #[.string name, .pointer (some ⟨c, 0, none⟩)] 49)).heap.size 56 Ybaf.t56 z 2 Ybaf.underlying50 hi56 hz sz56 _ _ _ _ n rfl rfl rfl rfl (by rw [by56]; omega) (by unfold maxLen; omega) (Nat.le_refl _) ?_; intro w1 hown hgrow)
  have HO : Hid (w1.ownsRow _ _ _ _ _ _) := hown
  have HG : Hid (World.grownBy _ w1 none) := hgrow
  clear hown hgrow hz
  go_upto_region 11 with fail
  refine wcut (fun wy => Hid (Inv w wy N X T t m c wx.heap.size (wx.heap.size + 1) w1.heap.size n name (stOf fr tt cc ln) 0 0)) (by
    have hs := H6.out.size
    have hsa := size_alloc' wx (.cells #[.string name, .pointer (some ⟨c, 0, none⟩)] 49)
    have := Inv.start (st := stOf fr tt cc ln) H6.out HO.out (Below.grown (Below.refl _ _) HG.out (by omega) (fun k hk => by cases hk)) (HO.out.lt _ rfl).2
    rw [hsa] at this
    exact this) ?_
  clear H6 HO HG
  clear z
  generalize wx.heap.size = l
  generalize w1.heap.size = E
  clear wx w1
  generalize l + 1 = R
  intro wy HI
  go_wp2_with fail
  go_loopw [12, 58] (fun s12 s58 wr => ∃ k : Nat, k ≤ n ∧ s58 = .int .i64 k ∧ s12 = .int .i64 (fa f k) ∧ Hid (Inv w wr N X T t m c l R E n name (stOf fr tt cc ln) k (min k f))) (fun _ s58 _ => n - (intOf s58).toNat)
  case atStart => exact ⟨0, by omega, by go_num, by simp [fa], by rw [Nat.zero_min]; exact HI⟩
  case round =>
    clear HI
    clear wy
    obtain ⟨k, hk, rfl, rfl, HI⟩ := hrel
    by_cases hlt : k < n
    · rcases HST.out with h0 | ⟨g, o, rfl, hg, hc⟩
      · omega
      · obtain ⟨g1, g2, g3, g4⟩ := hc k hlt
        have hbel := HI.out.g.s5.bel
        have c1 := (hbel.cell (p := ⟨g, o + k * 4, none⟩) hg).trans g1
        have c2 := (hbel.cell (p := ⟨g, o + k * 4 + 1, none⟩) hg).trans g2
        have c3 := (hbel.cell (p := ⟨g, o + k * 4 + 2, none⟩) hg).trans g3
        have c4 := (hbel.cell (p := ⟨g, o + k * 4 + 3, none⟩) hg).trans g4
        clear g1 g2 g3 g4 hbel hc
        obtain ⟨y1, y2, y3⟩ := HBY.out k hlt
        obtain ⟨a, ha, e1, e1'⟩ := byte_mod y1
        obtain ⟨b, hb, e2, e2'⟩ := byte_mod y2
        obtain ⟨d, hd, e3, e3'⟩ := byte_mod y3
        clear y1 y2 y3
        have HE : Hid (stOf fr tt cc ln k = ⟨a, b, d, ln k⟩) := by
          show stOf fr tt cc ln k = ⟨a, b, d, ln k⟩
          unfold stOf
          rw [e1', e2', e3']
        clear e1' e2' e3'
        go_upto_region 17 with fail
        rw [e1, e2, e3]
        clear c1 c2 c3 c4 e1 e2 e3
        refine wcut (fun wz => Hid (Inv w wz N X T t m c l R E n name (stOf fr tt cc ln) k (min k f)) ∧ wz.cell? ⟨wr.heap.size, 3, none⟩ = some (.int .i64 (ln k)) ∧ R < wr.heap.size) ⟨HI.out.lift ((Below.refl _ _).alloc (Nat.le_refl _) _), by go_simp, Nat.lt_trans HI.out.ltE HI.out.high⟩ ?_
        generalize wr.heap.size = q
        clear HI
        clear wr
        rintro wz ⟨HI, hq, hqR⟩
        have n1 := HI.out.g.s5.names a ha
        have n2 := HI.out.g.s5.names b hb
        have n3 := HI.out.g.s5.ctxs d hd
        obtain ⟨p1, r2⟩ := HI.out.thR (k * 2) (by omega)
        obtain ⟨p3, r4⟩ := HI.out.thR (k * 2 + 1) (by omega)
        rw [Nat.zero_add] at p1 r2 p3 r4
        obtain ⟨u1, r1⟩ := Option.isSome_iff_exists.1 p1
        obtain ⟨u2, r3⟩ := Option.isSome_iff_exists.1 p3
        clear p1 p3
        have d1 : ¬ q = R := by omega
        have d2 : ¬ N = R := by have := HI.out.eqR; have := HI.out.g.s5.lt; omega
        have d3 : ¬ X = R := by have := HI.out.eqR; omega
        clear hqR
        have hR : R < wz.heap.size := Nat.lt_trans HI.out.ltE HI.out.high
        have ha0 : (0 : Int) ≤ (a : Int) := by omega
        have hb0 : (0 : Int) ≤ (b : Int) := by omega
        have hd0 : (0 : Int) ≤ (d : Int) := by omega
        have ha1 : (a : Int) < 8 := by omega
        have hb1 : (b : Int) < 8 := by omega
        have hd1 : (d : Int) < 8 := by omega
        have hk0 : (0 : Int) ≤ (k : Int) := by omega
        have hk1 : (k : Int) < (n : Int) := by omega
        go_region_held3 (fun wy => wy.cell? ⟨q, 3, none⟩ = some (.int .i64 (ln k)) ∧ wy.cell? ⟨N, a, none⟩ = some (.string (nm a)) ∧ wy.cell? ⟨N, b, none⟩ = some (.string (nm b)) ∧ wy.cell? ⟨X, d, none⟩ = some (.string (cx d))) (first | (go_keep; done) | exact ⟨keep_cell hq d1, keep_cell n1 d2, keep_cell n2 d2, keep_cell n3 d3⟩) (fail)
        go_upto_region 18 with fail
        refine wcut (fun wu => Hid (Inv w wu N X T t m c l R E n name (stOf fr tt cc ln) (k + 1) (min k f))) (HI.out.laid hlt HE.out) ?_
        clear HI hq n1 n2 n3 d1 d2 d3 hR r1 r2 r3 r4
        generalize wz.heap.size = q2
        intro wu HU
        have hbb : (stOf fr tt cc ln k).bad = (decide (6 ≤ a) || decide (6 ≤ b) || decide (6 ≤ d)) := by rw [HE.out]; rfl
        rcases Nat.lt_trichotomy k f with hkf | hkf | hkf
        · have hfa : fa f k = -1 := by unfold fa; rw [if_pos (by omega)]
          rw [hfa]
          rw [HGD.out k hkf] at hbb
          have h6 : a < 6 ∧ b < 6 ∧ d < 6 := by
            have := hbb.symm
            simp only [Bool.or_eq_false_iff, decide_eq_false_iff_not] at this
            omega
          clear hbb
          obtain ⟨a6, b6, d6⟩ := h6
          have hmin : min k f = k := by omega
          rw [hmin] at HU
          have n3 := HU.out.g.s5.ctxs d hd
          have ha6 : (a : Int) < 6 := by omega
          have hb6 : (b : Int) < 6 := by omega
          have hd6 : (d : Int) < 6 := by omega
          obtain ⟨a3, h3a⟩ : ∃ a3 : Nat, a % 3 = a3 := ⟨_, rfl⟩
          obtain ⟨b3, h3b⟩ : ∃ b3 : Nat, b % 3 = b3 := ⟨_, rfl⟩
          have ma : ((a : Int).tmod 3) = (a3 : Int) := by rw [Int.tmod_eq_emod_of_nonneg ha0]; omega
          have mb : ((b : Int).tmod 3) = (b3 : Int) := by rw [Int.tmod_eq_emod_of_nonneg hb0]; omega
          have ma0 : (0 : Int) ≤ (a3 : Int) := by omega
          have mb0 : (0 : Int) ≤ (b3 : Int) := by omega
          have ma1 : (a3 : Int) < 3 := by omega
          have mb1 : (b3 : Int) < 3 := by omega
          obtain ⟨p1, r2⟩ := HU.out.thE (a3 * 3 + b3) (by omega)
          rw [Nat.zero_add] at p1 r2
          obtain ⟨u3, r1⟩ := Option.isSome_iff_exists.1 p1
          clear p1
          have d4 : ¬ X = E := by have := HU.out.eqR; have := HU.out.ltE; omega
          rcases cx_good d d6 with ⟨h1, h2⟩ | ⟨h1, h2⟩ | ⟨h1, h2⟩
          · rw [h1] at n3
            have HV : Hid (Inv w (wu.setCell ⟨E, a3 * 3 + b3, none⟩ (.int .u8 105)).drew N X T t m c l R E n name (stOf fr tt cc ln) (k + 1) (k + 1)) := by
              have hv := HU.out.letter HE.out
              rw [h3a, h3b, h2] at hv
              exact hv.lift (Below.refl _ _).drew
            go_upto_region 21 with fail
            go_region_held3 (fun wy => wy.cell? ⟨X, d, none⟩ = some (.string ⟨#[105]⟩)) (first | (go_keep; done) | exact keep_one n3 d4) (fail)
            go_wp2_with fail
            go_roundw
            case rel =>
              refine ⟨k + 1, by omega, by go_num, by unfold fa; rw [if_pos (by omega)], ?_⟩
              rw [show min (k + 1) f = k + 1 by omega]
              exact HV
            case measure => simp [intOf]; omega
          · rw [h1] at n3
            have HV : Hid (Inv w (wu.setCell ⟨E, a3 * 3 + b3, none⟩ (.int .u8 97)).drew N X T t m c l R E n name (stOf fr tt cc ln) (k + 1) (k + 1)) := by
              have hv := HU.out.letter HE.out
              rw [h3a, h3b, h2] at hv
              exact hv.lift (Below.refl _ _).drew
            go_upto_region 21 with fail
            go_region_held3 (fun wy => wy.cell? ⟨X, d, none⟩ = some (.string ⟨#[97]⟩)) (first | (go_keep; done) | exact keep_one n3 d4) (fail)
            go_wp2_with fail
            go_roundw
            case rel =>
              refine ⟨k + 1, by omega, by go_num, by unfold fa; rw [if_pos (by omega)], ?_⟩
              rw [show min (k + 1) f = k + 1 by omega]
              exact HV
            case measure => simp [intOf]; omega
          · rw [h1] at n3
            have HV : Hid (Inv w (wu.setCell ⟨E, a3 * 3 + b3, none⟩ (.int .u8 101)).drew N X T t m c l R E n name (stOf fr tt cc ln) (k + 1) (k + 1)) := by
              have hv := HU.out.letter HE.out
              rw [h3a, h3b, h2] at hv
              exact hv.lift (Below.refl _ _).drew
            go_upto_region 21 with fail
            go_region_held3 (fun wy => wy.cell? ⟨X, d, none⟩ = some (.string ⟨#[101]⟩)) (first | (go_keep; done) | exact keep_one n3 d4) (fail)
            go_wp2_with fail
            go_roundw
            case rel =>
              refine ⟨k + 1, by omega, by go_num, by unfold fa; rw [if_pos (by omega)], ?_⟩
              rw [show min (k + 1) f = k + 1 by omega]
              exact HV
            case measure => simp [intOf]; omega
        · have hfa : fa f k = -1 := by unfold fa; rw [if_pos (by omega)]
          rw [hfa]
          subst hkf
          rw [HBD.out hlt] at hbb
          have hmin : min k k = min (k + 1) k := by omega
          rw [hmin] at HU
          by_cases a6 : a < 6
          · have ha6 : (a : Int) < 6 := by omega
            by_cases b6 : b < 6
            · have hb6 : (b : Int) < 6 := by omega
              have hd6 : (6 : Int) ≤ (d : Int) := by
                have : ¬ d < 6 := fun d6 => by
                  simp only [show ¬ 6 ≤ a by omega, show ¬ 6 ≤ b by omega, show ¬ 6 ≤ d by omega, decide_false, Bool.or_false, Bool.true_eq_false] at hbb
                omega
              clear hbb
              go_wp2_with fail
              go_roundw
              case rel => exact ⟨k + 1, by omega, by go_num, by unfold fa; rw [if_neg (by omega)], HU⟩
              case measure => simp [intOf]; omega
            · have hb6 : (6 : Int) ≤ (b : Int) := by omega
              clear hbb
              go_wp2_with fail
              go_roundw
              case rel => exact ⟨k + 1, by omega, by go_num, by unfold fa; rw [if_neg (by omega)], HU⟩
              case measure => simp [intOf]; omega
          · have ha6 : (6 : Int) ≤ (a : Int) := by omega
            clear hbb
            go_wp2_with fail
            go_roundw
            case rel => exact ⟨k + 1, by omega, by go_num, by unfold fa; rw [if_neg (by omega)], HU⟩
            case measure => simp [intOf]; omega
        · have hfa : fa f k = f := by unfold fa; rw [if_neg (by omega)]
          rw [hfa]
          have hmin : min k f = min (k + 1) f := by omega
          rw [hmin] at HU
          have hf0 : (0 : Int) ≤ (f : Int) := by omega
          clear hbb
          go_wp2_with fail
          go_roundw
          case rel => exact ⟨k + 1, by omega, by go_num, by unfold fa; rw [if_neg (by omega)], HU⟩
          case measure => simp [intOf]; omega
    · obtain rfl : k = n := by omega
      have hmin : min k f = f := by omega
      rw [hmin] at HI
      clear hmin
      have HC : Hid (Calls Ybaf.prog 8 #[.pointer (some ⟨l, 0, none⟩), .slice (some ⟨R, 0, none⟩) k k] wr (CastsPost l c t m (X + 1) k f name (stOf fr tt cc ln) wr)) := by
        obtain ⟨F, hF⟩ := HI.out.recs
        exact addCasts_any I (by rw [HI.out.g.s5.bel.tape]; exact HF.out) HI.out.g.lc (fun j hj => (hF j hj).1) hm (stOf_low _ _ _ _) hfn HGD.out HBD.out
      go_upto_region 24 with (go_at_call 8; refine Calls.mono HC.out ?_; intro e w2 hpost; obtain ⟨v, rfl, hl2, hb2, hend⟩ := hpost.val; clear hpost)
      clear HC
      have HK : Hid (Chk w w2 X T t m c E (rowsTo (stOf fr tt cc ln) f)) := Chk.mk' HI.out hl2 hb2
      clear hl2 hb2 HI
      rcases hend with ⟨rfl, rfl⟩ | ⟨hlt2, b, rfl, hb1, hb2⟩
      case' inl =>
        have hfa : fa f f = -1 := by unfold fa; rw [if_pos (by omega)]
        rw [hfa]
        go_upto_region 30 with fail
        refine wcut (fun wv => Hid (Chk w wv X T t m c E (rowsTo (stOf fr tt cc ln) f))) HK ?_
        clear HK
      case' inr =>
        have hfa : fa f k = f := by unfold fa; rw [if_neg (by omega)]
        rw [hfa]
        rcases HST.out with h0 | ⟨g, o, rfl, hg, hc⟩
        · omega
        have c4 := (HK.out.bel.cell (p := ⟨g, o + f * 4 + 3, none⟩) hg).trans (hc f hlt2).2.2.2
        have hln : w2.cell? ⟨b, 1, none⟩ = some (.int .i64 (ln f)) := hb2
        have hf0 : (0 : Int) ≤ (f : Int) := by omega
        have hf1 : (f : Int) < (k : Int) := by omega
        have has := assert60
        clear hc hb2
        go_upto_region 28 with fail
        go_quiet (fail)
        go_upto_region 30 with fail
        refine wcut (fun wv => Hid (Chk w wv X T t m c E (rowsTo (stOf fr tt cc ln) f))) (HK.out.drew nq) ?_
        clear HK c4 hln hf0 hf1 has hb1
      all_goals
        have HGO : Hid (Good (rowsTo (stOf fr tt cc ln) f)) := Good.rows _ _
        generalize rowsTo (stOf fr tt cc ln) f = L at *
        intro w4 HK
        go_wp2_with fail
        go_loopw [21, 22] (fun s21 s22 wv => ∃ i : Nat, i ≤ 3 ∧ s22 = .int .i64 i ∧ s21 = .int .i64 (cn (set9 L) (3 * i) : Nat) ∧ Hid (Chk w wv X T t m c E L)) (fun _ s22 _ => 3 - (intOf s22).toNat)
        case atStart => exact ⟨0, by omega, by go_num, by go_num, HK⟩
        case round =>
          clear HK
          clear w4
          obtain ⟨i, hi, rfl, rfl, HK⟩ := hrel
          by_cases hi3 : i < 3
          · have hi0 : (0 : Int) ≤ (i : Int) := by omega
            have hi1 : (i : Int) < 3 := by omega
            go_wp2_with fail
            go_loopw [21, 23] (fun s21 s23 wv => ∃ j : Nat, j ≤ 3 ∧ s23 = .int .i64 j ∧ s21 = .int .i64 (cn (set9 L) (3 * i + j) : Nat) ∧ Hid (Chk w wv X T t m c E L)) (fun _ s23 _ => 3 - (intOf s23).toNat)
            case atStart => exact ⟨0, by omega, by go_num, rfl, HK⟩
            case round =>
              clear HK
              obtain ⟨j, hj, rfl, rfl, HK⟩ := hrel
              by_cases hj3 : j < 3
              · have hj0 : (0 : Int) ≤ (j : Int) := by omega
                have hj1 : (j : Int) < 3 := by omega
                have hlk := HK.out.look i j hi3 hj3
                have hpl := HK.out.place i j hi3 hj3
                have hfm := HK.out.fm
                have ti : wr.cell? ⟨T, i, none⟩ = some (.pointer (some ⟨X + 1 + i, 0, none⟩)) := HK.out.ts i hi3
                have tj : wr.cell? ⟨T, j, none⟩ = some (.pointer (some ⟨X + 1 + j, 0, none⟩)) := HK.out.ts j hj3
                have hcn := cn_set9 L i j hj3
                have hcl := cn_le (set9 L) (3 * i + j)
                have HCN : Hid (cn (set9 L) (3 * i + (j + 1)) = cn (set9 L) (3 * i + j) + (gt i j L).isSome.toNat) := hcn
                clear hcn
                cases hg : gt i j L with
                | none =>
                  rw [hg] at hlk hpl HCN
                  simp only [Option.getD_none, Option.isSome_none] at hlk hpl
                  go_upto_region 37 with fail
                  go_quiet (fail)
                  go_wp2_with fail
                  go_roundw
                  case rel => exact ⟨j + 1, by omega, by go_num, by rw [HCN.out]; rfl, HK.out.drew nq⟩
                  case measure => simp [intOf]; omega
                | some x =>
                  have hx := HGO.out.letters i j x hg
                  have hx2 : (x == 0) = false := by simpa using hx
                  have hx3 : (x != 0) = true := by simpa using hx
                  rw [hg] at hlk hpl HCN
                  simp only [Option.getD_some, Option.isSome_some] at hlk hpl
                  have hw9 : wrap64 ((cn (set9 L) (3 * i + j) : Int) + 1) = (cn (set9 L) (3 * i + j) : Int) + 1 := by unfold wrap64; omega
                  go_upto_region 37 with fail
                  go_quiet (fail)
                  go_wp2_with fail
                  go_roundw
                  case rel => exact ⟨j + 1, by omega, by go_num, by rw [HCN.out]; go_num, HK.out.drew nq⟩
                  case measure => simp [intOf]; omega
              · obtain rfl : j = 3 := by omega
                go_wp2_with fail
                go_roundw
                case rel => exact ⟨i + 1, by omega, by go_num, rfl, HK⟩
                case measure => simp [intOf]; omega
          · obtain rfl : i = 3 := by omega
            have hcn : cn (set9 L) (3 * 3) = L.length := HGO.out.count
            rw [hcn]
            clear hcn
            have hfm := HK.out.fm
            have hft := HK.out.ft
            have t0 : wr.cell? ⟨T, 0, none⟩ = some (.pointer (some ⟨X + 1, 0, none⟩)) := HK.out.ts 0 (by omega)
            have t1 : wr.cell? ⟨T, 1, none⟩ = some (.pointer (some ⟨X + 1 + 1, 0, none⟩)) := HK.out.ts 1 (by omega)
            have t2 : wr.cell? ⟨T, 2, none⟩ = some (.pointer (some ⟨X + 1 + 2, 0, none⟩)) := HK.out.ts 2 (by omega)
            have l0 : ∀ q, (Instr.lookup 30 (.map (some t)) (.string ⟨#[105, 110, 116, 52]⟩) false).run Ybaf.prog (wr.drewN q) = .ok (.pointer (some ⟨X + 1, 0, none⟩)) (wr.drewN q) := fun q => lookup_types (HK.out.drew q).ty 0 (by omega)
            have l1 : ∀ q, (Instr.lookup 30 (.map (some t)) (.string ⟨#[116, 101, 120, 116]⟩) false).run Ybaf.prog (wr.drewN q) = .ok (.pointer (some ⟨X + 1 + 1, 0, none⟩)) (wr.drewN q) := fun q => lookup_types (HK.out.drew q).ty 1 (by omega)
            have l2 : ∀ q, (Instr.lookup 30 (.map (some t)) (.string ⟨#[98, 111, 111, 108]⟩) false).run Ybaf.prog (wr.drewN q) = .ok (.pointer (some ⟨X + 1 + 2, 0, none⟩)) (wr.drewN q) := fun q => lookup_types (HK.out.drew q).ty 2 (by omega)
            obtain ⟨es, ck, es', ck', z1, z2, z3, z4⟩ := HK.out.lens
            go_upto_region 42 with fail
            refine wp_region_quiet_lit (by kernel_rfl) (by kernel_rfl) ?_
            repeat (first | go_big_quiet_step (fail) | (refine wpQuiet_maplen (.tmp 199) 31 _ _ rfl (by kernel_rfl) m rfl Ybaf.underlying31 es ck z3 ?_; simp only [Act.put, List.setIfInBounds_toArray, List.set_cons_zero, List.set_cons_succ, z1]) | (refine wpQuiet_maplen (.tmp 207) 30 _ _ rfl (by kernel_rfl) t rfl Ybaf.underlying30 es' ck' z4 ?_; simp only [Act.put, List.setIfInBounds_toArray, List.set_cons_zero, List.set_cons_succ, z2]) | (refine wpQuiet_eql25 (.tmp 216) (.tmp 218) rfl (by kernel_rfl) (X + 1) rfl rfl ?_; simp only [Act.put, List.setIfInBounds_toArray, List.set_cons_zero, List.set_cons_succ]) | (refine wpQuiet_eql25 (.tmp 226) (.tmp 228) rfl (by kernel_rfl) (X + 1 + 1) rfl rfl ?_; simp only [Act.put, List.setIfInBounds_toArray, List.set_cons_zero, List.set_cons_succ]) | (refine wpQuiet_eql25 (.tmp 236) (.tmp 238) rfl (by kernel_rfl) (X + 1 + 2) rfl rfl ?_; simp only [Act.put, List.setIfInBounds_toArray, List.set_cons_zero, List.set_cons_succ]))
            refine wpQuiet_nil ?_
            intro _ hw'
            obtain ⟨nq', hw''⟩ := hw'
            subst hw''
            go_wp2_with fail
            go_ret
            exact ⟨rfl, (HK.out.drew nq').bel⟩

end Go.Proofs.YbulkclbwFmt
