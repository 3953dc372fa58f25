/-
  (*loader).addCasts by its contract.
-/
import Derived.Test.YbulkclbwFmtRecs
namespace Go.Proofs.YbulkclbwFmt
open Go.RowKit Go.ChangeMaps Go.Extern.Stop Go.Stop Go.Extern

/-- how it ends: f is the first bad record, or n -/
def CastsPost (l c t m B n f : Nat) (name : ByteArray) (st : Nat → St) (w : World) (e : Ending) (w' : World) : Prop :=
  LC l c t m B name (rowsTo st f) w' ∧ But m w w' ∧
    ((f = n ∧ e = .returned .nilIface) ∨ (f < n ∧ ∃ b, e = .returned (.iface 60 (.pointer (some ⟨b, 0, none⟩))) ∧ w.heap.size ≤ b ∧ w'.cell? ⟨b, 0, none⟩ = some (.string name) ∧ w'.cell? ⟨b, 1, none⟩ = some (.int .i64 (st f).line)))

theorem cx_good : ∀ k, k < 6 → (cx k = ⟨#[105]⟩ ∧ letter k = 105) ∨ (cx k = ⟨#[97]⟩ ∧ letter k = 97) ∨ (cx k = ⟨#[101]⟩ ∧ letter k = 101)
  | 0, _ => Or.inl ⟨rfl, rfl⟩
  | 1, _ => Or.inr (Or.inl ⟨rfl, rfl⟩)
  | 2, _ => Or.inr (Or.inr ⟨rfl, rfl⟩)
  | 3, _ => Or.inl ⟨rfl, rfl⟩
  | 4, _ => Or.inr (Or.inl ⟨rfl, rfl⟩)
  | 5, _ => Or.inr (Or.inr ⟨rfl, rfl⟩)
theorem cx_bad (k : Nat) (h : 6 ≤ k) : cx k = ⟨#[120]⟩ ∨ cx k = ⟨#[]⟩ := by
  by_cases h6 : k = 6
  · subst h6; exact Or.inl rfl
  · right
    match k, h, h6 with
    | k + 7, _, _ => rfl

set_option maxRecDepth 100000 in
set_option maxHeartbeats 2000000 in
theorem addCasts_any (I : Interp) {l c t m B R n f : Nat} {name : ByteArray} {w : World} {F : Nat → Nat} {st : Nat → St} (hF : I.answers w.tape) (h : LC l c t m B name [] w) (hr : ∀ j, j < n → Rec1 R m F (st j) j w)
    (hn : n ≤ 1024) (hlow : ∀ j, (st j).fi < 8 ∧ (st j).ti < 8 ∧ (st j).ci < 8) (hfn : f ≤ n) (hgood : ∀ j, j < f → (st j).bad = false) (hbad : f < n → (st f).bad = true) :
    Calls Ybaf.prog 8 #[.pointer (some ⟨l, 0, none⟩), .slice (some ⟨R, 0, none⟩) n n] w (CastsPost l c t m B n f name st w) := by
  have HH : Hid (LC l c t m B name [] w) := h
  have HR : Hid (∀ j, j < n → Rec1 R m F (st j) j w) := hr
  have HW : Hid (∀ j, (st j).fi < 8 ∧ (st j).ti < 8 ∧ (st j).ci < 8) := hlow
  have HG : Hid (∀ j, j < f → (st j).bad = false) := hgood
  have HB : Hid (f < n → (st f).bad = true) := hbad
  have HF : Hid (I.answers w.tape) := hF
  clear h hr hlow hgood hbad hF
  go_enter Ybaf.func8, Ybaf.ntmps8
  go_wp2_with fail
  go_loopw [13] (fun u wr => ∃ k : Nat, k ≤ f ∧ u = .int .i64 k ∧ Hid (LC l c t m B name (rowsTo st k) wr) ∧ Hid (But m w wr)) (fun u _ => f - (intOf u).toNat)
  case atStart => exact ⟨0, by omega, by go_num, HH, But.refl _ _⟩
  case round =>
    obtain ⟨k, hk, rfl, hlc, hbut⟩ := hrel
    by_cases hkn : k < n
    · have hrec := (HR.out k hkn).but hbut.out
      have r1 := hrec.line
      have r2 := hrec.fields
      have HREC : Hid (Rec1 R m F (st k) k wr) := hrec
      clear hrec
      go_upto_region 4 with fail
      have hb1 : Below wr.heap.size wr (wr.alloc (.cells #[.int .i64 (st k).line, .slice (some ⟨F k, 0, none⟩) 4 4] 56)) := (Below.refl _ _).alloc (Nat.le_refl _) _
      have q1 : (wr.alloc (.cells #[.int .i64 (st k).line, .slice (some ⟨F k, 0, none⟩) 4 4] 56)).cell? ⟨wr.heap.size, 0, none⟩ = some (.int .i64 (st k).line) := by go_simp
      have q2 : (wr.alloc (.cells #[.int .i64 (st k).line, .slice (some ⟨F k, 0, none⟩) 4 4] 56)).cell? ⟨wr.heap.size, 1, none⟩ = some (.slice (some ⟨F k, 0, none⟩) 4 4) := by go_simp
      have hq : wr.heap.size < (wr.alloc (.cells #[.int .i64 (st k).line, .slice (some ⟨F k, 0, none⟩) 4 4] 56)).heap.size := by simp
      have HQM : Hid (m < wr.heap.size) := by
        obtain ⟨es, clock, g1, _⟩ := hlc.out.rows
        exact lt_of_some g1
      have HB1 : Hid (But m w (wr.alloc (.cells #[.int .i64 (st k).line, .slice (some ⟨F k, 0, none⟩) 4 4] 56))) := hbut.out.trans (But.of_below hb1)
      have HL1 : Hid (LC l c t m B name (rowsTo st k) (wr.alloc (.cells #[.int .i64 (st k).line, .slice (some ⟨F k, 0, none⟩) 4 4] 56))) := hlc.out.below hb1
      have HR1 : Hid (Rec1 R m F (st k) k (wr.alloc (.cells #[.int .i64 (st k).line, .slice (some ⟨F k, 0, none⟩) 4 4] 56))) := HREC.out.but (But.of_below hb1)
      clear hb1 r1 r2 HREC hlc hbut
      have hqm : m ≠ wr.heap.size := by have := HQM.out; omega
      clear HQM
      generalize (wr.alloc (.cells #[.int .i64 (st k).line, .slice (some ⟨F k, 0, none⟩) 4 4] 56)) = w1 at *
      generalize wr.heap.size = q at *
      clear wr
      obtain ⟨hw1, hw2, hw3⟩ := HW.out k
      have HT1 : Hid (I.answers w1.tape) := by show I.answers w1.tape; rw [HB1.out.tape]; exact HF.out
      by_cases hf6 : (st k).fi < 6
      · have HC1 : Hid (Calls Ybaf.prog 12 #[.pointer (some ⟨l, 0, none⟩), .agg #[.int .i64 (st k).line, .slice (some ⟨F k, 0, none⟩) 4 4], .int .i64 1] w1 fun e w' => e = .returned (.tuple #[.pointer (some ⟨B + (st k).fi % 3, 0, none⟩), .nilIface]) ∧ Below w1.heap.size w1 w') := req_ok HL1.out.ld _ (F k) 1 (st k).fi (by omega) HR1.out.c1 hf6
        go_upto_region 5 with (go_at_call 12; refine Calls.mono HC1.out ?_; rintro e w2 ⟨rfl, hb2⟩)
        have HL2 : Hid (LC l c t m B name (rowsTo st k) w2) := HL1.out.below hb2
        have HR2 : Hid (Rec1 R m F (st k) k w2) := HR1.out.but (But.of_below hb2)
        have HB2 : Hid (But m w w2) := HB1.out.trans (But.of_below hb2)
        have HT2 : Hid (I.answers w2.tape) := by show I.answers w2.tape; rw [HB2.out.tape]; exact HF.out
        have p1 := (hb2.cell (p := ⟨q, 0, none⟩) hq).trans q1
        have p2 := (hb2.cell (p := ⟨q, 1, none⟩) hq).trans q2
        have hq2 : q < w2.heap.size := Nat.lt_of_lt_of_le hq hb2.size
        clear HL1 HR1 HB1 HT1 q1 q2 hq hb2 HC1
        clear w1
        by_cases ht6 : (st k).ti < 6
        · have HC2 : Hid (Calls Ybaf.prog 12 #[.pointer (some ⟨l, 0, none⟩), .agg #[.int .i64 (st k).line, .slice (some ⟨F k, 0, none⟩) 4 4], .int .i64 2] w2 fun e w' => e = .returned (.tuple #[.pointer (some ⟨B + (st k).ti % 3, 0, none⟩), .nilIface]) ∧ Below w2.heap.size w2 w') := req_ok HL2.out.ld _ (F k) 2 (st k).ti (by omega) HR2.out.c2 ht6
          go_upto_region 8 with (go_at_call 12; refine Calls.mono HC2.out ?_; rintro e w3 ⟨rfl, hb3⟩)
          have HL3 : Hid (LC l c t m B name (rowsTo st k) w3) := HL2.out.below hb3
          have HB3 : Hid (But m w w3) := HB2.out.trans (But.of_below hb3)
          have HT3 : Hid (I.answers w3.tape) := by show I.answers w3.tape; rw [HB3.out.tape]; exact HF.out
          have s1 := (hb3.cell (p := ⟨q, 0, none⟩) hq2).trans p1
          have s2 := (hb3.cell (p := ⟨q, 1, none⟩) hq2).trans p2
          have hc3 := (HR2.out.but (But.of_below hb3)).c3
          have hq3 : q < w3.heap.size := Nat.lt_of_lt_of_le hq2 hb3.size
          clear HL2 HR2 HB2 HT2 p1 p2 hq2 hb3 HC2
          clear w2
          by_cases hc6 : (st k).ci < 6
          · have hkf : k < f := by
              by_cases h : k = f
              · subst h
                have := HB.out hkn
                simp [St.bad] at this
                omega
              · omega
            have hfc := HL3.out.ld.fc
            have H14 : Hid (∀ (x : Int) (wy : World), (∃ nq, wy = w3.drewN nq) → Calls Ybaf.prog 14 #[.pointer (some ⟨c, 0, none⟩), .pointer (some ⟨B + (st k).fi % 3, 0, none⟩), .pointer (some ⟨B + (st k).ti % 3, 0, none⟩), .int .u8 x] wy fun e w' => e = .returned (.tuple #[]) ∧ ∃ es clock, w' = setBlock wy m (.map es clock) ∧ Rep B (upd ((st k).fi % 3) ((st k).ti % 3) x (rowsTo st k)) es.toList) :=
              fun x wy hwy => by
                obtain ⟨nq, rfl⟩ := hwy
                exact addCast_any (w := w3.drewN nq) (HL3.out.below (w' := w3.drewN nq) ⟨rfl, rfl, rfl, Nat.le_refl _, fun _ _ => rfl⟩) _ _ x (Nat.mod_lt _ (by omega)) (Nat.mod_lt _ (by omega))
            have hlm : l ≠ m := fun h => HL3.out.apart.1 h.symm
            have hcx := cx_good _ hc6
            rcases hcx with ⟨h1, h2⟩ | ⟨h1, h2⟩ | ⟨h1, h2⟩
            · rw [h1] at hc3
              go_upto_region 13 with fail
              go_region_held3 (fun wy => wy.cell? ⟨l, 1, none⟩ = some (.pointer (some ⟨c, 0, none⟩))) (first | go_keep | exact (cell_setBlock _ _ _ _ hlm).trans hfc) ((go_at_call 14; refine Calls.mono (H14.out _ _ ⟨1, rfl⟩) ?_; rintro e w4 ⟨rfl, es, clock, rfl, hrep⟩))
              go_wp2_with fail
              go_roundw
              case rel =>
                refine ⟨k + 1, by omega, by go_num, ?_, ?_⟩
                · show LC l c t m B name (upd _ _ (letter (st k).ci) _) _
                  rw [h2]
                  exact (HL3.out.below (w' := w3.drewN 1) ⟨rfl, rfl, rfl, Nat.le_refl _, fun _ _ => rfl⟩).stored hrep
                · exact (HB3.out.trans (But.of_below (w' := w3.drewN 1) ⟨rfl, rfl, rfl, Nat.le_refl _, fun _ _ => rfl⟩)).trans (But.stored m _ _)
              case measure => simp [intOf]; omega
            · rw [h1] at hc3
              go_upto_region 13 with fail
              go_region_held3 (fun wy => wy.cell? ⟨l, 1, none⟩ = some (.pointer (some ⟨c, 0, none⟩))) (first | go_keep | exact (cell_setBlock _ _ _ _ hlm).trans hfc) ((go_at_call 14; refine Calls.mono (H14.out _ _ ⟨1, rfl⟩) ?_; rintro e w4 ⟨rfl, es, clock, rfl, hrep⟩))
              go_wp2_with fail
              go_roundw
              case rel =>
                refine ⟨k + 1, by omega, by go_num, ?_, ?_⟩
                · show LC l c t m B name (upd _ _ (letter (st k).ci) _) _
                  rw [h2]
                  exact (HL3.out.below (w' := w3.drewN 1) ⟨rfl, rfl, rfl, Nat.le_refl _, fun _ _ => rfl⟩).stored hrep
                · exact (HB3.out.trans (But.of_below (w' := w3.drewN 1) ⟨rfl, rfl, rfl, Nat.le_refl _, fun _ _ => rfl⟩)).trans (But.stored m _ _)
              case measure => simp [intOf]; omega
            · rw [h1] at hc3
              go_upto_region 13 with fail
              go_region_held3 (fun wy => wy.cell? ⟨l, 1, none⟩ = some (.pointer (some ⟨c, 0, none⟩))) (first | go_keep | exact (cell_setBlock _ _ _ _ hlm).trans hfc) ((go_at_call 14; refine Calls.mono (H14.out _ _ ⟨1, rfl⟩) ?_; rintro e w4 ⟨rfl, es, clock, rfl, hrep⟩))
              go_wp2_with fail
              go_roundw
              case rel =>
                refine ⟨k + 1, by omega, by go_num, ?_, ?_⟩
                · show LC l c t m B name (upd _ _ (letter (st k).ci) _) _
                  rw [h2]
                  exact (HL3.out.below (w' := w3.drewN 1) ⟨rfl, rfl, rfl, Nat.le_refl _, fun _ _ => rfl⟩).stored hrep
                · exact (HB3.out.trans (But.of_below (w' := w3.drewN 1) ⟨rfl, rfl, rfl, Nat.le_refl _, fun _ _ => rfl⟩)).trans (But.stored m _ _)
              case measure => simp [intOf]; omega
          · have hkf : k = f := by
              by_cases h : k < f
              · have := HG.out k h
                simp [St.bad] at this
                omega
              · omega
            subst hkf
            have hct := HL3.out.ld.fn
            have hlt := World.block_lt_of_cell? w3 _ hct
            have H13 : Hid (∀ (W2 : World) (g : Nat), Below w3.heap.size w3 W2 → W2.cell? ⟨g, 0, none⟩ = some (.iface 9 (.string (cx (st k).ci))) → Calls Ybaf.prog 13 #[.pointer (some ⟨l, 0, none⟩), .int .i64 (st k).line, .string fCtx, .slice (some ⟨g, 0, none⟩) 1 1] W2 (MalPost name (st k).line W2)) :=
              fun W2 g hb hg => mal_ctx I l g _ name (cx (st k).ci) W2 (by rw [hb.tape]; exact HT3.out) ((hb.cell hlt).trans hct) hg
            have hcx := cx_bad _ (by omega : 6 ≤ (st k).ci)
            rcases hcx with h1 | h1
            all_goals
              rw [h1] at hc3 H13
              go_wp2_with (go_at_call 13; refine Calls.mono (H13.out _ _ ((Below.refl _ _).alloc (Nat.le_refl _) _) (by go_simp)) ?_; rintro e w4 ⟨b, rfl, hb1, hb2, hb3, hb4⟩)
              go_ret
              exact ⟨(HL3.out.below ((Below.refl _ _).alloc (Nat.le_refl _) _)).below hb4, (HB3.out.trans (But.of_below ((Below.refl _ _).alloc (Nat.le_refl _) _))).trans (But.of_below hb4), Or.inr ⟨hkn, b, rfl, Nat.le_trans (HB3.out.trans (But.of_below ((Below.refl _ _).alloc (Nat.le_refl _) _))).size hb1, hb2, hb3⟩⟩
        · have hkf : k = f := by
            by_cases h : k < f
            · have := HG.out k h
              simp [St.bad] at this
              omega
            · omega
          subst hkf
          have HCB : Hid (Calls Ybaf.prog 12 #[.pointer (some ⟨l, 0, none⟩), .agg #[.int .i64 (st k).line, .slice (some ⟨F k, 0, none⟩) 4 4], .int .i64 2] w2 (ReqBad name (st k).line w2)) := by
            have hc2 := HR2.out.c2
            by_cases h67 : (st k).ti = 6
            · rw [h67] at hc2; exact req_empty2 I HT2.out HL2.out.ld _ (F k) HR2.out.c0 hc2
            · rw [show (st k).ti = 7 by omega] at hc2; exact req_no I HT2.out HL2.out.ld _ (F k) 2 (by omega) hc2
          go_wp2_with (go_at_call 12; refine Calls.mono HCB.out ?_; rintro e w3 ⟨b, rfl, hb1, hb2, hb3, hb4⟩)
          go_ret
          exact ⟨HL2.out.below hb4, HB2.out.trans (But.of_below hb4), Or.inr ⟨hkn, b, rfl, Nat.le_trans HB2.out.size hb1, hb2, hb3⟩⟩
      · have hkf : k = f := by
          by_cases h : k < f
          · have := HG.out k h
            simp [St.bad] at this
            omega
          · omega
        subst hkf
        have HCB : Hid (Calls Ybaf.prog 12 #[.pointer (some ⟨l, 0, none⟩), .agg #[.int .i64 (st k).line, .slice (some ⟨F k, 0, none⟩) 4 4], .int .i64 1] w1 (ReqBad name (st k).line w1)) := by
          have hc1 := HR1.out.c1
          by_cases h67 : (st k).fi = 6
          · rw [h67] at hc1; exact req_empty1 I HT1.out HL1.out.ld _ (F k) HR1.out.c0 hc1
          · rw [show (st k).fi = 7 by omega] at hc1; exact req_no I HT1.out HL1.out.ld _ (F k) 1 (by omega) hc1
        go_wp2_with (go_at_call 12; refine Calls.mono HCB.out ?_; rintro e w3 ⟨b, rfl, hb1, hb2, hb3, hb4⟩)
        go_ret
        exact ⟨HL1.out.below hb4, HB1.out.trans (But.of_below hb4), Or.inr ⟨hkn, b, rfl, Nat.le_trans HB1.out.size hb1, hb2, hb3⟩⟩
    · obtain rfl : k = n := by omega
      obtain rfl : k = f := by omega
      go_wp2_with fail
      go_ret
      exact ⟨hlc.out, hbut.out, Or.inl ⟨rfl, rfl⟩⟩

end Go.Proofs.YbulkclbwFmt
