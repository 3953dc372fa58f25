/-
  The law LawS4363AWellFormed: the walk.
-/
import Derived.Test.YbulkcliiAModel
import Derived.Test.YbulkcliiBuilt
namespace Go.Proofs.Ybulkclii
open Go.RowKit

attribute [local go_sem] eqNil

/-- what has been built so far -/
def Bd (w : World) (l : List Int) (t : Value) (wr : World) : Prop :=
  ∃ ta cp, t = .slice ta l.length cp ∧ wr.ownsRow w.heap.size 5 1 (.slice ta l.length cp) l.length (l.map (Value.int .u8)) ∧ Below w.heap.size w wr

theorem one_u8 (c : Int) : ∀ u ∈ [Value.int .u8 c], u.oneCell' = true := by
  intro u hu; simp at hu; subst hu; rfl

theorem own_ge {w : World} {base : Nat} {e : TypeId} {size n : Nat} {v : Value} {xs : List Value} (h : w.ownsRow base e size v n xs) : ∀ k, v.ownBlock = some k → base ≤ k := by
  intro k hk
  rcases h.2 with ⟨rfl, _⟩ | ⟨g, cap, cur, rfl, hg, _⟩
  · simp [Value.ownBlock] at hk
  · simp [Value.ownBlock] at hk; omega

theorem Bd.push {w wr w1 : World} {l : List Int} {v v' : Value} {c : Int} {o : Obj} (hbel : Below w.heap.size w wr) (hown : wr.ownsRow w.heap.size 5 1 v l.length (l.map (Value.int .u8)))
    (hown' : w1.ownsRow w.heap.size 5 1 v' (l.length + 1) (l.map (Value.int .u8) ++ [.int .u8 c])) (hg : (wr.alloc o).grownBy w1 v.ownBlock) : Bd w (l ++ [c]) v' w1 := by
  have h1 : w1.ownsRow w.heap.size 5 1 v' (l ++ [c]).length ((l ++ [c]).map (Value.int .u8)) := by simpa using hown'
  obtain ⟨ta, cp, rfl, _⟩ := text_of_owns h1
  exact ⟨ta, cp, rfl, h1, (hbel.alloc hbel.size o).grown hg (by have := hbel.size; simp; omega) (own_ge hown)⟩

theorem digs_snoc (l zs : List Int) (k : Nat) (h : k < zs.length) : l ++ digs (zs.take (k + 1)) = (l ++ digs (zs.take k)) ++ [48 + pk zs k % 10] := by
  unfold digs
  rw [List.take_succ_eq_append_getElem h, List.map_append, ← List.append_assoc]
  simp [dg, pk, List.getElem?_eq_getElem h]

theorem zero_nil (zs : List Int) (h : zs.length = 0) : true = zeroB zs := by
  rw [List.eq_nil_of_length_eq_zero h]; rfl
theorem zero_cons (zs : List Int) (h : 0 < zs.length) : (pk zs 0 % 10 == 0) = zeroB zs := by
  cases zs with
  | nil => simp at h
  | cons z zs => rfl

set_option maxRecDepth 100000 in
set_option maxHeartbeats 4000000 in
theorem wf_walk (a0 : Option Addr) (len0 cap0 : Nat) (ps : List Int) (neg : Bool) (a2 : Option Addr) (len2 cap2 : Nat) (ws : List Int) (a3 : Option Addr) (len3 cap3 : Nat) (fs : List Int) (a4 : Option Addr) (len4 cap4 : Nat) (es : List Int) (es' ts : Int) (w : World)
    (hl0 : ps.length = len0) (hl2 : ws.length = len2) (hl3 : fs.length = len3) (hl4 : es.length = len4)
    (hsrc : (a0 = none ∧ len0 = 0 ∧ cap0 = 0) ∨ ∃ x, a0 = some x ∧ ∀ j, j < len0 → w.cell? (x.add j) = some (.int .u8 (pk ps j)))
    (ht2 : TextAt w w.heap.size a2 len2 ws) (ht3 : TextAt w w.heap.size a3 len3 fs) (ht4 : TextAt w w.heap.size a4 len4 es)
    (hb2 : ∀ j, 0 ≤ pk ws j ∧ pk ws j ≤ 255) (hb3 : ∀ j, 0 ≤ pk fs j ∧ pk fs j ≤ 255) (hb4 : ∀ j, 0 ≤ pk es j ∧ pk es j ≤ 255)
    (he0 : 0 ≤ es') (he1 : es' ≤ 255) (hs0 : 0 ≤ ts) (hs1 : ts ≤ 255)
    (k0 : len0 ≤ 1024) (k2 : len2 ≤ 1024) (k3 : len3 ≤ 1024) (k4 : len4 ≤ 1024) :
    Calls Yba.prog 4 #[.slice a0 len0 cap0, .bool neg, .slice a2 len2 cap2, .slice a3 len3 cap3, .slice a4 len4 cap4, .int .u8 es', .int .u8 ts] w fun e w' => e = .returned (.bool true) ∧ Below w.heap.size w w' := by
  obtain ⟨i0, hi, hz0, hz1, hz2⟩ := info_parts info5
  have HLps : Hid (ps.length = len0) := hl0
  have HLws : Hid (ws.length = len2) := hl2
  have HLfs : Hid (fs.length = len3) := hl3
  have HLes : Hid (es.length = len4) := hl4
  have HS : Hid ((a0 = none ∧ len0 = 0 ∧ cap0 = 0) ∨ ∃ x, a0 = some x ∧ ∀ j, j < len0 → w.cell? (x.add j) = some (.int .u8 (pk ps j))) := hsrc
  have HT2 : Hid (TextAt w w.heap.size a2 len2 ws) := ht2
  have HT3 : Hid (TextAt w w.heap.size a3 len3 fs) := ht3
  have HT4 : Hid (TextAt w w.heap.size a4 len4 es) := ht4
  have HBws : Hid (∀ j, 0 ≤ pk ws j ∧ pk ws j ≤ 255) := hb2
  have HBfs : Hid (∀ j, 0 ≤ pk fs j ∧ pk fs j ≤ 255) := hb3
  have HBes : Hid (∀ j, 0 ≤ pk es j ∧ pk es j ≤ 255) := hb4
  clear hl0 hl2 hl3 hl4 hsrc ht2 ht3 ht4 hb2 hb3 hb4
  go_enter Yba.func4, Yba.ntmps4
  go_upto_region 3 with fail
  go_cut [15] (fun t wx => Bd w ps t wx)
  case first => as_aux_lemma =>
    rcases HS.out with ⟨rfl, rfl, rfl⟩ | ⟨x, rfl, hx⟩
    · have hp : ps = [] := List.eq_nil_of_length_eq_zero HLps.out
      subst hp
      go_wp2_with (at_builtin; refine wpList_append_own_none rfl _ _ 22 rfl w.heap.size 5 i0 1 Yba.underlying22 hi _ 0 [] rfl (World.ownsRow_nil _ _ _ _) rfl ?_)
      go_meet
      case rel => exact ⟨none, 0, rfl, World.ownsRow_nil _ _ _ _, Below.refl _ _⟩
    · have HX : Hid (∀ j, j < len0 → w.cell? (x.add j) = some (.int .u8 (pk ps j))) := hx
      clear hx
      go_wp2_with (at_builtin; refine wpList_append_own _ rfl _ _ 22 rfl w.heap.size 5 i0 (.int .u8 0) 1 1 Yba.underlying22 hi hz0 hz1 hz2 rfl (by decide) _ 0 [] rfl (World.ownsRow_nil _ _ _ _) x len0 cap0 (ps.map (Value.int .u8)) rfl ?c0 ?c1 ?c2 ?c3 ?c4 (Nat.le_refl _) ?_)
      case c0 => simp [HLps.out]
      case c1 =>
        intro j u hj
        have hjl : j < ps.length := by
          by_cases hlt : j < ps.length
          · exact hlt
          · rw [List.getElem?_eq_none (by simpa using hlt)] at hj; cases hj
        rw [HX.out j (by rw [← HLps.out]; exact hjl), ← hj]
        simp [pk, List.getElem?_eq_getElem hjl]
      case c2 => exact ints_oneCell _ _
      case c3 => unfold maxLen; omega
      case c4 => omega
      · intro v' w1 hown hgrow _
        have hown' : w1.ownsRow w.heap.size 5 1 v' ps.length (ps.map (Value.int .u8)) := by rw [HLps.out]; exact hown
        obtain ⟨ta, cp, rfl, htx⟩ := text_of_owns hown'
        have hbel : Below w.heap.size w w1 := (Below.refl _ w).grown hgrow (Nat.le_refl _) (fun k hk => by simp [Value.ownBlock] at hk)
        clear hown hgrow
        go_wp2_with fail
        go_meet
        case rel => exact ⟨ta, cp, rfl, hown', hbel⟩
  case rest =>
    obtain ⟨ta, cp, rfl, hown, hbel⟩ := hcut
    have hpl : ps.length ≤ 1024 := by rw [HLps.out]; exact k0
    go_upto_if 51 with fail
    go_cut [15] (fun t wx => Bd w (ps ++ negL neg) t wx)
    case first => as_aux_lemma =>
      cases neg with
      | true =>
        go_wp2_with (at_builtin; refine wpList_append_own _ rfl _ _ 22 rfl w.heap.size 5 i0 (.int .u8 0) 1 1 Yba.underlying22 hi hz0 hz1 hz2 rfl (by decide) _ _ _ rfl (hown.alloc _) ⟨wc.heap.size, 0, none⟩ 1 1 [.int .u8 (45)] rfl rfl (cell_one_new _ _ _) (one_u8 _) (by unfold maxLen; omega) (by omega) (by have := hbel.size; simp; omega) ?_; intro v' w1 hown' hgrow _)
        have hB := Bd.push hbel hown hown' hgrow
        clear hown' hgrow
        obtain ⟨ta', cp', rfl, hown2, hbel2⟩ := hB
        go_wp2_with fail
        go_meet
        case rel => exact ⟨_, _, rfl, hown2, hbel2⟩
      | false =>
        go_wp2_with fail
        go_meet
        case rel => simp only [negL]; simp; exact ⟨_, _, rfl, hown, hbel⟩
    case rest =>
      clear hown hbel
      obtain ⟨ta1, cp1, rfl, hown, hbel⟩ := hcut
      have hll : (ps ++ negL neg).length ≤ 1025 := by cases neg <;> simp [negL] <;> omega
      obtain ⟨l, hl⟩ : ∃ l, l = ps ++ negL neg := ⟨_, rfl⟩
      rw [← hl] at hll hown ⊢
      have Hl : Hid (l = ps ++ negL neg) := hl
      clear hl
      go_upto_region 7 with fail
      go_cut [64] (fun t wx => t = .bool (zeroB ws) ∧ wx = wc)
      case first => as_aux_lemma =>
        by_cases h0 : len2 = 0
        · have hb : ((len2 : Int) == 0) = true := by simp [h0]
          have H0 : Hid (len2 = 0) := h0
          clear h0
          go_wp2_with fail
          go_meet
          case rel => exact ⟨congrArg Value.bool (zero_nil ws (by rw [HLws.out]; exact H0.out)), rfl⟩
        · have hb : ((len2 : Int) == 0) = false := by simp [h0]
          rcases HT2.out with h00 | ⟨g, o, rfl, hg, hc⟩
          · exact absurd h00 h0
          · have hck := (hbel.cell (p := ⟨g, o + 0, none⟩) (by exact hg)).trans (hc 0 (by omega))
            rw [Nat.add_zero] at hck
            obtain ⟨pb1, pb2⟩ := HBws.out 0
            clear hc
            go_wp2_with fail
            go_meet
            case rel => exact ⟨congrArg Value.bool (zero_cons ws (by rw [HLws.out]; omega)), rfl⟩
      case rest =>
        obtain ⟨rfl, hw⟩ := hcut; obtain rfl := hw.symm
        go_upto_if 64 with fail
        go_cut [15] (fun t wx => Bd w (l ++ wholeL ws) t wx)
        case first => as_aux_lemma =>
          cases hz : zeroB ws with
          | true =>
            have HW : Hid (wholeL ws = [48]) := by unfold wholeL; rw [if_pos hz]; rfl
            go_wp2_with (at_builtin; refine wpList_append_own _ rfl _ _ 22 rfl w.heap.size 5 i0 (.int .u8 0) 1 1 Yba.underlying22 hi hz0 hz1 hz2 rfl (by decide) _ _ _ rfl (hown.alloc _) ⟨wc.heap.size, 0, none⟩ 1 1 [.int .u8 (48)] rfl rfl (cell_one_new _ _ _) (one_u8 _) (by unfold maxLen; omega) (by omega) (by have := hbel.size; simp; omega) ?_; intro v' w1 hown' hgrow _)
            have hB := Bd.push hbel hown hown' hgrow
            clear hown' hgrow
            obtain ⟨ta', cp', rfl, hown2, hbel2⟩ := hB
            go_wp2_with fail
            go_meet
            case rel => rw [HW.out]; exact ⟨_, _, rfl, hown2, hbel2⟩
          | false =>
            have HW : Hid (wholeL ws = digs ws) := by unfold wholeL; rw [if_neg (by simp [hz])]; rfl
            have hne : 0 < len2 := by
              rw [← HLws.out]
              cases ws with
              | nil => cases hz
              | cons z zs => simp
            clear hz
            rcases HT2.out with h00 | ⟨g, o, rfl, hg, hc⟩
            · omega
            · go_wp2_with fail
              go_loopw [15, 70] (fun v t wr => ∃ k : Nat, k ≤ len2 ∧ t = .int .i64 k ∧ Bd w (l ++ digs (ws.take k)) v wr) (fun _ t _ => len2 - (intOf t).toNat)
              case atStart => exact ⟨0, by omega, by go_num, by simp [digs]; exact ⟨_, _, rfl, hown, hbel⟩⟩
              case round =>
                obtain ⟨k, hk, rfl, ta', cp', rfl, hown1, hbel1⟩ := hrel
                by_cases hlt : k < len2
                · have hck := (hbel1.cell (by exact hg)).trans (hc k hlt)
                  have hpb := HBws.out k
                  have hst : Hid (l ++ digs (ws.take (k + 1)) = (l ++ digs (ws.take k)) ++ [48 + pk ws k % 10]) := digs_snoc l ws k (by rw [HLws.out]; exact hlt)
                  have hll' : (l ++ digs (ws.take k)).length ≤ l.length + 1024 := by simp [digs]; omega
                  obtain ⟨pb1, pb2⟩ := hpb
                  generalize l ++ digs (ws.take k) = l' at *
                  generalize pk ws k = pkk at *
                  clear hown hbel
                  go_wp2_with (first | (at_builtin; refine wpList_append_own _ rfl _ _ 22 rfl w.heap.size 5 i0 (.int .u8 0) 1 1 Yba.underlying22 hi hz0 hz1 hz2 rfl (by decide) _ _ _ rfl (hown1.alloc _) ⟨wr.heap.size, 0, none⟩ 1 1 [.int .u8 (48 + pkk % 10)] rfl rfl (cell_one_new _ _ _) (one_u8 _) (by unfold maxLen; omega) (by omega) (by have := hbel1.size; simp; omega) ?_; intro v' w1 hown' hgrow _))
                  have hB := Bd.push hbel1 hown1 hown' hgrow
                  clear hown' hgrow hown1 hck
                  obtain ⟨ta2, cp2, rfl, hown2, hbel2⟩ := hB
                  go_wp2_with fail
                  go_roundw
                  case rel => exact ⟨k + 1, by omega, by go_num, by rw [hst.out]; exact ⟨_, _, rfl, hown2, hbel2⟩⟩
                  case measure => simp [intOf]; omega
                · have hke : ws.take k = ws := List.take_of_length_le (by rw [HLws.out]; omega)
                  rw [hke] at hown1
                  rw [hke]
                  have HO : Hid (Bd w (l ++ digs ws) (.slice ta' (l ++ digs ws).length cp') wr) := ⟨_, _, rfl, hown1, hbel1⟩
                  clear hke hown1 hbel1 hown hbel
                  go_wp2_with fail
                  go_meet
                  case rel => rw [HW.out]; exact HO.out
        case rest =>
          clear hown hbel
          obtain ⟨ta2, cp2, rfl, hown, hbel⟩ := hcut
          have hll2 : (l ++ wholeL ws).length ≤ 2050 := by
            have := HLws.out
            unfold wholeL
            split <;> simp [digs] <;> omega
          obtain ⟨l2, hl2⟩ : ∃ l2, l2 = l ++ wholeL ws := ⟨_, rfl⟩
          rw [← hl2] at hll2 hown ⊢
          have Hl2 : Hid (l2 = ps ++ negL neg ++ wholeL ws) := by rw [hl2, ← Hl.out]; rfl
          clear hl2 hll Hl
          go_upto_if 83 with fail
          go_cut [15] (fun t wx => Bd w (l2 ++ fracL fs) t wx)
          case first => as_aux_lemma =>
            by_cases hp : 0 < len3
            · have HW : Hid (l2 ++ fracL fs = l2 ++ [46] ++ digs fs) := by
                have := HLfs.out
                cases fs with
                | nil => simp at this; omega
                | cons z zs => show _ = _; simp [fracL]
              rcases HT3.out with h00 | ⟨g, o, rfl, hg, hc⟩
              · omega
              · go_wp2_with (at_builtin; refine wpList_append_own _ rfl _ _ 22 rfl w.heap.size 5 i0 (.int .u8 0) 1 1 Yba.underlying22 hi hz0 hz1 hz2 rfl (by decide) _ _ _ rfl (hown.alloc _) ⟨wc.heap.size, 0, none⟩ 1 1 [.int .u8 (46)] rfl rfl (cell_one_new _ _ _) (one_u8 _) (by unfold maxLen; omega) (by omega) (by have := hbel.size; simp; omega) ?_; intro v' w1 hown' hgrow _)
                have hB := Bd.push hbel hown hown' hgrow
                clear hown' hgrow hown hbel
                obtain ⟨ta3, cp3, rfl, hown, hbel⟩ := hB
                have hll3 : (l2 ++ [46]).length ≤ 2051 := by simp; omega
                obtain ⟨l3, hl3⟩ : ∃ l3, l3 = l2 ++ [46] := ⟨_, rfl⟩
                rw [← hl3] at hll3 hown ⊢
                have HW2 : Hid (l2 ++ fracL fs = l3 ++ digs fs) := by rw [HW.out, hl3]; rfl
                clear hl3
                go_wp2_with fail
                go_loopw [15, 89] (fun v t wr => ∃ k : Nat, k ≤ len3 ∧ t = .int .i64 k ∧ Bd w (l3 ++ digs (fs.take k)) v wr) (fun _ t _ => len3 - (intOf t).toNat)
                case atStart => exact ⟨0, by omega, by go_num, by simp [digs]; exact ⟨_, _, rfl, hown, hbel⟩⟩
                case round =>
                  obtain ⟨k, hk, rfl, ta', cp', rfl, hown1, hbel1⟩ := hrel
                  by_cases hlt : k < len3
                  · have hck := (hbel1.cell (by exact hg)).trans (hc k hlt)
                    have hpb := HBfs.out k
                    have hst : Hid (l3 ++ digs (fs.take (k + 1)) = (l3 ++ digs (fs.take k)) ++ [48 + pk fs k % 10]) := digs_snoc l3 fs k (by rw [HLfs.out]; exact hlt)
                    have hll' : (l3 ++ digs (fs.take k)).length ≤ l3.length + 1024 := by simp [digs]; omega
                    obtain ⟨pb1, pb2⟩ := hpb
                    generalize l3 ++ digs (fs.take k) = l' at *
                    generalize pk fs k = pkk at *
                    clear hown hbel
                    go_wp2_with (first | (at_builtin; refine wpList_append_own _ rfl _ _ 22 rfl w.heap.size 5 i0 (.int .u8 0) 1 1 Yba.underlying22 hi hz0 hz1 hz2 rfl (by decide) _ _ _ rfl (hown1.alloc _) ⟨wr.heap.size, 0, none⟩ 1 1 [.int .u8 (48 + pkk % 10)] rfl rfl (cell_one_new _ _ _) (one_u8 _) (by unfold maxLen; omega) (by omega) (by have := hbel1.size; simp; omega) ?_; intro v' w1 hown' hgrow _))
                    have hB := Bd.push hbel1 hown1 hown' hgrow
                    clear hown' hgrow hown1 hck
                    obtain ⟨ta2, cp2, rfl, hown2, hbel2⟩ := hB
                    go_wp2_with fail
                    go_roundw
                    case rel => exact ⟨k + 1, by omega, by go_num, by rw [hst.out]; exact ⟨_, _, rfl, hown2, hbel2⟩⟩
                    case measure => simp [intOf]; omega
                  · have hke : fs.take k = fs := List.take_of_length_le (by rw [HLfs.out]; omega)
                    rw [hke] at hown1
                    rw [hke]
                    have HO : Hid (Bd w (l3 ++ digs fs) (.slice ta' (l3 ++ digs fs).length cp') wr) := ⟨_, _, rfl, hown1, hbel1⟩
                    clear hke hown1 hbel1 hown hbel
                    go_wp2_with fail
                    go_meet
                    case rel => rw [HW2.out]; exact HO.out
            · have HW : Hid (fracL fs = []) := by
                have := HLfs.out
                cases fs with
                | nil => rfl
                | cons z zs => simp at this; omega
              go_wp2_with fail
              go_meet
              case rel => rw [HW.out, List.append_nil]; exact ⟨_, _, rfl, hown, hbel⟩
          case rest =>
            clear hown hbel
            obtain ⟨ta3, cp3, rfl, hown, hbel⟩ := hcut
            have hll4 : (l2 ++ fracL fs).length ≤ 3080 := by
              have := HLfs.out
              cases fs with
              | nil => simp [fracL]; omega
              | cons z zs => simp [fracL, digs] at *; omega
            obtain ⟨l4, hl4⟩ : ∃ l4, l4 = l2 ++ fracL fs := ⟨_, rfl⟩
            rw [← hl4] at hll4 hown ⊢
            have Hl4 : Hid (l4 = ps ++ negL neg ++ wholeL ws ++ fracL fs) := by rw [hl4, Hl2.out]; rfl
            clear hl4 Hl2 hll2
            have hs6 : 0 ≤ es' % 6 ∧ es' % 6 ≤ 5 := by omega
            obtain ⟨hs60, hs61⟩ := hs6
            go_upto_if 102 with fail
            go_cut [15] (fun t wx => Bd w (l4 ++ expL es (es' % 6)) t wx)
            case first => as_aux_lemma =>
              by_cases hp : 0 < len4
              · have HW : Hid (∀ s, expL es s = letL s :: (sgnL s ++ digs es)) := by
                  intro s
                  have := HLes.out
                  cases es with
                  | nil => simp at this; omega
                  | cons z zs => rfl
                rcases HT4.out with h00 | ⟨g, o, rfl, hg, hc⟩
                · omega
                · go_upto_region 22 with fail
                  go_cut [21] (fun t wx => (∃ s : Int, t = .int .i64 s ∧ 0 ≤ s ∧ s ≤ 5 ∧ Hid (s = es' % 6)) ∧ wx = wc)
                  case first => as_aux_lemma =>
                    go_wp2_with fail
                    go_meet
                    case rel => exact ⟨⟨_, rfl, hs60, hs61, rfl⟩, rfl⟩
                  case rest =>
                    obtain ⟨⟨s, rfl, hs0', hs1', Hs⟩, hw⟩ := hcut; obtain rfl := hw.symm
                    clear hs60 hs61 hw
                    go_upto_if 108 with fail
                    go_cut [15] (fun t wx => Bd w (l4 ++ [letL s]) t wx)
                    case first => as_aux_lemma =>
                      cases hx : (s % 2 == 0) with
                      | true =>
                        have HL : Hid (letL s = 101) := by unfold letL; rw [if_pos (by simpa using hx)]; rfl
                        clear hx
                        go_wp2_with (at_builtin; refine wpList_append_own _ rfl _ _ 22 rfl w.heap.size 5 i0 (.int .u8 0) 1 1 Yba.underlying22 hi hz0 hz1 hz2 rfl (by decide) _ _ _ rfl (hown.alloc _) ⟨wc.heap.size, 0, none⟩ 1 1 [.int .u8 (101)] rfl rfl (cell_one_new _ _ _) (one_u8 _) (by unfold maxLen; omega) (by omega) (by have := hbel.size; simp; omega) ?_; intro v' w1 hown' hgrow _)
                        have hB := Bd.push hbel hown hown' hgrow
                        clear hown' hgrow
                        obtain ⟨ta', cp', rfl, hown2, hbel2⟩ := hB
                        go_wp2_with fail
                        go_meet
                        case rel => rw [HL.out]; exact ⟨_, _, rfl, hown2, hbel2⟩
                      | false =>
                        have HL : Hid (letL s = 69) := by unfold letL; rw [if_neg (by simpa using hx)]; rfl
                        clear hx
                        go_wp2_with (at_builtin; refine wpList_append_own _ rfl _ _ 22 rfl w.heap.size 5 i0 (.int .u8 0) 1 1 Yba.underlying22 hi hz0 hz1 hz2 rfl (by decide) _ _ _ rfl (hown.alloc _) ⟨wc.heap.size, 0, none⟩ 1 1 [.int .u8 (69)] rfl rfl (cell_one_new _ _ _) (one_u8 _) (by unfold maxLen; omega) (by omega) (by have := hbel.size; simp; omega) ?_; intro v' w1 hown' hgrow _)
                        have hB := Bd.push hbel hown hown' hgrow
                        clear hown' hgrow
                        obtain ⟨ta', cp', rfl, hown2, hbel2⟩ := hB
                        go_wp2_with fail
                        go_meet
                        case rel => rw [HL.out]; exact ⟨_, _, rfl, hown2, hbel2⟩
                    case rest =>
                      clear hown hbel
                      obtain ⟨ta5, cp5, rfl, hown, hbel⟩ := hcut
                      have hll5 : (l4 ++ [letL s]).length ≤ 3090 := by simp; omega
                      obtain ⟨l5, hl5⟩ : ∃ l5, l5 = l4 ++ [letL s] := ⟨_, rfl⟩
                      rw [← hl5] at hll5 hown ⊢
                      have H5 : Hid (l5 = l4 ++ [letL s]) := hl5
                      clear hl5
                      go_upto_if 117 with fail
                      go_cut [15] (fun t wx => Bd w (l5 ++ sgnL s) t wx)
                      case first => as_aux_lemma =>
                        cases hx : (s / 2 == 1) with
                        | true =>
                          have HL : Hid (sgnL s = [43]) := by unfold sgnL; rw [if_pos (by simpa using hx)]; rfl
                          clear hx
                          go_wp2_with (at_builtin; refine wpList_append_own _ rfl _ _ 22 rfl w.heap.size 5 i0 (.int .u8 0) 1 1 Yba.underlying22 hi hz0 hz1 hz2 rfl (by decide) _ _ _ rfl (hown.alloc _) ⟨wc.heap.size, 0, none⟩ 1 1 [.int .u8 (43)] rfl rfl (cell_one_new _ _ _) (one_u8 _) (by unfold maxLen; omega) (by omega) (by have := hbel.size; simp; omega) ?_; intro v' w1 hown' hgrow _)
                          have hB := Bd.push hbel hown hown' hgrow
                          clear hown' hgrow
                          obtain ⟨ta', cp', rfl, hown2, hbel2⟩ := hB
                          go_wp2_with fail
                          go_meet
                          case rel => rw [HL.out]; exact ⟨_, _, rfl, hown2, hbel2⟩
                        | false =>
                          by_cases hy : s / 2 = 2
                          · have hyb : (s / 2 == 2) = true := by simp [hy]
                            have HL : Hid (sgnL s = [45]) := by unfold sgnL; rw [if_neg (by simpa using hx), if_pos hy]; rfl
                            clear hx hy
                            go_wp2_with (at_builtin; refine wpList_append_own _ rfl _ _ 22 rfl w.heap.size 5 i0 (.int .u8 0) 1 1 Yba.underlying22 hi hz0 hz1 hz2 rfl (by decide) _ _ _ rfl (hown.alloc _) ⟨wc.heap.size, 0, none⟩ 1 1 [.int .u8 (45)] rfl rfl (cell_one_new _ _ _) (one_u8 _) (by unfold maxLen; omega) (by omega) (by have := hbel.size; simp; omega) ?_; intro v' w1 hown' hgrow _)
                            have hB := Bd.push hbel hown hown' hgrow
                            clear hown' hgrow
                            obtain ⟨ta', cp', rfl, hown2, hbel2⟩ := hB
                            go_wp2_with fail
                            go_meet
                            case rel => rw [HL.out]; exact ⟨_, _, rfl, hown2, hbel2⟩
                          · have hyb : (s / 2 == 2) = false := by simp [hy]
                            have HL : Hid (sgnL s = []) := by unfold sgnL; rw [if_neg (by simpa using hx), if_neg hy]; rfl
                            clear hx hy
                            go_wp2_with fail
                            go_meet
                            case rel => rw [HL.out, List.append_nil]; exact ⟨_, _, rfl, hown, hbel⟩
                      case rest =>
                        clear hown hbel
                        obtain ⟨ta6, cp6, rfl, hown, hbel⟩ := hcut
                        have hll6 : (l5 ++ sgnL s).length ≤ 3100 := by unfold sgnL; split <;> (try split) <;> simp <;> omega
                        obtain ⟨l6, hl6⟩ : ∃ l6, l6 = l5 ++ sgnL s := ⟨_, rfl⟩
                        rw [← hl6] at hll6 hown ⊢
                        have HF : Hid (l4 ++ expL es (es' % 6) = l6 ++ digs es) := by
                          show _ = _
                          rw [← Hs.out, HW.out s, hl6, H5.out]
                          simp
                        clear hl6 H5 hll5 hll4 HW Hs
                        go_wp2_with fail
                        go_loopw [15, 129] (fun v t wr => ∃ k : Nat, k ≤ len4 ∧ t = .int .i64 k ∧ Bd w (l6 ++ digs (es.take k)) v wr) (fun _ t _ => len4 - (intOf t).toNat)
                        case atStart => exact ⟨0, by omega, by go_num, by simp [digs]; exact ⟨_, _, rfl, hown, hbel⟩⟩
                        case round =>
                          obtain ⟨k, hk, rfl, ta', cp', rfl, hown1, hbel1⟩ := hrel
                          by_cases hlt : k < len4
                          · have hck := (hbel1.cell (by exact hg)).trans (hc k hlt)
                            have hpb := HBes.out k
                            have hst : Hid (l6 ++ digs (es.take (k + 1)) = (l6 ++ digs (es.take k)) ++ [48 + pk es k % 10]) := digs_snoc l6 es k (by rw [HLes.out]; exact hlt)
                            have hll' : (l6 ++ digs (es.take k)).length ≤ l6.length + 1024 := by simp [digs]; omega
                            obtain ⟨pb1, pb2⟩ := hpb
                            generalize l6 ++ digs (es.take k) = l' at *
                            generalize pk es k = pkk at *
                            clear hown hbel
                            go_wp2_with (first | (at_builtin; refine wpList_append_own _ rfl _ _ 22 rfl w.heap.size 5 i0 (.int .u8 0) 1 1 Yba.underlying22 hi hz0 hz1 hz2 rfl (by decide) _ _ _ rfl (hown1.alloc _) ⟨wr.heap.size, 0, none⟩ 1 1 [.int .u8 (48 + pkk % 10)] rfl rfl (cell_one_new _ _ _) (one_u8 _) (by unfold maxLen; omega) (by omega) (by have := hbel1.size; simp; omega) ?_; intro v' w1 hown' hgrow _))
                            have hB := Bd.push hbel1 hown1 hown' hgrow
                            clear hown' hgrow hown1 hck
                            obtain ⟨ta2, cp2, rfl, hown2, hbel2⟩ := hB
                            go_wp2_with fail
                            go_roundw
                            case rel => exact ⟨k + 1, by omega, by go_num, by rw [hst.out]; exact ⟨_, _, rfl, hown2, hbel2⟩⟩
                            case measure => simp [intOf]; omega
                          · have hke : es.take k = es := List.take_of_length_le (by rw [HLes.out]; omega)
                            rw [hke] at hown1
                            rw [hke]
                            have HO : Hid (Bd w (l6 ++ digs es) (.slice ta' (l6 ++ digs es).length cp') wr) := ⟨_, _, rfl, hown1, hbel1⟩
                            clear hke hown1 hbel1 hown hbel
                            go_wp2_with fail
                            go_meet
                            case rel => rw [HF.out]; exact HO.out
              · have HW : Hid (expL es (es' % 6) = []) := by
                  have := HLes.out
                  cases es with
                  | nil => rfl
                  | cons z zs => simp at this; omega
                go_wp2_with fail
                go_meet
                case rel => rw [HW.out, List.append_nil]; exact ⟨_, _, rfl, hown, hbel⟩
            case rest =>
              clear hown hbel
              obtain ⟨ta7, cp7, rfl, hown, hbel⟩ := hcut
              have hll7 : (l4 ++ expL es (es' % 6)).length ≤ 4200 := by
                have := HLes.out
                have h5 : (sgnL (es' % 6)).length ≤ 1 := by unfold sgnL; split <;> (try split) <;> simp
                cases es with
                | nil => simp [expL]; omega
                | cons z zs => simp [expL, digs] at *; omega
              obtain ⟨l7, hl7⟩ : ∃ l7, l7 = l4 ++ expL es (es' % 6) := ⟨_, rfl⟩
              rw [← hl7] at hll7 hown ⊢
              have Hl7 : Hid (l7 = ps ++ negL neg ++ wholeL ws ++ fracL fs ++ expL es (es' % 6)) := by show _ = _; rw [hl7, Hl4.out]
              clear hl7 Hl4 hll4 hs60 hs61
              have ht10 : 0 ≤ ts % 11 ∧ ts % 11 ≤ 10 := by omega
              obtain ⟨ht11, ht12⟩ := ht10
              go_upto_region 37 with fail
              go_cut [26] (fun t wx => (∃ k : Int, t = .int .i64 k ∧ 0 ≤ k ∧ k ≤ 10) ∧ wx = wc)
              case first => as_aux_lemma =>
                go_wp2_with fail
                go_meet
                case rel => exact ⟨⟨_, rfl, ht11, ht12⟩, rfl⟩
              case rest =>
                obtain ⟨⟨k, rfl, hk0, hk1⟩, hw⟩ := hcut; obtain rfl := hw.symm
                clear hw ht11 ht12
                go_upto_if 148 with fail
                go_cut [15] (fun v wx => ∃ t : List Int, t.length ≤ 1 ∧ stopB (t.headD 0) ∧ Bd w (l7 ++ t) v wx)
                case first => as_aux_lemma =>
                  by_cases hk10 : k = 10
                  · subst hk10
                    go_wp2_with fail
                    go_meet
                    case rel => exact ⟨[], by simp, ⟨rfl, by decide, by decide, by decide⟩, by rw [List.append_nil]; exact ⟨_, _, rfl, hown, hbel⟩⟩
                  · rcases (show k = 0 ∨ k = 1 ∨ k = 2 ∨ k = 3 ∨ k = 4 ∨ k = 5 ∨ k = 6 ∨ k = 7 ∨ k = 8 ∨ k = 9 from by omega) with rfl | rfl | rfl | rfl | rfl | rfl | rfl | rfl | rfl | rfl
                    · go_wp2_with (at_builtin; refine wpList_append_own _ rfl _ _ 22 rfl w.heap.size 5 i0 (.int .u8 0) 1 1 Yba.underlying22 hi hz0 hz1 hz2 rfl (by decide) _ _ _ rfl (hown.alloc _) ⟨wc.heap.size, 0, none⟩ 1 1 [.int .u8 (32)] rfl rfl (cell_one_new _ _ _) (one_u8 _) (by unfold maxLen; omega) (by omega) (by have := hbel.size; simp; omega) ?_; intro v' w1 hown' hgrow _)
                      have hB := Bd.push hbel hown hown' hgrow
                      clear hown' hgrow
                      obtain ⟨ta', cp', rfl, hown2, hbel2⟩ := hB
                      go_wp2_with fail
                      go_meet
                      case rel => exact ⟨[32], by simp, ⟨rfl, by decide, by decide, by decide⟩, ⟨_, _, rfl, hown2, hbel2⟩⟩
                    · go_wp2_with (at_builtin; refine wpList_append_own _ rfl _ _ 22 rfl w.heap.size 5 i0 (.int .u8 0) 1 1 Yba.underlying22 hi hz0 hz1 hz2 rfl (by decide) _ _ _ rfl (hown.alloc _) ⟨wc.heap.size, 0, none⟩ 1 1 [.int .u8 (44)] rfl rfl (cell_one_new _ _ _) (one_u8 _) (by unfold maxLen; omega) (by omega) (by have := hbel.size; simp; omega) ?_; intro v' w1 hown' hgrow _)
                      have hB := Bd.push hbel hown hown' hgrow
                      clear hown' hgrow
                      obtain ⟨ta', cp', rfl, hown2, hbel2⟩ := hB
                      go_wp2_with fail
                      go_meet
                      case rel => exact ⟨[44], by simp, ⟨rfl, by decide, by decide, by decide⟩, ⟨_, _, rfl, hown2, hbel2⟩⟩
                    · go_wp2_with (at_builtin; refine wpList_append_own _ rfl _ _ 22 rfl w.heap.size 5 i0 (.int .u8 0) 1 1 Yba.underlying22 hi hz0 hz1 hz2 rfl (by decide) _ _ _ rfl (hown.alloc _) ⟨wc.heap.size, 0, none⟩ 1 1 [.int .u8 (93)] rfl rfl (cell_one_new _ _ _) (one_u8 _) (by unfold maxLen; omega) (by omega) (by have := hbel.size; simp; omega) ?_; intro v' w1 hown' hgrow _)
                      have hB := Bd.push hbel hown hown' hgrow
                      clear hown' hgrow
                      obtain ⟨ta', cp', rfl, hown2, hbel2⟩ := hB
                      go_wp2_with fail
                      go_meet
                      case rel => exact ⟨[93], by simp, ⟨rfl, by decide, by decide, by decide⟩, ⟨_, _, rfl, hown2, hbel2⟩⟩
                    · go_wp2_with (at_builtin; refine wpList_append_own _ rfl _ _ 22 rfl w.heap.size 5 i0 (.int .u8 0) 1 1 Yba.underlying22 hi hz0 hz1 hz2 rfl (by decide) _ _ _ rfl (hown.alloc _) ⟨wc.heap.size, 0, none⟩ 1 1 [.int .u8 (125)] rfl rfl (cell_one_new _ _ _) (one_u8 _) (by unfold maxLen; omega) (by omega) (by have := hbel.size; simp; omega) ?_; intro v' w1 hown' hgrow _)
                      have hB := Bd.push hbel hown hown' hgrow
                      clear hown' hgrow
                      obtain ⟨ta', cp', rfl, hown2, hbel2⟩ := hB
                      go_wp2_with fail
                      go_meet
                      case rel => exact ⟨[125], by simp, ⟨rfl, by decide, by decide, by decide⟩, ⟨_, _, rfl, hown2, hbel2⟩⟩
                    · go_wp2_with (at_builtin; refine wpList_append_own _ rfl _ _ 22 rfl w.heap.size 5 i0 (.int .u8 0) 1 1 Yba.underlying22 hi hz0 hz1 hz2 rfl (by decide) _ _ _ rfl (hown.alloc _) ⟨wc.heap.size, 0, none⟩ 1 1 [.int .u8 (120)] rfl rfl (cell_one_new _ _ _) (one_u8 _) (by unfold maxLen; omega) (by omega) (by have := hbel.size; simp; omega) ?_; intro v' w1 hown' hgrow _)
                      have hB := Bd.push hbel hown hown' hgrow
                      clear hown' hgrow
                      obtain ⟨ta', cp', rfl, hown2, hbel2⟩ := hB
                      go_wp2_with fail
                      go_meet
                      case rel => exact ⟨[120], by simp, ⟨rfl, by decide, by decide, by decide⟩, ⟨_, _, rfl, hown2, hbel2⟩⟩
                    · go_wp2_with (at_builtin; refine wpList_append_own _ rfl _ _ 22 rfl w.heap.size 5 i0 (.int .u8 0) 1 1 Yba.underlying22 hi hz0 hz1 hz2 rfl (by decide) _ _ _ rfl (hown.alloc _) ⟨wc.heap.size, 0, none⟩ 1 1 [.int .u8 (34)] rfl rfl (cell_one_new _ _ _) (one_u8 _) (by unfold maxLen; omega) (by omega) (by have := hbel.size; simp; omega) ?_; intro v' w1 hown' hgrow _)
                      have hB := Bd.push hbel hown hown' hgrow
                      clear hown' hgrow
                      obtain ⟨ta', cp', rfl, hown2, hbel2⟩ := hB
                      go_wp2_with fail
                      go_meet
                      case rel => exact ⟨[34], by simp, ⟨rfl, by decide, by decide, by decide⟩, ⟨_, _, rfl, hown2, hbel2⟩⟩
                    · go_wp2_with (at_builtin; refine wpList_append_own _ rfl _ _ 22 rfl w.heap.size 5 i0 (.int .u8 0) 1 1 Yba.underlying22 hi hz0 hz1 hz2 rfl (by decide) _ _ _ rfl (hown.alloc _) ⟨wc.heap.size, 0, none⟩ 1 1 [.int .u8 (45)] rfl rfl (cell_one_new _ _ _) (one_u8 _) (by unfold maxLen; omega) (by omega) (by have := hbel.size; simp; omega) ?_; intro v' w1 hown' hgrow _)
                      have hB := Bd.push hbel hown hown' hgrow
                      clear hown' hgrow
                      obtain ⟨ta', cp', rfl, hown2, hbel2⟩ := hB
                      go_wp2_with fail
                      go_meet
                      case rel => exact ⟨[45], by simp, ⟨rfl, by decide, by decide, by decide⟩, ⟨_, _, rfl, hown2, hbel2⟩⟩
                    · go_wp2_with (at_builtin; refine wpList_append_own _ rfl _ _ 22 rfl w.heap.size 5 i0 (.int .u8 0) 1 1 Yba.underlying22 hi hz0 hz1 hz2 rfl (by decide) _ _ _ rfl (hown.alloc _) ⟨wc.heap.size, 0, none⟩ 1 1 [.int .u8 (43)] rfl rfl (cell_one_new _ _ _) (one_u8 _) (by unfold maxLen; omega) (by omega) (by have := hbel.size; simp; omega) ?_; intro v' w1 hown' hgrow _)
                      have hB := Bd.push hbel hown hown' hgrow
                      clear hown' hgrow
                      obtain ⟨ta', cp', rfl, hown2, hbel2⟩ := hB
                      go_wp2_with fail
                      go_meet
                      case rel => exact ⟨[43], by simp, ⟨rfl, by decide, by decide, by decide⟩, ⟨_, _, rfl, hown2, hbel2⟩⟩
                    · go_wp2_with (at_builtin; refine wpList_append_own _ rfl _ _ 22 rfl w.heap.size 5 i0 (.int .u8 0) 1 1 Yba.underlying22 hi hz0 hz1 hz2 rfl (by decide) _ _ _ rfl (hown.alloc _) ⟨wc.heap.size, 0, none⟩ 1 1 [.int .u8 (97)] rfl rfl (cell_one_new _ _ _) (one_u8 _) (by unfold maxLen; omega) (by omega) (by have := hbel.size; simp; omega) ?_; intro v' w1 hown' hgrow _)
                      have hB := Bd.push hbel hown hown' hgrow
                      clear hown' hgrow
                      obtain ⟨ta', cp', rfl, hown2, hbel2⟩ := hB
                      go_wp2_with fail
                      go_meet
                      case rel => exact ⟨[97], by simp, ⟨rfl, by decide, by decide, by decide⟩, ⟨_, _, rfl, hown2, hbel2⟩⟩
                    · go_wp2_with (at_builtin; refine wpList_append_own _ rfl _ _ 22 rfl w.heap.size 5 i0 (.int .u8 0) 1 1 Yba.underlying22 hi hz0 hz1 hz2 rfl (by decide) _ _ _ rfl (hown.alloc _) ⟨wc.heap.size, 0, none⟩ 1 1 [.int .u8 (0)] rfl rfl (cell_one_new _ _ _) (one_u8 _) (by unfold maxLen; omega) (by omega) (by have := hbel.size; simp; omega) ?_; intro v' w1 hown' hgrow _)
                      have hB := Bd.push hbel hown hown' hgrow
                      clear hown' hgrow
                      obtain ⟨ta', cp', rfl, hown2, hbel2⟩ := hB
                      go_wp2_with fail
                      go_meet
                      case rel => exact ⟨[0], by simp, ⟨rfl, by decide, by decide, by decide⟩, ⟨_, _, rfl, hown2, hbel2⟩⟩
                case rest =>
                  clear hown hbel
                  obtain ⟨t, htl, hts, ta8, cp8, rfl, hown, hbel⟩ := hcut
                  have HX : Hid (numL (l7 ++ t) ps.length = (true, l7.length)) := by
                    have h := built_num ps neg ws fs es (es' % 6) t hts
                    show _ = _
                    rw [Hl7.out]
                    simp only [List.append_assoc] at h ⊢
                    rw [h]
                    simp [Nat.add_assoc]
                  have hple : ps.length ≤ (l7 ++ t).length := by rw [Hl7.out]; simp <;> omega
                  have hll8 : (l7 ++ t).length ≤ 4201 := by simp; omega
                  obtain ⟨ta9, cp9, he9, htx⟩ := text_of_owns hown
                  obtain ⟨rfl, rfl⟩ : ta8 = ta9 ∧ cp8 = cp9 := by simpa using he9
                  have HTX : Hid (TextAt wc wc.heap.size ta8 (l7 ++ t).length (l7 ++ t)) := htx
                  obtain ⟨l8, hl8⟩ : ∃ l8, l8 = l7 ++ t := ⟨_, rfl⟩
                  rw [← hl8] at HX HTX hple hll8 ⊢
                  clear hown htx he9 htl hts hl8 Hl7
                  go_wp2_with fail
                  refine (number_any (VS.start 0 ps.length HTX.out rfl hple) (by omega)).mono ?_
                  rintro e w2 ⟨rfl, hv⟩
                  rw [HX.out] at hv ⊢
                  have hb2 : Below w.heap.size w w2 := (hbel.alloc hbel.size _).trans (hv.bel.mono hbel.size)
                  have f0 := hv.f0
                  have f1 := hv.f1
                  have f2 := hv.f2
                  have f3 := hv.f3
                  clear hv hbel
                  go_wp2_with fail
                  go_ret
                  exact ⟨rfl, hb2⟩

end Go.Proofs.Ybulkclii
