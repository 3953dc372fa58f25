/-
  zzs4356abuild by its contract.
-/
import Derived.Test.YbulkcleoNode
namespace Go.Proofs.Ybulkcleo
open Go.RowKit

theorem wpList_store_int {w : World} {ops : Array Oper} {rest : List Oper} {o : Oper} {a : Act} {Q : Exit → Act → World → Prop} (hgd : o.guard = none) (x y : Operand) (ho : o.op = .store 3 x y) (b off : Nat) (v : Int)
    (hx : a.eval x = .pointer (some ⟨b, off, none⟩)) (hy : a.eval y = .int .i64 v) (ht : w.there b off 1)
    (h : wpList Yba.prog ops Q rest (a.put o.dst undef) (w.setCell ⟨b, off, none⟩ (.int .i64 v))) : wpList Yba.prog ops Q (o :: rest) a w := by
  obtain ⟨h1, h2⟩ := ht 0 (by omega)
  rw [Nat.add_zero] at h1 h2
  obtain ⟨u, hu⟩ := Option.isSome_iff_exists.1 h1
  refine wpList_plain hgd fun K hK => ?_
  unfold Oper.wp
  simp only [execOp, ho, hx, hy]
  have hs : (Instr.storeAt 3 (.pointer (some ⟨b, off, none⟩)) (.int .i64 v)).run Yba.prog w = .ok () (w.setCell ⟨b, off, none⟩ (.int .i64 v)) := by
    simp [Instr.storeAt, go_sem, hu, h2]
  simp only [Sem.run_bind, hs, Result.andThen, Sem.run_pure]
  exact hK _ _ h

theorem there_sub {w : World} {b o n : Nat} (h : w.there b o n) (o' n' : Nat) (h1 : o ≤ o') (h2 : o' + n' ≤ o + n) : w.there b o' n' := by
  intro j hj
  have := h (o' - o + j) (by omega)
  rw [show o + (o' - o + j) = o' + j from by omega] at this
  exact this
theorem there_setCell {w : World} {b o n : Nat} (h : w.there b o n) (p : Addr) (v : Value) : (w.setCell p v).there b o n := by
  have := World.there_setCells h p.block p.off [v]
  intro j hj
  obtain ⟨h1, h2⟩ := h j hj
  obtain ⟨u, hu⟩ := Option.isSome_iff_exists.1 h1
  obtain ⟨v', hv'⟩ := cell?_setCell_some (p := p) (x := v) hu
  exact ⟨by rw [hv']; rfl, by rw [World.frozen?_setCell]; exact h2⟩
theorem range_setCell {w : World} {b o : Nat} {cs : List Value} (h : w.rangeAt b o cs) (off : Nat) (v : Value) (hap : off < o ∨ o + cs.length ≤ off) : (w.setCell ⟨b, off, none⟩ v).rangeAt b o cs := by
  intro j u hu
  have hj : j < cs.length := (List.getElem?_eq_some_iff.1 hu).1
  rw [World.cell?_setCell_other _ _ _ _ (fun e => by injection e; omega)]
  exact h j u hu

theorem hi34 : Yba.prog.info? 34 = some Yba.t34 := by kernel_rfl
theorem sz34 : Yba.t34.size = 27 := rfl
theorem by34 : Yba.t34.bytes = 80 := rfl
theorem zero34 : ∃ z, Yba.t34.zero = some z := ⟨_, rfl⟩

theorem there_of_owns {w : World} {base E n : Nat} {xs : List Value} (h : w.ownsRow base 34 27 (.slice (some ⟨E, 0, none⟩) n n) n xs) : w.there E 0 (n * 27) := by
  intro j hj
  rw [Nat.zero_add]
  have hx : xs.length = n * 27 := h.1
  refine ⟨?_, h.frozenAt j⟩
  rw [h.cellAt j hj, List.getElem?_eq_getElem (by omega)]; rfl

/-- the argument: node j's bytes -/
def Nodes (w : World) (a0 : Option Addr) (n : Nat) (nd : Nat → List Int) : Prop :=
  n = 0 ∨ ∃ g o : Nat, a0 = some ⟨g, o, none⟩ ∧ g < w.heap.size ∧ ∀ j, j < n → w.rangeAt g (o + j * 20) (bv (nd j))

theorem range_below {w w' : World} {B g o : Nat} {cs : List Value} (h : w.rangeAt g o cs) (hb : Below B w w') (hg : g < B) : w'.rangeAt g o cs :=
  fun j v hv => (hb.cell (p := ⟨g, o + j, none⟩) hg).trans (h j v hv)

set_option maxRecDepth 100000 in
set_option maxHeartbeats 1000000 in
theorem build_any (a0 : Option Addr) (n cap : Nat) (nd : Nat → List Int) (w : World) (hn : n ≤ 1024) (h : Nodes w a0 n nd) (hlen : ∀ i, (nd i).length = 20) :
    Calls Yba.prog 5 #[.slice a0 n cap] w fun e w' => ∃ b E, e = .returned (.pointer (some ⟨b, 0, none⟩)) ∧ RL b E n nd w' ∧ Below w.heap.size w w' := by
  obtain ⟨z, hz⟩ := zero34
  have HN : Hid (Nodes w a0 n nd) := h
  have HL : Hid (∀ i, (nd i).length = 20) := hlen
  clear h hlen
  go_enter Yba.func5, Yba.ntmps5
  go_wp2_with (at_make; refine wpList_make_full _ rfl _ _ 29 rfl w.heap.size 34 Yba.t34 z 27 Yba.underlying29 hi34 hz sz34 _ _ _ _ n rfl rfl rfl rfl (by rw [by34]; omega) (by unfold maxLen; omega) (Nat.le_refl _) ?_; intro w1 hown hgrow)
  have hth := there_of_owns hown
  have hbel : Below w.heap.size w w1 := (Below.refl _ w).grown hgrow (Nat.le_refl _) (fun k hk => by cases hk)
  clear hown hgrow hz
  have HTH : Hid (w1.there w.heap.size 0 (n * 27)) := hth
  clear hth
  go_loopw [4] (fun t wr => ∃ k : Nat, k ≤ n ∧ t = .int .i64 k ∧ Hid (wr.there w.heap.size 0 (n * 27)) ∧ Hid (∀ j, j < k → wr.rangeAt w.heap.size (j * 27 + 7) (bv (nd j))) ∧ Below w.heap.size w wr) (fun t _ => n - (intOf t).toNat)
  case atStart => exact ⟨0, by omega, by go_num, HTH, fun j hj => by omega, hbel⟩
  case round =>
    obtain ⟨k, hk, rfl, hth, hrg, hbel1⟩ := hrel
    clear hbel HTH
    by_cases hlt : k < n
    · rcases HN.out with h0 | ⟨g, o, rfl, hg, hc⟩
      · omega
      · have hr := range_below (hc k hlt) hbel1 hg
        have hl := HL.out k
        have ht7 := there_sub hth.out (k * 27 + 7) 20 (by omega) (by omega)
        have ha := World.there_setCells hth.out w.heap.size (k * 27 + 7) (bv (nd k))
        have hb := there_setCell ha ⟨w.heap.size, k * 27 + 5, none⟩ (.int .i64 (-1))
        have hd := there_setCell hb ⟨w.heap.size, k * 27 + 6, none⟩ (.int .i64 (-1))
        have he := there_setCell hd ⟨w.heap.size, k * 27 + 4, none⟩ (.int .i64 k)
        have ht5 := there_sub ha (k * 27 + 5) 1 (by omega) (by omega)
        have ht6 := there_sub hb (k * 27 + 6) 1 (by omega) (by omega)
        have ht4 := there_sub hd (k * 27 + 4) 1 (by omega) (by omega)
        have HE : Hid (Hid _) := he
        have hfr : ∀ j, j < k + 1 → ((((wr.setCells w.heap.size (k * 27 + 7) (bv (nd k))).setCell ⟨w.heap.size, k * 27 + 5, none⟩ (.int .i64 (-1))).setCell ⟨w.heap.size, k * 27 + 6, none⟩ (.int .i64 (-1))).setCell ⟨w.heap.size, k * 27 + 4, none⟩ (.int .i64 k)).rangeAt w.heap.size (j * 27 + 7) (bv (nd j)) := by
          intro j hj
          have hlj : (bv (nd j)).length = 20 := by rw [bv_length, HL.out j]
          have hlk : (bv (nd k)).length = 20 := by rw [bv_length, HL.out k]
          refine range_setCell (range_setCell (range_setCell ?_ _ _ (by omega)) _ _ (by omega)) _ _ (by omega)
          by_cases hjk : j = k
          · subst hjk
            exact World.rangeAt_setCells_same _ _ _ _ (by rw [hlk]; exact ht7)
          · exact World.rangeAt_setCells_apart (hrg.out j (by omega)) _ _ _ (by omega)
        have HFR : Hid _ := hfr
        have hbf : Below w.heap.size w ((((wr.setCells w.heap.size (k * 27 + 7) (bv (nd k))).setCell ⟨w.heap.size, k * 27 + 5, none⟩ (.int .i64 (-1))).setCell ⟨w.heap.size, k * 27 + 6, none⟩ (.int .i64 (-1))).setCell ⟨w.heap.size, k * 27 + 4, none⟩ (.int .i64 k)) :=
          (((below_setCells (Nat.le_refl _) _ _ _ hbel1).setCell (Nat.le_refl _) _).setCell (Nat.le_refl _) _).setCell (Nat.le_refl _) _
        have HBF : Hid _ := hbf
        clear hc ha hb hd he hfr hbf
        go_upto_region 6 with (first | (refine wpList_load25 rfl _ rfl g (o + k * 20) rfl (nd k) hl hr ?_) | (refine wpList_store26 rfl _ _ rfl w.heap.size (k * 27 + 7) (nd k) hl rfl rfl ht7 ?_))
        go_upto_region 7 with (refine wpList_store_int rfl _ _ rfl w.heap.size (k * 27 + 5) (-1) rfl rfl ht5 ?_)
        go_upto_region 8 with (refine wpList_store_int rfl _ _ rfl w.heap.size (k * 27 + 6) (-1) rfl rfl ht6 ?_)
        go_upto_region 4 with (refine wpList_store_int rfl _ _ rfl w.heap.size (k * 27 + 4) k rfl rfl ht4 ?_)
        clear ht4 ht5 ht6 ht7 hr
        go_wp2_with fail
        go_roundw
        case rel => exact ⟨k + 1, by omega, by go_num, HE.out, HFR, HBF.out⟩
        case measure => simp [intOf]; omega
    · obtain rfl : k = n := by omega
      go_wp2_with fail
      go_ret
      refine ⟨wr.heap.size, w.heap.size, rfl, ⟨by go_simp, fun i hi => World.rangeAt_alloc (hrg.out i hi) _, HL.out, hn⟩, hbel1.alloc hbel1.size _⟩

end Go.Proofs.Ybulkcleo
