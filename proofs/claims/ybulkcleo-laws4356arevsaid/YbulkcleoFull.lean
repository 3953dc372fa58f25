/-
  The builder's contract once more, with every cell of every entry there; the entries read whole.
-/
import Derived.Test.YbulkcleoBuild
namespace Go.Proofs.Ybulkcleo
open Go.RowKit

/-- every cell of the n entries is there -/
def Full (E n : Nat) (w : World) : Prop := ∀ j, j < n * 27 → (w.cell? ⟨E, j, none⟩).isSome = true

theorem full_there {w : World} {E n : Nat} (h : w.there E 0 (n * 27)) : Full E n w := fun j hj => by
  have := (h j hj).1
  rw [Nat.zero_add] at this
  exact this
theorem Full.below {w w' : World} {E n : Nat} (h : Full E n w) (hb : Below w.heap.size w w') : Full E n w' := fun j hj => by
  obtain ⟨v, hv⟩ := Option.isSome_iff_exists.1 (h j hj)
  rw [(hb.cell (p := ⟨E, j, none⟩) (World.block_lt_of_cell? w _ hv)).trans hv]; rfl
theorem full_alloc {w : World} {E n : Nat} (h : Full E n w) (x : Obj) : Full E n (w.alloc x) := h.below ((Below.refl _ _).alloc (Nat.le_refl _) _)

/-- entry i's cells -/
theorem entry_cells {b E n : Nat} {nd : Nat → List Int} {w : World} (h : RL b E n nd w) (hf : Full E n w) (i : Nat) (hi : i < n) :
    ∃ cs : List Value, cs.length = 27 ∧ w.rangeAt E (i * 27) cs ∧ ∀ j v, (bv (nd i))[j]? = some v → cs[7 + j]? = some v := by
  refine ⟨(List.range 27).map fun j => (w.cell? ⟨E, i * 27 + j, none⟩).getD undef, by simp, ?_, ?_⟩
  · intro j v hv
    have hj : j < 27 := by simpa using (List.getElem?_eq_some_iff.1 hv).1
    obtain ⟨u, hu⟩ := Option.isSome_iff_exists.1 (hf (i * 27 + j) (by omega))
    simp [hj, hu] at hv
    rw [hu, hv]
  · intro j v hv
    have hj : j < 20 := by
      have := (List.getElem?_eq_some_iff.1 hv).1
      rw [bv_length, h.len i] at this
      exact this
    have h1 := h.node i hi j v hv
    rw [Nat.add_assoc] at h1
    simp [show 7 + j < 27 by omega, h1]

theorem run_box (P : Program) (t : TypeId) (cs : Array Value) (w : World) : (Instr.box t (.agg cs)).run P w = .ok (.pointer (some ⟨w.heap.size, 0, none⟩)) (w.alloc (.cells cs t)) := rfl
theorem wpList_boxA {w : World} {ops : Array Oper} {rest : List Oper} {o : Oper} {a : Act} {Q : Exit → Act → World → Prop} (hgd : o.guard = none) (t : TypeId) (x : Operand) (ho : o.op = .box t x) (cs : Array Value) (hx : a.eval x = .agg cs)
    (h : wpList Yba.prog ops Q rest (a.put o.dst (.pointer (some ⟨w.heap.size, 0, none⟩))) (w.alloc (.cells cs t))) : wpList Yba.prog ops Q (o :: rest) a w := by
  refine wpList_plain hgd fun K hK => ?_
  unfold Oper.wp
  simp only [execOp, ho, hx]
  simp only [Sem.run_bind, run_box, Result.andThen, Sem.run_pure]
  exact hK _ _ h

theorem range_new (w : World) (cs : List Value) (t : TypeId) (k : Nat) (l : List Value) (h : ∀ j v, l[j]? = some v → cs[k + j]? = some v) : (w.alloc (.cells cs.toArray t)).rangeAt w.heap.size k l := by
  intro j v hv
  rw [cell_of_row _ w.heap.size (k + j) cs.toArray t (0, 0) (new_cells w cs.toArray t)]
  simpa using h j v hv

theorem info34 : (Yba.prog.info? 34).map (·.size) = some 27 := by kernel_rfl

set_option maxRecDepth 100000 in
set_option maxHeartbeats 1000000 in
theorem build_full (a0 : Option Addr) (n cap : Nat) (nd : Nat → List Int) (w : World) (hn : n ≤ 1024) (h : Nodes w a0 n nd) (hlen : ∀ i, (nd i).length = 20) :
    Calls Yba.prog 5 #[.slice a0 n cap] w fun e w' => ∃ b E, e = .returned (.pointer (some ⟨b, 0, none⟩)) ∧ RL b E n nd w' ∧ Full E n w' ∧ Below w.heap.size w w' := by
  obtain ⟨z, hz⟩ := zero34
  have HN : Hid (Nodes w a0 n nd) := h
  have HL : Hid (∀ i, (nd i).length = 20) := hlen
  clear h hlen
  go_enter Yba.func5, Yba.ntmps5
  go_wp2_with (at_make; refine wpList_make_full _ rfl _ _ 29 rfl w.heap.size 34 Yba.t34 z 27 Yba.underlying29 hi34 hz sz34 _ _ _ _ n rfl rfl rfl rfl (by rw [by34]; omega) (by unfold maxLen; omega) (Nat.le_refl _) ?_; intro w1 hown hgrow)
  have hth := there_of_owns hown
  have hbel : Below w.heap.size w w1 := (Below.refl _ w).grown hgrow (Nat.le_refl _) (fun k hk => by cases hk)
  clear hown hgrow hz
  have HTH : Hid (w1.there w.heap.size 0 (n * 27)) := hth
  clear hth
  go_loopw [4] (fun t wr => ∃ k : Nat, k ≤ n ∧ t = .int .i64 k ∧ Hid (wr.there w.heap.size 0 (n * 27)) ∧ Hid (∀ j, j < k → wr.rangeAt w.heap.size (j * 27 + 7) (bv (nd j))) ∧ Below w.heap.size w wr) (fun t _ => n - (intOf t).toNat)
  case atStart => exact ⟨0, by omega, by go_num, HTH, fun j hj => by omega, hbel⟩
  case round =>
    obtain ⟨k, hk, rfl, hth, hrg, hbel1⟩ := hrel
    clear hbel HTH
    by_cases hlt : k < n
    · rcases HN.out with h0 | ⟨g, o, rfl, hg, hc⟩
      · omega
      · have hr := range_below (hc k hlt) hbel1 hg
        have hl := HL.out k
        have ht7 := there_sub hth.out (k * 27 + 7) 20 (by omega) (by omega)
        have ha := World.there_setCells hth.out w.heap.size (k * 27 + 7) (bv (nd k))
        have hb := there_setCell ha ⟨w.heap.size, k * 27 + 5, none⟩ (.int .i64 (-1))
        have hd := there_setCell hb ⟨w.heap.size, k * 27 + 6, none⟩ (.int .i64 (-1))
        have he := there_setCell hd ⟨w.heap.size, k * 27 + 4, none⟩ (.int .i64 k)
        have ht5 := there_sub ha (k * 27 + 5) 1 (by omega) (by omega)
        have ht6 := there_sub hb (k * 27 + 6) 1 (by omega) (by omega)
        have ht4 := there_sub hd (k * 27 + 4) 1 (by omega) (by omega)
        have HE : Hid (Hid _) := he
        have hfr : ∀ j, j < k + 1 → ((((wr.setCells w.heap.size (k * 27 + 7) (bv (nd k))).setCell ⟨w.heap.size, k * 27 + 5, none⟩ (.int .i64 (-1))).setCell ⟨w.heap.size, k * 27 + 6, none⟩ (.int .i64 (-1))).setCell ⟨w.heap.size, k * 27 + 4, none⟩ (.int .i64 k)).rangeAt w.heap.size (j * 27 + 7) (bv (nd j)) := by
          intro j hj
          have hlj : (bv (nd j)).length = 20 := by rw [bv_length, HL.out j]
          have hlk : (bv (nd k)).length = 20 := by rw [bv_length, HL.out k]
          refine range_setCell (range_setCell (range_setCell ?_ _ _ (by omega)) _ _ (by omega)) _ _ (by omega)
          by_cases hjk : j = k
          · subst hjk
            exact World.rangeAt_setCells_same _ _ _ _ (by rw [hlk]; exact ht7)
          · exact World.rangeAt_setCells_apart (hrg.out j (by omega)) _ _ _ (by omega)
        have HFR : Hid _ := hfr
        have hbf : Below w.heap.size w ((((wr.setCells w.heap.size (k * 27 + 7) (bv (nd k))).setCell ⟨w.heap.size, k * 27 + 5, none⟩ (.int .i64 (-1))).setCell ⟨w.heap.size, k * 27 + 6, none⟩ (.int .i64 (-1))).setCell ⟨w.heap.size, k * 27 + 4, none⟩ (.int .i64 k)) :=
          (((below_setCells (Nat.le_refl _) _ _ _ hbel1).setCell (Nat.le_refl _) _).setCell (Nat.le_refl _) _).setCell (Nat.le_refl _) _
        have HBF : Hid _ := hbf
        clear hc ha hb hd he hfr hbf
        go_upto_region 6 with (first | (refine wpList_load25 rfl _ rfl g (o + k * 20) rfl (nd k) hl hr ?_) | (refine wpList_store26 rfl _ _ rfl w.heap.size (k * 27 + 7) (nd k) hl rfl rfl ht7 ?_))
        go_upto_region 7 with (refine wpList_store_int rfl _ _ rfl w.heap.size (k * 27 + 5) (-1) rfl rfl ht5 ?_)
        go_upto_region 8 with (refine wpList_store_int rfl _ _ rfl w.heap.size (k * 27 + 6) (-1) rfl rfl ht6 ?_)
        go_upto_region 4 with (refine wpList_store_int rfl _ _ rfl w.heap.size (k * 27 + 4) k rfl rfl ht4 ?_)
        clear ht4 ht5 ht6 ht7 hr
        go_wp2_with fail
        go_roundw
        case rel => exact ⟨k + 1, by omega, by go_num, HE.out, HFR, HBF.out⟩
        case measure => simp [intOf]; omega
    · obtain rfl : k = n := by omega
      go_wp2_with fail
      go_ret
      refine ⟨wr.heap.size, w.heap.size, rfl, ⟨by go_simp, fun i hi => World.rangeAt_alloc (hrg.out i hi) _, HL.out, hn⟩, full_alloc (full_there hth.out) _, hbel1.alloc hbel1.size _⟩

end Go.Proofs.Ybulkcleo
