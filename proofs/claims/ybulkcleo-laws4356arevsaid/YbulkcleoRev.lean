/-
  (*Revlog).Rev, slices.IndexFunc at entries, the function literal.
-/
import Derived.Test.YbulkcleoFull
namespace Go.Proofs.Ybulkcleo
open Go.RowKit

theorem wpList_load34 {ops : Array Oper} {rest : List Oper} {o : Oper} {a : Act} {w : World} {Q : Exit → Act → World → Prop} (hgd : o.guard = none) (x : Operand) (ho : o.op = .load 34 x) (b off : Nat) (hx : a.eval x = .pointer (some ⟨b, off, none⟩))
    (cs : List Value) (hl : cs.length = 27) (hc : w.rangeAt b off cs) (h : wpList Yba.prog ops Q rest (a.put o.dst (.agg cs.toArray)) w) : wpList Yba.prog ops Q (o :: rest) a w :=
  wpList_load_mid hgd 34 x ho b off hx cs _ hc Yba.underlying34 rfl (by rw [info34, hl]) h

set_option maxRecDepth 100000 in
set_option maxHeartbeats 1000000 in
theorem clo_any (cs : List Value) (m l : List Int) (hm : m.length = 20) (hl : l.length = 20) (hcs : ∀ j v, (bv m)[j]? = some v → cs[7 + j]? = some v) (p : Nat) (w : World) (hp : w.rangeAt p 0 (bv l)) :
    Calls Yba.prog 9 #[.agg cs.toArray, .pointer (some ⟨p, 0, none⟩)] w fun e w' => e = .returned (.bool (m == l)) ∧ Below w.heap.size w w' := by
  have h1 := range_new w cs 34 7 (bv m) hcs
  have h2 := World.rangeAt_alloc hp (.cells cs.toArray 34)
  have e1 := fun wx => eqIn26 m l hm hl wx
  have hbel : Below w.heap.size w (w.alloc (.cells cs.toArray 34)) := (Below.refl _ _).alloc (Nat.le_refl _) _
  go_enter Yba.func9, Yba.ntmps9
  go_wp2_with (first | (refine wpList_boxA rfl 34 _ rfl cs.toArray rfl ?_) | (refine wpList_load26 rfl _ rfl w.heap.size 7 rfl m hm h1 ?_) | (refine wpList_load26 rfl _ rfl p 0 rfl l hl h2 ?_))
  go_ret
  exact ⟨rfl, hbel⟩

set_option maxRecDepth 100000 in
set_option maxHeartbeats 1000000 in
theorem idx_any {b E n : Nat} {nd : Nat → List Int} {w : World} (h : RL b E n nd w) (hfl : Full E n w) (l : List Int) (hl : l.length = 20) (p : Nat) (hp : w.rangeAt p 0 (bv l)) (hpl : p < w.heap.size)
    (f : Nat) (hf : f < n) (hff : (nd f == l) = true) (hfb : ∀ j, j < f → (nd j == l) = false) :
    Calls Yba.prog 8 #[.slice (some ⟨E, 0, none⟩) n n, .func (.func 9) #[] #[.pointer (some ⟨p, 0, none⟩)]] w fun e w' => e = .returned (.int .i64 f) ∧ Below w.heap.size w w' := by
  have HR : Hid (RL b E n nd w) := h
  have HF : Hid (Full E n w) := hfl
  have HP : Hid (w.rangeAt p 0 (bv l)) := hp
  have HB : Hid (∀ j, j < f → (nd j == l) = false) := hfb
  have hle := h.le
  clear h hfl hp hfb
  go_enter Yba.func8, Yba.ntmps8
  go_wp2_with fail
  go_loopw [8] (fun t wr => ∃ k : Nat, k ≤ f ∧ t = .int .i64 k ∧ Below w.heap.size w wr) (fun t _ => f - (intOf t).toNat)
  case atStart => exact ⟨0, by omega, by go_num, Below.refl _ _⟩
  case round =>
    obtain ⟨k, hk, rfl, hbel⟩ := hrel
    have hR := HR.out.below hbel
    obtain ⟨cs, hcl, hcr, hcn⟩ := entry_cells hR (HF.out.below hbel) k (by omega)
    have hpr := range_below HP.out hbel hpl
    have hlk := hR.len k
    have HC : Hid (Calls Yba.prog 9 #[.agg cs.toArray, .pointer (some ⟨p, 0, none⟩)] wr fun e w' => e = .returned (.bool (nd k == l)) ∧ Below wr.heap.size wr w') := clo_any cs (nd k) l hlk hl hcn p wr hpr
    clear hcn hR
    by_cases hkf : k = f
    · subst hkf
      go_wp2_with (first | (refine wpList_load34 rfl _ rfl E (k * 27) rfl cs hcl hcr ?_) | (go_at_call 9; refine HC.out.mono ?_; rintro e w1 ⟨rfl, hb1⟩; rw [hff]))
      go_ret
      exact ⟨rfl, hbel.trans (hb1.mono hbel.size)⟩
    · have hno := HB.out k (by omega)
      go_wp2_with (first | (refine wpList_load34 rfl _ rfl E (k * 27) rfl cs hcl hcr ?_) | (go_at_call 9; refine HC.out.mono ?_; rintro e w1 ⟨rfl, hb1⟩; rw [hno]))
      go_roundw
      case rel => exact ⟨k + 1, by omega, by go_num, hbel.trans (hb1.mono hbel.size)⟩
      case measure => simp [intOf]; omega

set_option maxRecDepth 100000 in
set_option maxHeartbeats 1000000 in
theorem rev_any {b E n : Nat} {nd : Nat → List Int} {w : World} (h : RL b E n nd w) (hfl : Full E n w) (l : List Int) (hl : l.length = 20)
    (f : Nat) (hf : f < n) (hff : (nd f == l) = true) (hfb : ∀ j, j < f → (nd j == l) = false) :
    Calls Yba.prog 7 #[.pointer (some ⟨b, 0, none⟩), .agg (bv l).toArray] w fun e w' => e = .returned (.tuple #[.int .i64 f, .bool true]) ∧ Below w.heap.size w w' := by
  have hbel : Below w.heap.size w (w.alloc (.cells (bv l).toArray 26)) := (Below.refl _ _).alloc (Nat.le_refl _) _
  have hr := range_new w (bv l) 26 0 (bv l) (fun j v hv => by rw [Nat.zero_add]; exact hv)
  have f0 := (h.below hbel).ent
  have HC := idx_any (h.below hbel) (hfl.below hbel) l hl w.heap.size hr (by simp) f hf hff hfb
  have HCH : Hid _ := HC
  have hle := h.le
  clear HC h hfl hfb hff hr
  go_enter Yba.func7, Yba.ntmps7
  go_wp2_with (first | (refine wpList_boxA rfl 26 _ rfl (bv l).toArray rfl ?_) | (go_at_call 8; refine Calls.mono HCH.out ?_; rintro e w1 ⟨rfl, hb1⟩))
  go_ret2
  exact ⟨rfl, hbel.trans (hb1.mono hbel.size)⟩

end Go.Proofs.Ybulkcleo
