/-
  zzs4355cval by its contract; the law where the map is nil.
-/
import Derived.Test.YbulkcleaRows
import Derived.Test.YbulkcleaPlain
import Derived.WalkKit
import Derived.WalkSpells
import Derived.WalkLawsBesides
import Derived.Deep.QuietTactic
import Derived.BigQuiet
import Derived.Deep.DeepCutAuto
import Derived.Deep.CutBlock
import Derived.Deep.Light
import Derived.Deep.RegionHeld3
namespace Go.Proofs.Ybulkclea
open Go.RowKit Go.Maps

theorem ret_int {k : IntKind} {a b : Int} (h : a = b) : Ending.returned (.int k a) = .returned (.int k b) := by rw [h]

/-- the numbers of a slice: its cells lie below block B -/
def RowAt (w : World) (B : Nat) (ta : Option Addr) (len : Nat) (zs : List Int) : Prop :=
  len = 0 ∨ ∃ g o : Nat, ta = some ⟨g, o, none⟩ ∧ g < B ∧ ∀ j, j < len → w.cell? ⟨g, o + j, none⟩ = some (.int .i32 (nth zs j))

theorem RowAt.below {w w' : World} {B B' : Nat} {ta : Option Addr} {len : Nat} {zs : List Int} (h : RowAt w B ta len zs) (hb : Below B w w') (hB : B ≤ B') : RowAt w' B' ta len zs := by
  rcases h with h0 | ⟨g, o, e, hg, hc⟩
  · exact Or.inl h0
  · exact Or.inr ⟨g, o, e, by omega, fun j hj => (hb.cell (by exact hg)).trans (hc j hj)⟩

theorem nth_end (zs : List Int) (i : Nat) (h : zs.length ≤ i) : nth zs i = 0 := by
  unfold nth; rw [List.getD_eq_getElem?_getD, List.getElem?_eq_none h]; rfl

set_option maxHeartbeats 400000 in
theorem cval_any {w : World} {B : Nat} {ta : Option Addr} {len cap i : Nat} {zs : List Int} (h : RowAt w B ta len zs) (hl : zs.length = len) (hi : i ≤ 100000) :
    Calls Yba.prog 9 #[.slice ta len cap, .int .i64 i] w fun e w' => e = .returned (.int .i32 (nth zs i)) ∧ w' = w := by
  by_cases hlt : i < len
  · rcases h with h0 | ⟨g, o, rfl, hg, hc⟩
    · omega
    · have hci := hc i hlt
      clear hc
      go_enter Yba.func9, Yba.ntmps9
      go_wp2
      go_ret
      exact ⟨rfl, rfl⟩
  · have hz := nth_end zs i (by omega)
    have HZ : Hid (nth zs i = 0) := hz
    clear h hz
    go_enter Yba.func9, Yba.ntmps9
    go_wp2
    go_ret
    exact ⟨ret_int HZ.out.symm, rfl⟩

theorem eqNone (w : World) : (binOp .eql 40 (.map none) (.map none)).run Yba.prog w = .ok (.bool true) w := by kernel_rfl
theorem eqSome (b : Nat) (w : World) : (binOp .eql 40 (.map (some b)) (.map none)).run Yba.prog w = .ok (.bool false) w := by kernel_rfl
attribute [local go_sem] eqNone eqSome

/-- the zero message -/
def zeroMsg : Array Value := #[.float .f64 0, .bool false, .string ⟨#[]⟩, .slice none 0 0, .int .i64 0, .int .u64 0, .int .i32 0, .pointer none, .slice none 0 0, .slice none 0 0, .slice none 0 0, .slice none 0 0, .slice none 0 0,
  .slice none 0 0, .slice none 0 0, .slice none 0 0, .slice none 0 0, .float .f32 0, .int .i32 0, .int .u32 0, .int .i32 0, .int .i64 0, .int .u32 0, .int .u64 0, .int .i32 0, .int .i64 0, .slice none 0 0, .slice none 0 0, .map none, .map none,
  .map none, .map none, .map none, .int .u32 0, .slice none 0 0]
theorem build46 (w : World) : (Instr.build 46 #[]).run Yba.prog w = .ok (.agg zeroMsg) w := by kernel_rfl
theorem box46 (w : World) : (Instr.box 46 (.agg zeroMsg)).run Yba.prog w = .ok (.pointer (some ⟨w.heap.size, 0, none⟩)) (w.alloc (.cells zeroMsg 46)) := by kernel_rfl

/-- the message in the first new block: its field i, its field by_sint -/
structure MS (w : World) (iv : Int) (m : Option Nat) (wx : World) : Prop where
  fi : wx.cell? ⟨w.heap.size, 4, none⟩ = some (.int .i64 iv)
  fm : wx.cell? ⟨w.heap.size, 30, none⟩ = some (.map m)
  fz : ∀ j, wx.frozen? ⟨w.heap.size, j, none⟩ = false
  size : w.heap.size + 1 ≤ wx.heap.size
  bel : Below w.heap.size w wx

theorem MS.start (w : World) : MS w 0 none (w.alloc (.cells zeroMsg 46)) := by
  refine ⟨?_, ?_, fun j => by go_simp, by simp, (Below.refl _ _).alloc (Nat.le_refl _) _⟩
  · go_simp; rfl
  · go_simp; rfl

theorem cell_off (w : World) (p a : Addr) (v : Value) (h : p.off ≠ a.off) : (w.setCell p v).cell? a = w.cell? a :=
  World.cell?_setCell_other _ _ _ _ (fun e => h (by rw [e]))
theorem MS.setI {w : World} {iv : Int} {m : Option Nat} {wx : World} (h : MS w iv m wx) (v : Int) : MS w v m (wx.setCell ⟨w.heap.size, 4, none⟩ (.int .i64 v)) :=
  ⟨World.cell?_setCell_same _ _ _ h.fi, by rw [cell_off _ _ _ _ (by simp)]; exact h.fm, fun j => by rw [World.frozen?_setCell]; exact h.fz j, by rw [World.size_setCell]; exact h.size, h.bel.setCell (Nat.le_refl _) _⟩
theorem MS.setM {w : World} {iv : Int} {m : Option Nat} {wx : World} (h : MS w iv m wx) (v : Option Nat) : MS w iv v (wx.setCell ⟨w.heap.size, 30, none⟩ (.map v)) :=
  ⟨by rw [cell_off _ _ _ _ (by simp)]; exact h.fi, World.cell?_setCell_same _ _ _ h.fm, fun j => by rw [World.frozen?_setCell]; exact h.fz j, by rw [World.size_setCell]; exact h.size, h.bel.setCell (Nat.le_refl _) _⟩
theorem MS.below {w : World} {iv : Int} {m : Option Nat} {wx w' : World} (h : MS w iv m wx) (hb : Below (w.heap.size + 1) wx w') : MS w iv m w' :=
  ⟨(hb.cell (by exact Nat.lt_succ_self _)).trans h.fi, (hb.cell (by exact Nat.lt_succ_self _)).trans h.fm, fun j => (hb.frozen (by exact Nat.lt_succ_self _)).trans (h.fz j), Nat.le_trans h.size hb.size, h.bel.trans (hb.mono (Nat.le_succ _))⟩

theorem wpList_build46 {w : World} {ops : Array Oper} {rest : List Oper} {o : Oper} {a : Act} {Q : Exit → Act → World → Prop} (hgd : o.guard = none) (ho : o.op = .build 46 #[])
    (h : wpList Yba.prog ops Q rest (a.put o.dst (.agg zeroMsg)) w) : wpList Yba.prog ops Q (o :: rest) a w := by
  refine wpList_plain hgd fun K hK => ?_
  unfold Oper.wp
  simp only [execOp, ho, Array.map_empty]
  simp only [Sem.run_bind, build46, Result.andThen, Sem.run_pure]
  exact hK _ _ h
theorem wpList_box46 {w : World} {ops : Array Oper} {rest : List Oper} {o : Oper} {a : Act} {Q : Exit → Act → World → Prop} (hgd : o.guard = none) (x : Operand) (ho : o.op = .box 46 x) (hx : a.eval x = .agg zeroMsg)
    (h : wpList Yba.prog ops Q rest (a.put o.dst (.pointer (some ⟨w.heap.size, 0, none⟩))) (w.alloc (.cells zeroMsg 46))) : wpList Yba.prog ops Q (o :: rest) a w := by
  refine wpList_plain hgd fun K hK => ?_
  unfold Oper.wp
  simp only [execOp, ho, hx]
  simp only [Sem.run_bind, box46, Result.andThen, Sem.run_pure]
  exact hK _ _ h

set_option maxHeartbeats 400000 in
theorem setI_any {w : World} {iv : Int} {m : Option Nat} {wx : World} (h : MS w iv m wx) (v : Int) :
    Calls Yba.prog 5 #[.pointer (some ⟨w.heap.size, 0, none⟩), .int .i64 v] wx fun e w' => e = .returned (.tuple #[]) ∧ w' = wx.setCell ⟨w.heap.size, 4, none⟩ (.int .i64 v) := by
  have f1 := h.fi
  have f3 := h.fz 4
  go_enter Yba.func5, Yba.ntmps5
  go_wp2
  go_end0
  exact ⟨rfl, rfl⟩
set_option maxHeartbeats 400000 in
theorem setM_any {w : World} {iv : Int} {m : Option Nat} {wx : World} (h : MS w iv m wx) (v : Option Nat) :
    Calls Yba.prog 6 #[.pointer (some ⟨w.heap.size, 0, none⟩), .map v] wx fun e w' => e = .returned (.tuple #[]) ∧ w' = wx.setCell ⟨w.heap.size, 30, none⟩ (.map v) := by
  have f1 := h.fm
  have f3 := h.fz 30
  go_enter Yba.func6, Yba.ntmps6
  go_wp2
  go_end0
  exact ⟨rfl, rfl⟩
set_option maxHeartbeats 400000 in
theorem getM_any {w : World} {iv : Int} {m : Option Nat} {wx : World} (h : MS w iv m wx) :
    Calls Yba.prog 7 #[.pointer (some ⟨w.heap.size, 0, none⟩)] wx fun e w' => e = .returned (.map m) ∧ w' = wx := by
  have f1 := h.fm
  go_enter Yba.func7, Yba.ntmps7
  go_wp2
  go_ret
  exact ⟨rfl, rfl⟩
set_option maxHeartbeats 400000 in
theorem getI_any {w : World} {iv : Int} {m : Option Nat} {wx : World} (h : MS w iv m wx) :
    Calls Yba.prog 8 #[.pointer (some ⟨w.heap.size, 0, none⟩)] wx fun e w' => e = .returned (.int .i64 iv) ∧ w' = wx := by
  have f1 := h.fi
  go_enter Yba.func8, Yba.ntmps8
  go_wp2
  go_ret
  exact ⟨rfl, rfl⟩

set_option maxRecDepth 100000 in
set_option maxHeartbeats 1000000 in
theorem nil_walk (a0 : Option Addr) (len0 cap0 : Nat) (a1 : Option Addr) (len1 cap1 : Nat) (iv : Int) (w : World) (hl : len0 ≤ 1024) :
    Calls Yba.prog 3 #[.slice a0 len0 cap0, .slice a1 len1 cap1, .int .i64 iv, .bool true] w fun e w' => e = .returned (.bool true) ∧ Below w.heap.size w w' := by
  go_enter Yba.func3, Yba.ntmps3
  go_upto_region 4 with (first | (refine wpList_build46 rfl rfl ?_) | (refine wpList_box46 rfl _ rfl rfl ?_))
  have q := MS.start w
  generalize w.alloc (.cells zeroMsg 46) = wx at *
  go_wp2_with fail
  refine (setI_any q iv).mono ?_
  rintro e w1 ⟨rfl, rfl⟩
  have q1 := q.setI iv
  generalize wx.setCell ⟨w.heap.size, 4, none⟩ (.int .i64 iv) = w1 at *
  clear q
  go_wp2_with fail
  refine (setM_any q1 none).mono ?_
  rintro e w2 ⟨rfl, rfl⟩
  have q2 := q1.setM none
  generalize w1.setCell ⟨w.heap.size, 30, none⟩ (.map none) = w2 at *
  clear q1
  go_wp2_with (first | (go_at_call 7; refine (getM_any q2).mono ?_; rintro e w3 ⟨rfl, hw⟩; obtain rfl := hw.symm) | (go_at_call 8; refine (getI_any q2).mono ?_; rintro e w3 ⟨rfl, hw⟩; obtain rfl := hw.symm))
  go_ret
  exact ⟨by simp, q2.bel⟩

set_option maxHeartbeats 400000 in
theorem big_walk (a0 : Option Addr) (len0 cap0 : Nat) (a1 : Option Addr) (len1 cap1 : Nat) (iv : Int) (bm : Bool) (w : World) (hl : 1024 < len0) (hm : len0 ≤ maxLen) :
    Calls Yba.prog 3 #[.slice a0 len0 cap0, .slice a1 len1 cap1, .int .i64 iv, .bool bm] w fun e w' => e = .returned (.bool true) ∧ Below w.heap.size w w' := by
  unfold maxLen at hm
  go_enter Yba.func3, Yba.ntmps3
  go_wp2
  go_ret
  exact ⟨rfl, Below.refl _ _⟩

end Go.Proofs.Ybulkclea
