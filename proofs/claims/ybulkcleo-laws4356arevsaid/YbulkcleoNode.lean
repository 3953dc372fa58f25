/-
  (*Revlog).Node by its contract.
-/
import Derived.Test.YbulkcleoLaws
import Derived.Deep.DeepCutAuto
import Derived.Deep.CutBlock
import Derived.Deep.Light
import Derived.Deep.RegionHeld3
import Derived.Deep.QuietTactic
import Derived.BigQuiet
namespace Go.Proofs.Ybulkcleo
open Go.RowKit

/-- the revlog in block b: its entries in block E, entry i's node is nd i -/
structure RL (b E n : Nat) (nd : Nat → List Int) (w : World) : Prop where
  ent : w.cell? ⟨b, 2, none⟩ = some (.slice (some ⟨E, 0, none⟩) n n)
  node : ∀ i, i < n → w.rangeAt E (i * 27 + 7) (bv (nd i))
  len : ∀ i, (nd i).length = 20
  le : n ≤ 1024

theorem RL.below {b E n : Nat} {nd : Nat → List Int} {w w' : World} (h : RL b E n nd w) (hb : Below w.heap.size w w') : RL b E n nd w' := by
  refine ⟨?_, ?_, h.len, h.le⟩
  · exact (hb.cell (p := ⟨b, 2, none⟩) (World.block_lt_of_cell? w _ h.ent)).trans h.ent
  · intro i hi j v hv
    have h1 := h.node i hi j v hv
    exact (hb.cell (p := ⟨E, i * 27 + 7 + j, none⟩) (World.block_lt_of_cell? w _ h1)).trans h1

theorem load_back (w : World) (z l : List Int) (hz : z.length = 20) (hl : l.length = 20) : (loadVar 26 ⟨w.heap.size, 0, none⟩).run Yba.prog ((w.alloc (.cells (bv z).toArray 26)).setCells w.heap.size 0 (bv l)) = .ok (.agg (bv l).toArray) ((w.alloc (.cells (bv z).toArray 26)).setCells w.heap.size 0 (bv l)) :=
  run_loadVar_mid _ w.heap.size 0 26 (bv l) _ (World.rangeAt_setCells_same _ _ _ _ (there_new w _ _ _ (by simp [bv, hl, hz]))) Yba.underlying26 isRow26 (by rw [info26, bv_length, hl])

set_option maxRecDepth 100000 in
set_option maxHeartbeats 1000000 in
theorem node_null (b : Nat) (w : World) :
    Calls Yba.prog 6 #[.pointer (some ⟨b, 0, none⟩), .int .i64 (-1)] w fun e w' => e = .returned (.agg (bv z20).toArray) ∧ Below w.heap.size w w' := by
  have ht := there_new w (bv z20).toArray 26 20 (by simp [bv, z20])
  go_enter Yba.func6, Yba.ntmps6
  go_wp2_with (first | (refine wpList_alloc26 rfl rfl ?_) | (refine wpList_build26 rfl rfl ?_) | (refine wpList_store26 rfl _ _ rfl w.heap.size 0 z20 z20_len rfl rfl ht ?_))
  have hz := z20_len
  generalize z20 = z at *
  refine bodyPost_ret (v := .agg (bv z).toArray) ?_ rfl ⟨rfl, below_setCells (Nat.le_refl _) _ _ _ ((Below.refl _ _).alloc (Nat.le_refl _) _)⟩
  rw [results_cell Yba.results6]
  exact load_back w z z hz hz

set_option maxRecDepth 100000 in
set_option maxHeartbeats 1000000 in
theorem node_any {b E n : Nat} {nd : Nat → List Int} {w : World} (h : RL b E n nd w) (i : Nat) (hi : i < n) :
    Calls Yba.prog 6 #[.pointer (some ⟨b, 0, none⟩), .int .i64 i] w fun e w' => e = .returned (.agg (bv (nd i)).toArray) ∧ Below w.heap.size w w' := by
  have ht := there_new w (bv z20).toArray 26 20 (by simp [bv, z20])
  have hb := World.block_lt_of_cell? w _ h.ent
  have f0 : (w.alloc (.cells (bv z20).toArray 26)).cell? ⟨b, 2, none⟩ = some (.slice (some ⟨E, 0, none⟩) n n) := (World.cell?_alloc_lt _ _ _ hb).trans h.ent
  have hr := World.rangeAt_alloc (h.node i hi) (.cells (bv z20).toArray 26)
  have hl := h.len i
  have hle := h.le
  have hm1 : ((i : Int) == -1) = false := by simp
  go_enter Yba.func6, Yba.ntmps6
  go_wp2_with (first | (refine wpList_alloc26 rfl rfl ?_) | (refine wpList_load26 rfl _ rfl E (i * 27 + 7) rfl (nd i) hl hr ?_) | (refine wpList_store26 rfl _ _ rfl w.heap.size 0 (nd i) hl rfl rfl ht ?_))
  refine bodyPost_ret (v := .agg (bv (nd i)).toArray) ?_ rfl ⟨rfl, below_setCells (Nat.le_refl _) _ _ _ ((Below.refl _ _).alloc (Nat.le_refl _) _)⟩
  rw [results_cell Yba.results6]
  exact load_back w z20 (nd i) z20_len hl

end Go.Proofs.Ybulkcleo
