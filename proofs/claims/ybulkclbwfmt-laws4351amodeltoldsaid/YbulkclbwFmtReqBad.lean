/-
  (*loader).requiredType: the two ways to an error.
-/
import Derived.Test.YbulkclbwFmtReq
namespace Go.Proofs.YbulkclbwFmt
open Go.RowKit Go.Extern.Stop Go.Stop Go.Extern

/-- an error with this file and this line, as requiredType hands it back -/
def ReqBad (name : ByteArray) (line : Int) (w : World) (e : Ending) (w' : World) : Prop :=
  ∃ b : Nat, e = .returned (.tuple #[.pointer none, .iface 60 (.pointer (some ⟨b, 0, none⟩))]) ∧ w.heap.size ≤ b ∧ w'.cell? ⟨b, 0, none⟩ = some (.string name) ∧ w'.cell? ⟨b, 1, none⟩ = some (.int .i64 line) ∧ Below w.heap.size w w'

set_option maxRecDepth 100000 in
set_option maxHeartbeats 1000000 in
theorem req_no (F : Interp) {l c t m B : Nat} {name : ByteArray} {w : World} (hF : F.answers w.tape) (h : LD l c t m B name w) (line : Int) (f i : Nat) (hi : i < 4) (hf : w.cell? ⟨f, i, none⟩ = some (.string (nm 7))) :
    Calls Ybaf.prog 12 #[.pointer (some ⟨l, 0, none⟩), .agg #[.int .i64 line, .slice (some ⟨f, 0, none⟩) 4 4], .int .i64 i] w (ReqBad name line w) := by
  have hbel : Below w.heap.size w (w.alloc (.cells #[.int .i64 line, .slice (some ⟨f, 0, none⟩) 4 4] 56)) := (Below.refl _ _).alloc (Nat.le_refl _) _
  have h' := h.below hbel
  have hf' := (hbel.cell (World.block_lt_of_cell? w _ hf)).trans hf
  have f1 := h'.fn
  have f2 := h'.fc
  have f3 := h'.ft
  have hl : (Instr.lookup 30 (.map (some t)) (.string sNosuch) false).run Ybaf.prog _ = .ok (.pointer none) _ := lookup_types h'.ty 7 (by omega)
  have hne : sNosuch.toList.isEmpty = false := by kernel_rfl
  have hll := World.block_lt_of_cell? w _ h.fn
  have HC : Hid (∀ W2 g, Below w.heap.size w W2 → W2.cell? ⟨g, 0, none⟩ = some (.iface 9 (.string sNosuch)) → Calls Ybaf.prog 13 #[.pointer (some ⟨l, 0, none⟩), .int .i64 line, .string fNo, .slice (some ⟨g, 0, none⟩) 1 1] W2 (MalPost name line W2)) :=
    fun W2 g hb hg => mal_no F l g line name sNosuch W2 (by rw [hb.tape]; exact hF) ((hb.cell hll).trans h.fn) hg
  have HB : Hid (Below w.heap.size w (w.alloc (.cells #[.int .i64 line, .slice (some ⟨f, 0, none⟩) 4 4] 56))) := hbel
  change _ = some (Value.string sNosuch) at hf'
  have HL : Hid _ := hl
  clear h h' hf hl hF hbel
  go_enter Ybaf.func12, Ybaf.ntmps12
  go_upto_region 3 with (refine wpList_lookup rfl 30 _ _ false rfl (.map (some t)) (.string sNosuch) _ rfl rfl HL.out ?_)
  go_upto_region 6 with fail
  generalize sNosuch = s at *
  go_wp2_with (go_at_call 13; refine Calls.mono (HC.out _ _ (HB.out.alloc HB.out.size _) (by go_simp)) ?_; rintro e w3 ⟨b, rfl, hb1, hb2, hb3, hb4⟩)
  go_ret2
  refine ⟨b, rfl, ?_, hb2, hb3, ?_⟩
  · exact Nat.le_trans (HB.out.alloc HB.out.size _).size hb1
  · exact (HB.out.alloc HB.out.size _).trans (hb4.mono (HB.out.alloc HB.out.size _).size)

set_option maxRecDepth 100000 in
set_option maxHeartbeats 1000000 in
theorem req_empty1 (F : Interp) {l c t m B : Nat} {name : ByteArray} {w : World} (hF : F.answers w.tape) (h : LD l c t m B name w) (line : Int) (f : Nat) (hf0 : w.cell? ⟨f, 0, none⟩ = some (.string sCast)) (hf : w.cell? ⟨f, 1, none⟩ = some (.string (nm 6))) :
    Calls Ybaf.prog 12 #[.pointer (some ⟨l, 0, none⟩), .agg #[.int .i64 line, .slice (some ⟨f, 0, none⟩) 4 4], .int .i64 1] w (ReqBad name line w) := by
  have hbel : Below w.heap.size w (w.alloc (.cells #[.int .i64 line, .slice (some ⟨f, 0, none⟩) 4 4] 56)) := (Below.refl _ _).alloc (Nat.le_refl _) _
  have h' := h.below hbel
  have hf' := (hbel.cell (World.block_lt_of_cell? w _ hf)).trans hf
  have hf0' := (hbel.cell (World.block_lt_of_cell? w _ hf0)).trans hf0
  have hfl : f < w.heap.size := World.block_lt_of_cell? w _ hf0
  have f1 := h'.fn
  have f2 := h'.fc
  have f3 := h'.ft
  have hl : (Instr.lookup 30 (.map (some t)) (.string ⟨#[]⟩) false).run Ybaf.prog _ = .ok (.pointer none) _ := lookup_types h'.ty 6 (by omega)
  have hll := World.block_lt_of_cell? w _ h.fn
  have HC : Hid (∀ W2 g, Below w.heap.size w W2 → W2.cell? ⟨g, 0, none⟩ = some (.iface 9 (.string sCast)) → W2.cell? ⟨g, 1, none⟩ = some (.iface 3 (.int .i64 2)) → Calls Ybaf.prog 13 #[.pointer (some ⟨l, 0, none⟩), .int .i64 line, .string fEmpty, .slice (some ⟨g, 0, none⟩) 2 2] W2 (MalPost name line W2)) :=
    fun W2 g hb hg hg2 => mal_empty2 F l g line name sCast W2 (by rw [hb.tape]; exact hF) ((hb.cell hll).trans h.fn) hg hg2
  have HB : Hid (Below w.heap.size w (w.alloc (.cells #[.int .i64 line, .slice (some ⟨f, 0, none⟩) 4 4] 56))) := hbel
  change _ = some (Value.string ⟨#[]⟩) at hf'
  have HL : Hid _ := hl
  clear h h' hf hl hF hbel hf0
  go_enter Ybaf.func12, Ybaf.ntmps12
  go_upto_region 3 with (refine wpList_lookup rfl 30 _ _ false rfl (.map (some t)) (.string ⟨#[]⟩) _ rfl rfl HL.out ?_)
  go_upto_region 5 with fail
  go_region_held3 (fun wy => wy.cell? ⟨w.heap.size, 0, none⟩ = some (.int .i64 line) ∧ wy.cell? ⟨w.heap.size, 1, none⟩ = some (.slice (some ⟨f, 0, none⟩) 4 4) ∧ wy.cell? ⟨f, 0, none⟩ = some (.string sCast)) (first | go_keep | exact ⟨(hb4.cell (by simp; omega)).trans (by go_simp), (hb4.cell (by simp; omega)).trans (by go_simp), (hb4.cell (by simp; omega)).trans ((World.cell?_alloc_lt _ _ _ (by simp; omega)).trans hf0')⟩) ((go_at_call 13; refine Calls.mono (HC.out _ _ ((HB.out.drew).alloc HB.out.size _) (by go_simp) (by go_simp; rfl)) ?_; rintro e w3 ⟨b, rfl, hb1, hb2, hb3, hb4⟩))
  go_wp2_with fail
  go_ret2
  refine ⟨b, rfl, ?_, hb2, hb3, ?_⟩
  · exact Nat.le_trans ((HB.out.drew).alloc HB.out.size _).size hb1
  · exact ((HB.out.drew).alloc HB.out.size _).trans (hb4.mono ((HB.out.drew).alloc HB.out.size _).size)

set_option maxRecDepth 100000 in
set_option maxHeartbeats 1000000 in
theorem req_empty2 (F : Interp) {l c t m B : Nat} {name : ByteArray} {w : World} (hF : F.answers w.tape) (h : LD l c t m B name w) (line : Int) (f : Nat) (hf0 : w.cell? ⟨f, 0, none⟩ = some (.string sCast)) (hf : w.cell? ⟨f, 2, none⟩ = some (.string (nm 6))) :
    Calls Ybaf.prog 12 #[.pointer (some ⟨l, 0, none⟩), .agg #[.int .i64 line, .slice (some ⟨f, 0, none⟩) 4 4], .int .i64 2] w (ReqBad name line w) := by
  have hbel : Below w.heap.size w (w.alloc (.cells #[.int .i64 line, .slice (some ⟨f, 0, none⟩) 4 4] 56)) := (Below.refl _ _).alloc (Nat.le_refl _) _
  have h' := h.below hbel
  have hf' := (hbel.cell (World.block_lt_of_cell? w _ hf)).trans hf
  have hf0' := (hbel.cell (World.block_lt_of_cell? w _ hf0)).trans hf0
  have hfl : f < w.heap.size := World.block_lt_of_cell? w _ hf0
  have f1 := h'.fn
  have f2 := h'.fc
  have f3 := h'.ft
  have hl : (Instr.lookup 30 (.map (some t)) (.string ⟨#[]⟩) false).run Ybaf.prog _ = .ok (.pointer none) _ := lookup_types h'.ty 6 (by omega)
  have hll := World.block_lt_of_cell? w _ h.fn
  have HC : Hid (∀ W2 g, Below w.heap.size w W2 → W2.cell? ⟨g, 0, none⟩ = some (.iface 9 (.string sCast)) → W2.cell? ⟨g, 1, none⟩ = some (.iface 3 (.int .i64 3)) → Calls Ybaf.prog 13 #[.pointer (some ⟨l, 0, none⟩), .int .i64 line, .string fEmpty, .slice (some ⟨g, 0, none⟩) 2 2] W2 (MalPost name line W2)) :=
    fun W2 g hb hg hg2 => mal_empty3 F l g line name sCast W2 (by rw [hb.tape]; exact hF) ((hb.cell hll).trans h.fn) hg hg2
  have HB : Hid (Below w.heap.size w (w.alloc (.cells #[.int .i64 line, .slice (some ⟨f, 0, none⟩) 4 4] 56))) := hbel
  change _ = some (Value.string ⟨#[]⟩) at hf'
  have HL : Hid _ := hl
  clear h h' hf hl hF hbel hf0
  go_enter Ybaf.func12, Ybaf.ntmps12
  go_upto_region 3 with (refine wpList_lookup rfl 30 _ _ false rfl (.map (some t)) (.string ⟨#[]⟩) _ rfl rfl HL.out ?_)
  go_upto_region 5 with fail
  go_region_held3 (fun wy => wy.cell? ⟨w.heap.size, 0, none⟩ = some (.int .i64 line) ∧ wy.cell? ⟨w.heap.size, 1, none⟩ = some (.slice (some ⟨f, 0, none⟩) 4 4) ∧ wy.cell? ⟨f, 0, none⟩ = some (.string sCast)) (first | go_keep | exact ⟨(hb4.cell (by simp; omega)).trans (by go_simp), (hb4.cell (by simp; omega)).trans (by go_simp), (hb4.cell (by simp; omega)).trans ((World.cell?_alloc_lt _ _ _ (by simp; omega)).trans hf0')⟩) ((go_at_call 13; refine Calls.mono (HC.out _ _ ((HB.out.drew).alloc HB.out.size _) (by go_simp) (by go_simp; rfl)) ?_; rintro e w3 ⟨b, rfl, hb1, hb2, hb3, hb4⟩))
  go_wp2_with fail
  go_ret2
  refine ⟨b, rfl, ?_, hb2, hb3, ?_⟩
  · exact Nat.le_trans ((HB.out.drew).alloc HB.out.size _).size hb1
  · exact ((HB.out.drew).alloc HB.out.size _).trans (hb4.mono ((HB.out.drew).alloc HB.out.size _).size)

end Go.Proofs.YbulkclbwFmt
