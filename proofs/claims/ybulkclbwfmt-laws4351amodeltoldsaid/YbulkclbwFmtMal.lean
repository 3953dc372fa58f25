/-
  (*loader).malformed by its contract, at the three formats that the cast records can bring.
-/
import Derived.Test.YbulkclbwFmtStop
import Derived.Deep.RegionHeld3
import Derived.Deep.DeepCutAuto
import Derived.Deep.CutBlock
import Derived.Deep.Light
namespace Go.Proofs.YbulkclbwFmt
open Go.RowKit Go.Extern.Stop Go.Stop Go.Extern

def fCtx : ByteArray := ⟨#[99, 97, 115, 116, 32, 99, 111, 110, 116, 101, 120, 116, 32, 37, 113, 32, 105, 115, 32, 110, 111, 110, 101, 32, 111, 102, 32, 105, 44, 32, 97, 44, 32, 101]⟩
def fNo : ByteArray := ⟨#[110, 111, 32, 116, 121, 112, 101, 32, 114, 101, 99, 111, 114, 100, 32, 102, 111, 114, 32, 37, 113]⟩
def fEmpty : ByteArray := ⟨#[37, 115, 32, 114, 101, 99, 111, 114, 100, 32, 104, 97, 115, 32, 97, 110, 32, 101, 109, 112, 116, 121, 32, 116, 121, 112, 101, 32, 105, 110, 32, 102, 105, 101, 108, 100, 32, 37, 100]⟩

theorem pCtx : FmtStop.printed? fCtx 1 = some [(0, 113, false)] := by kernel_rfl
theorem pCtxR (w : World) : (FmtDoors.printed fCtx 1).run Ybaf.prog w = .ok [(0, 113, false)] w := by kernel_rfl
theorem pNo : FmtStop.printed? fNo 1 = some [(0, 113, false)] := by kernel_rfl
theorem pNoR (w : World) : (FmtDoors.printed fNo 1).run Ybaf.prog w = .ok [(0, 113, false)] w := by kernel_rfl
theorem pEmpty : FmtStop.printed? fEmpty 2 = some [(0, 115, false), (1, 100, false)] := by kernel_rfl
theorem pEmptyR (w : World) : (FmtDoors.printed fEmpty 2).run Ybaf.prog w = .ok [(0, 115, false), (1, 100, false)] w := by kernel_rfl
theorem op9q (name : String) (x : ByteArray) (w : World) : (FmtStop.operand name false 113 false (.iface 9 (.string x))).run Ybaf.prog w = .ok (shape9, FmtStop.pack x.data.toList) w := by kernel_rfl
theorem act9q (name : String) (x : Value) (w : World) : (FmtCalls.act name false 113 false (.iface 9 x)).run Ybaf.prog w = .ok (.closed false) w := by kernel_rfl
theorem act3d (name : String) (x : Value) (w : World) : (FmtCalls.act name false 100 false (.iface 3 x)).run Ybaf.prog w = .ok (.closed false) w := by kernel_rfl
def shape3 : List UInt8 := [5, 3, 0, 0, 0, 0, 0, 0, 0, 105, 110, 116]
theorem op3d2 (name : String) (w : World) : (FmtStop.operand name false 100 false (.iface 3 (.int .i64 2))).run Ybaf.prog w = .ok (shape3, [2, 0, 0, 0, 0, 0, 0, 0]) w := by kernel_rfl
theorem op3d3 (name : String) (w : World) : (FmtStop.operand name false 100 false (.iface 3 (.int .i64 3))).run Ybaf.prog w = .ok (shape3, [3, 0, 0, 0, 0, 0, 0, 0]) w := by kernel_rfl

attribute [local go_sem] call22 fmtGuard pCtx pCtxR pNo pNoR pEmpty pEmptyR op9s act9s op9q act9q act3d op3d2 op3d3

/-- what malformed hands back: a new *CatalogError with this file and this line -/
def MalPost (name : ByteArray) (line : Int) (w : World) (e : Ending) (w' : World) : Prop :=
  ∃ b : Nat, e = .returned (.iface 60 (.pointer (some ⟨b, 0, none⟩))) ∧ w.heap.size ≤ b ∧ w'.cell? ⟨b, 0, none⟩ = some (.string name) ∧ w'.cell? ⟨b, 1, none⟩ = some (.int .i64 line) ∧ Below w.heap.size w w'

set_option maxHeartbeats 1000000 in
theorem mal_ctx (F : Interp) (l g : Nat) (line : Int) (name x : ByteArray) (w : World) (hF : F.answers w.tape) (hn : w.cell? ⟨l, 0, none⟩ = some (.string name)) (ha : w.cell? ⟨g, 0, none⟩ = some (.iface 9 (.string x))) :
    Calls Ybaf.prog 13 #[.pointer (some ⟨l, 0, none⟩), .int .i64 line, .string fCtx, .slice (some ⟨g, 0, none⟩) 1 1] w (MalPost name line w) := by
  have hF' := answers_open hF
  go_enter Ybaf.func13, Ybaf.ntmps13
  go_upto_region 1 with fail
  go_region_held3 (fun wy => wy.cell? ⟨l, 0, none⟩ = some (.string name) ∧ wy.cell? ⟨g, 0, none⟩ = some (.iface 9 (.string x))) (go_keep) ((apply rows_value nextTurns; case hr => go_simp; exact ⟨rfl, rfl⟩))
  go_wp2
  go_ret
  exact ⟨w.heap.size, rfl, Nat.le_refl _, by go_simp, by go_simp, by first | exact ((Below.refl _ _).drew.drew.alloc (Nat.le_refl _) _) | exact ((Below.refl _ _).drew.alloc (Nat.le_refl _) _).drew⟩


set_option maxHeartbeats 1000000 in
theorem mal_no (F : Interp) (l g : Nat) (line : Int) (name x : ByteArray) (w : World) (hF : F.answers w.tape) (hn : w.cell? ⟨l, 0, none⟩ = some (.string name)) (ha : w.cell? ⟨g, 0, none⟩ = some (.iface 9 (.string x))) :
    Calls Ybaf.prog 13 #[.pointer (some ⟨l, 0, none⟩), .int .i64 line, .string fNo, .slice (some ⟨g, 0, none⟩) 1 1] w (MalPost name line w) := by
  have hF' := answers_open hF
  go_enter Ybaf.func13, Ybaf.ntmps13
  go_upto_region 1 with fail
  go_region_held3 (fun wy => wy.cell? ⟨l, 0, none⟩ = some (.string name) ∧ wy.cell? ⟨g, 0, none⟩ = some (.iface 9 (.string x))) (go_keep) ((apply rows_value nextTurns; case hr => go_simp; exact ⟨rfl, rfl⟩))
  go_wp2
  go_ret
  exact ⟨w.heap.size, rfl, Nat.le_refl _, by go_simp, by go_simp, by first | exact ((Below.refl _ _).drew.drew.alloc (Nat.le_refl _) _) | exact ((Below.refl _ _).drew.alloc (Nat.le_refl _) _).drew⟩


set_option maxHeartbeats 1000000 in
theorem mal_empty2 (F : Interp) (l g : Nat) (line : Int) (name x : ByteArray) (w : World) (hF : F.answers w.tape) (hn : w.cell? ⟨l, 0, none⟩ = some (.string name)) (ha : w.cell? ⟨g, 0, none⟩ = some (.iface 9 (.string x))) (hb : w.cell? ⟨g, 1, none⟩ = some (.iface 3 (.int .i64 2))) :
    Calls Ybaf.prog 13 #[.pointer (some ⟨l, 0, none⟩), .int .i64 line, .string fEmpty, .slice (some ⟨g, 0, none⟩) 2 2] w (MalPost name line w) := by
  have hF' := answers_open hF
  go_enter Ybaf.func13, Ybaf.ntmps13
  go_upto_region 1 with fail
  go_region_held3 (fun wy => wy.cell? ⟨l, 0, none⟩ = some (.string name) ∧ wy.cell? ⟨g, 0, none⟩ = some (.iface 9 (.string x)) ∧ wy.cell? ⟨g, 1, none⟩ = some (.iface 3 (.int .i64 2))) (go_keep) ((apply rows_value nextTurns; case hr => go_simp; exact ⟨rfl, rfl⟩))
  go_wp2
  go_ret
  exact ⟨w.heap.size, rfl, Nat.le_refl _, by go_simp, by go_simp, by first | exact ((Below.refl _ _).drew.drew.alloc (Nat.le_refl _) _) | exact ((Below.refl _ _).drew.alloc (Nat.le_refl _) _).drew⟩


set_option maxHeartbeats 1000000 in
theorem mal_empty3 (F : Interp) (l g : Nat) (line : Int) (name x : ByteArray) (w : World) (hF : F.answers w.tape) (hn : w.cell? ⟨l, 0, none⟩ = some (.string name)) (ha : w.cell? ⟨g, 0, none⟩ = some (.iface 9 (.string x))) (hb : w.cell? ⟨g, 1, none⟩ = some (.iface 3 (.int .i64 3))) :
    Calls Ybaf.prog 13 #[.pointer (some ⟨l, 0, none⟩), .int .i64 line, .string fEmpty, .slice (some ⟨g, 0, none⟩) 2 2] w (MalPost name line w) := by
  have hF' := answers_open hF
  go_enter Ybaf.func13, Ybaf.ntmps13
  go_upto_region 1 with fail
  go_region_held3 (fun wy => wy.cell? ⟨l, 0, none⟩ = some (.string name) ∧ wy.cell? ⟨g, 0, none⟩ = some (.iface 9 (.string x)) ∧ wy.cell? ⟨g, 1, none⟩ = some (.iface 3 (.int .i64 3))) (go_keep) ((apply rows_value nextTurns; case hr => go_simp; exact ⟨rfl, rfl⟩))
  go_wp2
  go_ret
  exact ⟨w.heap.size, rfl, Nat.le_refl _, by go_simp, by go_simp, by first | exact ((Below.refl _ _).drew.drew.alloc (Nat.le_refl _) _) | exact ((Below.refl _ _).drew.alloc (Nat.le_refl _) _).drew⟩


end Go.Proofs.YbulkclbwFmt
