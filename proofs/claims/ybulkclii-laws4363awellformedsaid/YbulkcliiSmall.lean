/-
  The validator's state, peek and digits by their contracts.
-/
import Derived.Test.YbulkcliiRows
import Derived.Test.YbulkcliiPlain
import Derived.WalkKit
import Derived.WalkSpells
import Derived.WalkLawsBesides
import Derived.Deep.QuietTactic
import Derived.BigQuiet
namespace Go.Proofs.Ybulkclii
open Go.RowKit

theorem ret_bool {a b : Bool} (h : a = b) : Ending.returned (.bool a) = .returned (.bool b) := by rw [h]
theorem ret_int {k : IntKind} {a b : Int} (h : a = b) : Ending.returned (.int k a) = .returned (.int k b) := by rw [h]

/-- the bytes of a slice: its cells lie below block B -/
def TextAt (w : World) (B : Nat) (ta : Option Addr) (len : Nat) (bs : List Int) : Prop :=
  len = 0 ∨ ∃ g o : Nat, ta = some ⟨g, o, none⟩ ∧ g < B ∧ ∀ j, j < len → w.cell? ⟨g, o + j, none⟩ = some (.int .u8 (pk bs j))

/-- the validator in block b: its text, its place, its depth, no nodes -/
structure VS (w0 : World) (b : Nat) (ta : Option Addr) (len cap : Nat) (bs : List Int) (dep : Int) (i : Nat) (w : World) : Prop where
  f0 : w.cell? ⟨b, 0, none⟩ = some (.slice ta len cap)
  f1 : w.cell? ⟨b, 1, none⟩ = some (.int .i64 i)
  f2 : w.cell? ⟨b, 2, none⟩ = some (.int .i64 dep)
  f3 : w.cell? ⟨b, 3, none⟩ = some (.slice none 0 0)
  fz : ∀ j, w.frozen? ⟨b, j, none⟩ = false
  txt : TextAt w b ta len bs
  eqlen : bs.length = len
  le : i ≤ len
  size : w.heap.size = w0.heap.size
  bel : Below b w0 w

theorem VS.drewN {w0 : World} {b : Nat} {ta : Option Addr} {len cap : Nat} {bs : List Int} {dep : Int} {i : Nat} {w : World} (h : VS w0 b ta len cap bs dep i w) (n : Nat) : VS w0 b ta len cap bs dep i (w.drewN n) := by
  refine ⟨by simpa using h.f0, by simpa using h.f1, by simpa using h.f2, by simpa using h.f3, fun j => by simpa using h.fz j, ?_, h.eqlen, h.le, by simpa using h.size, ?_⟩
  · rcases h.txt with h0 | ⟨g, o, e, hg, hc⟩
    · exact Or.inl h0
    · exact Or.inr ⟨g, o, e, hg, fun j hj => by simpa using hc j hj⟩
  · exact below_drewN h.bel n

set_option maxRecDepth 100000 in
set_option maxHeartbeats 1000000 in
theorem peek_any {w0 : World} {b : Nat} {ta : Option Addr} {len cap : Nat} {bs : List Int} {dep : Int} {i : Nat} {w : World} (h : VS w0 b ta len cap bs dep i w) :
    Calls Yba.prog 12 #[.pointer (some ⟨b, 0, none⟩)] w fun e w' => e = .returned (.int .u8 (pk bs i)) ∧ VS w0 b ta len cap bs dep i w' := by
  have f0 := h.f0
  have f1 := h.f1
  by_cases hi : i < len
  · rcases h.txt with h0 | ⟨g, o, rfl, hg, hc⟩
    · omega
    · have hci := hc i hi
      have hi' : (i : Int) < (len : Int) := by omega
      clear hc
      go_enter Yba.func12, Yba.ntmps12
      go_wp2
      go_quiet (fail)
      go_wp2
      go_quiet (fail)
      go_wp2
      go_ret
      first | exact ⟨rfl, (h.drewN _).drewN _⟩ | exact ⟨rfl, h.drewN _⟩
  · have hp : pk bs i = 0 := pk_end bs i (by rw [h.eqlen]; omega)
    have hi' : ¬ (i : Int) < (len : Int) := by omega
    go_enter Yba.func12, Yba.ntmps12
    go_wp2
    go_quiet (fail)
    go_wp2
    go_ret
    exact ⟨ret_int hp.symm, h.drewN _⟩

theorem cell_far (w : World) (p a : Addr) (v : Value) (h : p.block ≠ a.block) : (w.setCell p v).cell? a = w.cell? a :=
  World.cell?_setCell_other _ _ _ _ (fun e => h (by rw [e]))
theorem cell_off (w : World) (p a : Addr) (v : Value) (h : p.off ≠ a.off) : (w.setCell p v).cell? a = w.cell? a :=
  World.cell?_setCell_other _ _ _ _ (fun e => h (by rw [e]))

theorem VS.put {w0 : World} {b : Nat} {ta : Option Addr} {len cap : Nat} {bs : List Int} {dep : Int} {i : Nat} {w : World} (h : VS w0 b ta len cap bs dep i w) (k : Nat) (v : Int) (hk : k ≤ len) (hv : v = (k : Int)) :
    VS w0 b ta len cap bs dep k (w.setCell ⟨b, 1, none⟩ (.int .i64 v)) := by
  subst hv
  refine ⟨?_, ?_, ?_, ?_, ?_, ?_, h.eqlen, hk, ?_, ?_⟩
  · rw [cell_off _ _ _ _ (by simp)]; exact h.f0
  · exact World.cell?_setCell_same _ _ _ h.f1
  · rw [cell_off _ _ _ _ (by simp)]; exact h.f2
  · rw [cell_off _ _ _ _ (by simp)]; exact h.f3
  · intro j; rw [World.frozen?_setCell]; exact h.fz j
  · rcases h.txt with h0 | ⟨g, o, e, hg, hc⟩
    · exact Or.inl h0
    · exact Or.inr ⟨g, o, e, hg, fun j hj => by rw [cell_far _ _ _ _ (by simp; omega)]; exact hc j hj⟩
  · rw [World.size_setCell]; exact h.size
  · exact h.bel.setCell (Nat.le_refl _) _

set_option maxRecDepth 100000 in
set_option maxHeartbeats 1000000 in
theorem digits_any {w0 : World} {b : Nat} {ta : Option Addr} {len cap : Nat} {bs : List Int} {dep : Int} {i : Nat} {w : World} (h : VS w0 b ta len cap bs dep i w) (hl : len ≤ 1000000000) :
    Calls Yba.prog 13 #[.pointer (some ⟨b, 0, none⟩)] w fun e w' => e = .returned (.bool (decide (i < skip bs i))) ∧ VS w0 b ta len cap bs dep (skip bs i) w' := by
  have f1 := h.f1
  go_enter Yba.func13, Yba.ntmps13
  go_wp2_with fail
  refine (peek_any h).mono ?_
  rintro e w1 ⟨rfl, h1⟩
  go_wp2_with fail
  go_loopw [4] (fun c wr => ∃ k : Nat, i ≤ k ∧ k ≤ len ∧ VS w0 b ta len cap bs dep k wr ∧ c = .int .u8 (pk bs k) ∧ Hid (skip bs i = skip bs k)) (fun _ wr => len - (intOf ((wr.cell? ⟨b, 1, none⟩).getD .nilIface)).toNat)
  case atStart => exact ⟨i, by omega, h.le, h1, rfl, rfl⟩
  case round =>
    obtain ⟨k, hk0, hk, hs, rfl, hsk⟩ := hrel
    clear f1
    have f1 := hs.f1
    have fz := hs.fz 1
    cases hd : digI (pk bs k) with
    | true =>
      have hd' := (digI_iff _).1 hd
      have hlt : k < len := by have := dig_lt bs k hd; rw [hs.eqlen] at this; exact this
      have hst : Hid (skip bs i = skip bs (k + 1)) := hsk.out.trans (skip_yes bs k hd)
      obtain ⟨hd1, hd2⟩ := hd'
      clear hd hsk
      go_wp2_with fail
      refine (peek_any (hs.put (k + 1) _ (by omega) (by go_num))).mono ?_
      rintro e w2 ⟨rfl, h2⟩
      go_wp2_with fail
      go_roundw
      case rel => exact ⟨k + 1, by omega, by omega, h2, rfl, hst⟩
      case measure => rw [h2.f1, f1]; simp [intOf]; omega
    | false =>
      have hst : Hid (skip bs i = k) := hsk.out.trans (skip_no bs k hd)
      have hd' := (digI_no _).1 hd
      clear hd hsk
      go_wp2_with fail
      all_goals
        go_ret
        rw [hst.out]
        exact ⟨rfl, hs⟩

end Go.Proofs.Ybulkclii
