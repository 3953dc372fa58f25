/-
  bytes.Equal at two slices that hold the same bytes; the model at an empty text; a slice that came in, as a text.
-/
import Derived.Test.YbulkcliiModel
import Derived.Laws.BytesArg
import Derived.OpenShut
namespace Go.Proofs.Ybulkclii
open Go.RowKit

theorem conv_text {w : World} {B : Nat} {ta : Option Addr} {len cap : Nat} {bs : List Int} (h : TextAt w B ta len bs) (hn : bs.length = len) :
    (convert 22 9 (.slice ta len cap)).run Yba.prog w = .ok (.string (strOfNums bs)) w := by
  rcases h with h0 | ⟨g, o, rfl, hg, hc⟩
  · subst h0
    have hb : bs = [] := List.eq_nil_of_length_eq_zero hn
    subst hb
    cases ta with
    | none => rw [run_convert_bytes_nil w 22 5 Yba.underlying22 Yba.underlying5 0 cap 9 Yba.underlying9]; rfl
    | some x =>
      rw [run_convert_bytes_string w 22 9 5 _ 0 cap Yba.underlying22 Yba.underlying5 Yba.underlying9]
      rw [run_bytesToString w x 0 cap [] (run_loadCells_list (P := Yba.prog) w x [] (fun j v hj => by simp at hj))]
      rfl
  · exact run_convert_bytes_arg w 22 5 Yba.underlying22 Yba.underlying5 g o len cap bs hn (fun i hi => by rw [hc i hi]; rfl) 9 Yba.underlying9

set_option maxHeartbeats 400000 in
theorem equal_any {w : World} {B B' : Nat} {ta tb : Option Addr} {len cap cap' : Nat} {bs : List Int} (h : TextAt w B ta len bs) (h' : TextAt w B' tb len bs) (hn : bs.length = len) :
    Calls Yba.prog 8 #[.slice ta len cap, .slice tb len cap'] w fun e w' => e = .returned (.bool true) ∧ w' = w := by
  have h1 := conv_text (cap := cap) h hn
  have h2 := conv_text (cap := cap') h' hn
  generalize strOfNums bs = s at *
  clear h h'
  go_enter Yba.func8, Yba.ntmps8
  go_wp2
  go_ret
  exact ⟨by simp, rfl⟩

set_option maxRecDepth 100000 in
set_option maxHeartbeats 400000 in
theorem model_empty (ta : Option Addr) (cap : Nat) (w : World) :
    Calls Yba.prog 7 #[.slice ta 0 cap, .int .i64 0] w fun e w' => e = .returned (.tuple #[.bool (numL [] 0).1, .int .i64 ((numL [] 0).2 : Nat)]) ∧ w' = w := by
  have e : numL [] 0 = (false, 0) := by decide +kernel
  rw [e]
  go_enter Yba.func7, Yba.ntmps7
  go_wp2
  refine wp_loop_rounds 1 ?_
  rw [rounds_succ]
  go_wp2
  go_ret2
  exact ⟨rfl, rfl⟩

theorem model_any {w : World} {B : Nat} {ta : Option Addr} {len cap p : Nat} {bs : List Int} (h : TextAt w B ta len bs) (hn : bs.length = len) (hl : len ≤ 1000000000) (hp : p ≤ len) :
    Calls Yba.prog 7 #[.slice ta len cap, .int .i64 p] w fun e w' => e = .returned (.tuple #[.bool (numL bs p).1, .int .i64 ((numL bs p).2 : Nat)]) ∧ w' = w := by
  rcases h with h0 | ⟨g, o, rfl, hg, hc⟩
  · subst h0
    have hb : bs = [] := List.eq_nil_of_length_eq_zero hn
    subst hb
    have hp0 : p = 0 := by omega
    subst hp0
    exact model_empty ta cap w
  · exact model_cells g o len cap p bs w hc hn hl hp

end Go.Proofs.Ybulkclii
