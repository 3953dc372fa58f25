/-
  A slice of steps that came in, opened; the first bad one.
-/
import Derived.Test.YbulkclbwFmtInv
import Derived.Deep.Slices
import Derived.OpenShut
namespace Go.Proofs.YbulkclbwFmt
open Go.ChangeShapes Go.WideShapes Go.RowKit

section
variable {H : Type} {enc : TypeId × Value → H} {W : World} {base : Nat} {spare : Nat → Bool} {held : Bool}

set_option maxRecDepth 100000 in
theorem open_step {m : Nat} {cs : List Value} {x : DataW H × List MemPlace} (h : DataW.trod enc Ybaf.prog W base spare held m 54 cs = some x) :
    ∃ a b d z : Int, isByte a ∧ isByte b ∧ isByte d ∧ cs = [.int .u8 a, .int .u8 b, .int .u8 d, .int .i64 z] := by
  obtain ⟨xs, m', _, _, hlen, hl, hel⟩ := DataW.trod_struct Ybaf.underlying54 h
  have c54 : Ybaf.prog.cellsOf 54 = 4 := by kernel_rfl
  have c5 : Ybaf.prog.cellsOf 5 = 1 := by kernel_rfl
  have c3 : Ybaf.prog.cellsOf 3 = 1 := by kernel_rfl
  rw [c54] at hlen
  match cs, hlen with
  | [v0, v1, v2, v3], _ =>
    have h0 : DataW.trod enc Ybaf.prog W base spare held m' 5 (([v0, v1, v2, v3].drop 0).take (Ybaf.prog.cellsOf 5)) = xs[0]? := hel 0 _ rfl
    have h1 : DataW.trod enc Ybaf.prog W base spare held m' 5 (([v0, v1, v2, v3].drop 1).take (Ybaf.prog.cellsOf 5)) = xs[1]? := hel 1 _ rfl
    have h2 : DataW.trod enc Ybaf.prog W base spare held m' 5 (([v0, v1, v2, v3].drop 2).take (Ybaf.prog.cellsOf 5)) = xs[2]? := hel 2 _ rfl
    have h3 : DataW.trod enc Ybaf.prog W base spare held m' 3 (([v0, v1, v2, v3].drop 3).take (Ybaf.prog.cellsOf 3)) = xs[3]? := hel 3 _ rfl
    rw [c5] at h0 h1 h2
    rw [c3] at h3
    have hl4 : xs.length = 4 := hl
    rw [List.getElem?_eq_getElem (by omega)] at h0 h1 h2 h3
    obtain ⟨a, e0, _, f0⟩ := DataW.trod_int Ybaf.underlying5 h0
    obtain ⟨b, e1, _, f1⟩ := DataW.trod_int Ybaf.underlying5 h1
    obtain ⟨d, e2, _, f2⟩ := DataW.trod_int Ybaf.underlying5 h2
    obtain ⟨z, e3, _, _⟩ := DataW.trod_int Ybaf.underlying3 h3
    have b0 := bounds_u8 f0
    have b1 := bounds_u8 f1
    have b2 := bounds_u8 f2
    simp at e0 e1 e2 e3
    subst e0 e1 e2 e3
    exact ⟨a, b, d, z, ⟨b0.1, by omega⟩, ⟨b1.1, by omega⟩, ⟨b2.1, by omega⟩, rfl⟩

theorem open_steps {fuel : Nat} {a0 : Option Addr} {n cap : Nat} {x : DataW H × List MemPlace} (h : DataW.trod enc Ybaf.prog W base spare held fuel 22 [.slice a0 n cap] = some x) :
    n ≤ maxLen ∧ ∃ fr tt cc ln : Nat → Int, Steps W a0 n fr tt cc ln ∧ ∀ j, j < n → isByte (fr j) ∧ isByte (tt j) ∧ isByte (cc j) := by
  have c54 : Ybaf.prog.cellsOf 54 = 4 := by kernel_rfl
  rcases Go.Deep.open_slice Ybaf.underlying22 h with ⟨h0, _⟩ | ⟨a, len, cap', m, k, D, Pl, hcs, _, hl, hm, hmm, _, hx⟩
  · simp only [List.cons.injEq, Value.slice.injEq, and_true] at h0
    obtain ⟨rfl, rfl, rfl⟩ := h0
    exact ⟨by unfold maxLen; omega, fun _ => 0, fun _ => 0, fun _ => 0, fun _ => 0, Or.inl rfl, fun j hj => by omega⟩
  · simp only [List.cons.injEq, Value.slice.injEq, and_true] at hcs
    obtain ⟨rfl, rfl, rfl⟩ := hcs
    refine ⟨by omega, ?_⟩
    by_cases hn : n = 0
    · subst hn
      exact ⟨fun _ => 0, fun _ => 0, fun _ => 0, fun _ => 0, Or.inl rfl, fun j hj => by omega⟩
    have hle : n ≤ m := by rw [hmm]; split <;> omega
    rw [c54] at hx
    have key : ∀ i, i < n → ∃ q : Int × Int × Int × Int, (isByte q.1 ∧ isByte q.2.1 ∧ isByte q.2.2.1) ∧ ∀ j, j < 4 → W.cell? ((a.add (i * 4)).add j) = [Value.int .u8 q.1, .int .u8 q.2.1, .int .u8 q.2.2.1, .int .i64 q.2.2.2][j]? := by
      intro i hi
      obtain ⟨cs', hc, ht⟩ := hx i (by omega)
      obtain ⟨a', b', d', z', y1, y2, y3, rfl⟩ := open_step ht
      refine ⟨(a', b', d', z'), ⟨y1, y2, y3⟩, fun j hj => ?_⟩
      unfold World.cells? at hc
      split at hc
      · have := mapM_some_get hc j j (by simp [hj])
        rw [← this]
      · cases hc
    have hspot : ∃ g o, a = ⟨g, o, none⟩ := by
      obtain ⟨q, _, hc⟩ := key 0 (by omega)
      obtain ⟨g, o, spot⟩ := a
      have h1 : W.cell? ((Addr.add ⟨g, o, spot⟩ (0 * 4)).add 0) = some (.int .u8 q.1) := hc 0 (by omega)
      have : spot = none := by simpa [Addr.add] using World.cell?_spot h1
      exact ⟨g, o, by rw [this]⟩
    obtain ⟨g, o, rfl⟩ := hspot
    have kc : ∀ i, i < n → ∃ q : Int × Int × Int × Int, (isByte q.1 ∧ isByte q.2.1 ∧ isByte q.2.2.1) ∧ W.cell? ⟨g, o + i * 4, none⟩ = some (.int .u8 q.1) ∧ W.cell? ⟨g, o + i * 4 + 1, none⟩ = some (.int .u8 q.2.1) ∧ W.cell? ⟨g, o + i * 4 + 2, none⟩ = some (.int .u8 q.2.2.1) ∧ W.cell? ⟨g, o + i * 4 + 3, none⟩ = some (.int .i64 q.2.2.2) := by
      intro i hi
      obtain ⟨q, hy, hc⟩ := key i hi
      refine ⟨q, hy, ?_, ?_, ?_, ?_⟩
      · have := hc 0 (by omega); rw [Go.WideShapes.add_plain, Go.WideShapes.add_plain] at this; exact this
      · have := hc 1 (by omega); rw [Go.WideShapes.add_plain, Go.WideShapes.add_plain] at this; exact this
      · have := hc 2 (by omega); rw [Go.WideShapes.add_plain, Go.WideShapes.add_plain] at this; exact this
      · have := hc 3 (by omega); rw [Go.WideShapes.add_plain, Go.WideShapes.add_plain] at this; exact this
    obtain ⟨Q, hQ⟩ : ∃ Q : Nat → Int × Int × Int × Int, ∀ i, i < n → (isByte (Q i).1 ∧ isByte (Q i).2.1 ∧ isByte (Q i).2.2.1) ∧ W.cell? ⟨g, o + i * 4, none⟩ = some (.int .u8 (Q i).1) ∧ W.cell? ⟨g, o + i * 4 + 1, none⟩ = some (.int .u8 (Q i).2.1) ∧ W.cell? ⟨g, o + i * 4 + 2, none⟩ = some (.int .u8 (Q i).2.2.1) ∧ W.cell? ⟨g, o + i * 4 + 3, none⟩ = some (.int .i64 (Q i).2.2.2) := by
      refine ⟨fun i => if hi : i < n then (kc i hi).choose else (0, 0, 0, 0), fun i hi => ?_⟩
      simp only [hi, dif_pos]
      exact (kc i hi).choose_spec
    refine ⟨fun i => (Q i).1, fun i => (Q i).2.1, fun i => (Q i).2.2.1, fun i => (Q i).2.2.2, Or.inr ⟨g, o, rfl, ?_, fun j hj => (hQ j hj).2⟩, fun j hj => (hQ j hj).1⟩
    exact World.block_lt_of_cell? _ _ (hQ 0 (by omega)).2.1
end

/-- the first bad step, or n -/
theorem first_bad (st : Nat → St) : ∀ n, ∃ f, f ≤ n ∧ (∀ j, j < f → (st j).bad = false) ∧ (f < n → (st f).bad = true)
  | 0 => ⟨0, Nat.le_refl _, fun j hj => by omega, fun h => by omega⟩
  | n + 1 => by
    obtain ⟨f, h1, h2, h3⟩ := first_bad st n
    by_cases hf : f < n
    · exact ⟨f, by omega, h2, fun _ => h3 hf⟩
    · obtain rfl : f = n := by omega
      cases hb : (st f).bad with
      | true => exact ⟨f, by omega, h2, fun _ => hb⟩
      | false =>
        refine ⟨f + 1, Nat.le_refl _, fun j hj => ?_, fun h => by omega⟩
        by_cases hjf : j = f
        · rw [hjf]; exact hb
        · exact h2 j (by omega)

end Go.Proofs.YbulkclbwFmt
