/-
  A slice of nodes that came in, opened.
-/
import Derived.Test.YbulkcleoBuild
import Derived.Deep.Slices
import Derived.OpenShut
namespace Go.Proofs.Ybulkcleo
open Go.ChangeShapes Go.WideShapes Go.RowKit

section
variable {H : Type} {enc : TypeId × Value → H} {W : World} {base : Nat} {spare : Nat → Bool} {held : Bool}

def numAt : Value → Int
  | .int _ n => n
  | _ => 0

theorem open_node {m : Nat} {cs : List Value} {x : DataW H × List MemPlace} (h : DataW.trod enc Yba.prog W base spare held m 25 cs = some x) : ∃ l : List Int, l.length = 20 ∧ cs = bv l := by
  obtain ⟨xs, m', _, _, hlen, hl, hel⟩ := DataW.trod_array Yba.underlying25 h
  have c5 : Yba.prog.cellsOf 5 = 1 := by kernel_rfl
  have c25 : Yba.prog.cellsOf 25 = 20 := by kernel_rfl
  rw [c25] at hlen
  refine ⟨cs.map numAt, by simp [hlen], ?_⟩
  have key : ∀ k, k < 20 → ∃ z, cs[k]? = some (.int .u8 z) := by
    intro k hk
    have hE := hel k hk
    rw [c5, Nat.mul_one, List.getElem?_eq_getElem (by omega)] at hE
    obtain ⟨z, e1, _, _⟩ := DataW.trod_int Yba.underlying5 hE
    refine ⟨z, ?_⟩
    have h0 : ((cs.drop k).take 1)[0]? = some (.int .u8 z) := by rw [e1]; rfl
    simpa using h0
  apply List.ext_getElem?
  intro k
  by_cases hk : k < 20
  · obtain ⟨z, hz⟩ := key k hk
    simp [bv, hz, numAt]
  · rw [List.getElem?_eq_none (by omega), List.getElem?_eq_none (by simp [bv]; omega)]

theorem open_nodes {fuel : Nat} {a0 : Option Addr} {n cap : Nat} {x : DataW H × List MemPlace} (h : DataW.trod enc Yba.prog W base spare held fuel 22 [.slice a0 n cap] = some x) :
    n ≤ maxLen ∧ ∃ nd : Nat → List Int, (∀ i, (nd i).length = 20) ∧ Nodes W a0 n nd := by
  have c25 : Yba.prog.cellsOf 25 = 20 := by kernel_rfl
  rcases Go.Deep.open_slice Yba.underlying22 h with ⟨h0, _⟩ | ⟨a, len, cap', m, k, D, Pl, hcs, _, hl, hm, hmm, _, hx⟩
  · simp only [List.cons.injEq, Value.slice.injEq, and_true] at h0
    obtain ⟨rfl, rfl, rfl⟩ := h0
    exact ⟨by unfold maxLen; omega, fun _ => z20, fun _ => z20_len, Or.inl rfl⟩
  · simp only [List.cons.injEq, Value.slice.injEq, and_true] at hcs
    obtain ⟨rfl, rfl, rfl⟩ := hcs
    refine ⟨by omega, ?_⟩
    by_cases hn : n = 0
    · exact ⟨fun _ => z20, fun _ => z20_len, Or.inl hn⟩
    have hle : n ≤ m := by rw [hmm]; split <;> omega
    rw [c25] at hx
    have key : ∀ i, i < n → ∃ l : List Int, l.length = 20 ∧ ∀ j, j < 20 → W.cell? ((a.add (i * 20)).add j) = (bv l)[j]? := by
      intro i hi
      obtain ⟨cs', hc, ht⟩ := hx i (by omega)
      obtain ⟨l, hl, rfl⟩ := open_node ht
      refine ⟨l, hl, fun j hj => ?_⟩
      unfold World.cells? at hc
      split at hc
      · have := mapM_some_get hc j j (by simp [hj])
        rw [← this]
      · cases hc
    have hspot : ∃ g o, a = ⟨g, o, none⟩ := by
      obtain ⟨l, hl, hc⟩ := key 0 (by omega)
      obtain ⟨g, o, spot⟩ := a
      have h1 : W.cell? ((Addr.add ⟨g, o, spot⟩ (0 * 20)).add 0) = some ((bv l)[0]'(by simp [bv, hl])) := by rw [hc 0 (by omega)]; exact List.getElem?_eq_getElem _
      have : spot = none := by simpa [Addr.add] using World.cell?_spot h1
      exact ⟨g, o, by rw [this]⟩
    obtain ⟨g, o, rfl⟩ := hspot
    refine ⟨fun i => if hi : i < n then (key i hi).choose else z20, fun i => ?_, Or.inr ⟨g, o, rfl, ?_, ?_⟩⟩
    · by_cases hi : i < n
      · simp only [hi, dif_pos]; exact (key i hi).choose_spec.1
      · simp only [hi, dif_neg, not_false_iff]; exact z20_len
    · obtain ⟨l, hl, hc⟩ := key 0 (by omega)
      have h1 : W.cell? ((Addr.add ⟨g, o, none⟩ (0 * 20)).add 0) = some ((bv l)[0]'(by simp [bv, hl])) := by rw [hc 0 (by omega)]; exact List.getElem?_eq_getElem _
      rw [Go.WideShapes.add_plain, Go.WideShapes.add_plain] at h1
      exact World.block_lt_of_cell? _ _ h1
    · intro i hi
      simp only [hi, dif_pos]
      obtain ⟨hl, hc⟩ := (key i hi).choose_spec
      intro j v hv
      have hj : j < 20 := by
        have := (List.getElem?_eq_some_iff.1 hv).1
        simp only [bv_length, hl] at this
        exact this
      rw [← hv, ← hc j hj, Go.WideShapes.add_plain, Go.WideShapes.add_plain]
end

end Go.Proofs.Ybulkcleo
