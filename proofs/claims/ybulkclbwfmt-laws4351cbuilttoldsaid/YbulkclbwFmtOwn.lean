/-
  A row of bytes that the call itself builds.
-/
import Derived.Test.YbulkclbwFmtRows
import Derived.Test.YbulkclbwFmtBuilt
import Derived.WalkKit
import Derived.WalkSpells
import Derived.WalkLawsBesides
import Derived.Deep.DeepCutAuto
import Derived.Deep.CutBlock
import Derived.Deep.Light
namespace Go.Proofs.YbulkclbwFmt
open Go.RowKit

/-- the number at j; beyond the end: 0 -/
def nth (l : List Int) (j : Nat) : Int := l.getD j 0
/-- the bytes of a slice: its cells lie below block B -/
def TextAt (w : World) (B : Nat) (ta : Option Addr) (len : Nat) (bs : List Int) : Prop :=
  len = 0 ∨ ∃ g o : Nat, ta = some ⟨g, o, none⟩ ∧ g < B ∧ ∀ j, j < len → w.cell? ⟨g, o + j, none⟩ = some (.int .u8 (nth bs j))

theorem info5 : (Ybaf.prog.info? 5).map (fun i => (i.zero, i.size, i.bytes)) = some (some (.int .u8 0), 1, 1) := by kernel_rfl

/-- an owned row of bytes is a text -/
theorem text_of_owns {w : World} {base n : Nat} {v : Value} {bs : List Int} (h : w.ownsRow base 5 1 v n (bs.map (Value.int .u8))) : ∃ ta cap, v = .slice ta n cap ∧ TextAt w w.heap.size ta n bs := by
  obtain ⟨hl, hv⟩ := h
  rcases hv with ⟨rfl, rfl⟩ | ⟨g, cap, cur, rfl, hg, hh, hn, hc, hs, ht⟩
  · exact ⟨none, 0, rfl, Or.inl rfl⟩
  · refine ⟨_, _, rfl, Or.inr ⟨g, 0, rfl, ?_, ?_⟩⟩
    · by_cases hlt : g < w.heap.size
      · exact hlt
      · rw [Array.getElem?_eq_none (by omega)] at hh; cases hh
    · intro j hj
      have hown : w.ownsRow base 5 1 (.slice (some ⟨g, 0, none⟩) n cap) n (bs.map (Value.int .u8)) := ⟨hl, Or.inr ⟨g, cap, cur, rfl, hg, hh, hn, hc, hs, ht⟩⟩
      have hjb : j < bs.length := by simp at hl; omega
      rw [Nat.zero_add, hown.cellAt j (by omega)]
      simp [nth, List.getElem?_eq_getElem hjb]

/-- what has been built so far -/
def Bd (w : World) (l : List Int) (t : Value) (wr : World) : Prop :=
  ∃ ta cp, t = .slice ta l.length cp ∧ wr.ownsRow w.heap.size 5 1 (.slice ta l.length cp) l.length (l.map (Value.int .u8)) ∧ Below w.heap.size w wr

theorem one_u8 (c : Int) : ∀ u ∈ [Value.int .u8 c], u.oneCell' = true := by
  intro u hu; simp at hu; subst hu; rfl

theorem own_ge {w : World} {base : Nat} {e : TypeId} {size n : Nat} {v : Value} {xs : List Value} (h : w.ownsRow base e size v n xs) : ∀ k, v.ownBlock = some k → base ≤ k := by
  intro k hk
  rcases h.2 with ⟨rfl, _⟩ | ⟨g, cap, cur, rfl, hg, _⟩
  · simp [Value.ownBlock] at hk
  · simp [Value.ownBlock] at hk; omega

theorem Bd.push {w wr w1 : World} {l : List Int} {v v' : Value} {c : Int} {o : Obj} (hbel : Below w.heap.size w wr) (hown : wr.ownsRow w.heap.size 5 1 v l.length (l.map (Value.int .u8)))
    (hown' : w1.ownsRow w.heap.size 5 1 v' (l.length + 1) (l.map (Value.int .u8) ++ [.int .u8 c])) (hg : (wr.alloc o).grownBy w1 v.ownBlock) : Bd w (l ++ [c]) v' w1 := by
  have h1 : w1.ownsRow w.heap.size 5 1 v' (l ++ [c]).length ((l ++ [c]).map (Value.int .u8)) := by simpa using hown'
  obtain ⟨ta, cp, rfl, _⟩ := text_of_owns h1
  exact ⟨ta, cp, rfl, h1, (hbel.alloc hbel.size o).grown hg (by have := hbel.size; simp; omega) (own_ge hown)⟩

theorem digs_snoc (l zs : List Int) (k : Nat) (h : k < zs.length) : l ++ digs (zs.take (k + 1)) = (l ++ digs (zs.take k)) ++ [48 + nth zs k % 10] := by
  unfold digs
  rw [List.take_succ_eq_append_getElem h, List.map_append, ← List.append_assoc]
  simp [dg, nth, List.getElem?_eq_getElem h]

theorem conv_text {w : World} {B : Nat} {ta : Option Addr} {len cap : Nat} {bs : List Int} (h : TextAt w B ta len bs) (hn : bs.length = len) :
    (convert 78 9 (.slice ta len cap)).run Ybaf.prog w = .ok (.string (strOfNums bs)) w := by
  rcases h with h0 | ⟨g, o, rfl, hg, hc⟩
  · subst h0
    have hb : bs = [] := List.eq_nil_of_length_eq_zero hn
    subst hb
    cases ta with
    | none => rw [run_convert_bytes_nil w 78 5 Ybaf.underlying78 Ybaf.underlying5 0 cap 9 Ybaf.underlying9]; rfl
    | some x =>
      rw [run_convert_bytes_string w 78 9 5 _ 0 cap Ybaf.underlying78 Ybaf.underlying5 Ybaf.underlying9]
      rw [run_bytesToString w x 0 cap [] (run_loadCells_list (P := Ybaf.prog) w x [] (fun j v hj => by simp at hj))]
      rfl
  · exact run_convert_bytes_arg w 78 5 Ybaf.underlying78 Ybaf.underlying5 g o len cap bs hn (fun i hi => by rw [hc i hi]; rfl) 9 Ybaf.underlying9

end Go.Proofs.YbulkclbwFmt
