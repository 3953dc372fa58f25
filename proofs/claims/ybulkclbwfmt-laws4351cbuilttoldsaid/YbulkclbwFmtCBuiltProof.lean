/-
  The told card of LawS4351CBuilt.
-/
import Derived.Test.YbulkclbwFmtCards
import Derived.Test.YbulkclbwFmtCBuilt
import Derived.Test.YbulkclbwFmtCBuiltBig
import Derived.ProofKit
import Derived.Stop.JoinedAt
import Derived.Stop.Texts
import Derived.Stop.JoinedTold
import Derived.SizedLaws
import Derived.SevenToldRow
import Derived.ShutString
import Derived.OpenShut
import Derived.ChangeOld
import Derived.Below
namespace Go.Proofs.YbulkclbwFmt.CBuilt
open Go.ChangeShapes Go.WideShapes Go.ChangeAt Go.RowKit Go.Kit
open Go.ChangeMaps (open_string shut_string)
open Go.Extern.Stop Go.Stop Go.Extern

theorem own : ownKnob Ybaf.prog.godebug = none := by kernel_rfl
theorem laidOut : laidOutB Ybaf.pinned.checked.prog = true := by kernel_rfl
theorem stops : Ybaf.pinned.checked.prog.stops = Rows.lawS4351CBuiltRow.stops := by kernel_rfl
theorem stopKnobs : Ybaf.pinned.checked.prog.stopKnobs = [] := by kernel_rfl
theorem quiet (os : Os) : Stop.quiet Ybaf.pinned.checked.prog os := by
  intro k hk
  rw [stopKnobs] at hk
  cases hk

/-- what the walk is told of a slice of bytes that came in -/
theorem row_facts {H : Type} {enc : TypeId × Value → H} {W : World} {base : Nat} {spare : Nat → Bool} {held : Bool} {fuel : Nat} {a : Option Addr} {len cap : Nat} {d : DataW H} {p : List MemPlace}
    (hf : DataW.trod enc Ybaf.prog W base spare held fuel 78 (Value.slice a len cap).cells.toList = some (d, p)) :
    ∃ zs : List Int, len ≤ maxLen ∧ zs.length = len ∧ TextAt W W.heap.size a len zs ∧ ∀ j, 0 ≤ nth zs j ∧ nth zs j ≤ 255 := by
  rcases open_ints Ybaf.underlying78 Ybaf.underlying5 (by kernel_rfl) hf with ⟨hcs, _⟩ | ⟨x, l, c, zs, hcs, _, hl, hm, hz, _, hcell, hwz⟩
  · simp [Value.cells] at hcs
    obtain ⟨rfl, rfl, rfl⟩ := hcs
    exact ⟨[], Nat.zero_le _, rfl, Or.inl rfl, fun j => by simp [nth]⟩
  · simp [Value.cells] at hcs
    obtain ⟨rfl, rfl, rfl⟩ := hcs
    have hz' : len ≤ zs.length := by rw [hz]; split <;> omega
    have hpk : ∀ j, j < len → nth (zs.take len) j = zs.getD j 0 := by
      intro j hj
      unfold nth
      simp [hj]
    refine ⟨zs.take len, by omega, by rw [List.length_take]; omega, ?_, ?_⟩
    · by_cases h0 : len = 0
      · exact Or.inl h0
      · obtain ⟨g, o, rfl, hc'⟩ := ints_at hcell (by omega)
        refine Or.inr ⟨g, o, rfl, ?_, fun j hj => by rw [hpk j hj]; exact hc' j (by omega)⟩
        exact World.block_lt_of_cell? _ _ (hc' 0 (by omega))
    · intro j
      have h1 : ∀ n ∈ zs.take len, (Lit.int .u8 n).wf = true := fun n hn => hwz n (List.mem_of_mem_take hn)
      have := range_u8 h1 j
      unfold nth
      rw [List.getD_eq_getElem?_getD]
      exact this

set_option maxRecDepth 100000 in
theorem lifted (os : Os) (started : os.Started) (H : Type) (enc : TypeId × Value → H) :
    ReturnsInTold none {} Ybaf.checked os 5 .any Input.okWide ((OpenSpec.ofChange Rows.lawS4351CBuiltSpec).preRow enc Ybaf.prog Ybaf.f5 [] false []) (fun F => ((OpenSpec.ofChange Rows.lawS4351CBuiltSpec).at F).post enc Ybaf.prog Ybaf.f5 false true false false) (aloneAtReturn Ybaf.prog) nothingAlways := by
  refine returnsInTold_of_row (C := Ybaf.checked) (s := OpenSpec.ofChange Rows.lawS4351CBuiltSpec) (by kernel_rfl) own started (by kernel_rfl) Ybaf.func5
    (OpenSpec.witness_stopped (enc := enc) (C := Ybaf.checked) false ⟨#[], #[.string ⟨#[]⟩, .slice none 0 0, .bool false, .slice none 0 0, .bool false, .bool false, .int .u8 0, .slice none 0 0, .string ⟨#[]⟩], []⟩ 8 (by kernel_rfl) (by kernel_rfl) (by kernel_rfl) (by kernel_rfl)) ?_
  intro F W base args ds gs before _ hF hval0 hW _ _ hsz _ _
  have hval : ∀ (j : Nat) t v, Ybaf.f5.params[j]? = some t → args[j]? = some v → Value.okWide Ybaf.prog W .any base t v := hval0
  have hW' := hW
  obtain ⟨p, q, hA0, hV, rfl, hfz, hnd⟩ := hW
  have hA : DataW.TrodAll enc Ybaf.prog W 0 (fun _ => true) true Ybaf.f5.params.toList args.toList ds p := hA0
  rw [Ybaf.params5] at hA hval
  obtain ⟨v0, vs0, d0, ds0, p0, q0, hargs, rfl, rfl, h0, r0⟩ := trodAll_cons hA
  obtain ⟨v1, vs1, d1, ds1, p1, q1, rfl, rfl, rfl, h1, r1⟩ := trodAll_cons r0
  obtain ⟨v2, vs2, d2, ds2, p2, q2, rfl, rfl, rfl, h2, r2⟩ := trodAll_cons r1
  obtain ⟨v3, vs3, d3, ds3, p3, q3, rfl, rfl, rfl, h3, r3⟩ := trodAll_cons r2
  obtain ⟨v4, vs4, d4, ds4, p4, q4, rfl, rfl, rfl, h4, r4⟩ := trodAll_cons r3
  obtain ⟨v5, vs5, d5, ds5, p5, q5, rfl, rfl, rfl, h5, r5⟩ := trodAll_cons r4
  obtain ⟨v6, vs6, d6, ds6, p6, q6, rfl, rfl, rfl, h6, r6⟩ := trodAll_cons r5
  obtain ⟨v7, vs7, d7, ds7, p7, q7, rfl, rfl, rfl, h7, r7⟩ := trodAll_cons r6
  obtain ⟨v8, vs8, d8, ds8, p8, q8, rfl, rfl, rfl, h8, r8⟩ := trodAll_cons r7
  obtain ⟨rfl, rfl, rfl⟩ := trodAll_nil r8
  obtain rfl : args = #[v0, v1, v2, v3, v4, v5, v6, v7, v8] := by cases args; simp_all
  obtain ⟨rfl, rfl⟩ := trodVars_none hV
  obtain ⟨s0, rfl, rfl, rfl, w0⟩ := open_string Ybaf.underlying9 (hval 0 9 v0 rfl rfl) h0
  obtain ⟨a1, len1, cap1, rfl⟩ := okWide_slice Ybaf.underlying78 (hval 1 78 v1 rfl rfl)
  obtain ⟨a3, len3, cap3, rfl⟩ := okWide_slice Ybaf.underlying78 (hval 3 78 v3 rfl rfl)
  obtain ⟨a7, len7, cap7, rfl⟩ := okWide_slice Ybaf.underlying78 (hval 7 78 v7 rfl rfl)
  obtain ⟨b2, rfl, rfl, rfl⟩ := open_bool Ybaf.underlying4 (hval 2 4 v2 rfl rfl) h2
  obtain ⟨b4, rfl, rfl, rfl⟩ := open_bool Ybaf.underlying4 (hval 4 4 v4 rfl rfl) h4
  obtain ⟨b5, rfl, rfl, rfl⟩ := open_bool Ybaf.underlying4 (hval 5 4 v5 rfl rfl) h5
  obtain ⟨n6, rfl, rfl, rfl, w6⟩ := open_int Ybaf.underlying5 (hval 6 5 v6 rfl rfl) h6
  obtain ⟨s8, rfl, rfl, rfl, w8⟩ := open_string Ybaf.underlying9 (hval 8 9 v8 rfl rfl) h8
  have lt1 : ∀ x ∈ p1, x.block < W.heap.size := by obtain ⟨m, hm⟩ := h1; exact DataW.trod_lt m _ _ _ hm
  have lt3 : ∀ x ∈ p3, x.block < W.heap.size := by obtain ⟨m, hm⟩ := h3; exact DataW.trod_lt m _ _ _ hm
  have lt7 : ∀ x ∈ p7, x.block < W.heap.size := by obtain ⟨m, hm⟩ := h7; exact DataW.trod_lt m _ _ _ hm
  obtain ⟨z1, m1, n1, t1, g1⟩ : ∃ zs : List Int, len1 ≤ maxLen ∧ zs.length = len1 ∧ TextAt W W.heap.size a1 len1 zs ∧ ∀ j, 0 ≤ nth zs j ∧ nth zs j ≤ 255 := by obtain ⟨fuel, hf⟩ := h1; exact row_facts hf
  obtain ⟨z3, m3, n3, t3, g3⟩ : ∃ zs : List Int, len3 ≤ maxLen ∧ zs.length = len3 ∧ TextAt W W.heap.size a3 len3 zs ∧ ∀ j, 0 ≤ nth zs j ∧ nth zs j ≤ 255 := by obtain ⟨fuel, hf⟩ := h3; exact row_facts hf
  obtain ⟨z7, m7, n7, t7, g7⟩ : ∃ zs : List Int, len7 ≤ maxLen ∧ zs.length = len7 ∧ TextAt W W.heap.size a7 len7 zs ∧ ∀ j, 0 ≤ nth zs j ∧ nth zs j ≤ 255 := by obtain ⟨fuel, hf⟩ := h7; exact row_facts hf
  clear hA0 hval0
  have bn := bounds_u8 w6
  have walk : Calls Ybaf.prog 5 #[.string s0, .slice a1 len1 cap1, .bool b2, .slice a3 len3 cap3, .bool b4, .bool b5, .int .u8 n6, .slice a7 len7 cap7, .string s8] W fun e w' => e = .returned (.bool true) ∧ Below W.heap.size W w' := by
    by_cases h : s0.size ≤ 1024 ∧ s8.size ≤ 1024 ∧ len1 ≤ 1024 ∧ len3 ≤ 1024 ∧ len7 ≤ 1024
    · exact built_walk F.told s0 s8 a1 len1 cap1 z1 b2 a3 len3 cap3 z3 b4 b5 n6 a7 len7 cap7 z7 W hF n1 n3 n7 t1 t3 t7 g1 g3 g7 bn.1 bn.2 h.1 h.2.1 h.2.2.1 h.2.2.2.1 h.2.2.2.2
    · exact built_big s0 s8 a1 len1 cap1 b2 a3 len3 cap3 b4 b5 n6 a7 len7 cap7 W w0 m1 m3 m7 w8 h
  refine walk.mono fun e W' ⟨he, bel⟩ => ?_
  subst he
  exact ⟨_, rfl, _, _, _, [], _, [], hW', trodAll_mk1 (shut_bool Ybaf.underlying4 _), (trodAll_cons_mk (shut_string Ybaf.underlying9 w0) (trodAll_cons_mk (Below.trod laidOut (by kernel_rfl) (of_decide_eq_true (by kernel_rfl)) h1 bel lt1) (trodAll_cons_mk (shut_bool Ybaf.underlying4 _) (trodAll_cons_mk (Below.trod laidOut (by kernel_rfl) (of_decide_eq_true (by kernel_rfl)) h3 bel lt3) (trodAll_cons_mk (shut_bool Ybaf.underlying4 _) (trodAll_cons_mk (shut_bool Ybaf.underlying4 _) (trodAll_cons_mk (shut_int Ybaf.underlying5 w6) (trodAll_cons_mk (Below.trod laidOut (by kernel_rfl) (of_decide_eq_true (by kernel_rfl)) h7 bel lt7) (trodAll_cons_mk (shut_string Ybaf.underlying9 w8) trodAll_mk0))))))))), rfl, bel.frame _, fun h => by cases h⟩

theorem proved : Rows.LawS4351CBuiltToldSaid :=
  Claim7.holds_of_told_any 5 Ybaf.f5 _ _ [] _ _ _ (by kernel_rfl) rfl rfl rfl laidOut (by kernel_rfl) rfl ⟨rfl, rfl, rfl, rfl, rfl, rfl, rfl⟩ rfl rfl (by kernel_rfl) (by kernel_rfl) Ybaf.func5 (by kernel_rfl)
    (of_decide_eq_true (by kernel_rfl)) (by unfold Func.isWrapper; rw [if_neg (of_decide_eq_false (by kernel_rfl))]; exact ⟨rfl, rfl⟩) stops.symm rfl stopKnobs.symm (by kernel_rfl)
    (by kernel_rfl) (by kernel_rfl) (by kernel_rfl) (by kernel_rfl) (by kernel_rfl) (by kernel_rfl) (by kernel_rfl) (by kernel_rfl) (by kernel_rfl) rfl (by kernel_rfl) rfl rfl
    rfl rfl
    rfl (by kernel_rfl) (by kernel_rfl) (by kernel_rfl) (by kernel_rfl) (by kernel_rfl)
    (OpenClaim.moreEntering_of (by kernel_rfl) (by kernel_rfl) (by kernel_rfl) (by kernel_rfl) (by kernel_rfl) (by kernel_rfl) (by kernel_rfl) (by kernel_rfl) (by kernel_rfl) (by kernel_rfl))
    ⟨_, WideRow.started_initial, quiet _⟩
    (fun os started _ H enc _ => lifted os started H enc)

#print axioms proved

end Go.Proofs.YbulkclbwFmt.CBuilt
