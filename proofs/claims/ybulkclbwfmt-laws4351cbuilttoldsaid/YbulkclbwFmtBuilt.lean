/-
  The plain law of LawS4351CBuilt: a built number ahead of a blank is read whole. No Go in sight.
-/
import Derived.Test.YbulkclbwFmtLexPlain
import Derived.Laws.BytesArg
namespace Go.Proofs.YbulkclbwFmt

def dg (d : Int) : Int := 48 + d % 10
theorem dg_dig (d : Int) : digI (dg d) = true := by unfold digI dg; simp; omega
def digs (zs : List Int) : List Int := zs.map dg
def fracL (frac : Bool) (zs : List Int) : List Int := if frac = true then 46 :: digs zs else []
def letL (upper : Bool) : Int := if upper = true then 69 else 101
def sgnL (s : Int) : List Int := if s % 3 = 1 then [43] else if s % 3 = 2 then [45] else []
def expL (e upper : Bool) (s : Int) (zs : List Int) : List Int := if e = true then letL upper :: (sgnL s ++ (49 :: digs zs)) else []

/-- a string's bytes as numbers -/
def nums (s : ByteArray) : List Int := s.data.toList.map fun c => (c.toNat : Int)
theorem nums_length (s : ByteArray) : (nums s).length = s.size := by simp [nums]
theorem at_nums (s : ByteArray) (i : Nat) : at' s i = (nums s).getD i (-1) := by
  rw [at_list]
  unfold atL nums
  cases h : s.data.toList[i]? with
  | none => simp [h]
  | some c => simp [h]

/-- from place i on, s goes on as r -/
def R (s : ByteArray) (i : Nat) (r : List Int) : Prop := i ≤ s.size ∧ (nums s).drop i = r

theorem R.atE {s : ByteArray} {i : Nat} {r : List Int} (h : R s i r) : at' s i = r.headD (-1) := by
  obtain ⟨h1, h2⟩ := h
  rw [at_nums]
  subst h2
  by_cases hi : i < (nums s).length
  · rw [List.drop_eq_getElem_cons hi]; simp [List.getElem?_eq_getElem hi]
  · rw [List.drop_of_length_le (by omega)]; simp [List.getElem?_eq_none (by omega : (nums s).length ≤ i)]
theorem R.lt {s : ByteArray} {i : Nat} {c : Int} {r : List Int} (h : R s i (c :: r)) : i < s.size := by
  obtain ⟨h1, h2⟩ := h
  by_cases hc : i < (nums s).length
  · rw [nums_length] at hc; exact hc
  · rw [List.drop_of_length_le (by omega)] at h2; cases h2
theorem R.step {s : ByteArray} {i : Nat} {c : Int} {r : List Int} (h : R s i (c :: r)) : R s (i + 1) r := by
  have hi := h.lt
  obtain ⟨h1, h2⟩ := h
  refine ⟨hi, ?_⟩
  rw [List.drop_eq_getElem_cons (by rw [nums_length]; exact hi)] at h2
  exact (List.cons.inj h2).2
theorem R.skipD {s : ByteArray} : ∀ (zs : List Int) {i : Nat} {r : List Int}, R s i (digs zs ++ r) → digI (r.headD (-1)) = false → skip digI s i = i + zs.length ∧ R s (i + zs.length) r
  | [], i, r, h, hr => by
    have h' : R s i r := h
    exact ⟨by rw [skip_no digI s i (by rw [h'.atE, hr]; simp)]; rfl, h'⟩
  | z :: zs, i, r, h, hr => by
    have h' : R s i (dg z :: (digs zs ++ r)) := h
    have hp : at' s i = dg z := h'.atE
    obtain ⟨h1, h2⟩ := R.skipD zs h'.step hr
    rw [skip_yes digI s i h'.lt (by rw [hp]; exact dg_dig z), h1]
    refine ⟨by simp; omega, ?_⟩
    have e : i + (z :: zs).length = i + 1 + zs.length := by simp; omega
    rw [e]; exact h2

theorem exp_built {s : ByteArray} {i : Nat} {t : List Int} (e upper : Bool) (sg : Int) (zs : List Int) (h : R s i (expL e upper sg zs ++ 32 :: t)) :
    expE s i = some (i + (expL e upper sg zs).length) ∧ at' s (i + (expL e upper sg zs).length) = 32 := by
  cases e with
  | false =>
    have h' : R s i (32 :: t) := h
    have hp : at' s i = 32 := h'.atE
    exact ⟨by rw [expE_none s i (by unfold expB; simp [hp])]; rfl, hp⟩
  | true =>
    have h' : R s i (letL upper :: (sgnL sg ++ (49 :: digs zs ++ 32 :: t))) := by simpa [expL] using h
    have hp : at' s i = letL upper := h'.atE
    have hl : letL upper = 101 ∨ letL upper = 69 := by unfold letL; split <;> simp
    have hB : expB s i = true := by unfold expB; rw [hp]; simpa using hl
    have h1 := h'.step
    have hsg : sgnE s i = i + 1 + (sgnL sg).length ∧ R s (i + 1 + (sgnL sg).length) (49 :: digs zs ++ 32 :: t) := by
      unfold sgnE sgnL at *
      split at h1
      · rename_i h5
        have h2 : R s (i + 1) (43 :: (49 :: digs zs ++ 32 :: t)) := h1
        have ha : at' s (i + 1) = 43 := h2.atE
        rw [if_pos (by unfold sgnB; simp [ha]), if_pos h5]
        exact ⟨rfl, h2.step⟩
      · rename_i h5
        split at h1
        · rename_i h6
          have h2 : R s (i + 1) (45 :: (49 :: digs zs ++ 32 :: t)) := h1
          have ha : at' s (i + 1) = 45 := h2.atE
          rw [if_pos (by unfold sgnB; simp [ha]), if_neg h5, if_pos h6]
          exact ⟨rfl, h2.step⟩
        · rename_i h6
          have h2 : R s (i + 1) (49 :: digs zs ++ 32 :: t) := h1
          have ha : at' s (i + 1) = 49 := h2.atE
          rw [if_neg (by unfold sgnB; simp [ha]), if_neg h5, if_neg h6]
          exact ⟨rfl, h2⟩
    obtain ⟨e1, h2⟩ := hsg
    have h3 : R s (i + 1 + (sgnL sg).length) (digs (1 :: zs) ++ 32 :: t) := by simpa [digs, dg] using h2
    have ha : at' s (i + 1 + (sgnL sg).length) = 49 := h2.atE
    obtain ⟨e2, h4⟩ := R.skipD (1 :: zs) h3 (by rfl)
    rw [← e1] at e2 ha
    have hx := expE_dig s i hB (by rw [ha]; rfl)
    rw [hx, e2, e1]
    have el : i + (expL true upper sg zs).length = i + 1 + (sgnL sg).length + (1 :: zs).length := by simp [expL, digs]; omega
    rw [el]
    exact ⟨rfl, h4.atE⟩

theorem exp_head (e upper : Bool) (sg : Int) (zs t : List Int) : digI ((expL e upper sg zs ++ 32 :: t).headD (-1)) = false ∧ (expL e upper sg zs ++ 32 :: t).headD (-1) ≠ 46 := by
  cases e with
  | false => exact ⟨rfl, by show (32 : Int) ≠ 46; decide⟩
  | true =>
    have hl : letL upper = 101 ∨ letL upper = 69 := by unfold letL; split <;> simp
    have e : (expL true upper sg zs ++ 32 :: t).headD (-1) = letL upper := rfl
    rw [e]
    rcases hl with hl | hl <;> rw [hl] <;> decide

theorem frac_built {s : ByteArray} {i : Nat} {t : List Int} (frac : Bool) (zs : List Int) (h : R s i (fracL frac zs ++ t)) (ht : digI (t.headD (-1)) = false ∧ t.headD (-1) ≠ 46) :
    fracE s i = i + (fracL frac zs).length ∧ R s (i + (fracL frac zs).length) t := by
  cases frac with
  | false =>
    have h' : R s i t := h
    exact ⟨by rw [fracE_no s i (by unfold dotB; exact decide_eq_false (fun e => ht.2 (by rw [← h'.atE]; exact e.1)))]; rfl, h'⟩
  | true =>
    have h' : R s i (46 :: (digs zs ++ t)) := h
    have h1 := h'.step
    have ha : at' s i = 46 := h'.atE
    have hb : at' s (i + 1) ≠ 46 := by
      rw [h1.atE]
      cases zs with
      | nil => exact ht.2
      | cons z zs => simp [digs, dg]; omega
    obtain ⟨e2, h3⟩ := R.skipD zs h1 ht.1
    rw [fracE_yes s i (by unfold dotB; simp [ha, hb]), e2]
    have el : i + (fracL true zs).length = i + 1 + zs.length := by simp [fracL, digs]; omega
    rw [el]
    exact ⟨rfl, h3⟩

/-- the whole law -/
theorem built_num (s : ByteArray) (p : Nat) (is : List Int) (frac : Bool) (fs : List Int) (e upper : Bool) (sg : Int) (es t : List Int)
    (h : R s p (digs is ++ (fracL frac fs ++ (expL e upper sg es ++ 32 :: t)))) :
    numEnd s p = some (p + (digs is ++ (fracL frac fs ++ expL e upper sg es)).length) := by
  have he := exp_head e upper sg es t
  have hf : digI ((fracL frac fs ++ (expL e upper sg es ++ 32 :: t)).headD (-1)) = false := by
    cases frac with
    | false => exact he.1
    | true => rfl
  obtain ⟨e1, h1⟩ := R.skipD is h hf
  obtain ⟨e2, h2⟩ := frac_built frac fs h1 he
  obtain ⟨e3, h3⟩ := exp_built e upper sg es h2
  have hx : expE s (fracE s (skip digI s p)) = some (p + is.length + (fracL frac fs).length + (expL e upper sg es).length) := by rw [e1, e2]; exact e3
  rw [numEnd_ok s p _ hx (by rw [h3]; decide)]
  simp [digs, Nat.add_assoc]

end Go.Proofs.YbulkclbwFmt
