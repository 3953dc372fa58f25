/-
  The plain law of LawS4363AWellFormed: a well-formed number, built from plain data, is passed over exactly. No Go in sight.
-/
import Derived.Test.YbulkcliiNumPlain
namespace Go.Proofs.Ybulkclii

def dg (d : Int) : Int := 48 + d % 10
theorem dg_dig (d : Int) : digI (dg d) = true := by rw [digI_iff]; unfold dg; omega
def digs (zs : List Int) : List Int := zs.map dg
def negL (neg : Bool) : List Int := if neg = true then [45] else []
/-- is the whole part the lone nought -/
def zeroB : List Int → Bool
  | [] => true
  | z :: _ => z % 10 == 0
def wholeL (zs : List Int) : List Int := if zeroB zs = true then [48] else digs zs
def fracL (zs : List Int) : List Int := match zs with
  | [] => []
  | _ => 46 :: digs zs
def letL (s : Int) : Int := if s % 2 = 0 then 101 else 69
def sgnL (s : Int) : List Int := if s / 2 = 1 then [43] else if s / 2 = 2 then [45] else []
def expL (zs : List Int) (s : Int) : List Int := match zs with
  | [] => []
  | _ => letL s :: (sgnL s ++ digs zs)

/-- from place i on, bs goes on as r -/
def R (bs : List Int) (i : Nat) (r : List Int) : Prop := i ≤ bs.length ∧ bs.drop i = r

theorem R.pk {bs : List Int} {i : Nat} {r : List Int} (h : R bs i r) : pk bs i = r.headD 0 := by
  obtain ⟨h1, h2⟩ := h
  unfold Ybulkclii.pk
  subst h2
  by_cases hi : i < bs.length
  · rw [List.drop_eq_getElem_cons hi]; simp [List.getElem?_eq_getElem hi]
  · rw [List.drop_of_length_le (by omega)]; simp [List.getElem?_eq_none (by omega : bs.length ≤ i)]
theorem R.step {bs : List Int} {i : Nat} {c : Int} {r : List Int} (h : R bs i (c :: r)) : R bs (i + 1) r := by
  obtain ⟨h1, h2⟩ := h
  have hi : i < bs.length := by
    by_cases hc : i < bs.length
    · exact hc
    · rw [List.drop_of_length_le (by omega)] at h2; cases h2
  refine ⟨hi, ?_⟩
  rw [List.drop_eq_getElem_cons hi] at h2
  exact (List.cons.inj h2).2
theorem R.skip {bs : List Int} : ∀ (zs : List Int) {i : Nat} {r : List Int}, R bs i (digs zs ++ r) → digI (r.headD 0) = false → skip bs i = i + zs.length ∧ R bs (i + zs.length) r
  | [], i, r, h, hr => by
    have h' : R bs i r := h
    exact ⟨by rw [skip_no bs i (by rw [h'.pk]; exact hr)]; rfl, h'⟩
  | z :: zs, i, r, h, hr => by
    have h' : R bs i (dg z :: (digs zs ++ r)) := h
    have hp : Ybulkclii.pk bs i = dg z := h'.pk
    obtain ⟨h1, h2⟩ := R.skip zs h'.step hr
    rw [skip_yes bs i (by rw [hp]; exact dg_dig z), h1]
    refine ⟨by simp; omega, ?_⟩
    have e : i + (z :: zs).length = i + 1 + zs.length := by simp; omega
    rw [e]; exact h2

/-- a byte that cannot continue a number -/
def stopB (c : Int) : Prop := digI c = false ∧ c ≠ 46 ∧ c ≠ 101 ∧ c ≠ 69

theorem exp_built {bs : List Int} {i : Nat} {t : List Int} (zs : List Int) (s : Int) (h : R bs i (expL zs s ++ t)) (ht : stopB (t.headD 0)) : expE bs i = (true, i + (expL zs s).length) := by
  cases zs with
  | nil =>
    have h' : R bs i t := h
    have hp := h'.pk
    unfold expE
    rw [if_neg (by rw [hp]; exact fun e => e.elim ht.2.2.1 ht.2.2.2)]
    rfl
  | cons z zs =>
    have h' : R bs i (letL s :: (sgnL s ++ (digs (z :: zs) ++ t))) := by simpa [expL] using h
    have hp := h'.pk
    have hl : letL s = 101 ∨ letL s = 69 := by unfold letL; split <;> simp
    unfold expE
    rw [if_pos (by rw [hp]; exact hl)]
    have h1 := h'.step
    have hz := dg_dig z
    rw [digI_iff] at hz
    have hsg : sgnE bs (i + 1) = i + 1 + (sgnL s).length ∧ R bs (i + 1 + (sgnL s).length) (digs (z :: zs) ++ t) := by
      unfold sgnE sgnL at *
      split at h1
      · rename_i h5
        have h2 : R bs (i + 1) (43 :: (digs (z :: zs) ++ t)) := h1
        rw [if_pos (by rw [h2.pk]; simp), if_pos h5]
        exact ⟨rfl, h2.step⟩
      · rename_i h5
        split at h1
        · rename_i h6
          have h2 : R bs (i + 1) (45 :: (digs (z :: zs) ++ t)) := h1
          rw [if_pos (by rw [h2.pk]; simp), if_neg h5, if_pos h6]
          exact ⟨rfl, h2.step⟩
        · rename_i h6
          have h2 : R bs (i + 1) (digs (z :: zs) ++ t) := h1
          rw [if_neg (by rw [h2.pk]; simp [digs]; omega), if_neg h5, if_neg h6]
          exact ⟨rfl, h2⟩
    obtain ⟨e1, h2⟩ := hsg
    obtain ⟨e2, h3⟩ := R.skip (z :: zs) h2 ht.1
    rw [e1, e2]
    refine Prod.ext ?_ ?_
    · simp
    · simp [expL, digs]; omega

theorem frac_built {bs : List Int} {i : Nat} {t : List Int} (zs : List Int) (h : R bs i (fracL zs ++ t)) (ht : digI (t.headD 0) = false ∧ t.headD 0 ≠ 46) : fracE bs i = (true, i + (fracL zs).length) ∧ R bs (i + (fracL zs).length) t := by
  cases zs with
  | nil =>
    have h' : R bs i t := h
    unfold fracE
    rw [if_neg (by rw [h'.pk]; exact ht.2)]
    exact ⟨rfl, h'⟩
  | cons z zs =>
    have h' : R bs i (46 :: (digs (z :: zs) ++ t)) := by simpa [fracL] using h
    unfold fracE
    rw [if_pos (by rw [h'.pk]; rfl)]
    obtain ⟨e2, h3⟩ := R.skip (z :: zs) h'.step ht.1
    rw [e2]
    refine ⟨Prod.ext ?_ ?_, ?_⟩
    · simp
    · simp [fracL, digs]; omega
    · have e : i + (fracL (z :: zs)).length = i + 1 + (z :: zs).length := by simp [fracL, digs]; omega
      rw [e]; exact h3

theorem whole_built {bs : List Int} {i : Nat} {t : List Int} (zs : List Int) (h : R bs i (wholeL zs ++ t)) (ht : digI (t.headD 0) = false) : wholeE bs i = (true, i + (wholeL zs).length) ∧ R bs (i + (wholeL zs).length) t := by
  unfold wholeL at *
  by_cases hz : zeroB zs = true
  · rw [if_pos hz] at h ⊢
    have h' : R bs i (48 :: t) := h
    unfold wholeE
    rw [if_pos (by rw [h'.pk]; rfl)]
    exact ⟨rfl, h'.step⟩
  · rw [if_neg hz] at h ⊢
    cases zs with
    | nil => exact absurd rfl hz
    | cons z zs =>
      have hz' : z % 10 ≠ 0 := by simpa [zeroB] using hz
      have hp := h.pk
      unfold wholeE
      rw [if_neg (by rw [hp]; simp [digs, dg]; omega)]
      obtain ⟨e2, h3⟩ := R.skip (z :: zs) h ht
      rw [e2]
      refine ⟨Prod.ext ?_ ?_, ?_⟩
      · simp
      · simp [digs]
      · simpa [digs] using h3

theorem wholeL_head (zs t : List Int) : 48 ≤ (wholeL zs ++ t).headD 0 ∧ (wholeL zs ++ t).headD 0 ≤ 57 := by
  unfold wholeL
  split
  · simp
  · rename_i h
    cases zs with
    | nil => exact absurd rfl h
    | cons z zs => simp [digs, dg]; omega

theorem neg_built {bs : List Int} {i : Nat} {t : List Int} (neg : Bool) (h : R bs i (negL neg ++ t)) (ht : t.headD 0 ≠ 45) : negE bs i = i + (negL neg).length ∧ R bs (i + (negL neg).length) t := by
  cases neg with
  | true =>
    have h' : R bs i (45 :: t) := h
    unfold negE
    rw [if_pos (by rw [h'.pk]; rfl)]
    exact ⟨rfl, h'.step⟩
  | false =>
    have h' : R bs i t := h
    unfold negE
    rw [if_neg (by rw [h'.pk]; exact ht)]
    exact ⟨rfl, h'⟩

theorem exp_head (zs : List Int) (s : Int) (t : List Int) (ht : stopB (t.headD 0)) : digI ((expL zs s ++ t).headD 0) = false ∧ (expL zs s ++ t).headD 0 ≠ 46 := by
  cases zs with
  | nil => exact ⟨ht.1, ht.2.1⟩
  | cons z zs =>
    have hl : letL s = 101 ∨ letL s = 69 := by unfold letL; split <;> simp
    have e : (expL (z :: zs) s ++ t).headD 0 = letL s := rfl
    rw [e]
    rcases hl with hl | hl <;> rw [hl] <;> decide
theorem frac_head (zs t : List Int) (ht : digI (t.headD 0) = false) : digI ((fracL zs ++ t).headD 0) = false := by
  cases zs with
  | nil => exact ht
  | cons z zs => rfl

/-- the whole law -/
theorem built_num (pre : List Int) (neg : Bool) (wh fr ex : List Int) (s : Int) (t : List Int) (ht : stopB (t.headD 0)) :
    numL (pre ++ (negL neg ++ (wholeL wh ++ (fracL fr ++ (expL ex s ++ t))))) pre.length =
      (true, pre.length + (negL neg).length + (wholeL wh).length + (fracL fr).length + (expL ex s).length) := by
  generalize hb : pre ++ (negL neg ++ (wholeL wh ++ (fracL fr ++ (expL ex s ++ t)))) = bs
  have h0 : R bs pre.length (negL neg ++ (wholeL wh ++ (fracL fr ++ (expL ex s ++ t)))) := by
    subst hb
    exact ⟨by simp, by simp⟩
  have hw := wholeL_head wh (fracL fr ++ (expL ex s ++ t))
  obtain ⟨e1, h1⟩ := neg_built neg h0 (by omega)
  have he := exp_head ex s t ht
  obtain ⟨e2, h2⟩ := whole_built wh h1 (frac_head fr _ he.1)
  obtain ⟨e3, h3⟩ := frac_built fr h2 he
  have e4 := exp_built ex s h3 ht
  rw [numL_exp bs pre.length _ _ _ e1.symm e2 e3, e4]

end Go.Proofs.Ybulkclii
