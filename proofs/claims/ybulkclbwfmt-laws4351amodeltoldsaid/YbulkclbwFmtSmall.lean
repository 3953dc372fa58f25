/-
  The small callees of lexNumber, each by its contract.
-/
import Derived.Test.YbulkclbwFmtRows
import Derived.Test.YbulkclbwFmtBytes
import Derived.WalkKit
import Derived.WalkSpells
import Derived.WalkLawsBesides
namespace Go.Proofs.YbulkclbwFmt
open Go.RowKit

theorem ret_bool {a b : Bool} (h : a = b) : Ending.returned (.bool a) = .returned (.bool b) := by rw [h]
theorem ret_int {k : IntKind} {a b : Int} (h : a = b) : Ending.returned (.int k a) = .returned (.int k b) := by rw [h]

theorem digI_iff (c : Int) : digI c = true ↔ 48 ≤ c ∧ c ≤ 57 := by unfold digI; simp
theorem idI_iff (c : Int) : idI c = true ↔ (97 ≤ c ∧ c ≤ 122) ∨ (65 ≤ c ∧ c ≤ 90) ∨ c = 95 ∨ 128 ≤ c := by unfold idI; simp; omega
theorem contI_iff (c : Int) : contI c = true ↔ (97 ≤ c ∧ c ≤ 122) ∨ (65 ≤ c ∧ c ≤ 90) ∨ c = 95 ∨ 128 ≤ c ∨ (48 ≤ c ∧ c ≤ 57) ∨ c = 36 := by unfold contI; simp [idI_iff, digI_iff]; omega

set_option maxHeartbeats 400000 in
theorem isDigit_any (c : Int) (w : World) :
    Calls Ybaf.prog 16 #[.int .u8 c] w fun e w' => e = .returned (.bool (digI c)) ∧ w' = w := by
  go_enter Ybaf.func16, Ybaf.ntmps16
  go_wp2
  all_goals
    go_ret
    exact ⟨ret_bool (by rw [Bool.eq_iff_iff, digI_iff]; simp <;> omega), rfl⟩

set_option maxHeartbeats 400000 in
theorem cdig_any (c : Int) (w : World) :
    Calls Ybaf.prog 21 #[.int .u8 c] w fun e w' => e = .returned (.bool (digI c)) ∧ w' = w := by
  go_enter Ybaf.func21, Ybaf.ntmps21
  go_wp2
  all_goals
    go_ret
    exact ⟨ret_bool (by rw [Bool.eq_iff_iff, digI_iff]; simp <;> omega), rfl⟩

set_option maxHeartbeats 1000000 in
theorem isIdentStart_any (c : Int) (w : World) :
    Calls Ybaf.prog 19 #[.int .u8 c] w fun e w' => e = .returned (.bool (idI c)) ∧ w' = w := by
  go_enter Ybaf.func19, Ybaf.ntmps19
  go_wp2
  all_goals
    go_ret
    exact ⟨ret_bool (by rw [Bool.eq_iff_iff, idI_iff]; simp <;> omega), rfl⟩

set_option maxHeartbeats 1000000 in
theorem isIdentCont_any (c : Int) (w : World) :
    Calls Ybaf.prog 25 #[.int .u8 c] w fun e w' => e = .returned (.bool (contI c)) ∧ w' = w := by
  by_cases h1 : idI c = true
  · go_enter Ybaf.func25, Ybaf.ntmps25
    go_wp2_with (first | (go_at_call 19; refine (isIdentStart_any _ _).mono ?_; rintro e w' ⟨rfl, rfl⟩) | (go_at_call 16; refine (isDigit_any _ _).mono ?_; rintro e w' ⟨rfl, rfl⟩))
    go_ret
    exact ⟨ret_bool (by simp [contI, h1]), rfl⟩
  · have h1' : idI c = false := by simpa using h1
    clear h1
    by_cases h2 : digI c = true
    · go_enter Ybaf.func25, Ybaf.ntmps25
      go_wp2_with (first | (go_at_call 19; refine (isIdentStart_any _ _).mono ?_; rintro e w' ⟨rfl, rfl⟩) | (go_at_call 16; refine (isDigit_any _ _).mono ?_; rintro e w' ⟨rfl, rfl⟩))
      go_ret
      exact ⟨ret_bool (by simp [contI, h2]), rfl⟩
    · have h2' : digI c = false := by simpa using h2
      clear h2
      go_enter Ybaf.func25, Ybaf.ntmps25
      go_wp2_with (first | (go_at_call 19; refine (isIdentStart_any _ _).mono ?_; rintro e w' ⟨rfl, rfl⟩) | (go_at_call 16; refine (isDigit_any _ _).mono ?_; rintro e w' ⟨rfl, rfl⟩))
      go_ret
      exact ⟨ret_bool (by simp [contI, h1', h2']), rfl⟩

-- identEnd: behind the name that begins at 'start'.
set_option maxHeartbeats 1000000 in
theorem identEnd_any (s : ByteArray) (start : Nat) (w : World) (hs : s.size ≤ 1000000000) (hl : start < s.size) :
    Calls Ybaf.prog 20 #[.string s, .int .i64 start] w fun e w' => e = .returned (.int .i64 (skip contI s (start + 1) : Nat)) ∧ w' = w := by
  go_enter Ybaf.func20, Ybaf.ntmps20
  go_wp2
  go_loop [5] (fun i => ∃ k : Nat, start < k ∧ k ≤ s.size ∧ i = .int .i64 k ∧ Hid (skip contI s (start + 1) = skip contI s k)) (fun i => s.size - (intOf i).toNat)
  case atStart => exact ⟨start + 1, by omega, by omega, by go_num, rfl⟩
  case round =>
    obtain ⟨k, hk0, hk, rfl, hsk⟩ := hrel
    by_cases hlt : k < s.size
    · have ha := at_lt s k hlt
      cases hc : contI (at' s k) with
      | true =>
        have hst : Hid (skip contI s (start + 1) = skip contI s (k + 1)) := hsk.out.trans (skip_yes contI s k hlt hc)
        rw [ha] at hc
        clear ha hsk
        go_wp2_with (go_at_call 25; refine (isIdentCont_any _ _).mono ?_; rintro e w' ⟨rfl, rfl⟩)
        go_round
        case rel => exact ⟨k + 1, by omega, by omega, by go_num, hst⟩
        case measure => simp [intOf]; omega
      | false =>
        have hst : Hid (skip contI s (start + 1) = k) := hsk.out.trans (skip_no contI s k (by simp [hc]))
        rw [ha] at hc
        clear ha hsk
        go_wp2_with (go_at_call 25; refine (isIdentCont_any _ _).mono ?_; rintro e w' ⟨rfl, rfl⟩)
        go_ret
        exact ⟨ret_int (by rw [hst.out]), rfl⟩
    · have hst : Hid (skip contI s (start + 1) = k) := hsk.out.trans (skip_no contI s k (by simp [hlt]))
      clear hsk
      go_wp2
      go_ret
      exact ⟨ret_int (by rw [hst.out]), rfl⟩

-- the closure 'digits': it moves the counter in block b past the digits.
set_option maxHeartbeats 1000000 in
theorem digits_any (s : ByteArray) (i bs b : Nat) (w : World) (hs : s.size ≤ 1000000000) (hi : i ≤ s.size) (hb : bs < b)
    (hcs : w.cell? ⟨bs, 0, none⟩ = some (.string s)) (hci : w.cell? ⟨b, 0, none⟩ = some (.int .i64 i)) (hfi : w.frozen? ⟨b, 0, none⟩ = false) :
    Calls Ybaf.prog 15 #[.pointer (some ⟨b, 0, none⟩), .pointer (some ⟨bs, 0, none⟩)] w fun e w' => e = .returned (.tuple #[]) ∧
      w'.cell? ⟨b, 0, none⟩ = some (.int .i64 (skip digI s i : Nat)) ∧ w'.frozen? ⟨b, 0, none⟩ = false ∧ w'.heap.size = w.heap.size ∧ Below b w w' := by
  go_enter Ybaf.func15, Ybaf.ntmps15
  go_wp2
  go_loopw [] (fun wr => ∃ k : Nat, i ≤ k ∧ k ≤ s.size ∧ wr.cell? ⟨b, 0, none⟩ = some (.int .i64 k) ∧ wr.frozen? ⟨b, 0, none⟩ = false ∧ wr.heap.size = w.heap.size ∧ Below b w wr ∧ Hid (skip digI s i = skip digI s k)) (fun wr => s.size - (intOf ((wr.cell? ⟨b, 0, none⟩).getD .nilIface)).toNat)
  case atStart => exact ⟨i, by omega, by omega, hci, hfi, rfl, Below.refl _ _, rfl⟩
  case round =>
    obtain ⟨k, hk0, hk, hck, hfk, hsz, hbel, hsk⟩ := hrel
    have hcs' : wr.cell? ⟨bs, 0, none⟩ = some (.string s) := (hbel.cell (by exact hb)).trans hcs
    by_cases hlt : k < s.size
    · have ha := at_lt s k hlt
      cases hc : digI (at' s k) with
      | true =>
        have hst : Hid (skip digI s i = skip digI s (k + 1)) := hsk.out.trans (skip_yes digI s k hlt hc)
        rw [ha] at hc
        clear ha hsk hcs hci hfi
        go_wp2_with (go_at_call 16; refine (isDigit_any _ _).mono ?_; rintro e w' ⟨rfl, rfl⟩)
        go_roundw
        case rel => exact ⟨k + 1, by omega, by omega, by rw [World.cell?_setCell_same _ _ _ hck]; go_num, by simp [hfk], by simp [hsz], hbel.setCell (Nat.le_refl _) _, hst⟩
        case measure => rw [World.cell?_setCell_same _ _ _ hck]; simp [intOf, hck]; omega
      | false =>
        have hst : Hid (skip digI s i = k) := hsk.out.trans (skip_no digI s k (by simp [hc]))
        rw [ha] at hc
        clear ha hsk hcs hci hfi
        go_wp2_with (go_at_call 16; refine (isDigit_any _ _).mono ?_; rintro e w' ⟨rfl, rfl⟩)
        go_end0
        exact ⟨rfl, by rw [hst.out]; exact hck, hfk, hsz, hbel⟩
    · have hst : Hid (skip digI s i = k) := hsk.out.trans (skip_no digI s k (by simp [hlt]))
      clear hsk hcs hci hfi
      go_wp2
      go_end0
      exact ⟨rfl, by rw [hst.out]; exact hck, hfk, hsz, hbel⟩

set_option maxHeartbeats 1000000 in
theorem hasPrefix_any (t : ByteArray) (w : World) :
    Calls Ybaf.prog 17 #[.string t, .string ⟨#[46, 46]⟩] w fun e w' => e = .returned (.bool (decide (1 < t.size ∧ at' t 0 = 46 ∧ at' t 1 = 46))) ∧ w' = w := by
  by_cases h : 2 ≤ t.size
  · go_enter Ybaf.func17, Ybaf.ntmps17
    go_wp2
    go_ret
    exact ⟨ret_bool (prefix_plain t h), rfl⟩
  · go_enter Ybaf.func17, Ybaf.ntmps17
    go_wp2
    go_ret
    exact ⟨ret_bool (by simp; omega), rfl⟩

end Go.Proofs.YbulkclbwFmt
