/-
  The law LawS4363AModel: the walk.
-/
import Derived.Test.YbulkcliiEqual
import Derived.Test.YbulkcliiNumber
import Derived.Laws.AppendOwnNone
namespace Go.Proofs.Ybulkclii
open Go.RowKit

theorem info5 : (Yba.prog.info? 5).map (fun i => (i.zero, i.size, i.bytes)) = some (some (.int .u8 0), 1, 1) := by kernel_rfl

theorem eqNil (w : World) : (binOp .eql 25 (.slice none 0 0) (.slice none 0 0)).run Yba.prog w = .ok (.bool true) w := by kernel_rfl
attribute [local go_sem] eqNil

theorem start_nat (n : Int) (m : Nat) (hm : m ≤ 1024) : ∃ st : Nat, wrap64 (n % ((m : Int) + 1)) = (st : Int) ∧ st ≤ m := by
  have h1 := Int.emod_nonneg n (show ((m : Int) + 1) ≠ 0 by omega)
  have h2 := Int.emod_lt_of_pos n (show (0 : Int) < (m : Int) + 1 by omega)
  generalize n % ((m : Int) + 1) = r at *
  obtain ⟨st, rfl⟩ := Int.eq_ofNat_of_zero_le h1
  exact ⟨st, by unfold wrap64; omega, by omega⟩

/-- an owned row of bytes is a text -/
theorem text_of_owns {w : World} {base n : Nat} {v : Value} {bs : List Int} (h : w.ownsRow base 5 1 v n (bs.map (Value.int .u8))) : ∃ ta cap, v = .slice ta n cap ∧ TextAt w w.heap.size ta n bs := by
  obtain ⟨hl, hv⟩ := h
  rcases hv with ⟨rfl, rfl⟩ | ⟨g, cap, cur, rfl, hg, hh, hn, hc, hs, ht⟩
  · exact ⟨none, 0, rfl, Or.inl rfl⟩
  · refine ⟨_, _, rfl, Or.inr ⟨g, 0, rfl, ?_, ?_⟩⟩
    · by_cases hlt : g < w.heap.size
      · exact hlt
      · rw [Array.getElem?_eq_none (by omega)] at hh; cases hh
    · intro j hj
      have hown : w.ownsRow base 5 1 (.slice (some ⟨g, 0, none⟩) n cap) n (bs.map (Value.int .u8)) := ⟨hl, Or.inr ⟨g, cap, cur, rfl, hg, hh, hn, hc, hs, ht⟩⟩
      have hjb : j < bs.length := by simp at hl; omega
      rw [Nat.zero_add, hown.cellAt j (by omega)]
      simp [pk, List.getElem?_eq_getElem hjb]

theorem TextAt.below {w w' : World} {B : Nat} {ta : Option Addr} {len : Nat} {bs : List Int} (h : TextAt w B ta len bs) (hb : Below B w w') (B' : Nat) (hB : B ≤ B') : TextAt w' B' ta len bs := by
  rcases h with h0 | ⟨g, o, e, hg, hc⟩
  · exact Or.inl h0
  · exact Or.inr ⟨g, o, e, by omega, fun j hj => (hb.cell (by exact hg)).trans (hc j hj)⟩

theorem VS.start {w : World} {ta : Option Addr} {len cp : Nat} {bs : List Int} (d : Int) (i : Nat) (h : TextAt w w.heap.size ta len bs) (hn : bs.length = len) (hi : i ≤ len) :
    VS (w.alloc (Obj.cells #[Value.slice ta len cp, Value.int IntKind.i64 i, Value.int IntKind.i64 d, Value.slice none 0 0] 27)) w.heap.size ta len cp bs d i
      (w.alloc (Obj.cells #[Value.slice ta len cp, Value.int IntKind.i64 i, Value.int IntKind.i64 d, Value.slice none 0 0] 27)) := by
  refine ⟨by go_simp, by go_simp, by go_simp, by go_simp, fun j => by go_simp, ?_, hn, hi, rfl, Below.refl _ _⟩
  exact h.below ((Below.refl _ _).alloc (Nat.le_refl _) _) _ (Nat.le_refl _)

set_option maxRecDepth 100000 in
set_option maxHeartbeats 1000000 in
theorem amodel_walk (a0 : Option Addr) (len cap : Nat) (bs : List Int) (n d : Int) (w : World) (hs : len ≤ maxLen) (hn : bs.length = len)
    (hsrc : (a0 = none ∧ len = 0 ∧ cap = 0) ∨ ∃ x, a0 = some x ∧ ∀ j, j < len → w.cell? (x.add j) = some (.int .u8 (pk bs j))) (htx : TextAt w w.heap.size a0 len bs)
    (h0 : 0 ≤ n) (h1 : n < 18446744073709551616) :
    Calls Yba.prog 3 #[.slice a0 len cap, .int .u64 n, .int .i64 d] w fun e w' => e = .returned (.bool true) ∧ Below w.heap.size w w' := by
  unfold maxLen at hs
  by_cases hbig : 1024 < len
  · clear hsrc htx hn
    go_enter Yba.func3, Yba.ntmps3
    go_wp2
    go_ret
    exact ⟨rfl, Below.refl _ _⟩
  · obtain ⟨i0, hi, hz0, hz1, hz2⟩ := info_parts info5
    obtain ⟨st, hst, hle⟩ := start_nat n len (by omega)
    have HS : Hid (wrap64 (n % ((len : Int) + 1)) = (st : Int)) := hst
    clear hst
    have HTX : Hid (TextAt w w.heap.size a0 len bs) := htx
    have HSRC : Hid ((a0 = none ∧ len = 0 ∧ cap = 0) ∨ ∃ x, a0 = some x ∧ ∀ j, j < len → w.cell? (x.add j) = some (.int .u8 (pk bs j))) := hsrc
    have HN : Hid (bs.length = len) := hn
    clear htx hsrc hn
    go_enter Yba.func3, Yba.ntmps3
    go_upto_region 3 with fail
    go_cut [7] (fun t wx => ∃ ta cp, t = .slice ta len cp ∧ TextAt wx wx.heap.size ta len bs ∧ Below w.heap.size w wx)
    case first =>
      rcases HSRC.out with ⟨rfl, rfl, rfl⟩ | ⟨x, rfl, hx⟩
      · go_wp2_with (at_builtin; refine wpList_append_own_none rfl _ _ 22 rfl w.heap.size 5 i0 1 Yba.underlying22 hi _ 0 [] rfl (World.ownsRow_nil _ _ _ _) rfl ?_)
        go_meet
        case rel => exact ⟨none, 0, rfl, Or.inl rfl, Below.refl _ _⟩
      · have HX : Hid (∀ j, j < len → w.cell? (x.add j) = some (.int .u8 (pk bs j))) := hx
        clear hx
        go_wp2_with (at_builtin; refine wpList_append_own _ rfl _ _ 22 rfl w.heap.size 5 i0 (.int .u8 0) 1 1 Yba.underlying22 hi hz0 hz1 hz2 rfl (by decide) _ 0 [] rfl (World.ownsRow_nil _ _ _ _) x len cap (bs.map (Value.int .u8)) rfl ?c0 ?c1 ?c2 ?c3 ?c4 (Nat.le_refl _) ?_)
        case c0 => simp [HN.out]
        case c1 =>
          intro j u hj
          have hjl : j < bs.length := by
            by_cases hlt : j < bs.length
            · exact hlt
            · rw [List.getElem?_eq_none (by simpa using hlt)] at hj; cases hj
          rw [HX.out j (by rw [← HN.out]; exact hjl), ← hj]
          simp [pk, List.getElem?_eq_getElem hjl]
        case c2 => exact ints_oneCell _ _
        case c3 => unfold maxLen; omega
        case c4 => omega
        · intro v' w1 hown hgrow _
          obtain ⟨ta, cp, hv, htx⟩ := text_of_owns hown
          have hbel : Below w.heap.size w w1 := (Below.refl _ w).grown hgrow (Nat.le_refl _) (fun k hk => by simp [Value.ownBlock] at hk)
          clear hown hgrow
          rw [hv]
          go_wp2_with fail
          go_meet
          case rel => exact ⟨ta, cp, rfl, htx, hbel⟩
    case rest =>
      obtain ⟨ta, cp, rfl, htx, hbel⟩ := hcut
      have HT : Hid (TextAt wc wc.heap.size ta len bs) := htx
      clear htx
      go_wp2_with fail
      rw [HS.out]
      clear HS h0 h1
      refine (number_any (VS.start d st HT.out HN.out hle) (by omega)).mono ?_
      rintro e w2 ⟨rfl, hv⟩
      have hb2 : Below w.heap.size w w2 := (hbel.alloc hbel.size _).trans (hv.bel.mono hbel.size)
      have htx2 := HTX.out.below hb2 w2.heap.size hb2.size
      have HT2 : Hid (TextAt w2 w2.heap.size a0 len bs) := htx2
      have HV : Hid (TextAt w2 wc.heap.size ta len bs) := hv.txt
      have f0 := hv.f0
      have f1 := hv.f1
      have f2 := hv.f2
      have f3 := hv.f3
      clear htx2 hv HTX HSRC hbel HT hi hz0 hz1 hz2
      go_wp2_with fail
      refine (model_any HT2.out HN.out (by omega) hle).mono ?_
      rintro e w3 ⟨rfl, hw⟩
      obtain rfl := hw.symm
      clear hw
      generalize numL bs st = r at *
      go_wp2_with fail
      refine (equal_any HV.out HT2.out HN.out).mono ?_
      rintro e w4 ⟨rfl, hw⟩
      obtain rfl := hw.symm
      clear hw
      go_wp2_with fail
      go_ret
      exact ⟨rfl, hb2⟩

end Go.Proofs.Ybulkclii
