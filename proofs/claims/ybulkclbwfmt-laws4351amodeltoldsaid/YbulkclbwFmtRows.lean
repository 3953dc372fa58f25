/-
  No cell of these rows narrows 'for every input' (looked for: loops, veiled, ifaces, maps, wideKeys, modest, calm, conditions, laid).
  DERIVED. THE GIVEN ROWS OF THIS SEAT. 3 by the template 'for every input the law returns true; each argument reads behind the call as it read before'; 0 by the template 'total and deterministic' (their statements: YbulkclbwFmtTotals.lean).
  GIVEN WITH THE SEED: the statements are not yours to turn. If you find one false, say at which input.
  Laid BY PROGRAM, IN A SANDBOX (cutbox-rows.mjs): the forced cells as the released guide's own fill.sh prints them over the translation 61b6381fcc9a929b… (all of the seat's roots in one cut). By AI agents, Wed Nov 11 2026. No macro, syntax, notation, axiom, sorry.
-/
import Derived.Test.YbulkclbwFmtChecked
import GoSem.Claim
import GoSem.ClaimJoined
import GoSem.ClaimMapViews
import Derived.JoinedTies
import Derived.KernelRfl
namespace Go.Proofs.YbulkclbwFmt
/- THE CELL 'sum', in the pinned program and in every row, IS THE sha256 OF THE DUMP (.gsa) THAT YbulkclbwFmtProg.lean LOADS. Nothing in Lean hashes anything: it is a label: what it is worth is what the hold of that sum in a sandbox is worth. -/
noncomputable def Ybaf.pinned : Pinned := { name := "ybulkclbwfmt", sum := "61b6381fcc9a929b82e6579e6939961252c047c2d6a1824c7bdf27d3d67c6bd8", checked := Ybaf.checked }
namespace Rows
def none {H : Type} : Left H := { results := [], args := [] }

/-- 'resolvent.LawS4351AModel': WHATEVER THE INPUT: true; the input reads as it did. -/
def lawS4351AModelSpec : ChangeSpec := { name := "lawS4351AModel", fn := fun _ => fun
  | [d1, d2] => { results := [.lit (.bool true)], args := [d1, d2] }
  | _ => none }
def lawS4351AModelRow : OpenClaim := { program := "ybulkclbwfmt", sum := "61b6381fcc9a929b82e6579e6939961252c047c2d6a1824c7bdf27d3d67c6bd8", func := "example.com/resolvent/resolvent.LawS4351AModel", spec := "lawS4351AModel", stops := ["fmt.Sprintf, its operands' methods called"], inPlace := ["fmt.Sprintf"], unfollowed := true, recurses := true, plainKeys := false, apart := false }
/-- NO THEOREM (fmt's text is open here; it may be false): for the released tool's asking of the row's closed facts alone. THE STATEMENT IS 'LawS4351AModelToldSaid' (YbulkclbwFmtCards.lean). -/
def LawS4351AModelFormAsk : Prop := lawS4351AModelRow.holds Ybaf.pinned (OpenSpec.ofChange lawS4351AModelSpec)

/-- ITS FALSE NEIGHBOUR: 'it returns false'. Refute it at one input. -/
def lawS4351AModelWrong : ChangeSpec := { name := "lawS4351AModel", fn := fun _ => fun
  | [d1, d2] => { results := [.lit (.bool false)], args := [d1, d2] }
  | _ => none }
def LawS4351AModelWrongFormAsk : Prop := lawS4351AModelRow.holds Ybaf.pinned (OpenSpec.ofChange lawS4351AModelWrong)

/-- 'syntax.LawS4351CModel': WHATEVER THE INPUT: true; the input reads as it did. -/
def lawS4351CModelSpec : ChangeSpec := { name := "lawS4351CModel", fn := fun _ => fun
  | [d1, d2] => { results := [.lit (.bool true)], args := [d1, d2] }
  | _ => none }
def lawS4351CModelRow : OpenClaim := { program := "ybulkclbwfmt", sum := "61b6381fcc9a929b82e6579e6939961252c047c2d6a1824c7bdf27d3d67c6bd8", func := "example.com/resolvent/resolvent/internal/syntax.LawS4351CModel", spec := "lawS4351CModel", stops := ["fmt.Sprintf, its operands' methods called"], inPlace := ["fmt.Sprintf"], unfollowed := true, recurses := true, plainKeys := false, apart := false }
/-- NO THEOREM (fmt's text is open here; it may be false): for the released tool's asking of the row's closed facts alone. THE STATEMENT IS 'LawS4351CModelToldSaid' (YbulkclbwFmtCards.lean). -/
def LawS4351CModelFormAsk : Prop := lawS4351CModelRow.holds Ybaf.pinned (OpenSpec.ofChange lawS4351CModelSpec)

/-- ITS FALSE NEIGHBOUR: 'it returns false'. Refute it at one input. -/
def lawS4351CModelWrong : ChangeSpec := { name := "lawS4351CModel", fn := fun _ => fun
  | [d1, d2] => { results := [.lit (.bool false)], args := [d1, d2] }
  | _ => none }
def LawS4351CModelWrongFormAsk : Prop := lawS4351CModelRow.holds Ybaf.pinned (OpenSpec.ofChange lawS4351CModelWrong)

/-- 'syntax.LawS4351CBuilt': WHATEVER THE INPUT: true; the input reads as it did. -/
def lawS4351CBuiltSpec : ChangeSpec := { name := "lawS4351CBuilt", fn := fun _ => fun
  | [d1, d2, d3, d4, d5, d6, d7, d8, d9] => { results := [.lit (.bool true)], args := [d1, d2, d3, d4, d5, d6, d7, d8, d9] }
  | _ => none }
def lawS4351CBuiltRow : OpenClaim := { program := "ybulkclbwfmt", sum := "61b6381fcc9a929b82e6579e6939961252c047c2d6a1824c7bdf27d3d67c6bd8", func := "example.com/resolvent/resolvent/internal/syntax.LawS4351CBuilt", spec := "lawS4351CBuilt", stops := ["fmt.Sprintf, its operands' methods called"], inPlace := ["fmt.Sprintf"], unfollowed := true, recurses := true, plainKeys := false, apart := false }
/-- NO THEOREM (fmt's text is open here; it may be false): for the released tool's asking of the row's closed facts alone. THE STATEMENT IS 'LawS4351CBuiltToldSaid' (YbulkclbwFmtCards.lean). -/
def LawS4351CBuiltFormAsk : Prop := lawS4351CBuiltRow.holds Ybaf.pinned (OpenSpec.ofChange lawS4351CBuiltSpec)

/-- ITS FALSE NEIGHBOUR: 'it returns false'. Refute it at one input. -/
def lawS4351CBuiltWrong : ChangeSpec := { name := "lawS4351CBuilt", fn := fun _ => fun
  | [d1, d2, d3, d4, d5, d6, d7, d8, d9] => { results := [.lit (.bool false)], args := [d1, d2, d3, d4, d5, d6, d7, d8, d9] }
  | _ => none }
def LawS4351CBuiltWrongFormAsk : Prop := lawS4351CBuiltRow.holds Ybaf.pinned (OpenSpec.ofChange lawS4351CBuiltWrong)

end Rows
end Go.Proofs.YbulkclbwFmt
