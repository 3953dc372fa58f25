/-
  No cell of these rows narrows 'for every input' (looked for: loops, veiled, ifaces, maps, wideKeys, modest, calm, conditions, laid).
  DERIVED. THE GIVEN ROWS OF THIS SEAT. 2 by the template 'for every input the law returns true; each argument reads behind the call as it read before'; 0 by the template 'total and deterministic' (their statements: YbulkcleoTotals.lean).
  GIVEN WITH THE SEED: the statements are not yours to turn. If you find one false, say at which input.
  Laid BY PROGRAM, IN A SANDBOX (cutbox-rows.mjs): the forced cells as the released guide's own fill.sh prints them over the translation d8f889b2e29ad10f… (all of the seat's roots in one cut). By AI agents, Wed Nov 11 2026. No macro, syntax, notation, axiom, sorry.
-/
import Derived.Test.YbulkcleoChecked
import GoSem.Claim
import GoSem.ClaimJoined
import GoSem.ClaimMapViews
import Derived.JoinedTies
import Derived.KernelRfl
namespace Go.Proofs.Ybulkcleo
/- THE CELL 'sum', in the pinned program and in every row, IS THE sha256 OF THE DUMP (.gsa) THAT YbulkcleoProg.lean LOADS. Nothing in Lean hashes anything: it is a label: what it is worth is what the hold of that sum in a sandbox is worth. -/
noncomputable def Yba.pinned : Pinned := { name := "ybulkcleo", sum := "d8f889b2e29ad10fe0e154aa214aa56898f5bb34a19e8fecedba5456d56e96dc", checked := Yba.checked }
namespace Rows
def none {H : Type} : Left H := { results := [], args := [] }

/-- 'revlog.LawS4356AExact': WHATEVER THE INPUT: true; the input reads as it did. -/
def lawS4356AExactSpec : ChangeSpec := { name := "lawS4356AExact", fn := fun _ => fun
  | [d] => { results := [.lit (.bool true)], args := [d] }
  | _ => none }
def lawS4356AExactRow : OpenClaim := { program := "ybulkcleo", sum := "d8f889b2e29ad10fe0e154aa214aa56898f5bb34a19e8fecedba5456d56e96dc", func := "example.com/tallyfold/tallyfold/revlog.LawS4356AExact", spec := "lawS4356AExact", apart := false }
def LawS4356AExactSaid : Prop := lawS4356AExactRow.holds Yba.pinned (OpenSpec.ofChange lawS4356AExactSpec)

/-- ITS FALSE NEIGHBOUR: 'it returns false'. Refute it at one input. -/
def lawS4356AExactWrong : ChangeSpec := { name := "lawS4356AExact", fn := fun _ => fun
  | [d] => { results := [.lit (.bool false)], args := [d] }
  | _ => none }
def LawS4356AExactWrongFalsely : Prop := lawS4356AExactRow.holds Yba.pinned (OpenSpec.ofChange lawS4356AExactWrong)

/-- 'revlog.LawS4356ARev': WHATEVER THE INPUT: true; the input reads as it did. -/
def lawS4356ARevSpec : ChangeSpec := { name := "lawS4356ARev", fn := fun _ => fun
  | [d1, d2] => { results := [.lit (.bool true)], args := [d1, d2] }
  | _ => none }
def lawS4356ARevRow : OpenClaim := { program := "ybulkcleo", sum := "d8f889b2e29ad10fe0e154aa214aa56898f5bb34a19e8fecedba5456d56e96dc", func := "example.com/tallyfold/tallyfold/revlog.LawS4356ARev", spec := "lawS4356ARev", unfollowed := true, recurses := true, apart := false }
def LawS4356ARevSaid : Prop := lawS4356ARevRow.holds Yba.pinned (OpenSpec.ofChange lawS4356ARevSpec)

/-- ITS FALSE NEIGHBOUR: 'it returns false'. Refute it at one input. -/
def lawS4356ARevWrong : ChangeSpec := { name := "lawS4356ARev", fn := fun _ => fun
  | [d1, d2] => { results := [.lit (.bool false)], args := [d1, d2] }
  | _ => none }
def LawS4356ARevWrongFalsely : Prop := lawS4356ARevRow.holds Yba.pinned (OpenSpec.ofChange lawS4356ARevWrong)

end Rows
end Go.Proofs.Ybulkcleo
