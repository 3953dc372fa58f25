/-
  No cell of these rows narrows 'for every input' (looked for: loops, veiled, ifaces, maps, wideKeys, modest, calm, conditions, laid).
  DERIVED. THE GIVEN ROWS OF THIS SEAT. 3 by the template 'for every input the law returns true; each argument reads behind the call as it read before'; 0 by the template 'total and deterministic' (their statements: YbulkcliiTotals.lean).
  GIVEN WITH THE SEED: the statements are not yours to turn. If you find one false, say at which input.
  Laid BY PROGRAM, IN A SANDBOX (cutbox-rows.mjs): the forced cells as the released guide's own fill.sh prints them over the translation f7a19dd97040280d… (all of the seat's roots in one cut). By AI agents, Wed Nov 11 2026. No macro, syntax, notation, axiom, sorry.
-/
import Derived.Test.YbulkcliiChecked
import GoSem.Claim
import GoSem.ClaimJoined
import GoSem.ClaimMapViews
import Derived.JoinedTies
import Derived.KernelRfl
namespace Go.Proofs.Ybulkclii
/- THE CELL 'sum', in the pinned program and in every row, IS THE sha256 OF THE DUMP (.gsa) THAT YbulkcliiProg.lean LOADS. Nothing in Lean hashes anything: it is a label: what it is worth is what the hold of that sum in a sandbox is worth. -/
noncomputable def Yba.pinned : Pinned := { name := "ybulkclii", sum := "f7a19dd97040280dacc6fa88c7597d3b7deaa53ac35078568366eb316629977f", checked := Yba.checked }
namespace Rows
def none {H : Type} : Left H := { results := [], args := [] }

/-- 'jsonobject.LawS4363AModel': WHATEVER THE INPUT: true; the input reads as it did. -/
def lawS4363AModelSpec : ChangeSpec := { name := "lawS4363AModel", fn := fun _ => fun
  | [d1, d2, d3] => { results := [.lit (.bool true)], args := [d1, d2, d3] }
  | _ => none }
def lawS4363AModelRow : OpenClaim := { program := "ybulkclii", sum := "f7a19dd97040280dacc6fa88c7597d3b7deaa53ac35078568366eb316629977f", func := "example.com/ringfence/ringfence/jsonobject.LawS4363AModel", spec := "lawS4363AModel", apart := false }
def LawS4363AModelSaid : Prop := lawS4363AModelRow.holds Yba.pinned (OpenSpec.ofChange lawS4363AModelSpec)

/-- ITS FALSE NEIGHBOUR: 'it returns false'. Refute it at one input. -/
def lawS4363AModelWrong : ChangeSpec := { name := "lawS4363AModel", fn := fun _ => fun
  | [d1, d2, d3] => { results := [.lit (.bool false)], args := [d1, d2, d3] }
  | _ => none }
def LawS4363AModelWrongFalsely : Prop := lawS4363AModelRow.holds Yba.pinned (OpenSpec.ofChange lawS4363AModelWrong)

/-- 'jsonobject.LawS4363AWellFormed': WHATEVER THE INPUT: true; the input reads as it did. -/
def lawS4363AWellFormedSpec : ChangeSpec := { name := "lawS4363AWellFormed", fn := fun _ => fun
  | [d1, d2, d3, d4, d5, d6, d7] => { results := [.lit (.bool true)], args := [d1, d2, d3, d4, d5, d6, d7] }
  | _ => none }
def lawS4363AWellFormedRow : OpenClaim := { program := "ybulkclii", sum := "f7a19dd97040280dacc6fa88c7597d3b7deaa53ac35078568366eb316629977f", func := "example.com/ringfence/ringfence/jsonobject.LawS4363AWellFormed", spec := "lawS4363AWellFormed", apart := false }
def LawS4363AWellFormedSaid : Prop := lawS4363AWellFormedRow.holds Yba.pinned (OpenSpec.ofChange lawS4363AWellFormedSpec)

/-- ITS FALSE NEIGHBOUR: 'it returns false'. Refute it at one input. -/
def lawS4363AWellFormedWrong : ChangeSpec := { name := "lawS4363AWellFormed", fn := fun _ => fun
  | [d1, d2, d3, d4, d5, d6, d7] => { results := [.lit (.bool false)], args := [d1, d2, d3, d4, d5, d6, d7] }
  | _ => none }
def LawS4363AWellFormedWrongFalsely : Prop := lawS4363AWellFormedRow.holds Yba.pinned (OpenSpec.ofChange lawS4363AWellFormedWrong)

/-- 'api.LawS4363CForwards': WHATEVER THE INPUT: true; the input reads as it did. -/
def lawS4363CForwardsSpec : ChangeSpec := { name := "lawS4363CForwards", fn := fun _ => fun
  | [d1, d2, d3] => { results := [.lit (.bool true)], args := [d1, d2, d3] }
  | _ => none }
def lawS4363CForwardsRow : OpenClaim := { program := "ybulkclii", sum := "f7a19dd97040280dacc6fa88c7597d3b7deaa53ac35078568366eb316629977f", func := "example.com/ringfence/ringfence/api.LawS4363CForwards", spec := "lawS4363CForwards", inPlace := ["sync/atomic.LoadInt64"], unfollowed := true, recurses := true, apart := false }
def LawS4363CForwardsSaid : Prop := lawS4363CForwardsRow.holds Yba.pinned (OpenSpec.ofChange lawS4363CForwardsSpec)

/-- ITS FALSE NEIGHBOUR: 'it returns false'. Refute it at one input. -/
def lawS4363CForwardsWrong : ChangeSpec := { name := "lawS4363CForwards", fn := fun _ => fun
  | [d1, d2, d3] => { results := [.lit (.bool false)], args := [d1, d2, d3] }
  | _ => none }
def LawS4363CForwardsWrongFalsely : Prop := lawS4363CForwardsRow.holds Yba.pinned (OpenSpec.ofChange lawS4363CForwardsWrong)

end Rows
end Go.Proofs.Ybulkclii
