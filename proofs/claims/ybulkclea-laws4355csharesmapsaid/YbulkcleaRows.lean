/-
  No cell of these rows narrows 'for every input' (looked for: loops, veiled, ifaces, maps, wideKeys, modest, calm, conditions, laid).
  DERIVED. THE GIVEN ROWS OF THIS SEAT. 2 by the template 'for every input the law returns true; each argument reads behind the call as it read before'; 0 by the template 'total and deterministic' (their statements: YbulkcleaTotals.lean).
  GIVEN WITH THE SEED: the statements are not yours to turn. If you find one false, say at which input.
  Laid BY PROGRAM, IN A SANDBOX (cutbox-rows.mjs): the forced cells as the released guide's own fill.sh prints them over the translation c1f8a887851e0cd9… (all of the seat's roots in one cut). By AI agents, Wed Nov 11 2026. No macro, syntax, notation, axiom, sorry.
-/
import Derived.Test.YbulkcleaChecked
import GoSem.Claim
import GoSem.ClaimJoined
import GoSem.ClaimMapViews
import Derived.JoinedTies
import Derived.KernelRfl
namespace Go.Proofs.Ybulkclea
/- THE CELL 'sum', in the pinned program and in every row, IS THE sha256 OF THE DUMP (.gsa) THAT YbulkcleaProg.lean LOADS. Nothing in Lean hashes anything: it is a label: what it is worth is what the hold of that sum in a sandbox is worth. -/
noncomputable def Yba.pinned : Pinned := { name := "ybulkclea", sum := "c1f8a887851e0cd9db9f315cd4e55e04d73f47dd82d7473eab7750d167aac749", checked := Yba.checked }
namespace Rows
def none {H : Type} : Left H := { results := [], args := [] }

/-- 'implicit.LawS4355CSharesMap': WHATEVER THE INPUT: true; the input reads as it did. -/
def lawS4355CSharesMapSpec : ChangeSpec := { name := "lawS4355CSharesMap", fn := fun _ => fun
  | [d1, d2, d3, d4] => { results := [.lit (.bool true)], args := [d1, d2, d3, d4] }
  | _ => none }
def lawS4355CSharesMapRow : OpenClaim := { program := "ybulkclea", sum := "c1f8a887851e0cd9db9f315cd4e55e04d73f47dd82d7473eab7750d167aac749", func := "example.com/caskwire/caskwire/internal/testpb/implicit.LawS4355CSharesMap", spec := "lawS4355CSharesMap", apart := false }
def LawS4355CSharesMapSaid : Prop := lawS4355CSharesMapRow.holds Yba.pinned (OpenSpec.ofChange lawS4355CSharesMapSpec)

/-- ITS FALSE NEIGHBOUR: 'it returns false'. Refute it at one input. -/
def lawS4355CSharesMapWrong : ChangeSpec := { name := "lawS4355CSharesMap", fn := fun _ => fun
  | [d1, d2, d3, d4] => { results := [.lit (.bool false)], args := [d1, d2, d3, d4] }
  | _ => none }
def LawS4355CSharesMapWrongFalsely : Prop := lawS4355CSharesMapRow.holds Yba.pinned (OpenSpec.ofChange lawS4355CSharesMapWrong)

/-- 'implicit.LawS4355CNilReceiver': WHATEVER THE INPUT: true; the input reads as it did. -/
def lawS4355CNilReceiverSpec : ChangeSpec := { name := "lawS4355CNilReceiver", fn := fun _ => fun
  | [] => { results := [.lit (.bool true)], args := [] }
  | _ => none }
def lawS4355CNilReceiverRow : OpenClaim := { program := "ybulkclea", sum := "c1f8a887851e0cd9db9f315cd4e55e04d73f47dd82d7473eab7750d167aac749", func := "example.com/caskwire/caskwire/internal/testpb/implicit.LawS4355CNilReceiver", spec := "lawS4355CNilReceiver", apart := false }
def LawS4355CNilReceiverSaid : Prop := lawS4355CNilReceiverRow.holds Yba.pinned (OpenSpec.ofChange lawS4355CNilReceiverSpec)

/-- ITS FALSE NEIGHBOUR: 'it returns false'. Refute it at one input. -/
def lawS4355CNilReceiverWrong : ChangeSpec := { name := "lawS4355CNilReceiver", fn := fun _ => fun
  | [] => { results := [.lit (.bool false)], args := [] }
  | _ => none }
def LawS4355CNilReceiverWrongFalsely : Prop := lawS4355CNilReceiverRow.holds Yba.pinned (OpenSpec.ofChange lawS4355CNilReceiverWrong)

end Rows
end Go.Proofs.Ybulkclea
