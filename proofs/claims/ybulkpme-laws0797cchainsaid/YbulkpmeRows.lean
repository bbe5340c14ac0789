/-
  No cell of these rows narrows 'for every input' (looked for: loops, veiled, ifaces, maps, wideKeys, modest, calm, conditions, laid).
  DERIVED. THE GIVEN ROWS OF THIS SEAT. 2 by the template 'for every input the law returns true; each argument reads behind the call as it read before'; 0 by the template 'total and deterministic' (their statements: YbulkpmeTotals.lean).
  GIVEN WITH THE SEED: the statements are not yours to turn. If you find one false, say at which input.
  Laid BY PROGRAM, IN A SANDBOX (cutbox-rows.mjs): the forced cells as the released guide's own fill.sh prints them over the translation 754b46dc5301b90c… (all of the seat's roots in one cut). By AI agents, Wed Nov 11 2026. No macro, syntax, notation, axiom, sorry.
-/
import Derived.Test.YbulkpmeChecked
import GoSem.Claim
import GoSem.ClaimJoined
import GoSem.ClaimMapViews
import Derived.JoinedTies
import Derived.KernelRfl
namespace Go.Proofs.Ybulkpme
/- THE CELL 'sum', in the pinned program and in every row, IS THE sha256 OF THE DUMP (.gsa) THAT YbulkpmeProg.lean LOADS. Nothing in Lean hashes anything: it is a label: what it is worth is what the hold of that sum in a sandbox is worth. -/
noncomputable def Yba.pinned : Pinned := { name := "ybulkpme", sum := "754b46dc5301b90cd4d4ed4948a75bfdf7d37134154d8023adf96b80786f2c03", checked := Yba.checked }
namespace Rows
def none {H : Type} : Left H := { results := [], args := [] }

/-- 'tierfall.LawS0797CExact': WHATEVER THE INPUT: true; the input reads as it did. -/
def lawS0797CExactSpec : ChangeSpec := { name := "lawS0797CExact", fn := fun _ => fun
  | [d1, d2, d3] => { results := [.lit (.bool true)], args := [d1, d2, d3] }
  | _ => none }
def lawS0797CExactRow : OpenClaim := { program := "ybulkpme", sum := "754b46dc5301b90cd4d4ed4948a75bfdf7d37134154d8023adf96b80786f2c03", func := "example.com/tierfall/tierfall.LawS0797CExact", spec := "lawS0797CExact", apart := false }
def LawS0797CExactSaid : Prop := lawS0797CExactRow.holds Yba.pinned (OpenSpec.ofChange lawS0797CExactSpec)

/-- ITS FALSE NEIGHBOUR: 'it returns false'. Refute it at one input. -/
def lawS0797CExactWrong : ChangeSpec := { name := "lawS0797CExact", fn := fun _ => fun
  | [d1, d2, d3] => { results := [.lit (.bool false)], args := [d1, d2, d3] }
  | _ => none }
def LawS0797CExactWrongFalsely : Prop := lawS0797CExactRow.holds Yba.pinned (OpenSpec.ofChange lawS0797CExactWrong)

/-- 'tierfall.LawS0797CChain': WHATEVER THE INPUT: true; the input reads as it did. -/
def lawS0797CChainSpec : ChangeSpec := { name := "lawS0797CChain", fn := fun _ => fun
  | [d] => { results := [.lit (.bool true)], args := [d] }
  | _ => none }
def lawS0797CChainRow : OpenClaim := { program := "ybulkpme", sum := "754b46dc5301b90cd4d4ed4948a75bfdf7d37134154d8023adf96b80786f2c03", func := "example.com/tierfall/tierfall.LawS0797CChain", spec := "lawS0797CChain", apart := false }
def LawS0797CChainSaid : Prop := lawS0797CChainRow.holds Yba.pinned (OpenSpec.ofChange lawS0797CChainSpec)

/-- ITS FALSE NEIGHBOUR: 'it returns false'. Refute it at one input. -/
def lawS0797CChainWrong : ChangeSpec := { name := "lawS0797CChain", fn := fun _ => fun
  | [d] => { results := [.lit (.bool false)], args := [d] }
  | _ => none }
def LawS0797CChainWrongFalsely : Prop := lawS0797CChainRow.holds Yba.pinned (OpenSpec.ofChange lawS0797CChainWrong)

end Rows
end Go.Proofs.Ybulkpme
