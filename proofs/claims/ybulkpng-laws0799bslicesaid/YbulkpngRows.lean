/-
  No cell of these rows narrows 'for every input' (looked for: loops, veiled, ifaces, maps, wideKeys, modest, calm, conditions, laid).
  DERIVED. THE GIVEN ROWS OF THIS SEAT. 1 by the template 'for every input the law returns true; each argument reads behind the call as it read before'; 0 by the template 'total and deterministic' (their statements: YbulkpngTotals.lean).
  GIVEN WITH THE SEED: the statements are not yours to turn. If you find one false, say at which input.
  Laid BY PROGRAM, IN A SANDBOX (cutbox-rows.mjs): the forced cells as the released guide's own fill.sh prints them over the translation 5d1b0cfae10b06f8… (all of the seat's roots in one cut). By AI agents, Wed Nov 11 2026. No macro, syntax, notation, axiom, sorry.
-/
import Derived.Test.YbulkpngChecked
import GoSem.Claim
import GoSem.ClaimJoined
import GoSem.ClaimMapViews
import Derived.JoinedTies
import Derived.KernelRfl
namespace Go.Proofs.Ybulkpng
/- THE CELL 'sum', in the pinned program and in every row, IS THE sha256 OF THE DUMP (.gsa) THAT YbulkpngProg.lean LOADS. Nothing in Lean hashes anything: it is a label: what it is worth is what the hold of that sum in a sandbox is worth. -/
noncomputable def Yba.pinned : Pinned := { name := "ybulkpng", sum := "5d1b0cfae10b06f871c8b465631a65ff5b98db1c0668b41f62a57e1116482aae", checked := Yba.checked }
namespace Rows
def none {H : Type} : Left H := { results := [], args := [] }

/-- 'asn1.LawS0799BSlice': WHATEVER THE INPUT: true; the input reads as it did. -/
def lawS0799BSliceSpec : ChangeSpec := { name := "lawS0799BSlice", fn := fun _ => fun
  | [d1, d2, d3, d4] => { results := [.lit (.bool true)], args := [d1, d2, d3, d4] }
  | _ => none }
def lawS0799BSliceRow : OpenClaim := { program := "ybulkpng", sum := "5d1b0cfae10b06f871c8b465631a65ff5b98db1c0668b41f62a57e1116482aae", func := "example.com/signalwright/signalwright/internal/asn1.LawS0799BSlice", spec := "lawS0799BSlice", apart := false }
def LawS0799BSliceSaid : Prop := lawS0799BSliceRow.holds Yba.pinned (OpenSpec.ofChange lawS0799BSliceSpec)

/-- ITS FALSE NEIGHBOUR: 'it returns false'. Refute it at one input. -/
def lawS0799BSliceWrong : ChangeSpec := { name := "lawS0799BSlice", fn := fun _ => fun
  | [d1, d2, d3, d4] => { results := [.lit (.bool false)], args := [d1, d2, d3, d4] }
  | _ => none }
def LawS0799BSliceWrongFalsely : Prop := lawS0799BSliceRow.holds Yba.pinned (OpenSpec.ofChange lawS0799BSliceWrong)

end Rows
end Go.Proofs.Ybulkpng
