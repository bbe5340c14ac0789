/-
  No cell of these rows narrows 'for every input' (looked for: loops, veiled, ifaces, maps, wideKeys, modest, calm, conditions, laid).
  DERIVED. THE GIVEN ROWS OF THIS SEAT. 2 by the template 'for every input the law returns true; each argument reads behind the call as it read before'; 0 by the template 'total and deterministic' (their statements: YbulkpnuTotals.lean).
  GIVEN WITH THE SEED: the statements are not yours to turn. If you find one false, say at which input.
  Laid BY PROGRAM, IN A SANDBOX (cutbox-rows.mjs): the forced cells as the released guide's own fill.sh prints them over the translation f93bfd1e64d282c9… (all of the seat's roots in one cut). By AI agents, Wed Nov 11 2026. No macro, syntax, notation, axiom, sorry.
-/
import Derived.Test.YbulkpnuChecked
import GoSem.Claim
import GoSem.ClaimJoined
import GoSem.ClaimMapViews
import Derived.JoinedTies
import Derived.KernelRfl
namespace Go.Proofs.Ybulkpnu
/- THE CELL 'sum', in the pinned program and in every row, IS THE sha256 OF THE DUMP (.gsa) THAT YbulkpnuProg.lean LOADS. Nothing in Lean hashes anything: it is a label: what it is worth is what the hold of that sum in a sandbox is worth. -/
noncomputable def Yba.pinned : Pinned := { name := "ybulkpnu", sum := "f93bfd1e64d282c93161ca1d4fbbf4fc520a845a36b9af1410f9bcffa37dd995", checked := Yba.checked }
namespace Rows
def none {H : Type} : Left H := { results := [], args := [] }

/-- 'rikin.LawS0800CExact': WHATEVER THE INPUT: true; the input reads as it did. -/
def lawS0800CExactSpec : ChangeSpec := { name := "lawS0800CExact", fn := fun _ => fun
  | [d1, d2, d3, d4, d5, d6, d7] => { results := [.lit (.bool true)], args := [d1, d2, d3, d4, d5, d6, d7] }
  | _ => none }
def lawS0800CExactRow : OpenClaim := { program := "ybulkpnu", sum := "f93bfd1e64d282c93161ca1d4fbbf4fc520a845a36b9af1410f9bcffa37dd995", func := "example.com/rikin/rikin.LawS0800CExact", spec := "lawS0800CExact", apart := false }
def LawS0800CExactSaid : Prop := lawS0800CExactRow.holds Yba.pinned (OpenSpec.ofChange lawS0800CExactSpec)

/-- ITS FALSE NEIGHBOUR: 'it returns false'. Refute it at one input. -/
def lawS0800CExactWrong : ChangeSpec := { name := "lawS0800CExact", fn := fun _ => fun
  | [d1, d2, d3, d4, d5, d6, d7] => { results := [.lit (.bool false)], args := [d1, d2, d3, d4, d5, d6, d7] }
  | _ => none }
def LawS0800CExactWrongFalsely : Prop := lawS0800CExactRow.holds Yba.pinned (OpenSpec.ofChange lawS0800CExactWrong)

/-- 'rikin.LawS0800CDateFaceIgnored': WHATEVER THE INPUT: true; the input reads as it did. -/
def lawS0800CDateFaceIgnoredSpec : ChangeSpec := { name := "lawS0800CDateFaceIgnored", fn := fun _ => fun
  | [d1, d2, d3, d4, d5, d6, d7, d8, d9] => { results := [.lit (.bool true)], args := [d1, d2, d3, d4, d5, d6, d7, d8, d9] }
  | _ => none }
def lawS0800CDateFaceIgnoredRow : OpenClaim := { program := "ybulkpnu", sum := "f93bfd1e64d282c93161ca1d4fbbf4fc520a845a36b9af1410f9bcffa37dd995", func := "example.com/rikin/rikin.LawS0800CDateFaceIgnored", spec := "lawS0800CDateFaceIgnored", apart := false }
def LawS0800CDateFaceIgnoredSaid : Prop := lawS0800CDateFaceIgnoredRow.holds Yba.pinned (OpenSpec.ofChange lawS0800CDateFaceIgnoredSpec)

/-- ITS FALSE NEIGHBOUR: 'it returns false'. Refute it at one input. -/
def lawS0800CDateFaceIgnoredWrong : ChangeSpec := { name := "lawS0800CDateFaceIgnored", fn := fun _ => fun
  | [d1, d2, d3, d4, d5, d6, d7, d8, d9] => { results := [.lit (.bool false)], args := [d1, d2, d3, d4, d5, d6, d7, d8, d9] }
  | _ => none }
def LawS0800CDateFaceIgnoredWrongFalsely : Prop := lawS0800CDateFaceIgnoredRow.holds Yba.pinned (OpenSpec.ofChange lawS0800CDateFaceIgnoredWrong)

end Rows
end Go.Proofs.Ybulkpnu
