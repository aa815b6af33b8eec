/-
  No cell of these rows narrows 'for every input' (looked for: loops, veiled, ifaces, maps, wideKeys, modest, calm, conditions, laid).
  DERIVED. THE GIVEN ROWS OF THIS SEAT. 2 by the template 'for every input the law returns true; each argument reads behind the call as it read before'; 0 by the template 'total and deterministic' (their statements: YbulkpjmTotals.lean).
  GIVEN WITH THE SEED: the statements are not yours to turn. If you find one false, say at which input.
  Laid BY PROGRAM, IN A SANDBOX (cutbox-rows.mjs): the forced cells as the released guide's own fill.sh prints them over the translation 715a0087fc7694ab… (all of the seat's roots in one cut). By AI agents, Wed Nov 11 2026. No macro, syntax, notation, axiom, sorry.
-/
import Derived.Test.YbulkpjmChecked
import GoSem.Claim
import GoSem.ClaimJoined
import GoSem.ClaimMapViews
import Derived.JoinedTies
import Derived.KernelRfl
namespace Go.Proofs.Ybulkpjm
/- THE CELL 'sum', in the pinned program and in every row, IS THE sha256 OF THE DUMP (.gsa) THAT YbulkpjmProg.lean LOADS. Nothing in Lean hashes anything: it is a label: what it is worth is what the hold of that sum in a sandbox is worth. -/
noncomputable def Yba.pinned : Pinned := { name := "ybulkpjm", sum := "715a0087fc7694ab9e973d2cea462b861f91296c54062fa3c58dac0c467ba220", checked := Yba.checked }
namespace Rows
def none {H : Type} : Left H := { results := [], args := [] }

/-- 'decimal.LawS0792BExact': WHATEVER THE INPUT: true; the input reads as it did. -/
def lawS0792BExactSpec : ChangeSpec := { name := "lawS0792BExact", fn := fun _ => fun
  | [d] => { results := [.lit (.bool true)], args := [d] }
  | _ => none }
def lawS0792BExactRow : OpenClaim := { program := "ybulkpjm", sum := "715a0087fc7694ab9e973d2cea462b861f91296c54062fa3c58dac0c467ba220", func := "example.com/tuoguan/tuoguan/decimal.LawS0792BExact", spec := "lawS0792BExact", apart := false }
def LawS0792BExactSaid : Prop := lawS0792BExactRow.holds Yba.pinned (OpenSpec.ofChange lawS0792BExactSpec)

/-- ITS FALSE NEIGHBOUR: 'it returns false'. Refute it at one input. -/
def lawS0792BExactWrong : ChangeSpec := { name := "lawS0792BExact", fn := fun _ => fun
  | [d] => { results := [.lit (.bool false)], args := [d] }
  | _ => none }
def LawS0792BExactWrongFalsely : Prop := lawS0792BExactRow.holds Yba.pinned (OpenSpec.ofChange lawS0792BExactWrong)

/-- 'decimal.LawS0792BSym': WHATEVER THE INPUT: true; the input reads as it did. -/
def lawS0792BSymSpec : ChangeSpec := { name := "lawS0792BSym", fn := fun _ => fun
  | [d] => { results := [.lit (.bool true)], args := [d] }
  | _ => none }
def lawS0792BSymRow : OpenClaim := { program := "ybulkpjm", sum := "715a0087fc7694ab9e973d2cea462b861f91296c54062fa3c58dac0c467ba220", func := "example.com/tuoguan/tuoguan/decimal.LawS0792BSym", spec := "lawS0792BSym", apart := false }
def LawS0792BSymSaid : Prop := lawS0792BSymRow.holds Yba.pinned (OpenSpec.ofChange lawS0792BSymSpec)

/-- ITS FALSE NEIGHBOUR: 'it returns false'. Refute it at one input. -/
def lawS0792BSymWrong : ChangeSpec := { name := "lawS0792BSym", fn := fun _ => fun
  | [d] => { results := [.lit (.bool false)], args := [d] }
  | _ => none }
def LawS0792BSymWrongFalsely : Prop := lawS0792BSymRow.holds Yba.pinned (OpenSpec.ofChange lawS0792BSymWrong)

end Rows
end Go.Proofs.Ybulkpjm
