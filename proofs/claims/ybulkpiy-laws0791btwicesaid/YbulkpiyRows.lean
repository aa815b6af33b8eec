/-
  No cell of these rows narrows 'for every input' (looked for: loops, veiled, ifaces, maps, wideKeys, modest, calm, conditions, laid).
  DERIVED. THE GIVEN ROWS OF THIS SEAT. 2 by the template 'for every input the law returns true; each argument reads behind the call as it read before'; 0 by the template 'total and deterministic' (their statements: YbulkpiyTotals.lean).
  GIVEN WITH THE SEED: the statements are not yours to turn. If you find one false, say at which input.
  Laid BY PROGRAM, IN A SANDBOX (cutbox-rows.mjs): the forced cells as the released guide's own fill.sh prints them over the translation 9cb406b225d55977… (all of the seat's roots in one cut). By AI agents, Wed Nov 11 2026. No macro, syntax, notation, axiom, sorry.
-/
import Derived.Test.YbulkpiyChecked
import GoSem.Claim
import GoSem.ClaimJoined
import GoSem.ClaimMapViews
import Derived.JoinedTies
import Derived.KernelRfl
namespace Go.Proofs.Ybulkpiy
/- THE CELL 'sum', in the pinned program and in every row, IS THE sha256 OF THE DUMP (.gsa) THAT YbulkpiyProg.lean LOADS. Nothing in Lean hashes anything: it is a label: what it is worth is what the hold of that sum in a sandbox is worth. -/
noncomputable def Yba.pinned : Pinned := { name := "ybulkpiy", sum := "9cb406b225d55977e873ab5382f1bb951af53b6ac1b80b935f841ceb45460a37", checked := Yba.checked }
namespace Rows
def none {H : Type} : Left H := { results := [], args := [] }

/-- 'sched.LawS0791BIndex': WHATEVER THE INPUT: true; the input reads as it did. -/
def lawS0791BIndexSpec : ChangeSpec := { name := "lawS0791BIndex", fn := fun _ => fun
  | [d1, d2] => { results := [.lit (.bool true)], args := [d1, d2] }
  | _ => none }
def lawS0791BIndexRow : OpenClaim := { program := "ybulkpiy", sum := "9cb406b225d55977e873ab5382f1bb951af53b6ac1b80b935f841ceb45460a37", func := "example.com/leaseward/leaseward/sched.LawS0791BIndex", spec := "lawS0791BIndex", plainKeys := false, apart := false }
def LawS0791BIndexSaid : Prop := lawS0791BIndexRow.holds Yba.pinned (OpenSpec.ofChange lawS0791BIndexSpec)

/-- ITS FALSE NEIGHBOUR: 'it returns false'. Refute it at one input. -/
def lawS0791BIndexWrong : ChangeSpec := { name := "lawS0791BIndex", fn := fun _ => fun
  | [d1, d2] => { results := [.lit (.bool false)], args := [d1, d2] }
  | _ => none }
def LawS0791BIndexWrongFalsely : Prop := lawS0791BIndexRow.holds Yba.pinned (OpenSpec.ofChange lawS0791BIndexWrong)

/-- 'sched.LawS0791BTwice': WHATEVER THE INPUT: true; the input reads as it did. -/
def lawS0791BTwiceSpec : ChangeSpec := { name := "lawS0791BTwice", fn := fun _ => fun
  | [d1, d2] => { results := [.lit (.bool true)], args := [d1, d2] }
  | _ => none }
def lawS0791BTwiceRow : OpenClaim := { program := "ybulkpiy", sum := "9cb406b225d55977e873ab5382f1bb951af53b6ac1b80b935f841ceb45460a37", func := "example.com/leaseward/leaseward/sched.LawS0791BTwice", spec := "lawS0791BTwice", plainKeys := false, apart := false }
def LawS0791BTwiceSaid : Prop := lawS0791BTwiceRow.holds Yba.pinned (OpenSpec.ofChange lawS0791BTwiceSpec)

/-- ITS FALSE NEIGHBOUR: 'it returns false'. Refute it at one input. -/
def lawS0791BTwiceWrong : ChangeSpec := { name := "lawS0791BTwice", fn := fun _ => fun
  | [d1, d2] => { results := [.lit (.bool false)], args := [d1, d2] }
  | _ => none }
def LawS0791BTwiceWrongFalsely : Prop := lawS0791BTwiceRow.holds Yba.pinned (OpenSpec.ofChange lawS0791BTwiceWrong)

end Rows
end Go.Proofs.Ybulkpiy
