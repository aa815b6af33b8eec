/-
  No cell of these rows narrows 'for every input' (looked for: loops, veiled, ifaces, maps, wideKeys, modest, calm, conditions, laid).
  DERIVED. THE GIVEN ROWS OF THIS SEAT. 4 by the template 'for every input the law returns true; each argument reads behind the call as it read before'; 0 by the template 'total and deterministic' (their statements: YbulkpguTotals.lean).
  GIVEN WITH THE SEED: the statements are not yours to turn. If you find one false, say at which input.
  Laid BY PROGRAM, IN A SANDBOX (cutbox-rows.mjs): the forced cells as the released guide's own fill.sh prints them over the translation 7d5e44e382a5a84a… (all of the seat's roots in one cut). By AI agents, Wed Nov 11 2026. No macro, syntax, notation, axiom, sorry.
-/
import Derived.Test.YbulkpguChecked
import GoSem.Claim
import GoSem.ClaimJoined
import GoSem.ClaimMapViews
import Derived.JoinedTies
import Derived.KernelRfl
namespace Go.Proofs.Ybulkpgu
/- THE CELL 'sum', in the pinned program and in every row, IS THE sha256 OF THE DUMP (.gsa) THAT YbulkpguProg.lean LOADS. Nothing in Lean hashes anything: it is a label: what it is worth is what the hold of that sum in a sandbox is worth. -/
noncomputable def Yba.pinned : Pinned := { name := "ybulkpgu", sum := "7d5e44e382a5a84a674fdb5ec5ff06455a31343dcc6bdbd0d322fb9128a808ca", checked := Yba.checked }
namespace Rows
def none {H : Type} : Left H := { results := [], args := [] }

/-- 'measure.LawS0787AOrderStat': WHATEVER THE INPUT: true; the input reads as it did. -/
def lawS0787AOrderStatSpec : ChangeSpec := { name := "lawS0787AOrderStat", fn := fun _ => fun
  | [d] => { results := [.lit (.bool true)], args := [d] }
  | _ => none }
def lawS0787AOrderStatRow : OpenClaim := { program := "ybulkpgu", sum := "7d5e44e382a5a84a674fdb5ec5ff06455a31343dcc6bdbd0d322fb9128a808ca", func := "example.com/statefold/statefold/internal/measure.LawS0787AOrderStat", spec := "lawS0787AOrderStat", unfollowed := true, recurses := true, plainKeys := false, apart := false }
def LawS0787AOrderStatSaid : Prop := lawS0787AOrderStatRow.holds Yba.pinned (OpenSpec.ofChange lawS0787AOrderStatSpec)

/-- ITS FALSE NEIGHBOUR: 'it returns false'. Refute it at one input. -/
def lawS0787AOrderStatWrong : ChangeSpec := { name := "lawS0787AOrderStat", fn := fun _ => fun
  | [d] => { results := [.lit (.bool false)], args := [d] }
  | _ => none }
def LawS0787AOrderStatWrongFalsely : Prop := lawS0787AOrderStatRow.holds Yba.pinned (OpenSpec.ofChange lawS0787AOrderStatWrong)

/-- 'measure.LawS0787AKeepsInput': WHATEVER THE INPUT: true; the input reads as it did. -/
def lawS0787AKeepsInputSpec : ChangeSpec := { name := "lawS0787AKeepsInput", fn := fun _ => fun
  | [d] => { results := [.lit (.bool true)], args := [d] }
  | _ => none }
def lawS0787AKeepsInputRow : OpenClaim := { program := "ybulkpgu", sum := "7d5e44e382a5a84a674fdb5ec5ff06455a31343dcc6bdbd0d322fb9128a808ca", func := "example.com/statefold/statefold/internal/measure.LawS0787AKeepsInput", spec := "lawS0787AKeepsInput", inPlace := ["math.Float64bits"], unfollowed := true, recurses := true, plainKeys := false, apart := false }
def LawS0787AKeepsInputSaid : Prop := lawS0787AKeepsInputRow.holds Yba.pinned (OpenSpec.ofChange lawS0787AKeepsInputSpec)

/-- ITS FALSE NEIGHBOUR: 'it returns false'. Refute it at one input. -/
def lawS0787AKeepsInputWrong : ChangeSpec := { name := "lawS0787AKeepsInput", fn := fun _ => fun
  | [d] => { results := [.lit (.bool false)], args := [d] }
  | _ => none }
def LawS0787AKeepsInputWrongFalsely : Prop := lawS0787AKeepsInputRow.holds Yba.pinned (OpenSpec.ofChange lawS0787AKeepsInputWrong)

/-- 'statefold.LawS0787BJoin': WHATEVER THE INPUT: true; the input reads as it did. -/
def lawS0787BJoinSpec : ChangeSpec := { name := "lawS0787BJoin", fn := fun _ => fun
  | [d] => { results := [.lit (.bool true)], args := [d] }
  | _ => none }
def lawS0787BJoinRow : OpenClaim := { program := "ybulkpgu", sum := "7d5e44e382a5a84a674fdb5ec5ff06455a31343dcc6bdbd0d322fb9128a808ca", func := "example.com/statefold/statefold.LawS0787BJoin", spec := "lawS0787BJoin", unfollowed := true, recurses := true, plainKeys := false, apart := false }
def LawS0787BJoinSaid : Prop := lawS0787BJoinRow.holds Yba.pinned (OpenSpec.ofChange lawS0787BJoinSpec)

/-- ITS FALSE NEIGHBOUR: 'it returns false'. Refute it at one input. -/
def lawS0787BJoinWrong : ChangeSpec := { name := "lawS0787BJoin", fn := fun _ => fun
  | [d] => { results := [.lit (.bool false)], args := [d] }
  | _ => none }
def LawS0787BJoinWrongFalsely : Prop := lawS0787BJoinRow.holds Yba.pinned (OpenSpec.ofChange lawS0787BJoinWrong)

/-- 'statefold.LawS0787CEpsilons': WHATEVER THE INPUT: true; the input reads as it did. -/
def lawS0787CEpsilonsSpec : ChangeSpec := { name := "lawS0787CEpsilons", fn := fun _ => fun
  | [d1, d2, d3, d4] => { results := [.lit (.bool true)], args := [d1, d2, d3, d4] }
  | _ => none }
def lawS0787CEpsilonsRow : OpenClaim := { program := "ybulkpgu", sum := "7d5e44e382a5a84a674fdb5ec5ff06455a31343dcc6bdbd0d322fb9128a808ca", func := "example.com/statefold/statefold.LawS0787CEpsilons", spec := "lawS0787CEpsilons", inPlace := ["slices.overlaps[int32]"], plainKeys := false, apart := false }
def LawS0787CEpsilonsSaid : Prop := lawS0787CEpsilonsRow.holds Yba.pinned (OpenSpec.ofChange lawS0787CEpsilonsSpec)

/-- ITS FALSE NEIGHBOUR: 'it returns false'. Refute it at one input. -/
def lawS0787CEpsilonsWrong : ChangeSpec := { name := "lawS0787CEpsilons", fn := fun _ => fun
  | [d1, d2, d3, d4] => { results := [.lit (.bool false)], args := [d1, d2, d3, d4] }
  | _ => none }
def LawS0787CEpsilonsWrongFalsely : Prop := lawS0787CEpsilonsRow.holds Yba.pinned (OpenSpec.ofChange lawS0787CEpsilonsWrong)

end Rows
end Go.Proofs.Ybulkpgu
