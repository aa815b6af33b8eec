/-
  No cell of these rows narrows 'for every input' (looked for: loops, veiled, ifaces, maps, wideKeys, modest, calm, conditions, laid).
  DERIVED. THE GIVEN ROWS OF THIS SEAT. 2 by the template 'for every input the law returns true; each argument reads behind the call as it read before'; 0 by the template 'total and deterministic' (their statements: YbulkpkaTotals.lean).
  GIVEN WITH THE SEED: the statements are not yours to turn. If you find one false, say at which input.
  Laid BY PROGRAM, IN A SANDBOX (cutbox-rows.mjs): the forced cells as the released guide's own fill.sh prints them over the translation 03f13effe2ba2aea… (all of the seat's roots in one cut). By AI agents, Wed Nov 11 2026. No macro, syntax, notation, axiom, sorry.
-/
import Derived.Test.YbulkpkaChecked
import GoSem.Claim
import GoSem.ClaimJoined
import GoSem.ClaimMapViews
import Derived.JoinedTies
import Derived.KernelRfl
namespace Go.Proofs.Ybulkpka
/- THE CELL 'sum', in the pinned program and in every row, IS THE sha256 OF THE DUMP (.gsa) THAT YbulkpkaProg.lean LOADS. Nothing in Lean hashes anything: it is a label: what it is worth is what the hold of that sum in a sandbox is worth. -/
noncomputable def Yba.pinned : Pinned := { name := "ybulkpka", sum := "03f13effe2ba2aeaa62cfaf0619cb591393cc7e259eb2ee588fdeff3aecc70ec", checked := Yba.checked }
namespace Rows
def none {H : Type} : Left H := { results := [], args := [] }

/-- 'topology.LawS0793BDistances': WHATEVER THE INPUT: true; the input reads as it did. -/
def lawS0793BDistancesSpec : ChangeSpec := { name := "lawS0793BDistances", fn := fun _ => fun
  | [d1, d2, d3] => { results := [.lit (.bool true)], args := [d1, d2, d3] }
  | _ => none }
def lawS0793BDistancesRow : OpenClaim := { program := "ybulkpka", sum := "03f13effe2ba2aeaa62cfaf0619cb591393cc7e259eb2ee588fdeff3aecc70ec", func := "example.com/airquorum/airquorum/internal/topology.LawS0793BDistances", spec := "lawS0793BDistances", recurses := true, apart := false }
def LawS0793BDistancesSaid : Prop := lawS0793BDistancesRow.holds Yba.pinned (OpenSpec.ofChange lawS0793BDistancesSpec)

/-- ITS FALSE NEIGHBOUR: 'it returns false'. Refute it at one input. -/
def lawS0793BDistancesWrong : ChangeSpec := { name := "lawS0793BDistances", fn := fun _ => fun
  | [d1, d2, d3] => { results := [.lit (.bool false)], args := [d1, d2, d3] }
  | _ => none }
def LawS0793BDistancesWrongFalsely : Prop := lawS0793BDistancesRow.holds Yba.pinned (OpenSpec.ofChange lawS0793BDistancesWrong)

/-- 'topology.LawS0793BWalls': WHATEVER THE INPUT: true; the input reads as it did. -/
def lawS0793BWallsSpec : ChangeSpec := { name := "lawS0793BWalls", fn := fun _ => fun
  | [d1, d2, d3, d4] => { results := [.lit (.bool true)], args := [d1, d2, d3, d4] }
  | _ => none }
def lawS0793BWallsRow : OpenClaim := { program := "ybulkpka", sum := "03f13effe2ba2aeaa62cfaf0619cb591393cc7e259eb2ee588fdeff3aecc70ec", func := "example.com/airquorum/airquorum/internal/topology.LawS0793BWalls", spec := "lawS0793BWalls", recurses := true, apart := false }
def LawS0793BWallsSaid : Prop := lawS0793BWallsRow.holds Yba.pinned (OpenSpec.ofChange lawS0793BWallsSpec)

/-- ITS FALSE NEIGHBOUR: 'it returns false'. Refute it at one input. -/
def lawS0793BWallsWrong : ChangeSpec := { name := "lawS0793BWalls", fn := fun _ => fun
  | [d1, d2, d3, d4] => { results := [.lit (.bool false)], args := [d1, d2, d3, d4] }
  | _ => none }
def LawS0793BWallsWrongFalsely : Prop := lawS0793BWallsRow.holds Yba.pinned (OpenSpec.ofChange lawS0793BWallsWrong)

end Rows
end Go.Proofs.Ybulkpka
