/-
  No cell of these rows narrows 'for every input' (looked for: loops, veiled, ifaces, maps, wideKeys, modest, calm, conditions, laid).
  DERIVED. THE GIVEN ROWS OF THIS SEAT. 2 by the template 'for every input the law returns true; each argument reads behind the call as it read before'; 0 by the template 'total and deterministic' (their statements: YbulkafmkTotals.lean).
  GIVEN WITH THE SEED: the statements are not yours to turn. If you find one false, say at which input.
  Laid BY PROGRAM, IN A SANDBOX (cutbox-rows.mjs): the forced cells as the released guide's own fill.sh prints them over the translation 0c48e844c672b5dc… (all of the seat's roots in one cut). By AI agents, Wed Nov 11 2026. No macro, syntax, notation, axiom, sorry.
-/
import Derived.Test.YbulkafmkChecked
import GoSem.Claim
import GoSem.ClaimJoined
import GoSem.ClaimMapViews
import Derived.JoinedTies
import Derived.KernelRfl
namespace Go.Proofs.Ybulkafmk
/- THE CELL 'sum', in the pinned program and in every row, IS THE sha256 OF THE DUMP (.gsa) THAT YbulkafmkProg.lean LOADS. Nothing in Lean hashes anything: it is a label: what it is worth is what the hold of that sum in a sandbox is worth. -/
noncomputable def Yba.pinned : Pinned := { name := "ybulkafmk", sum := "0c48e844c672b5dc76d780ce2d0f15b136718746ec2835be4a03f92aaac096b6", checked := Yba.checked }
namespace Rows
def none {H : Type} : Left H := { results := [], args := [] }

/-- 'route.LawS1570CComputes': WHATEVER THE INPUT: true; the input reads as it did. -/
def lawS1570CComputesSpec : ChangeSpec := { name := "lawS1570CComputes", fn := fun _ => fun
  | [d1, d2, d3, d4, d5, d6, d7] => { results := [.lit (.bool true)], args := [d1, d2, d3, d4, d5, d6, d7] }
  | _ => none }
def lawS1570CComputesRow : OpenClaim := { program := "ybulkafmk", sum := "0c48e844c672b5dc76d780ce2d0f15b136718746ec2835be4a03f92aaac096b6", func := "example.com/wayfare/wayfare/route.LawS1570CComputes", spec := "lawS1570CComputes", inPlace := ["math.Float64bits", "math.Float64frombits"], apart := false }
def LawS1570CComputesSaid : Prop := lawS1570CComputesRow.holds Yba.pinned (OpenSpec.ofChange lawS1570CComputesSpec)

/-- ITS FALSE NEIGHBOUR: 'it returns false'. Refute it at one input. -/
def lawS1570CComputesWrong : ChangeSpec := { name := "lawS1570CComputes", fn := fun _ => fun
  | [d1, d2, d3, d4, d5, d6, d7] => { results := [.lit (.bool false)], args := [d1, d2, d3, d4, d5, d6, d7] }
  | _ => none }
def LawS1570CComputesWrongFalsely : Prop := lawS1570CComputesRow.holds Yba.pinned (OpenSpec.ofChange lawS1570CComputesWrong)

/-- 'route.LawS1570CKeeps': WHATEVER THE INPUT: true; the input reads as it did. -/
def lawS1570CKeepsSpec : ChangeSpec := { name := "lawS1570CKeeps", fn := fun _ => fun
  | [d1, d2, d3, d4, d5, d6, d7, d8, d9, d10] => { results := [.lit (.bool true)], args := [d1, d2, d3, d4, d5, d6, d7, d8, d9, d10] }
  | _ => none }
def lawS1570CKeepsRow : OpenClaim := { program := "ybulkafmk", sum := "0c48e844c672b5dc76d780ce2d0f15b136718746ec2835be4a03f92aaac096b6", func := "example.com/wayfare/wayfare/route.LawS1570CKeeps", spec := "lawS1570CKeeps", inPlace := ["math.Float64bits", "math.Float64frombits"], apart := false }
def LawS1570CKeepsSaid : Prop := lawS1570CKeepsRow.holds Yba.pinned (OpenSpec.ofChange lawS1570CKeepsSpec)

/-- ITS FALSE NEIGHBOUR: 'it returns false'. Refute it at one input. -/
def lawS1570CKeepsWrong : ChangeSpec := { name := "lawS1570CKeeps", fn := fun _ => fun
  | [d1, d2, d3, d4, d5, d6, d7, d8, d9, d10] => { results := [.lit (.bool false)], args := [d1, d2, d3, d4, d5, d6, d7, d8, d9, d10] }
  | _ => none }
def LawS1570CKeepsWrongFalsely : Prop := lawS1570CKeepsRow.holds Yba.pinned (OpenSpec.ofChange lawS1570CKeepsWrong)

end Rows
end Go.Proofs.Ybulkafmk
