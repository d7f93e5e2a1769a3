/-
  No cell of these rows narrows 'for every input' (looked for: loops, veiled, ifaces, maps, wideKeys, modest, calm, conditions, laid).
  DERIVED. THE GIVEN ROWS OF THIS SEAT. 5 by the template 'for every input the law returns true; each argument reads behind the call as it read before'; 0 by the template 'total and deterministic' (their statements: YbulkafoaTotals.lean).
  GIVEN WITH THE SEED: the statements are not yours to turn. If you find one false, say at which input.
  Laid BY PROGRAM, IN A SANDBOX (cutbox-rows.mjs): the forced cells as the released guide's own fill.sh prints them over the translation c389045932e94cdc… (all of the seat's roots in one cut). By AI agents, Wed Nov 11 2026. No macro, syntax, notation, axiom, sorry.
-/
import Derived.Test.YbulkafoaChecked
import GoSem.Claim
import GoSem.ClaimJoined
import GoSem.ClaimMapViews
import Derived.JoinedTies
import Derived.KernelRfl
namespace Go.Proofs.Ybulkafoa
/- THE CELL 'sum', in the pinned program and in every row, IS THE sha256 OF THE DUMP (.gsa) THAT YbulkafoaProg.lean LOADS. Nothing in Lean hashes anything: it is a label: what it is worth is what the hold of that sum in a sandbox is worth. -/
noncomputable def Yba.pinned : Pinned := { name := "ybulkafoa", sum := "c389045932e94cdcc7d4f8cbc8e0f52e43e9776a05393ba7b261963a2ab33d2e", checked := Yba.checked }
namespace Rows
def none {H : Type} : Left H := { results := [], args := [] }

/-- 'swf.LawS1573AChoice': WHATEVER THE INPUT: true; the input reads as it did. -/
def lawS1573AChoiceSpec : ChangeSpec := { name := "lawS1573AChoice", fn := fun _ => fun
  | [d1, d2, d3, d4, d5, d6] => { results := [.lit (.bool true)], args := [d1, d2, d3, d4, d5, d6] }
  | _ => none }
def lawS1573AChoiceRow : OpenClaim := { program := "ybulkafoa", sum := "c389045932e94cdcc7d4f8cbc8e0f52e43e9776a05393ba7b261963a2ab33d2e", func := "example.com/queuebench/queuebench/internal/swf.LawS1573AChoice", spec := "lawS1573AChoice", apart := false }
def LawS1573AChoiceSaid : Prop := lawS1573AChoiceRow.holds Yba.pinned (OpenSpec.ofChange lawS1573AChoiceSpec)

/-- ITS FALSE NEIGHBOUR: 'it returns false'. Refute it at one input. -/
def lawS1573AChoiceWrong : ChangeSpec := { name := "lawS1573AChoice", fn := fun _ => fun
  | [d1, d2, d3, d4, d5, d6] => { results := [.lit (.bool false)], args := [d1, d2, d3, d4, d5, d6] }
  | _ => none }
def LawS1573AChoiceWrongFalsely : Prop := lawS1573AChoiceRow.holds Yba.pinned (OpenSpec.ofChange lawS1573AChoiceWrong)

/-- 'swf.LawS1573ANoneZero': WHATEVER THE INPUT: true; the input reads as it did. -/
def lawS1573ANoneZeroSpec : ChangeSpec := { name := "lawS1573ANoneZero", fn := fun _ => fun
  | [d1, d2, d3, d4] => { results := [.lit (.bool true)], args := [d1, d2, d3, d4] }
  | _ => none }
def lawS1573ANoneZeroRow : OpenClaim := { program := "ybulkafoa", sum := "c389045932e94cdcc7d4f8cbc8e0f52e43e9776a05393ba7b261963a2ab33d2e", func := "example.com/queuebench/queuebench/internal/swf.LawS1573ANoneZero", spec := "lawS1573ANoneZero", apart := false }
def LawS1573ANoneZeroSaid : Prop := lawS1573ANoneZeroRow.holds Yba.pinned (OpenSpec.ofChange lawS1573ANoneZeroSpec)

/-- ITS FALSE NEIGHBOUR: 'it returns false'. Refute it at one input. -/
def lawS1573ANoneZeroWrong : ChangeSpec := { name := "lawS1573ANoneZero", fn := fun _ => fun
  | [d1, d2, d3, d4] => { results := [.lit (.bool false)], args := [d1, d2, d3, d4] }
  | _ => none }
def LawS1573ANoneZeroWrongFalsely : Prop := lawS1573ANoneZeroRow.holds Yba.pinned (OpenSpec.ofChange lawS1573ANoneZeroWrong)

/-- 'policy.LawS1573BPlacedSync': WHATEVER THE INPUT: true; the input reads as it did. -/
def lawS1573BPlacedSyncSpec : ChangeSpec := { name := "lawS1573BPlacedSync", fn := fun _ => fun
  | [d1, d2, d3, d4] => { results := [.lit (.bool true)], args := [d1, d2, d3, d4] }
  | _ => none }
def lawS1573BPlacedSyncRow : OpenClaim := { program := "ybulkafoa", sum := "c389045932e94cdcc7d4f8cbc8e0f52e43e9776a05393ba7b261963a2ab33d2e", func := "example.com/queuebench/queuebench/internal/policy.LawS1573BPlacedSync", spec := "lawS1573BPlacedSync", apart := false }
def LawS1573BPlacedSyncSaid : Prop := lawS1573BPlacedSyncRow.holds Yba.pinned (OpenSpec.ofChange lawS1573BPlacedSyncSpec)

/-- ITS FALSE NEIGHBOUR: 'it returns false'. Refute it at one input. -/
def lawS1573BPlacedSyncWrong : ChangeSpec := { name := "lawS1573BPlacedSync", fn := fun _ => fun
  | [d1, d2, d3, d4] => { results := [.lit (.bool false)], args := [d1, d2, d3, d4] }
  | _ => none }
def LawS1573BPlacedSyncWrongFalsely : Prop := lawS1573BPlacedSyncRow.holds Yba.pinned (OpenSpec.ofChange lawS1573BPlacedSyncWrong)

/-- 'policy.LawS1573BUnplacedKeeps': WHATEVER THE INPUT: true; the input reads as it did. -/
def lawS1573BUnplacedKeepsSpec : ChangeSpec := { name := "lawS1573BUnplacedKeeps", fn := fun _ => fun
  | [d1, d2, d3, d4] => { results := [.lit (.bool true)], args := [d1, d2, d3, d4] }
  | _ => none }
def lawS1573BUnplacedKeepsRow : OpenClaim := { program := "ybulkafoa", sum := "c389045932e94cdcc7d4f8cbc8e0f52e43e9776a05393ba7b261963a2ab33d2e", func := "example.com/queuebench/queuebench/internal/policy.LawS1573BUnplacedKeeps", spec := "lawS1573BUnplacedKeeps", apart := false }
def LawS1573BUnplacedKeepsSaid : Prop := lawS1573BUnplacedKeepsRow.holds Yba.pinned (OpenSpec.ofChange lawS1573BUnplacedKeepsSpec)

/-- ITS FALSE NEIGHBOUR: 'it returns false'. Refute it at one input. -/
def lawS1573BUnplacedKeepsWrong : ChangeSpec := { name := "lawS1573BUnplacedKeeps", fn := fun _ => fun
  | [d1, d2, d3, d4] => { results := [.lit (.bool false)], args := [d1, d2, d3, d4] }
  | _ => none }
def LawS1573BUnplacedKeepsWrongFalsely : Prop := lawS1573BUnplacedKeepsRow.holds Yba.pinned (OpenSpec.ofChange lawS1573BUnplacedKeepsWrong)

/-- 'policy.LawS1573CStretch': WHATEVER THE INPUT: true; the input reads as it did. -/
def lawS1573CStretchSpec : ChangeSpec := { name := "lawS1573CStretch", fn := fun _ => fun
  | [d1, d2, d3, d4, d5, d6] => { results := [.lit (.bool true)], args := [d1, d2, d3, d4, d5, d6] }
  | _ => none }
def lawS1573CStretchRow : OpenClaim := { program := "ybulkafoa", sum := "c389045932e94cdcc7d4f8cbc8e0f52e43e9776a05393ba7b261963a2ab33d2e", func := "example.com/queuebench/queuebench/internal/policy.LawS1573CStretch", spec := "lawS1573CStretch", inPlace := ["math/bits.Add64"], apart := false }
def LawS1573CStretchSaid : Prop := lawS1573CStretchRow.holds Yba.pinned (OpenSpec.ofChange lawS1573CStretchSpec)

/-- ITS FALSE NEIGHBOUR: 'it returns false'. Refute it at one input. -/
def lawS1573CStretchWrong : ChangeSpec := { name := "lawS1573CStretch", fn := fun _ => fun
  | [d1, d2, d3, d4, d5, d6] => { results := [.lit (.bool false)], args := [d1, d2, d3, d4, d5, d6] }
  | _ => none }
def LawS1573CStretchWrongFalsely : Prop := lawS1573CStretchRow.holds Yba.pinned (OpenSpec.ofChange lawS1573CStretchWrong)

end Rows
end Go.Proofs.Ybulkafoa
