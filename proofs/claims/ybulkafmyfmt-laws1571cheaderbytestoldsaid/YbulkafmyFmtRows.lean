/-
  NARROWER THAN 'FOR EVERY INPUT', by the rows' own cells (each row's printed sentence says how): LawS1571CHeaderBytes: laid · LawS1571CNoOrder: laid.
  DERIVED. THE GIVEN ROWS OF THIS SEAT. 2 by the template 'for every input the law returns true; each argument reads behind the call as it read before'; 0 by the template 'total and deterministic' (their statements: YbulkafmyFmtTotals.lean).
  GIVEN WITH THE SEED: the statements are not yours to turn. If you find one false, say at which input.
  Laid BY PROGRAM, IN A SANDBOX (cutbox-rows.mjs): the forced cells as the released guide's own fill.sh prints them over the translation f2252c40c50542e0… (all of the seat's roots in one cut). By AI agents, Wed Nov 11 2026. No macro, syntax, notation, axiom, sorry.
-/
import Derived.Test.YbulkafmyFmtChecked
import GoSem.Claim
import GoSem.ClaimJoined
import GoSem.ClaimMapViews
import Derived.JoinedTies
import Derived.KernelRfl
namespace Go.Proofs.YbulkafmyFmt
/- THE CELL 'sum', in the pinned program and in every row, IS THE sha256 OF THE DUMP (.gsa) THAT YbulkafmyFmtProg.lean LOADS. Nothing in Lean hashes anything: it is a label: what it is worth is what the hold of that sum in a sandbox is worth. -/
noncomputable def Ybaf.pinned : Pinned := { name := "ybulkafmyfmt", sum := "f2252c40c50542e04b10954c25e7cfdc9ebe9e34dcbc511907abbe93d8b8fd80", checked := Ybaf.checked }
namespace Rows
def none {H : Type} : Left H := { results := [], args := [] }

/- WHAT THE LISTED PACKAGE-LEVEL VARIABLES READ AS WHEN THE CALL BEGINS. Each datum BY PROGRAM (the guide's laid-datum.mjs) off the statement by which the dump's own 'gosem.cut.vars' lays the variable. In a bare row this is a premise. The card (YbulkafmyFmtCards.lean) ties it to the program's text. -/
def laid_io_ErrShortWrite {H : Type} : DataW H := .iface "*errors.errorString" (.ptr (.agg [.lit (.string [115, 104, 111, 114, 116, 32, 119, 114, 105, 116, 101])]))

/-- 'capfile.LawS1571CHeaderBytes': WHATEVER THE INPUT: true; the input reads as it did. -/
def lawS1571CHeaderBytesSpec : ChangeSpec := { name := "lawS1571CHeaderBytes", fn := fun _ => fun
  | [d1, d2, d3, d4, d5, d6, d7, d8] => { results := [.lit (.bool true)], args := [d1, d2, d3, d4, d5, d6, d7, d8] }
  | _ => none }
def lawS1571CHeaderBytesRow : OpenClaim := { program := "ybulkafmyfmt", sum := "f2252c40c50542e04b10954c25e7cfdc9ebe9e34dcbc511907abbe93d8b8fd80", func := "example.com/netsieve/netsieve/capfile.LawS1571CHeaderBytes", spec := "lawS1571CHeaderBytes", stops := ["fmt.errorf"], unfollowed := true, recurses := true, named := ["encoding/binary.LittleEndian", "encoding/binary.BigEndian", "io.ErrShortWrite"], apart := false, laid := [("io.ErrShortWrite", laid_io_ErrShortWrite)] }
/-- NO THEOREM (fmt's text is open here; it may be false): for the released tool's asking of the row's closed facts alone. THE STATEMENT IS 'LawS1571CHeaderBytesToldSaid' (YbulkafmyFmtCards.lean). -/
def LawS1571CHeaderBytesFormAsk : Prop := lawS1571CHeaderBytesRow.holds Ybaf.pinned (OpenSpec.ofChange lawS1571CHeaderBytesSpec)

/-- ITS FALSE NEIGHBOUR: 'it returns false'. Refute it at one input. -/
def lawS1571CHeaderBytesWrong : ChangeSpec := { name := "lawS1571CHeaderBytes", fn := fun _ => fun
  | [d1, d2, d3, d4, d5, d6, d7, d8] => { results := [.lit (.bool false)], args := [d1, d2, d3, d4, d5, d6, d7, d8] }
  | _ => none }
def LawS1571CHeaderBytesWrongFormAsk : Prop := lawS1571CHeaderBytesRow.holds Ybaf.pinned (OpenSpec.ofChange lawS1571CHeaderBytesWrong)

/-- 'capfile.LawS1571CNoOrder': WHATEVER THE INPUT: true; the input reads as it did. -/
def lawS1571CNoOrderSpec : ChangeSpec := { name := "lawS1571CNoOrder", fn := fun _ => fun
  | [d1, d2, d3, d4] => { results := [.lit (.bool true)], args := [d1, d2, d3, d4] }
  | _ => none }
def lawS1571CNoOrderRow : OpenClaim := { program := "ybulkafmyfmt", sum := "f2252c40c50542e04b10954c25e7cfdc9ebe9e34dcbc511907abbe93d8b8fd80", func := "example.com/netsieve/netsieve/capfile.LawS1571CNoOrder", spec := "lawS1571CNoOrder", stops := ["fmt.errorf"], inPlace := ["fmt.errorf"], unfollowed := true, recurses := true, named := ["io.ErrShortWrite"], apart := false, laid := [("io.ErrShortWrite", laid_io_ErrShortWrite)] }
/-- NO THEOREM (fmt's text is open here; it may be false): for the released tool's asking of the row's closed facts alone. THE STATEMENT IS 'LawS1571CNoOrderToldSaid' (YbulkafmyFmtCards.lean). -/
def LawS1571CNoOrderFormAsk : Prop := lawS1571CNoOrderRow.holds Ybaf.pinned (OpenSpec.ofChange lawS1571CNoOrderSpec)

/-- ITS FALSE NEIGHBOUR: 'it returns false'. Refute it at one input. -/
def lawS1571CNoOrderWrong : ChangeSpec := { name := "lawS1571CNoOrder", fn := fun _ => fun
  | [d1, d2, d3, d4] => { results := [.lit (.bool false)], args := [d1, d2, d3, d4] }
  | _ => none }
def LawS1571CNoOrderWrongFormAsk : Prop := lawS1571CNoOrderRow.holds Ybaf.pinned (OpenSpec.ofChange lawS1571CNoOrderWrong)

end Rows
end Go.Proofs.YbulkafmyFmt
