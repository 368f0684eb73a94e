/-
  No cell of these rows narrows 'for every input' (looked for: loops, veiled, ifaces, maps, wideKeys, modest, calm, conditions, laid).
  DERIVED. THE GIVEN ROWS OF THIS SEAT. 2 by the template 'for every input the law returns true; each argument reads behind the call as it read before'; 0 by the template 'total and deterministic' (their statements: YbulkaqkeTotals.lean).
  GIVEN WITH THE SEED: the statements are not yours to turn. If you find one false, say at which input.
  Laid BY PROGRAM, IN A SANDBOX (cutbox-rows.mjs): the forced cells as the released guide's own fill.sh prints them over the translation 52c48b237c741a71… (all of the seat's roots in one cut). By AI agents, Wed Nov 11 2026. No macro, syntax, notation, axiom, sorry.
-/
import Derived.Test.YbulkaqkeChecked
import GoSem.Claim
import GoSem.ClaimJoined
import GoSem.ClaimMapViews
import Derived.JoinedTies
import Derived.KernelRfl
namespace Go.Proofs.Ybulkaqke
/- THE CELL 'sum', in the pinned program and in every row, IS THE sha256 OF THE DUMP (.gsa) THAT YbulkaqkeProg.lean LOADS. Nothing in Lean hashes anything: it is a label: what it is worth is what the hold of that sum in a sandbox is worth. -/
noncomputable def Yba.pinned : Pinned := { name := "ybulkaqke", sum := "52c48b237c741a71f8b3a21de78346dbe5000460d10360f94d4ef000605c11e3", checked := Yba.checked }
namespace Rows
def none {H : Type} : Left H := { results := [], args := [] }

/-- 'pdu.LawS2097BRecords': WHATEVER THE INPUT: true; the input reads as it did. -/
def lawS2097BRecordsSpec : ChangeSpec := { name := "lawS2097BRecords", fn := fun _ => fun
  | [d1, d2, d3] => { results := [.lit (.bool true)], args := [d1, d2, d3] }
  | _ => none }
def lawS2097BRecordsRow : OpenClaim := { program := "ybulkaqke", sum := "52c48b237c741a71f8b3a21de78346dbe5000460d10360f94d4ef000605c11e3", func := "example.com/crossfell/crossfell/pdu.LawS2097BRecords", spec := "lawS2097BRecords", recurses := true, apart := false }
def LawS2097BRecordsSaid : Prop := lawS2097BRecordsRow.holds Yba.pinned (OpenSpec.ofChange lawS2097BRecordsSpec)

/-- ITS FALSE NEIGHBOUR: 'it returns false'. Refute it at one input. -/
def lawS2097BRecordsWrong : ChangeSpec := { name := "lawS2097BRecords", fn := fun _ => fun
  | [d1, d2, d3] => { results := [.lit (.bool false)], args := [d1, d2, d3] }
  | _ => none }
def LawS2097BRecordsWrongFalsely : Prop := lawS2097BRecordsRow.holds Yba.pinned (OpenSpec.ofChange lawS2097BRecordsWrong)

/-- 'pdu.LawS2097BLeaf': WHATEVER THE INPUT: true; the input reads as it did. -/
def lawS2097BLeafSpec : ChangeSpec := { name := "lawS2097BLeaf", fn := fun _ => fun
  | [d1, d2] => { results := [.lit (.bool true)], args := [d1, d2] }
  | _ => none }
def lawS2097BLeafRow : OpenClaim := { program := "ybulkaqke", sum := "52c48b237c741a71f8b3a21de78346dbe5000460d10360f94d4ef000605c11e3", func := "example.com/crossfell/crossfell/pdu.LawS2097BLeaf", spec := "lawS2097BLeaf", recurses := true, apart := false }
def LawS2097BLeafSaid : Prop := lawS2097BLeafRow.holds Yba.pinned (OpenSpec.ofChange lawS2097BLeafSpec)

/-- ITS FALSE NEIGHBOUR: 'it returns false'. Refute it at one input. -/
def lawS2097BLeafWrong : ChangeSpec := { name := "lawS2097BLeaf", fn := fun _ => fun
  | [d1, d2] => { results := [.lit (.bool false)], args := [d1, d2] }
  | _ => none }
def LawS2097BLeafWrongFalsely : Prop := lawS2097BLeafRow.holds Yba.pinned (OpenSpec.ofChange lawS2097BLeafWrong)

end Rows
end Go.Proofs.Ybulkaqke
