/-
  No cell of these rows narrows 'for every input' (looked for: loops, veiled, ifaces, maps, wideKeys, modest, calm, conditions, laid).
  DERIVED. THE GIVEN ROWS OF THIS SEAT. 6 by the template 'for every input the law returns true; each argument reads behind the call as it read before'; 0 by the template 'total and deterministic' (their statements: YbulkaqboTotals.lean).
  GIVEN WITH THE SEED: the statements are not yours to turn. If you find one false, say at which input.
  Laid BY PROGRAM, IN A SANDBOX (cutbox-rows.mjs): the forced cells as the released guide's own fill.sh prints them over the translation dad2243dadadd099… (all of the seat's roots in one cut). By AI agents, Wed Nov 11 2026. No macro, syntax, notation, axiom, sorry.
-/
import Derived.Test.YbulkaqboChecked
import GoSem.Claim
import GoSem.ClaimJoined
import GoSem.ClaimMapViews
import Derived.JoinedTies
import Derived.KernelRfl
namespace Go.Proofs.Ybulkaqbo
/- THE CELL 'sum', in the pinned program and in every row, IS THE sha256 OF THE DUMP (.gsa) THAT YbulkaqboProg.lean LOADS. Nothing in Lean hashes anything: it is a label: what it is worth is what the hold of that sum in a sandbox is worth. -/
noncomputable def Yba.pinned : Pinned := { name := "ybulkaqbo", sum := "dad2243dadadd099343ce37d2396852167d78cd8a606498f4ebba5226dbecdc7", checked := Yba.checked }
namespace Rows
def none {H : Type} : Left H := { results := [], args := [] }

/-- 'knotwatch.LawS2081AAnswer': WHATEVER THE INPUT: true; the input reads as it did. -/
def lawS2081AAnswerSpec : ChangeSpec := { name := "lawS2081AAnswer", fn := fun _ => fun
  | [d1, d2, d3, d4] => { results := [.lit (.bool true)], args := [d1, d2, d3, d4] }
  | _ => none }
def lawS2081AAnswerRow : OpenClaim := { program := "ybulkaqbo", sum := "dad2243dadadd099343ce37d2396852167d78cd8a606498f4ebba5226dbecdc7", func := "example.com/knotwatch/knotwatch.LawS2081AAnswer", spec := "lawS2081AAnswer", apart := false }
def LawS2081AAnswerSaid : Prop := lawS2081AAnswerRow.holds Yba.pinned (OpenSpec.ofChange lawS2081AAnswerSpec)

/-- ITS FALSE NEIGHBOUR: 'it returns false'. Refute it at one input. -/
def lawS2081AAnswerWrong : ChangeSpec := { name := "lawS2081AAnswer", fn := fun _ => fun
  | [d1, d2, d3, d4] => { results := [.lit (.bool false)], args := [d1, d2, d3, d4] }
  | _ => none }
def LawS2081AAnswerWrongFalsely : Prop := lawS2081AAnswerRow.holds Yba.pinned (OpenSpec.ofChange lawS2081AAnswerWrong)

/-- 'knotwatch.LawS2081ASteps': WHATEVER THE INPUT: true; the input reads as it did. -/
def lawS2081AStepsSpec : ChangeSpec := { name := "lawS2081ASteps", fn := fun _ => fun
  | [d1, d2, d3, d4] => { results := [.lit (.bool true)], args := [d1, d2, d3, d4] }
  | _ => none }
def lawS2081AStepsRow : OpenClaim := { program := "ybulkaqbo", sum := "dad2243dadadd099343ce37d2396852167d78cd8a606498f4ebba5226dbecdc7", func := "example.com/knotwatch/knotwatch.LawS2081ASteps", spec := "lawS2081ASteps", apart := false }
def LawS2081AStepsSaid : Prop := lawS2081AStepsRow.holds Yba.pinned (OpenSpec.ofChange lawS2081AStepsSpec)

/-- ITS FALSE NEIGHBOUR: 'it returns false'. Refute it at one input. -/
def lawS2081AStepsWrong : ChangeSpec := { name := "lawS2081ASteps", fn := fun _ => fun
  | [d1, d2, d3, d4] => { results := [.lit (.bool false)], args := [d1, d2, d3, d4] }
  | _ => none }
def LawS2081AStepsWrongFalsely : Prop := lawS2081AStepsRow.holds Yba.pinned (OpenSpec.ofChange lawS2081AStepsWrong)

/-- 'knotwatch.LawS2081BExact': WHATEVER THE INPUT: true; the input reads as it did. -/
def lawS2081BExactSpec : ChangeSpec := { name := "lawS2081BExact", fn := fun _ => fun
  | [d1, d2] => { results := [.lit (.bool true)], args := [d1, d2] }
  | _ => none }
def lawS2081BExactRow : OpenClaim := { program := "ybulkaqbo", sum := "dad2243dadadd099343ce37d2396852167d78cd8a606498f4ebba5226dbecdc7", func := "example.com/knotwatch/knotwatch.LawS2081BExact", spec := "lawS2081BExact", unfollowed := true, recurses := true, apart := false }
def LawS2081BExactSaid : Prop := lawS2081BExactRow.holds Yba.pinned (OpenSpec.ofChange lawS2081BExactSpec)

/-- ITS FALSE NEIGHBOUR: 'it returns false'. Refute it at one input. -/
def lawS2081BExactWrong : ChangeSpec := { name := "lawS2081BExact", fn := fun _ => fun
  | [d1, d2] => { results := [.lit (.bool false)], args := [d1, d2] }
  | _ => none }
def LawS2081BExactWrongFalsely : Prop := lawS2081BExactRow.holds Yba.pinned (OpenSpec.ofChange lawS2081BExactWrong)

/-- 'knotwatch.LawS2081BStop': WHATEVER THE INPUT: true; the input reads as it did. -/
def lawS2081BStopSpec : ChangeSpec := { name := "lawS2081BStop", fn := fun _ => fun
  | [d1, d2, d3] => { results := [.lit (.bool true)], args := [d1, d2, d3] }
  | _ => none }
def lawS2081BStopRow : OpenClaim := { program := "ybulkaqbo", sum := "dad2243dadadd099343ce37d2396852167d78cd8a606498f4ebba5226dbecdc7", func := "example.com/knotwatch/knotwatch.LawS2081BStop", spec := "lawS2081BStop", unfollowed := true, recurses := true, apart := false }
def LawS2081BStopSaid : Prop := lawS2081BStopRow.holds Yba.pinned (OpenSpec.ofChange lawS2081BStopSpec)

/-- ITS FALSE NEIGHBOUR: 'it returns false'. Refute it at one input. -/
def lawS2081BStopWrong : ChangeSpec := { name := "lawS2081BStop", fn := fun _ => fun
  | [d1, d2, d3] => { results := [.lit (.bool false)], args := [d1, d2, d3] }
  | _ => none }
def LawS2081BStopWrongFalsely : Prop := lawS2081BStopRow.holds Yba.pinned (OpenSpec.ofChange lawS2081BStopWrong)

/-- 'knotwatch.LawS2081CCount': WHATEVER THE INPUT: true; the input reads as it did. -/
def lawS2081CCountSpec : ChangeSpec := { name := "lawS2081CCount", fn := fun _ => fun
  | [d] => { results := [.lit (.bool true)], args := [d] }
  | _ => none }
def lawS2081CCountRow : OpenClaim := { program := "ybulkaqbo", sum := "dad2243dadadd099343ce37d2396852167d78cd8a606498f4ebba5226dbecdc7", func := "example.com/knotwatch/knotwatch.LawS2081CCount", spec := "lawS2081CCount", apart := false }
def LawS2081CCountSaid : Prop := lawS2081CCountRow.holds Yba.pinned (OpenSpec.ofChange lawS2081CCountSpec)

/-- ITS FALSE NEIGHBOUR: 'it returns false'. Refute it at one input. -/
def lawS2081CCountWrong : ChangeSpec := { name := "lawS2081CCount", fn := fun _ => fun
  | [d] => { results := [.lit (.bool false)], args := [d] }
  | _ => none }
def LawS2081CCountWrongFalsely : Prop := lawS2081CCountRow.holds Yba.pinned (OpenSpec.ofChange lawS2081CCountWrong)

/-- 'knotwatch.LawS2081CScript': WHATEVER THE INPUT: true; the input reads as it did. -/
def lawS2081CScriptSpec : ChangeSpec := { name := "lawS2081CScript", fn := fun _ => fun
  | [d] => { results := [.lit (.bool true)], args := [d] }
  | _ => none }
def lawS2081CScriptRow : OpenClaim := { program := "ybulkaqbo", sum := "dad2243dadadd099343ce37d2396852167d78cd8a606498f4ebba5226dbecdc7", func := "example.com/knotwatch/knotwatch.LawS2081CScript", spec := "lawS2081CScript", apart := false }
def LawS2081CScriptSaid : Prop := lawS2081CScriptRow.holds Yba.pinned (OpenSpec.ofChange lawS2081CScriptSpec)

/-- ITS FALSE NEIGHBOUR: 'it returns false'. Refute it at one input. -/
def lawS2081CScriptWrong : ChangeSpec := { name := "lawS2081CScript", fn := fun _ => fun
  | [d] => { results := [.lit (.bool false)], args := [d] }
  | _ => none }
def LawS2081CScriptWrongFalsely : Prop := lawS2081CScriptRow.holds Yba.pinned (OpenSpec.ofChange lawS2081CScriptWrong)

end Rows
end Go.Proofs.Ybulkaqbo
