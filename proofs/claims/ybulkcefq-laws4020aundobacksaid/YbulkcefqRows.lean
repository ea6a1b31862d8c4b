/-
  No cell of these rows narrows 'for every input' (looked for: loops, veiled, ifaces, maps, wideKeys, modest, calm, conditions, laid).
  DERIVED. THE GIVEN ROWS OF THIS SEAT. 2 by the template 'for every input the law returns true; each argument reads behind the call as it read before'; 0 by the template 'total and deterministic' (their statements: YbulkcefqTotals.lean).
  GIVEN WITH THE SEED: the statements are not yours to turn. If you find one false, say at which input.
  Laid BY PROGRAM, IN A SANDBOX (cutbox-rows.mjs): the forced cells as the released guide's own fill.sh prints them over the translation c475f351702598f2… (all of the seat's roots in one cut). By AI agents, Wed Nov 11 2026. No macro, syntax, notation, axiom, sorry.
-/
import Derived.Test.YbulkcefqChecked
import GoSem.Claim
import GoSem.ClaimJoined
import GoSem.ClaimMapViews
import Derived.JoinedTies
import Derived.KernelRfl
namespace Go.Proofs.Ybulkcefq
/- THE CELL 'sum', in the pinned program and in every row, IS THE sha256 OF THE DUMP (.gsa) THAT YbulkcefqProg.lean LOADS. Nothing in Lean hashes anything: it is a label: what it is worth is what the hold of that sum in a sandbox is worth. -/
noncomputable def Yba.pinned : Pinned := { name := "ybulkcefq", sum := "c475f351702598f2504dd4819897bf382d78e1ec97872006469079ee8efa9bdf", checked := Yba.checked }
namespace Rows
def none {H : Type} : Left H := { results := [], args := [] }

/-- 'estimator.LawS4020AMark': WHATEVER THE INPUT: true; the input reads as it did. -/
def lawS4020AMarkSpec : ChangeSpec := { name := "lawS4020AMark", fn := fun _ => fun
  | [d1, d2, d3, d4, d5, d6, d7] => { results := [.lit (.bool true)], args := [d1, d2, d3, d4, d5, d6, d7] }
  | _ => none }
def lawS4020AMarkRow : OpenClaim := { program := "ybulkcefq", sum := "c475f351702598f2504dd4819897bf382d78e1ec97872006469079ee8efa9bdf", func := "example.com/headcount/headcount/pkg/estimator.LawS4020AMark", spec := "lawS4020AMark", apart := false }
def LawS4020AMarkSaid : Prop := lawS4020AMarkRow.holds Yba.pinned (OpenSpec.ofChange lawS4020AMarkSpec)

/-- ITS FALSE NEIGHBOUR: 'it returns false'. Refute it at one input. -/
def lawS4020AMarkWrong : ChangeSpec := { name := "lawS4020AMark", fn := fun _ => fun
  | [d1, d2, d3, d4, d5, d6, d7] => { results := [.lit (.bool false)], args := [d1, d2, d3, d4, d5, d6, d7] }
  | _ => none }
def LawS4020AMarkWrongFalsely : Prop := lawS4020AMarkRow.holds Yba.pinned (OpenSpec.ofChange lawS4020AMarkWrong)

/-- 'estimator.LawS4020AUndoBack': WHATEVER THE INPUT: true; the input reads as it did. -/
def lawS4020AUndoBackSpec : ChangeSpec := { name := "lawS4020AUndoBack", fn := fun _ => fun
  | [d1, d2, d3, d4, d5, d6] => { results := [.lit (.bool true)], args := [d1, d2, d3, d4, d5, d6] }
  | _ => none }
def lawS4020AUndoBackRow : OpenClaim := { program := "ybulkcefq", sum := "c475f351702598f2504dd4819897bf382d78e1ec97872006469079ee8efa9bdf", func := "example.com/headcount/headcount/pkg/estimator.LawS4020AUndoBack", spec := "lawS4020AUndoBack", apart := false }
def LawS4020AUndoBackSaid : Prop := lawS4020AUndoBackRow.holds Yba.pinned (OpenSpec.ofChange lawS4020AUndoBackSpec)

/-- ITS FALSE NEIGHBOUR: 'it returns false'. Refute it at one input. -/
def lawS4020AUndoBackWrong : ChangeSpec := { name := "lawS4020AUndoBack", fn := fun _ => fun
  | [d1, d2, d3, d4, d5, d6] => { results := [.lit (.bool false)], args := [d1, d2, d3, d4, d5, d6] }
  | _ => none }
def LawS4020AUndoBackWrongFalsely : Prop := lawS4020AUndoBackRow.holds Yba.pinned (OpenSpec.ofChange lawS4020AUndoBackWrong)

end Rows
end Go.Proofs.Ybulkcefq
