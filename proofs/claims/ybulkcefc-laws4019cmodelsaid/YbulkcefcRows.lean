/-
  No cell of these rows narrows 'for every input' (looked for: loops, veiled, ifaces, maps, wideKeys, modest, calm, conditions, laid).
  DERIVED. THE GIVEN ROWS OF THIS SEAT. 2 by the template 'for every input the law returns true; each argument reads behind the call as it read before'; 0 by the template 'total and deterministic' (their statements: YbulkcefcTotals.lean).
  GIVEN WITH THE SEED: the statements are not yours to turn. If you find one false, say at which input.
  Laid BY PROGRAM, IN A SANDBOX (cutbox-rows.mjs): the forced cells as the released guide's own fill.sh prints them over the translation a1fcec86c9d83a7e… (all of the seat's roots in one cut). By AI agents, Wed Nov 11 2026. No macro, syntax, notation, axiom, sorry.
-/
import Derived.Test.YbulkcefcChecked
import GoSem.Claim
import GoSem.ClaimJoined
import GoSem.ClaimMapViews
import Derived.JoinedTies
import Derived.KernelRfl
namespace Go.Proofs.Ybulkcefc
/- THE CELL 'sum', in the pinned program and in every row, IS THE sha256 OF THE DUMP (.gsa) THAT YbulkcefcProg.lean LOADS. Nothing in Lean hashes anything: it is a label: what it is worth is what the hold of that sum in a sandbox is worth. -/
noncomputable def Yba.pinned : Pinned := { name := "ybulkcefc", sum := "a1fcec86c9d83a7ec5bf4f56a297903b3cb0489931046c31261e8285a4de8cc3", checked := Yba.checked }
namespace Rows
def none {H : Type} : Left H := { results := [], args := [] }

/-- 'export.LawS4019CModel': WHATEVER THE INPUT: true; the input reads as it did. -/
def lawS4019CModelSpec : ChangeSpec := { name := "lawS4019CModel", fn := fun _ => fun
  | [d] => { results := [.lit (.bool true)], args := [d] }
  | _ => none }
def lawS4019CModelRow : OpenClaim := { program := "ybulkcefc", sum := "a1fcec86c9d83a7ec5bf4f56a297903b3cb0489931046c31261e8285a4de8cc3", func := "example.com/plumbline/plumbline/export.LawS4019CModel", spec := "lawS4019CModel", apart := false }
def LawS4019CModelSaid : Prop := lawS4019CModelRow.holds Yba.pinned (OpenSpec.ofChange lawS4019CModelSpec)

/-- ITS FALSE NEIGHBOUR: 'it returns false'. Refute it at one input. -/
def lawS4019CModelWrong : ChangeSpec := { name := "lawS4019CModel", fn := fun _ => fun
  | [d] => { results := [.lit (.bool false)], args := [d] }
  | _ => none }
def LawS4019CModelWrongFalsely : Prop := lawS4019CModelRow.holds Yba.pinned (OpenSpec.ofChange lawS4019CModelWrong)

/-- 'export.LawS4019CBuilt': WHATEVER THE INPUT: true; the input reads as it did. -/
def lawS4019CBuiltSpec : ChangeSpec := { name := "lawS4019CBuilt", fn := fun _ => fun
  | [d] => { results := [.lit (.bool true)], args := [d] }
  | _ => none }
def lawS4019CBuiltRow : OpenClaim := { program := "ybulkcefc", sum := "a1fcec86c9d83a7ec5bf4f56a297903b3cb0489931046c31261e8285a4de8cc3", func := "example.com/plumbline/plumbline/export.LawS4019CBuilt", spec := "lawS4019CBuilt", inPlace := ["internal/bytealg.IndexByteString", "internal/bytealg.IndexString"], named := ["internal/bytealg.MaxLen"], apart := false }
def LawS4019CBuiltSaid : Prop := lawS4019CBuiltRow.holds Yba.pinned (OpenSpec.ofChange lawS4019CBuiltSpec)

/-- ITS FALSE NEIGHBOUR: 'it returns false'. Refute it at one input. -/
def lawS4019CBuiltWrong : ChangeSpec := { name := "lawS4019CBuilt", fn := fun _ => fun
  | [d] => { results := [.lit (.bool false)], args := [d] }
  | _ => none }
def LawS4019CBuiltWrongFalsely : Prop := lawS4019CBuiltRow.holds Yba.pinned (OpenSpec.ofChange lawS4019CBuiltWrong)

end Rows
end Go.Proofs.Ybulkcefc
