/-
  No cell of these rows narrows 'for every input' (looked for: loops, veiled, ifaces, maps, wideKeys, modest, calm, conditions, laid).
  DERIVED. THE GIVEN ROWS OF THIS SEAT. 4 by the template 'for every input the law returns true; each argument reads behind the call as it read before'; 0 by the template 'total and deterministic' (their statements: YbulkcebwTotals.lean).
  GIVEN WITH THE SEED: the statements are not yours to turn. If you find one false, say at which input.
  Laid BY PROGRAM, IN A SANDBOX (cutbox-rows.mjs): the forced cells as the released guide's own fill.sh prints them over the translation 6691e0bf82fe2abb… (all of the seat's roots in one cut). By AI agents, Wed Nov 11 2026. No macro, syntax, notation, axiom, sorry.
-/
import Derived.Test.YbulkcebwChecked
import GoSem.Claim
import GoSem.ClaimJoined
import GoSem.ClaimMapViews
import Derived.JoinedTies
import Derived.KernelRfl
namespace Go.Proofs.Ybulkcebw
/- THE CELL 'sum', in the pinned program and in every row, IS THE sha256 OF THE DUMP (.gsa) THAT YbulkcebwProg.lean LOADS. Nothing in Lean hashes anything: it is a label: what it is worth is what the hold of that sum in a sandbox is worth. -/
noncomputable def Yba.pinned : Pinned := { name := "ybulkcebw", sum := "6691e0bf82fe2abbb603fc855ae1bda7259370db8a2d2a10ac5197176040a268", checked := Yba.checked }
namespace Rows
def none {H : Type} : Left H := { results := [], args := [] }

/-- 'config.LawS4013AModel': WHATEVER THE INPUT: true; the input reads as it did. -/
def lawS4013AModelSpec : ChangeSpec := { name := "lawS4013AModel", fn := fun _ => fun
  | [d] => { results := [.lit (.bool true)], args := [d] }
  | _ => none }
def lawS4013AModelRow : OpenClaim := { program := "ybulkcebw", sum := "6691e0bf82fe2abbb603fc855ae1bda7259370db8a2d2a10ac5197176040a268", func := "example.com/passrelay/passrelay/internal/config.LawS4013AModel", spec := "lawS4013AModel", apart := false }
def LawS4013AModelSaid : Prop := lawS4013AModelRow.holds Yba.pinned (OpenSpec.ofChange lawS4013AModelSpec)

/-- ITS FALSE NEIGHBOUR: 'it returns false'. Refute it at one input. -/
def lawS4013AModelWrong : ChangeSpec := { name := "lawS4013AModel", fn := fun _ => fun
  | [d] => { results := [.lit (.bool false)], args := [d] }
  | _ => none }
def LawS4013AModelWrongFalsely : Prop := lawS4013AModelRow.holds Yba.pinned (OpenSpec.ofChange lawS4013AModelWrong)

/-- 'config.LawS4013ABuilt': WHATEVER THE INPUT: true; the input reads as it did. -/
def lawS4013ABuiltSpec : ChangeSpec := { name := "lawS4013ABuilt", fn := fun _ => fun
  | [d] => { results := [.lit (.bool true)], args := [d] }
  | _ => none }
def lawS4013ABuiltRow : OpenClaim := { program := "ybulkcebw", sum := "6691e0bf82fe2abbb603fc855ae1bda7259370db8a2d2a10ac5197176040a268", func := "example.com/passrelay/passrelay/internal/config.LawS4013ABuilt", spec := "lawS4013ABuilt", apart := false }
def LawS4013ABuiltSaid : Prop := lawS4013ABuiltRow.holds Yba.pinned (OpenSpec.ofChange lawS4013ABuiltSpec)

/-- ITS FALSE NEIGHBOUR: 'it returns false'. Refute it at one input. -/
def lawS4013ABuiltWrong : ChangeSpec := { name := "lawS4013ABuilt", fn := fun _ => fun
  | [d] => { results := [.lit (.bool false)], args := [d] }
  | _ => none }
def LawS4013ABuiltWrongFalsely : Prop := lawS4013ABuiltRow.holds Yba.pinned (OpenSpec.ofChange lawS4013ABuiltWrong)

/-- 'protocol.LawS4013CMatchesModel': WHATEVER THE INPUT: true; the input reads as it did. -/
def lawS4013CMatchesModelSpec : ChangeSpec := { name := "lawS4013CMatchesModel", fn := fun _ => fun
  | [d1, d2, d3] => { results := [.lit (.bool true)], args := [d1, d2, d3] }
  | _ => none }
def lawS4013CMatchesModelRow : OpenClaim := { program := "ybulkcebw", sum := "6691e0bf82fe2abbb603fc855ae1bda7259370db8a2d2a10ac5197176040a268", func := "example.com/passrelay/passrelay/internal/protocol.LawS4013CMatchesModel", spec := "lawS4013CMatchesModel", apart := false }
def LawS4013CMatchesModelSaid : Prop := lawS4013CMatchesModelRow.holds Yba.pinned (OpenSpec.ofChange lawS4013CMatchesModelSpec)

/-- ITS FALSE NEIGHBOUR: 'it returns false'. Refute it at one input. -/
def lawS4013CMatchesModelWrong : ChangeSpec := { name := "lawS4013CMatchesModel", fn := fun _ => fun
  | [d1, d2, d3] => { results := [.lit (.bool false)], args := [d1, d2, d3] }
  | _ => none }
def LawS4013CMatchesModelWrongFalsely : Prop := lawS4013CMatchesModelRow.holds Yba.pinned (OpenSpec.ofChange lawS4013CMatchesModelWrong)

/-- 'protocol.LawS4013CLongCut': WHATEVER THE INPUT: true; the input reads as it did. -/
def lawS4013CLongCutSpec : ChangeSpec := { name := "lawS4013CLongCut", fn := fun _ => fun
  | [d1, d2, d3, d4] => { results := [.lit (.bool true)], args := [d1, d2, d3, d4] }
  | _ => none }
def lawS4013CLongCutRow : OpenClaim := { program := "ybulkcebw", sum := "6691e0bf82fe2abbb603fc855ae1bda7259370db8a2d2a10ac5197176040a268", func := "example.com/passrelay/passrelay/internal/protocol.LawS4013CLongCut", spec := "lawS4013CLongCut", apart := false }
def LawS4013CLongCutSaid : Prop := lawS4013CLongCutRow.holds Yba.pinned (OpenSpec.ofChange lawS4013CLongCutSpec)

/-- ITS FALSE NEIGHBOUR: 'it returns false'. Refute it at one input. -/
def lawS4013CLongCutWrong : ChangeSpec := { name := "lawS4013CLongCut", fn := fun _ => fun
  | [d1, d2, d3, d4] => { results := [.lit (.bool false)], args := [d1, d2, d3, d4] }
  | _ => none }
def LawS4013CLongCutWrongFalsely : Prop := lawS4013CLongCutRow.holds Yba.pinned (OpenSpec.ofChange lawS4013CLongCutWrong)

end Rows
end Go.Proofs.Ybulkcebw
