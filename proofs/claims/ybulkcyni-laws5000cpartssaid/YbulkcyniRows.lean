/-
  No cell of these rows narrows 'for every input' (looked for: loops, veiled, ifaces, maps, wideKeys, modest, calm, conditions, laid).
  DERIVED. THE GIVEN ROWS OF THIS SEAT. 1 by the template 'for every input the law returns true; each argument reads behind the call as it read before'; 0 by the template 'total and deterministic' (their statements: YbulkcyniTotals.lean).
  GIVEN WITH THE SEED: the statements are not yours to turn. If you find one false, say at which input.
  Laid BY PROGRAM, IN A SANDBOX (cutbox-rows.mjs): the forced cells as the released guide's own fill.sh prints them over the translation 088d0c6a17f988ff… (all of the seat's roots in one cut). By AI agents, Wed Nov 11 2026. No macro, syntax, notation, axiom, sorry.
-/
import Derived.Test.YbulkcyniChecked
import GoSem.Claim
import GoSem.ClaimJoined
import GoSem.ClaimMapViews
import Derived.JoinedTies
import Derived.KernelRfl
namespace Go.Proofs.Ybulkcyni
/- THE CELL 'sum', in the pinned program and in every row, IS THE sha256 OF THE DUMP (.gsa) THAT YbulkcyniProg.lean LOADS. Nothing in Lean hashes anything: it is a label: what it is worth is what the hold of that sum in a sandbox is worth. -/
noncomputable def Yba.pinned : Pinned := { name := "ybulkcyni", sum := "088d0c6a17f988ff0be66e9fec446073f86de4d6b287764d26e0d274601c1c74", checked := Yba.checked }
namespace Rows
def none {H : Type} : Left H := { results := [], args := [] }

/-- 'engine.LawS5000CParts': WHATEVER THE INPUT: true; the input reads as it did. -/
def lawS5000CPartsSpec : ChangeSpec := { name := "lawS5000CParts", fn := fun _ => fun
  | [d1, d2] => { results := [.lit (.bool true)], args := [d1, d2] }
  | _ => none }
def lawS5000CPartsRow : OpenClaim := { program := "ybulkcyni", sum := "088d0c6a17f988ff0be66e9fec446073f86de4d6b287764d26e0d274601c1c74", func := "example.com/framewright/framewright/internal/engine.LawS5000CParts", spec := "lawS5000CParts", apart := false }
def LawS5000CPartsSaid : Prop := lawS5000CPartsRow.holds Yba.pinned (OpenSpec.ofChange lawS5000CPartsSpec)

/-- ITS FALSE NEIGHBOUR: 'it returns false'. Refute it at one input. -/
def lawS5000CPartsWrong : ChangeSpec := { name := "lawS5000CParts", fn := fun _ => fun
  | [d1, d2] => { results := [.lit (.bool false)], args := [d1, d2] }
  | _ => none }
def LawS5000CPartsWrongFalsely : Prop := lawS5000CPartsRow.holds Yba.pinned (OpenSpec.ofChange lawS5000CPartsWrong)

end Rows
end Go.Proofs.Ybulkcyni
