/-
  No cell of these rows narrows 'for every input' (looked for: loops, veiled, ifaces, maps, wideKeys, modest, calm, conditions, laid).
  DERIVED. THE GIVEN ROWS OF THIS SEAT. 1 by the template 'for every input the law returns true; each argument reads behind the call as it read before'; 0 by the template 'total and deterministic' (their statements: YbulkbmiyTotals.lean).
  GIVEN WITH THE SEED: the statements are not yours to turn. If you find one false, say at which input.
  Laid BY PROGRAM, IN A SANDBOX (cutbox-rows.mjs): the forced cells as the released guide's own fill.sh prints them over the translation ea55e97cb09dd314… (all of the seat's roots in one cut). By AI agents, Wed Nov 11 2026. No macro, syntax, notation, axiom, sorry.
-/
import Derived.Test.YbulkbmiyChecked
import GoSem.Claim
import GoSem.ClaimJoined
import GoSem.ClaimMapViews
import Derived.JoinedTies
import Derived.KernelRfl
namespace Go.Proofs.Ybulkbmiy
/- THE CELL 'sum', in the pinned program and in every row, IS THE sha256 OF THE DUMP (.gsa) THAT YbulkbmiyProg.lean LOADS. Nothing in Lean hashes anything: it is a label: what it is worth is what the hold of that sum in a sandbox is worth. -/
noncomputable def Yba.pinned : Pinned := { name := "ybulkbmiy", sum := "ea55e97cb09dd3145c7fc5784ef6b723bd4926fb11727b65687874938521b934", checked := Yba.checked }
namespace Rows
def none {H : Type} : Left H := { results := [], args := [] }

/-- 'eval.LawS3157CFirstNamed': WHATEVER THE INPUT: true; the input reads as it did. -/
def lawS3157CFirstNamedSpec : ChangeSpec := { name := "lawS3157CFirstNamed", fn := fun _ => fun
  | [d1, d2, d3, d4] => { results := [.lit (.bool true)], args := [d1, d2, d3, d4] }
  | _ => none }
def lawS3157CFirstNamedRow : OpenClaim := { program := "ybulkbmiy", sum := "ea55e97cb09dd3145c7fc5784ef6b723bd4926fb11727b65687874938521b934", func := "example.com/mortise/mortise/internal/eval.LawS3157CFirstNamed", spec := "lawS3157CFirstNamed", apart := false }
def LawS3157CFirstNamedSaid : Prop := lawS3157CFirstNamedRow.holds Yba.pinned (OpenSpec.ofChange lawS3157CFirstNamedSpec)

/-- ITS FALSE NEIGHBOUR: 'it returns false'. Refute it at one input. -/
def lawS3157CFirstNamedWrong : ChangeSpec := { name := "lawS3157CFirstNamed", fn := fun _ => fun
  | [d1, d2, d3, d4] => { results := [.lit (.bool false)], args := [d1, d2, d3, d4] }
  | _ => none }
def LawS3157CFirstNamedWrongFalsely : Prop := lawS3157CFirstNamedRow.holds Yba.pinned (OpenSpec.ofChange lawS3157CFirstNamedWrong)

end Rows
end Go.Proofs.Ybulkbmiy
