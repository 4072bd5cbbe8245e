/-
  No cell of these rows narrows 'for every input' (looked for: loops, veiled, ifaces, maps, wideKeys, modest, calm, conditions, laid).
  DERIVED. THE GIVEN ROWS OF THIS SEAT. 3 by the template 'for every input the law returns true; each argument reads behind the call as it read before'; 0 by the template 'total and deterministic' (their statements: YbulkbmbkTotals.lean).
  GIVEN WITH THE SEED: the statements are not yours to turn. If you find one false, say at which input.
  Laid BY PROGRAM, IN A SANDBOX (cutbox-rows.mjs): the forced cells as the released guide's own fill.sh prints them over the translation 36486b28500a6520… (all of the seat's roots in one cut). By AI agents, Wed Nov 11 2026. No macro, syntax, notation, axiom, sorry.
-/
import Derived.Test.YbulkbmbkChecked
import GoSem.Claim
import GoSem.ClaimJoined
import GoSem.ClaimMapViews
import Derived.JoinedTies
import Derived.KernelRfl
namespace Go.Proofs.Ybulkbmbk
/- THE CELL 'sum', in the pinned program and in every row, IS THE sha256 OF THE DUMP (.gsa) THAT YbulkbmbkProg.lean LOADS. Nothing in Lean hashes anything: it is a label: what it is worth is what the hold of that sum in a sandbox is worth. -/
noncomputable def Yba.pinned : Pinned := { name := "ybulkbmbk", sum := "36486b28500a65206b2ae82a86104e84983766ed29ff18fc48d2e13d9fcbc0bb", checked := Yba.checked }
namespace Rows
def none {H : Type} : Left H := { results := [], args := [] }

/-- 'chancery.LawS3143CInt64Model': WHATEVER THE INPUT: true; the input reads as it did. -/
def lawS3143CInt64ModelSpec : ChangeSpec := { name := "lawS3143CInt64Model", fn := fun _ => fun
  | [d1, d2] => { results := [.lit (.bool true)], args := [d1, d2] }
  | _ => none }
def lawS3143CInt64ModelRow : OpenClaim := { program := "ybulkbmbk", sum := "36486b28500a65206b2ae82a86104e84983766ed29ff18fc48d2e13d9fcbc0bb", func := "example.com/chancery/chancery.LawS3143CInt64Model", spec := "lawS3143CInt64Model", unfollowed := true, recurses := true, apart := false }
def LawS3143CInt64ModelSaid : Prop := lawS3143CInt64ModelRow.holds Yba.pinned (OpenSpec.ofChange lawS3143CInt64ModelSpec)

/-- ITS FALSE NEIGHBOUR: 'it returns false'. Refute it at one input. -/
def lawS3143CInt64ModelWrong : ChangeSpec := { name := "lawS3143CInt64Model", fn := fun _ => fun
  | [d1, d2] => { results := [.lit (.bool false)], args := [d1, d2] }
  | _ => none }
def LawS3143CInt64ModelWrongFalsely : Prop := lawS3143CInt64ModelRow.holds Yba.pinned (OpenSpec.ofChange lawS3143CInt64ModelWrong)

/-- 'chancery.LawS3143CUint8Model': WHATEVER THE INPUT: true; the input reads as it did. -/
def lawS3143CUint8ModelSpec : ChangeSpec := { name := "lawS3143CUint8Model", fn := fun _ => fun
  | [d1, d2] => { results := [.lit (.bool true)], args := [d1, d2] }
  | _ => none }
def lawS3143CUint8ModelRow : OpenClaim := { program := "ybulkbmbk", sum := "36486b28500a65206b2ae82a86104e84983766ed29ff18fc48d2e13d9fcbc0bb", func := "example.com/chancery/chancery.LawS3143CUint8Model", spec := "lawS3143CUint8Model", unfollowed := true, recurses := true, apart := false }
def LawS3143CUint8ModelSaid : Prop := lawS3143CUint8ModelRow.holds Yba.pinned (OpenSpec.ofChange lawS3143CUint8ModelSpec)

/-- ITS FALSE NEIGHBOUR: 'it returns false'. Refute it at one input. -/
def lawS3143CUint8ModelWrong : ChangeSpec := { name := "lawS3143CUint8Model", fn := fun _ => fun
  | [d1, d2] => { results := [.lit (.bool false)], args := [d1, d2] }
  | _ => none }
def LawS3143CUint8ModelWrongFalsely : Prop := lawS3143CUint8ModelRow.holds Yba.pinned (OpenSpec.ofChange lawS3143CUint8ModelWrong)

/-- 'chancery.LawS3143CUint64Model': WHATEVER THE INPUT: true; the input reads as it did. -/
def lawS3143CUint64ModelSpec : ChangeSpec := { name := "lawS3143CUint64Model", fn := fun _ => fun
  | [d1, d2] => { results := [.lit (.bool true)], args := [d1, d2] }
  | _ => none }
def lawS3143CUint64ModelRow : OpenClaim := { program := "ybulkbmbk", sum := "36486b28500a65206b2ae82a86104e84983766ed29ff18fc48d2e13d9fcbc0bb", func := "example.com/chancery/chancery.LawS3143CUint64Model", spec := "lawS3143CUint64Model", unfollowed := true, recurses := true, apart := false }
def LawS3143CUint64ModelSaid : Prop := lawS3143CUint64ModelRow.holds Yba.pinned (OpenSpec.ofChange lawS3143CUint64ModelSpec)

/-- ITS FALSE NEIGHBOUR: 'it returns false'. Refute it at one input. -/
def lawS3143CUint64ModelWrong : ChangeSpec := { name := "lawS3143CUint64Model", fn := fun _ => fun
  | [d1, d2] => { results := [.lit (.bool false)], args := [d1, d2] }
  | _ => none }
def LawS3143CUint64ModelWrongFalsely : Prop := lawS3143CUint64ModelRow.holds Yba.pinned (OpenSpec.ofChange lawS3143CUint64ModelWrong)

end Rows
end Go.Proofs.Ybulkbmbk
