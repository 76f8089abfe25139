/-
  No cell of these rows narrows 'for every input' (looked for: loops, veiled, ifaces, maps, wideKeys, modest, calm, conditions, laid).
  DERIVED. THE GIVEN ROWS OF THIS SEAT. 3 by the template 'for every input the law returns true; each argument reads behind the call as it read before'; 0 by the template 'total and deterministic' (their statements: YbulkbzkeTotals.lean).
  GIVEN WITH THE SEED: the statements are not yours to turn. If you find one false, say at which input.
  Laid BY PROGRAM, IN A SANDBOX (cutbox-rows.mjs): the forced cells as the released guide's own fill.sh prints them over the translation fb8a46e280ff525a… (all of the seat's roots in one cut). By AI agents, Wed Nov 11 2026. No macro, syntax, notation, axiom, sorry.
-/
import Derived.Test.YbulkbzkeChecked
import GoSem.Claim
import GoSem.ClaimJoined
import GoSem.ClaimMapViews
import Derived.JoinedTies
import Derived.KernelRfl
namespace Go.Proofs.Ybulkbzke
/- THE CELL 'sum', in the pinned program and in every row, IS THE sha256 OF THE DUMP (.gsa) THAT YbulkbzkeProg.lean LOADS. Nothing in Lean hashes anything: it is a label: what it is worth is what the hold of that sum in a sandbox is worth. -/
noncomputable def Yba.pinned : Pinned := { name := "ybulkbzke", sum := "fb8a46e280ff525a0b5bdbbd33ed07b07e43fce90d7c5c9d6545313cefa4a3a3", checked := Yba.checked }
namespace Rows
def none {H : Type} : Left H := { results := [], args := [] }

/-- 'xsdregexp.LawS3787AMembers': WHATEVER THE INPUT: true; the input reads as it did. -/
def lawS3787AMembersSpec : ChangeSpec := { name := "lawS3787AMembers", fn := fun _ => fun
  | [d1, d2] => { results := [.lit (.bool true)], args := [d1, d2] }
  | _ => none }
def lawS3787AMembersRow : OpenClaim := { program := "ybulkbzke", sum := "fb8a46e280ff525a0b5bdbbd33ed07b07e43fce90d7c5c9d6545313cefa4a3a3", func := "example.com/exact-yang/exact-yang/internal/xsdregexp.LawS3787AMembers", spec := "lawS3787AMembers", plainKeys := false, apart := false }
def LawS3787AMembersSaid : Prop := lawS3787AMembersRow.holds Yba.pinned (OpenSpec.ofChange lawS3787AMembersSpec)

/-- ITS FALSE NEIGHBOUR: 'it returns false'. Refute it at one input. -/
def lawS3787AMembersWrong : ChangeSpec := { name := "lawS3787AMembers", fn := fun _ => fun
  | [d1, d2] => { results := [.lit (.bool false)], args := [d1, d2] }
  | _ => none }
def LawS3787AMembersWrongFalsely : Prop := lawS3787AMembersRow.holds Yba.pinned (OpenSpec.ofChange lawS3787AMembersWrong)

/-- 'xsdregexp.LawS3787AAlgebra': WHATEVER THE INPUT: true; the input reads as it did. -/
def lawS3787AAlgebraSpec : ChangeSpec := { name := "lawS3787AAlgebra", fn := fun _ => fun
  | [d1, d2] => { results := [.lit (.bool true)], args := [d1, d2] }
  | _ => none }
def lawS3787AAlgebraRow : OpenClaim := { program := "ybulkbzke", sum := "fb8a46e280ff525a0b5bdbbd33ed07b07e43fce90d7c5c9d6545313cefa4a3a3", func := "example.com/exact-yang/exact-yang/internal/xsdregexp.LawS3787AAlgebra", spec := "lawS3787AAlgebra", plainKeys := false, apart := false }
def LawS3787AAlgebraSaid : Prop := lawS3787AAlgebraRow.holds Yba.pinned (OpenSpec.ofChange lawS3787AAlgebraSpec)

/-- ITS FALSE NEIGHBOUR: 'it returns false'. Refute it at one input. -/
def lawS3787AAlgebraWrong : ChangeSpec := { name := "lawS3787AAlgebra", fn := fun _ => fun
  | [d1, d2] => { results := [.lit (.bool false)], args := [d1, d2] }
  | _ => none }
def LawS3787AAlgebraWrongFalsely : Prop := lawS3787AAlgebraRow.holds Yba.pinned (OpenSpec.ofChange lawS3787AAlgebraWrong)

/-- 'exact-yang.LawS3787BMemberName': WHATEVER THE INPUT: true; the input reads as it did. -/
def lawS3787BMemberNameSpec : ChangeSpec := { name := "lawS3787BMemberName", fn := fun _ => fun
  | [d1, d2, d3, d4, d5] => { results := [.lit (.bool true)], args := [d1, d2, d3, d4, d5] }
  | _ => none }
def lawS3787BMemberNameRow : OpenClaim := { program := "ybulkbzke", sum := "fb8a46e280ff525a0b5bdbbd33ed07b07e43fce90d7c5c9d6545313cefa4a3a3", func := "example.com/exact-yang/exact-yang.LawS3787BMemberName", spec := "lawS3787BMemberName", plainKeys := false, apart := false }
def LawS3787BMemberNameSaid : Prop := lawS3787BMemberNameRow.holds Yba.pinned (OpenSpec.ofChange lawS3787BMemberNameSpec)

/-- ITS FALSE NEIGHBOUR: 'it returns false'. Refute it at one input. -/
def lawS3787BMemberNameWrong : ChangeSpec := { name := "lawS3787BMemberName", fn := fun _ => fun
  | [d1, d2, d3, d4, d5] => { results := [.lit (.bool false)], args := [d1, d2, d3, d4, d5] }
  | _ => none }
def LawS3787BMemberNameWrongFalsely : Prop := lawS3787BMemberNameRow.holds Yba.pinned (OpenSpec.ofChange lawS3787BMemberNameWrong)

end Rows
end Go.Proofs.Ybulkbzke
