/-
  No cell of these rows narrows 'for every input' (looked for: loops, veiled, ifaces, maps, wideKeys, modest, calm, conditions, laid).
  DERIVED. THE GIVEN ROWS OF THIS SEAT. 1 by the template 'for every input the law returns true; each argument reads behind the call as it read before'; 0 by the template 'total and deterministic' (their statements: YbulkbzlgTotals.lean).
  GIVEN WITH THE SEED: the statements are not yours to turn. If you find one false, say at which input.
  Laid BY PROGRAM, IN A SANDBOX (cutbox-rows.mjs): the forced cells as the released guide's own fill.sh prints them over the translation fddd5757fb35424a… (all of the seat's roots in one cut). By AI agents, Wed Nov 11 2026. No macro, syntax, notation, axiom, sorry.
-/
import Derived.Test.YbulkbzlgChecked
import GoSem.Claim
import GoSem.ClaimJoined
import GoSem.ClaimMapViews
import Derived.JoinedTies
import Derived.KernelRfl
namespace Go.Proofs.Ybulkbzlg
/- THE CELL 'sum', in the pinned program and in every row, IS THE sha256 OF THE DUMP (.gsa) THAT YbulkbzlgProg.lean LOADS. Nothing in Lean hashes anything: it is a label: what it is worth is what the hold of that sum in a sandbox is worth. -/
noncomputable def Yba.pinned : Pinned := { name := "ybulkbzlg", sum := "fddd5757fb35424a41cdaf35f99fe740f0b05a1026969e0e752e2c3c5866f40c", checked := Yba.checked }
namespace Rows
def none {H : Type} : Left H := { results := [], args := [] }

/-- 'membership.LawS3789AUsers': WHATEVER THE INPUT: true; the input reads as it did. -/
def lawS3789AUsersSpec : ChangeSpec := { name := "lawS3789AUsers", fn := fun _ => fun
  | [d1, d2, d3] => { results := [.lit (.bool true)], args := [d1, d2, d3] }
  | _ => none }
def lawS3789AUsersRow : OpenClaim := { program := "ybulkbzlg", sum := "fddd5757fb35424a41cdaf35f99fe740f0b05a1026969e0e752e2c3c5866f40c", func := "example.com/membership/membership.LawS3789AUsers", spec := "lawS3789AUsers", unfollowed := true, recurses := true, plainKeys := false, apart := false }
def LawS3789AUsersSaid : Prop := lawS3789AUsersRow.holds Yba.pinned (OpenSpec.ofChange lawS3789AUsersSpec)

/-- ITS FALSE NEIGHBOUR: 'it returns false'. Refute it at one input. -/
def lawS3789AUsersWrong : ChangeSpec := { name := "lawS3789AUsers", fn := fun _ => fun
  | [d1, d2, d3] => { results := [.lit (.bool false)], args := [d1, d2, d3] }
  | _ => none }
def LawS3789AUsersWrongFalsely : Prop := lawS3789AUsersRow.holds Yba.pinned (OpenSpec.ofChange lawS3789AUsersWrong)

end Rows
end Go.Proofs.Ybulkbzlg
