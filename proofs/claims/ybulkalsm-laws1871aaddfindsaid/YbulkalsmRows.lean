/-
  No cell of these rows narrows 'for every input' (looked for: loops, veiled, ifaces, maps, wideKeys, modest, calm, conditions, laid).
  DERIVED. THE GIVEN ROWS OF THIS SEAT. 3 by the template 'for every input the law returns true; each argument reads behind the call as it read before'; 0 by the template 'total and deterministic' (their statements: YbulkalsmTotals.lean).
  GIVEN WITH THE SEED: the statements are not yours to turn. If you find one false, say at which input.
  Laid BY PROGRAM, IN A SANDBOX (cutbox-rows.mjs): the forced cells as the released guide's own fill.sh prints them over the translation eb57c57105f4d4c9… (all of the seat's roots in one cut). By AI agents, Wed Nov 11 2026. No macro, syntax, notation, axiom, sorry.
-/
import Derived.Test.YbulkalsmChecked
import GoSem.Claim
import GoSem.ClaimJoined
import GoSem.ClaimMapViews
import Derived.JoinedTies
import Derived.KernelRfl
namespace Go.Proofs.Ybulkalsm
/- THE CELL 'sum', in the pinned program and in every row, IS THE sha256 OF THE DUMP (.gsa) THAT YbulkalsmProg.lean LOADS. Nothing in Lean hashes anything: it is a label: what it is worth is what the hold of that sum in a sandbox is worth. -/
noncomputable def Yba.pinned : Pinned := { name := "ybulkalsm", sum := "eb57c57105f4d4c937a3cbd6ff81278530573244c1b3ba7b20651bdd7bba1082", checked := Yba.checked }
namespace Rows
def none {H : Type} : Left H := { results := [], args := [] }

/-- 'byrfodd.LawS1871AAddFind': WHATEVER THE INPUT: true; the input reads as it did. -/
def lawS1871AAddFindSpec : ChangeSpec := { name := "lawS1871AAddFind", fn := fun _ => fun
  | [d] => { results := [.lit (.bool true)], args := [d] }
  | _ => none }
def lawS1871AAddFindRow : OpenClaim := { program := "ybulkalsm", sum := "eb57c57105f4d4c937a3cbd6ff81278530573244c1b3ba7b20651bdd7bba1082", func := "example.com/byrfodd/byrfodd.LawS1871AAddFind", spec := "lawS1871AAddFind", unfollowed := true, recurses := true, apart := false }
def LawS1871AAddFindSaid : Prop := lawS1871AAddFindRow.holds Yba.pinned (OpenSpec.ofChange lawS1871AAddFindSpec)

/-- ITS FALSE NEIGHBOUR: 'it returns false'. Refute it at one input. -/
def lawS1871AAddFindWrong : ChangeSpec := { name := "lawS1871AAddFind", fn := fun _ => fun
  | [d] => { results := [.lit (.bool false)], args := [d] }
  | _ => none }
def LawS1871AAddFindWrongFalsely : Prop := lawS1871AAddFindRow.holds Yba.pinned (OpenSpec.ofChange lawS1871AAddFindWrong)

/-- 'byrfodd.LawS1871BBytewise': WHATEVER THE INPUT: true; the input reads as it did. -/
def lawS1871BBytewiseSpec : ChangeSpec := { name := "lawS1871BBytewise", fn := fun _ => fun
  | [d] => { results := [.lit (.bool true)], args := [d] }
  | _ => none }
def lawS1871BBytewiseRow : OpenClaim := { program := "ybulkalsm", sum := "eb57c57105f4d4c937a3cbd6ff81278530573244c1b3ba7b20651bdd7bba1082", func := "example.com/byrfodd/byrfodd.LawS1871BBytewise", spec := "lawS1871BBytewise", inPlace := ["internal/abi.NoEscape", "internal/bytealg.MakeNoZero"], apart := false }
def LawS1871BBytewiseSaid : Prop := lawS1871BBytewiseRow.holds Yba.pinned (OpenSpec.ofChange lawS1871BBytewiseSpec)

/-- ITS FALSE NEIGHBOUR: 'it returns false'. Refute it at one input. -/
def lawS1871BBytewiseWrong : ChangeSpec := { name := "lawS1871BBytewise", fn := fun _ => fun
  | [d] => { results := [.lit (.bool false)], args := [d] }
  | _ => none }
def LawS1871BBytewiseWrongFalsely : Prop := lawS1871BBytewiseRow.holds Yba.pinned (OpenSpec.ofChange lawS1871BBytewiseWrong)

/-- 'byrfodd.LawS1871BIdempotent': WHATEVER THE INPUT: true; the input reads as it did. -/
def lawS1871BIdempotentSpec : ChangeSpec := { name := "lawS1871BIdempotent", fn := fun _ => fun
  | [d] => { results := [.lit (.bool true)], args := [d] }
  | _ => none }
def lawS1871BIdempotentRow : OpenClaim := { program := "ybulkalsm", sum := "eb57c57105f4d4c937a3cbd6ff81278530573244c1b3ba7b20651bdd7bba1082", func := "example.com/byrfodd/byrfodd.LawS1871BIdempotent", spec := "lawS1871BIdempotent", inPlace := ["internal/abi.NoEscape", "internal/bytealg.MakeNoZero"], apart := false }
def LawS1871BIdempotentSaid : Prop := lawS1871BIdempotentRow.holds Yba.pinned (OpenSpec.ofChange lawS1871BIdempotentSpec)

/-- ITS FALSE NEIGHBOUR: 'it returns false'. Refute it at one input. -/
def lawS1871BIdempotentWrong : ChangeSpec := { name := "lawS1871BIdempotent", fn := fun _ => fun
  | [d] => { results := [.lit (.bool false)], args := [d] }
  | _ => none }
def LawS1871BIdempotentWrongFalsely : Prop := lawS1871BIdempotentRow.holds Yba.pinned (OpenSpec.ofChange lawS1871BIdempotentWrong)

end Rows
end Go.Proofs.Ybulkalsm
