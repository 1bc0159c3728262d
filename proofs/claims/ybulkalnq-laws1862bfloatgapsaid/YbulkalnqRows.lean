/-
  No cell of these rows narrows 'for every input' (looked for: loops, veiled, ifaces, maps, wideKeys, modest, calm, conditions, laid).
  DERIVED. THE GIVEN ROWS OF THIS SEAT. 4 by the template 'for every input the law returns true; each argument reads behind the call as it read before'; 0 by the template 'total and deterministic' (their statements: YbulkalnqTotals.lean).
  GIVEN WITH THE SEED: the statements are not yours to turn. If you find one false, say at which input.
  Laid BY PROGRAM, IN A SANDBOX (cutbox-rows.mjs): the forced cells as the released guide's own fill.sh prints them over the translation b2841215034e78b1… (all of the seat's roots in one cut). By AI agents, Wed Nov 11 2026. No macro, syntax, notation, axiom, sorry.
-/
import Derived.Test.YbulkalnqChecked
import GoSem.Claim
import GoSem.ClaimJoined
import GoSem.ClaimMapViews
import Derived.JoinedTies
import Derived.KernelRfl
namespace Go.Proofs.Ybulkalnq
/- THE CELL 'sum', in the pinned program and in every row, IS THE sha256 OF THE DUMP (.gsa) THAT YbulkalnqProg.lean LOADS. Nothing in Lean hashes anything: it is a label: what it is worth is what the hold of that sum in a sandbox is worth. -/
noncomputable def Yba.pinned : Pinned := { name := "ybulkalnq", sum := "b2841215034e78b12bd4fc828302f0d5dfa09a4ba3cc7a973b5288c8c2820718", checked := Yba.checked }
namespace Rows
def none {H : Type} : Left H := { results := [], args := [] }

/-- 'ballpark.LawS1862BIntGap': WHATEVER THE INPUT: true; the input reads as it did. -/
def lawS1862BIntGapSpec : ChangeSpec := { name := "lawS1862BIntGap", fn := fun _ => fun
  | [d1, d2, d3, d4] => { results := [.lit (.bool true)], args := [d1, d2, d3, d4] }
  | _ => none }
def lawS1862BIntGapRow : OpenClaim := { program := "ybulkalnq", sum := "b2841215034e78b12bd4fc828302f0d5dfa09a4ba3cc7a973b5288c8c2820718", func := "example.com/ballpark/ballpark.LawS1862BIntGap", spec := "lawS1862BIntGap", inPlace := ["math.Float64frombits", "math.Float64bits"], unfollowed := true, recurses := true, apart := false }
def LawS1862BIntGapSaid : Prop := lawS1862BIntGapRow.holds Yba.pinned (OpenSpec.ofChange lawS1862BIntGapSpec)

/-- ITS FALSE NEIGHBOUR: 'it returns false'. Refute it at one input. -/
def lawS1862BIntGapWrong : ChangeSpec := { name := "lawS1862BIntGap", fn := fun _ => fun
  | [d1, d2, d3, d4] => { results := [.lit (.bool false)], args := [d1, d2, d3, d4] }
  | _ => none }
def LawS1862BIntGapWrongFalsely : Prop := lawS1862BIntGapRow.holds Yba.pinned (OpenSpec.ofChange lawS1862BIntGapWrong)

/-- 'ballpark.LawS1862BFloatGap': WHATEVER THE INPUT: true; the input reads as it did. -/
def lawS1862BFloatGapSpec : ChangeSpec := { name := "lawS1862BFloatGap", fn := fun _ => fun
  | [d1, d2, d3, d4] => { results := [.lit (.bool true)], args := [d1, d2, d3, d4] }
  | _ => none }
def lawS1862BFloatGapRow : OpenClaim := { program := "ybulkalnq", sum := "b2841215034e78b12bd4fc828302f0d5dfa09a4ba3cc7a973b5288c8c2820718", func := "example.com/ballpark/ballpark.LawS1862BFloatGap", spec := "lawS1862BFloatGap", inPlace := ["math.Float64frombits", "math.Float64bits"], unfollowed := true, recurses := true, apart := false }
def LawS1862BFloatGapSaid : Prop := lawS1862BFloatGapRow.holds Yba.pinned (OpenSpec.ofChange lawS1862BFloatGapSpec)

/-- ITS FALSE NEIGHBOUR: 'it returns false'. Refute it at one input. -/
def lawS1862BFloatGapWrong : ChangeSpec := { name := "lawS1862BFloatGap", fn := fun _ => fun
  | [d1, d2, d3, d4] => { results := [.lit (.bool false)], args := [d1, d2, d3, d4] }
  | _ => none }
def LawS1862BFloatGapWrongFalsely : Prop := lawS1862BFloatGapRow.holds Yba.pinned (OpenSpec.ofChange lawS1862BFloatGapWrong)

/-- 'ballpark.LawS1862CTable': WHATEVER THE INPUT: true; the input reads as it did. -/
def lawS1862CTableSpec : ChangeSpec := { name := "lawS1862CTable", fn := fun _ => fun
  | [d1, d2] => { results := [.lit (.bool true)], args := [d1, d2] }
  | _ => none }
def lawS1862CTableRow : OpenClaim := { program := "ybulkalnq", sum := "b2841215034e78b12bd4fc828302f0d5dfa09a4ba3cc7a973b5288c8c2820718", func := "example.com/ballpark/ballpark.LawS1862CTable", spec := "lawS1862CTable", inPlace := ["math.Float64bits"], apart := false }
def LawS1862CTableSaid : Prop := lawS1862CTableRow.holds Yba.pinned (OpenSpec.ofChange lawS1862CTableSpec)

/-- ITS FALSE NEIGHBOUR: 'it returns false'. Refute it at one input. -/
def lawS1862CTableWrong : ChangeSpec := { name := "lawS1862CTable", fn := fun _ => fun
  | [d1, d2] => { results := [.lit (.bool false)], args := [d1, d2] }
  | _ => none }
def LawS1862CTableWrongFalsely : Prop := lawS1862CTableRow.holds Yba.pinned (OpenSpec.ofChange lawS1862CTableWrong)

/-- 'ballpark.LawS1862CAdd': WHATEVER THE INPUT: true; the input reads as it did. -/
def lawS1862CAddSpec : ChangeSpec := { name := "lawS1862CAdd", fn := fun _ => fun
  | [d1, d2] => { results := [.lit (.bool true)], args := [d1, d2] }
  | _ => none }
def lawS1862CAddRow : OpenClaim := { program := "ybulkalnq", sum := "b2841215034e78b12bd4fc828302f0d5dfa09a4ba3cc7a973b5288c8c2820718", func := "example.com/ballpark/ballpark.LawS1862CAdd", spec := "lawS1862CAdd", inPlace := ["math.Float64bits"], apart := false }
def LawS1862CAddSaid : Prop := lawS1862CAddRow.holds Yba.pinned (OpenSpec.ofChange lawS1862CAddSpec)

/-- ITS FALSE NEIGHBOUR: 'it returns false'. Refute it at one input. -/
def lawS1862CAddWrong : ChangeSpec := { name := "lawS1862CAdd", fn := fun _ => fun
  | [d1, d2] => { results := [.lit (.bool false)], args := [d1, d2] }
  | _ => none }
def LawS1862CAddWrongFalsely : Prop := lawS1862CAddRow.holds Yba.pinned (OpenSpec.ofChange lawS1862CAddWrong)

end Rows
end Go.Proofs.Ybulkalnq
