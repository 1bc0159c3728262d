/-
  No cell of these rows narrows 'for every input' (looked for: loops, veiled, ifaces, maps, wideKeys, modest, calm, conditions, laid).
  DERIVED. THE GIVEN ROWS OF THIS SEAT. 3 by the template 'for every input the law returns true; each argument reads behind the call as it read before'; 0 by the template 'total and deterministic' (their statements: YbulkalpgTotals.lean).
  GIVEN WITH THE SEED: the statements are not yours to turn. If you find one false, say at which input.
  Laid BY PROGRAM, IN A SANDBOX (cutbox-rows.mjs): the forced cells as the released guide's own fill.sh prints them over the translation 7b146d17fa644a25… (all of the seat's roots in one cut). By AI agents, Wed Nov 11 2026. No macro, syntax, notation, axiom, sorry.
-/
import Derived.Test.YbulkalpgChecked
import GoSem.Claim
import GoSem.ClaimJoined
import GoSem.ClaimMapViews
import Derived.JoinedTies
import Derived.KernelRfl
namespace Go.Proofs.Ybulkalpg
/- THE CELL 'sum', in the pinned program and in every row, IS THE sha256 OF THE DUMP (.gsa) THAT YbulkalpgProg.lean LOADS. Nothing in Lean hashes anything: it is a label: what it is worth is what the hold of that sum in a sandbox is worth. -/
noncomputable def Yba.pinned : Pinned := { name := "ybulkalpg", sum := "7b146d17fa644a250c4ec99e347605c7d9a2812ff34dcf204385edabc1103acd", checked := Yba.checked }
namespace Rows
def none {H : Type} : Left H := { results := [], args := [] }

/-- 'record.LawS1865AClose': WHATEVER THE INPUT: true; the input reads as it did. -/
def lawS1865ACloseSpec : ChangeSpec := { name := "lawS1865AClose", fn := fun _ => fun
  | [d1, d2, d3] => { results := [.lit (.bool true)], args := [d1, d2, d3] }
  | _ => none }
def lawS1865ACloseRow : OpenClaim := { program := "ybulkalpg", sum := "7b146d17fa644a250c4ec99e347605c7d9a2812ff34dcf204385edabc1103acd", func := "example.com/pulseboard/pulseboard/record.LawS1865AClose", spec := "lawS1865AClose", apart := false }
def LawS1865ACloseSaid : Prop := lawS1865ACloseRow.holds Yba.pinned (OpenSpec.ofChange lawS1865ACloseSpec)

/-- ITS FALSE NEIGHBOUR: 'it returns false'. Refute it at one input. -/
def lawS1865ACloseWrong : ChangeSpec := { name := "lawS1865AClose", fn := fun _ => fun
  | [d1, d2, d3] => { results := [.lit (.bool false)], args := [d1, d2, d3] }
  | _ => none }
def LawS1865ACloseWrongFalsely : Prop := lawS1865ACloseRow.holds Yba.pinned (OpenSpec.ofChange lawS1865ACloseWrong)

/-- 'record.LawS1865BMatchesModel': WHATEVER THE INPUT: true; the input reads as it did. -/
def lawS1865BMatchesModelSpec : ChangeSpec := { name := "lawS1865BMatchesModel", fn := fun _ => fun
  | [d] => { results := [.lit (.bool true)], args := [d] }
  | _ => none }
def lawS1865BMatchesModelRow : OpenClaim := { program := "ybulkalpg", sum := "7b146d17fa644a250c4ec99e347605c7d9a2812ff34dcf204385edabc1103acd", func := "example.com/pulseboard/pulseboard/record.LawS1865BMatchesModel", spec := "lawS1865BMatchesModel", inPlace := ["internal/bytealg.abigen_runtime_cmpstring"], apart := false }
def LawS1865BMatchesModelSaid : Prop := lawS1865BMatchesModelRow.holds Yba.pinned (OpenSpec.ofChange lawS1865BMatchesModelSpec)

/-- ITS FALSE NEIGHBOUR: 'it returns false'. Refute it at one input. -/
def lawS1865BMatchesModelWrong : ChangeSpec := { name := "lawS1865BMatchesModel", fn := fun _ => fun
  | [d] => { results := [.lit (.bool false)], args := [d] }
  | _ => none }
def LawS1865BMatchesModelWrongFalsely : Prop := lawS1865BMatchesModelRow.holds Yba.pinned (OpenSpec.ofChange lawS1865BMatchesModelWrong)

/-- 'record.LawS1865BDuplicateBreaks': WHATEVER THE INPUT: true; the input reads as it did. -/
def lawS1865BDuplicateBreaksSpec : ChangeSpec := { name := "lawS1865BDuplicateBreaks", fn := fun _ => fun
  | [d1, d2] => { results := [.lit (.bool true)], args := [d1, d2] }
  | _ => none }
def lawS1865BDuplicateBreaksRow : OpenClaim := { program := "ybulkalpg", sum := "7b146d17fa644a250c4ec99e347605c7d9a2812ff34dcf204385edabc1103acd", func := "example.com/pulseboard/pulseboard/record.LawS1865BDuplicateBreaks", spec := "lawS1865BDuplicateBreaks", inPlace := ["internal/bytealg.abigen_runtime_cmpstring"], apart := false }
def LawS1865BDuplicateBreaksSaid : Prop := lawS1865BDuplicateBreaksRow.holds Yba.pinned (OpenSpec.ofChange lawS1865BDuplicateBreaksSpec)

/-- ITS FALSE NEIGHBOUR: 'it returns false'. Refute it at one input. -/
def lawS1865BDuplicateBreaksWrong : ChangeSpec := { name := "lawS1865BDuplicateBreaks", fn := fun _ => fun
  | [d1, d2] => { results := [.lit (.bool false)], args := [d1, d2] }
  | _ => none }
def LawS1865BDuplicateBreaksWrongFalsely : Prop := lawS1865BDuplicateBreaksRow.holds Yba.pinned (OpenSpec.ofChange lawS1865BDuplicateBreaksWrong)

end Rows
end Go.Proofs.Ybulkalpg
