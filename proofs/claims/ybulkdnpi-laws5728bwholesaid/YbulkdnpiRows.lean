/-
  No cell of these rows narrows 'for every input' (looked for: loops, veiled, ifaces, maps, wideKeys, modest, calm, conditions, laid).
  DERIVED. THE GIVEN ROWS OF THIS SEAT. 3 by the template 'for every input the law returns true; each argument reads behind the call as it read before'; 0 by the template 'total and deterministic' (their statements: YbulkdnpiTotals.lean).
  GIVEN WITH THE SEED: the statements are not yours to turn. If you find one false, say at which input.
  Laid BY PROGRAM, IN A SANDBOX (cutbox-rows.mjs): the forced cells as the released guide's own fill.sh prints them over the translation 24079f1c4356b09d… (all of the seat's roots in one cut). By AI agents, Wed Nov 11 2026. No macro, syntax, notation, axiom, sorry.
-/
import Derived.Test.YbulkdnpiChecked
import GoSem.Claim
import GoSem.ClaimJoined
import GoSem.ClaimMapViews
import Derived.JoinedTies
import Derived.KernelRfl
namespace Go.Proofs.Ybulkdnpi
/- THE CELL 'sum', in the pinned program and in every row, IS THE sha256 OF THE DUMP (.gsa) THAT YbulkdnpiProg.lean LOADS. Nothing in Lean hashes anything: it is a label: what it is worth is what the hold of that sum in a sandbox is worth. -/
noncomputable def Yba.pinned : Pinned := { name := "ybulkdnpi", sum := "24079f1c4356b09d9d05055364b040f87abfa07a527b34c67190d43be8164f99", checked := Yba.checked }
namespace Rows
def none {H : Type} : Left H := { results := [], args := [] }

/-- 'pdf.LawS5728AWhole': WHATEVER THE INPUT: true; the input reads as it did. -/
def lawS5728AWholeSpec : ChangeSpec := { name := "lawS5728AWhole", fn := fun _ => fun
  | [d] => { results := [.lit (.bool true)], args := [d] }
  | _ => none }
def lawS5728AWholeRow : OpenClaim := { program := "ybulkdnpi", sum := "24079f1c4356b09d9d05055364b040f87abfa07a527b34c67190d43be8164f99", func := "example.com/blotleaf/blotleaf/internal/pdf.LawS5728AWhole", spec := "lawS5728AWhole", apart := false }
def LawS5728AWholeSaid : Prop := lawS5728AWholeRow.holds Yba.pinned (OpenSpec.ofChange lawS5728AWholeSpec)

/-- ITS FALSE NEIGHBOUR: 'it returns false'. Refute it at one input. -/
def lawS5728AWholeWrong : ChangeSpec := { name := "lawS5728AWhole", fn := fun _ => fun
  | [d] => { results := [.lit (.bool false)], args := [d] }
  | _ => none }
def LawS5728AWholeWrongFalsely : Prop := lawS5728AWholeRow.holds Yba.pinned (OpenSpec.ofChange lawS5728AWholeWrong)

/-- 'pdf.LawS5728AAllCodes': WHATEVER THE INPUT: true; the input reads as it did. -/
def lawS5728AAllCodesSpec : ChangeSpec := { name := "lawS5728AAllCodes", fn := fun _ => fun
  | [d] => { results := [.lit (.bool true)], args := [d] }
  | _ => none }
def lawS5728AAllCodesRow : OpenClaim := { program := "ybulkdnpi", sum := "24079f1c4356b09d9d05055364b040f87abfa07a527b34c67190d43be8164f99", func := "example.com/blotleaf/blotleaf/internal/pdf.LawS5728AAllCodes", spec := "lawS5728AAllCodes", apart := false }
def LawS5728AAllCodesSaid : Prop := lawS5728AAllCodesRow.holds Yba.pinned (OpenSpec.ofChange lawS5728AAllCodesSpec)

/-- ITS FALSE NEIGHBOUR: 'it returns false'. Refute it at one input. -/
def lawS5728AAllCodesWrong : ChangeSpec := { name := "lawS5728AAllCodes", fn := fun _ => fun
  | [d] => { results := [.lit (.bool false)], args := [d] }
  | _ => none }
def LawS5728AAllCodesWrongFalsely : Prop := lawS5728AAllCodesRow.holds Yba.pinned (OpenSpec.ofChange lawS5728AAllCodesWrong)

/-- 'pdf.LawS5728BWhole': WHATEVER THE INPUT: true; the input reads as it did. -/
def lawS5728BWholeSpec : ChangeSpec := { name := "lawS5728BWhole", fn := fun _ => fun
  | [d1, d2] => { results := [.lit (.bool true)], args := [d1, d2] }
  | _ => none }
def lawS5728BWholeRow : OpenClaim := { program := "ybulkdnpi", sum := "24079f1c4356b09d9d05055364b040f87abfa07a527b34c67190d43be8164f99", func := "example.com/blotleaf/blotleaf/internal/pdf.LawS5728BWhole", spec := "lawS5728BWhole", inPlace := ["math.Float64bits"], apart := false }
def LawS5728BWholeSaid : Prop := lawS5728BWholeRow.holds Yba.pinned (OpenSpec.ofChange lawS5728BWholeSpec)

/-- ITS FALSE NEIGHBOUR: 'it returns false'. Refute it at one input. -/
def lawS5728BWholeWrong : ChangeSpec := { name := "lawS5728BWhole", fn := fun _ => fun
  | [d1, d2] => { results := [.lit (.bool false)], args := [d1, d2] }
  | _ => none }
def LawS5728BWholeWrongFalsely : Prop := lawS5728BWholeRow.holds Yba.pinned (OpenSpec.ofChange lawS5728BWholeWrong)

end Rows
end Go.Proofs.Ybulkdnpi
