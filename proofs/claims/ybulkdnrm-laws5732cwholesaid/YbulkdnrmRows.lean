/-
  No cell of these rows narrows 'for every input' (looked for: loops, veiled, ifaces, maps, wideKeys, modest, calm, conditions, laid).
  DERIVED. THE GIVEN ROWS OF THIS SEAT. 1 by the template 'for every input the law returns true; each argument reads behind the call as it read before'; 0 by the template 'total and deterministic' (their statements: YbulkdnrmTotals.lean).
  GIVEN WITH THE SEED: the statements are not yours to turn. If you find one false, say at which input.
  Laid BY PROGRAM, IN A SANDBOX (cutbox-rows.mjs): the forced cells as the released guide's own fill.sh prints them over the translation b29d0c2938135988… (all of the seat's roots in one cut). By AI agents, Wed Nov 11 2026. No macro, syntax, notation, axiom, sorry.
-/
import Derived.Test.YbulkdnrmChecked
import GoSem.Claim
import GoSem.ClaimJoined
import GoSem.ClaimMapViews
import Derived.JoinedTies
import Derived.KernelRfl
namespace Go.Proofs.Ybulkdnrm
/- THE CELL 'sum', in the pinned program and in every row, IS THE sha256 OF THE DUMP (.gsa) THAT YbulkdnrmProg.lean LOADS. Nothing in Lean hashes anything: it is a label: what it is worth is what the hold of that sum in a sandbox is worth. -/
noncomputable def Yba.pinned : Pinned := { name := "ybulkdnrm", sum := "b29d0c2938135988ffdc49ca2c92d058135b47238c65dba371e664de5c965d4e", checked := Yba.checked }
namespace Rows
def none {H : Type} : Left H := { results := [], args := [] }

/-- 'linearis.LawS5732CWhole': WHATEVER THE INPUT: true; the input reads as it did. -/
def lawS5732CWholeSpec : ChangeSpec := { name := "lawS5732CWhole", fn := fun _ => fun
  | [d1, d2, d3, d4, d5] => { results := [.lit (.bool true)], args := [d1, d2, d3, d4, d5] }
  | _ => none }
def lawS5732CWholeRow : OpenClaim := { program := "ybulkdnrm", sum := "b29d0c2938135988ffdc49ca2c92d058135b47238c65dba371e664de5c965d4e", func := "example.com/linearis/linearis.LawS5732CWhole", spec := "lawS5732CWhole", inPlace := ["internal/abi.NoEscape", "internal/bytealg.MakeNoZero"], apart := false }
def LawS5732CWholeSaid : Prop := lawS5732CWholeRow.holds Yba.pinned (OpenSpec.ofChange lawS5732CWholeSpec)

/-- ITS FALSE NEIGHBOUR: 'it returns false'. Refute it at one input. -/
def lawS5732CWholeWrong : ChangeSpec := { name := "lawS5732CWhole", fn := fun _ => fun
  | [d1, d2, d3, d4, d5] => { results := [.lit (.bool false)], args := [d1, d2, d3, d4, d5] }
  | _ => none }
def LawS5732CWholeWrongFalsely : Prop := lawS5732CWholeRow.holds Yba.pinned (OpenSpec.ofChange lawS5732CWholeWrong)

end Rows
end Go.Proofs.Ybulkdnrm
