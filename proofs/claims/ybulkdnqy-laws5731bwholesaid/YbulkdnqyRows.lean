/-
  No cell of these rows narrows 'for every input' (looked for: loops, veiled, ifaces, maps, wideKeys, modest, calm, conditions, laid).
  DERIVED. THE GIVEN ROWS OF THIS SEAT. 1 by the template 'for every input the law returns true; each argument reads behind the call as it read before'; 0 by the template 'total and deterministic' (their statements: YbulkdnqyTotals.lean).
  GIVEN WITH THE SEED: the statements are not yours to turn. If you find one false, say at which input.
  Laid BY PROGRAM, IN A SANDBOX (cutbox-rows.mjs): the forced cells as the released guide's own fill.sh prints them over the translation 71bb3819395aeea9… (all of the seat's roots in one cut). By AI agents, Wed Nov 11 2026. No macro, syntax, notation, axiom, sorry.
-/
import Derived.Test.YbulkdnqyChecked
import GoSem.Claim
import GoSem.ClaimJoined
import GoSem.ClaimMapViews
import Derived.JoinedTies
import Derived.KernelRfl
namespace Go.Proofs.Ybulkdnqy
/- THE CELL 'sum', in the pinned program and in every row, IS THE sha256 OF THE DUMP (.gsa) THAT YbulkdnqyProg.lean LOADS. Nothing in Lean hashes anything: it is a label: what it is worth is what the hold of that sum in a sandbox is worth. -/
noncomputable def Yba.pinned : Pinned := { name := "ybulkdnqy", sum := "71bb3819395aeea9bd200f8f8e8aaa2837d6417147b452d3585d3fc11cbc6de0", checked := Yba.checked }
namespace Rows
def none {H : Type} : Left H := { results := [], args := [] }

/-- 'tidy-conf.LawS5731BWhole': WHATEVER THE INPUT: true; the input reads as it did. -/
def lawS5731BWholeSpec : ChangeSpec := { name := "lawS5731BWhole", fn := fun _ => fun
  | [d1, d2, d3] => { results := [.lit (.bool true)], args := [d1, d2, d3] }
  | _ => none }
def lawS5731BWholeRow : OpenClaim := { program := "ybulkdnqy", sum := "71bb3819395aeea9bd200f8f8e8aaa2837d6417147b452d3585d3fc11cbc6de0", func := "example.com/tidy-conf/tidy-conf.LawS5731BWhole", spec := "lawS5731BWhole", inPlace := ["internal/bytealg.abigen_runtime_cmpstring"], unfollowed := true, recurses := true, apart := false }
def LawS5731BWholeSaid : Prop := lawS5731BWholeRow.holds Yba.pinned (OpenSpec.ofChange lawS5731BWholeSpec)

/-- ITS FALSE NEIGHBOUR: 'it returns false'. Refute it at one input. -/
def lawS5731BWholeWrong : ChangeSpec := { name := "lawS5731BWhole", fn := fun _ => fun
  | [d1, d2, d3] => { results := [.lit (.bool false)], args := [d1, d2, d3] }
  | _ => none }
def LawS5731BWholeWrongFalsely : Prop := lawS5731BWholeRow.holds Yba.pinned (OpenSpec.ofChange lawS5731BWholeWrong)

end Rows
end Go.Proofs.Ybulkdnqy
