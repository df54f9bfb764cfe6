import Derived.Test.YbulkdnpiRows
import Derived.WalkKit
import Derived.ProofKit
import Derived.OpenShut
import Derived.ShutString
import Derived.Outline
namespace Go.Proofs.Ybulkdnpi
open Go.ChangeShapes Go.WideShapes Go.ChangeAt Go.RowKit
set_option linter.unusedSimpArgs false

/-- which codes stand for themselves -/
def sameB (c : Int) : Bool := c == 9 || c == 10 || c == 13 || (decide (32 ≤ c) && decide (c ≤ 126)) || (decide (161 ≤ c) && (c != 173))

theorem sameB_true {c : Int} (h : c = 9 ∨ c = 10 ∨ c = 13 ∨ (32 ≤ c ∧ c ≤ 126) ∨ (161 ≤ c ∧ c ≠ 173)) : true = sameB c := by
  simp only [sameB, Bool.or_eq_true, Bool.and_eq_true, decide_eq_true_eq, beq_iff_eq, bne_iff_ne, ne_eq, eq_comm (a := true)]
  omega
theorem sameB_false {c : Int} (h : ¬ (c = 9 ∨ c = 10 ∨ c = 13 ∨ (32 ≤ c ∧ c ≤ 126) ∨ (161 ≤ c ∧ c ≠ 173))) : false = sameB c := by
  cases hs : sameB c
  · rfl
  · simp only [sameB, Bool.or_eq_true, Bool.and_eq_true, decide_eq_true_eq, beq_iff_eq, bne_iff_ne, ne_eq] at hs
    omega
theorem ret_bool {a b : Bool} (h : a = b) : Ending.returned (.bool a) = .returned (.bool b) := by rw [h]

set_option maxHeartbeats 400000 in
theorem same_any (c : Int) (w : World) :
    Calls Yba.prog 6 #[.int .u8 c] w fun e w' => e = .returned (.bool (sameB c)) ∧ w' = w := by
  go_enter Yba.func6, Yba.ntmps6
  go_wp2
  all_goals
    go_ret
    refine ⟨ret_bool ?_, rfl⟩
    try simp only [beq_iff_eq, beq_eq_false_iff_ne, bne_iff_ne, bne_eq_false_iff_eq, ne_eq] at *
    first | exact sameB_true (by omega) | exact sameB_false (by omega)

set_option maxHeartbeats 400000 in
theorem model_any (c : Int) (w : World) (h0 : 0 ≤ c) (h1 : c ≤ 255) :
    Calls Yba.prog 7 #[.int .u8 c] w fun e w' => e = .returned (.bool (sameB c)) ∧ w' = w := by
  go_enter Yba.func7, Yba.ntmps7
  go_wp2
  all_goals
    go_ret
    refine ⟨ret_bool ?_, rfl⟩
    try simp only [beq_iff_eq, beq_eq_false_iff_ne, bne_iff_ne, bne_eq_false_iff_eq, ne_eq] at *
    first | exact sameB_true (by omega) | exact sameB_false (by omega)

theorem wf_bd {a : Int} (h : (Lit.int .u8 a).wf = true) : 0 ≤ a ∧ a ≤ 255 := bounds_u8 h

end Go.Proofs.Ybulkdnpi
