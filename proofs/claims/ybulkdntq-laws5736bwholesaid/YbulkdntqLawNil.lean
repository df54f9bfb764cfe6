import Derived.Test.YbulkdntqSteps
namespace Go.Proofs.Ybulkdntq
open Go.ChangeShapes Go.WideShapes Go.ChangeAt Go.RowKit
set_option linter.unusedSimpArgs false
set_option linter.unusedVariables false

set_option maxRecDepth 20000 in
set_option maxHeartbeats 1000000 in
theorem walk_nil (w : World) :
    Calls Yba.prog 3 #[.slice none 0 0] w fun e w' => e = .returned (.bool true) ∧ Below w.heap.size w w' := by
  have heql := fun (wx : World) (a : Option Addr) (n c : Nat) => Lib.run_eql_slice_nil (P := Yba.prog) wx 23 26 a n c 0 0 Yba.underlying23
  have heqs := fun (wx : World) (a : Option Addr) (n c : Nat) => Lib.run_eql_slice_nil (P := Yba.prog) wx 22 25 a n c 0 0 Yba.underlying22
  go_enter Yba.func3, Yba.ntmps3
  go_wp2_with (go_at_call 4; refine (unindexed_nil w.heap.size (.int .i32 0) (.int .u32 0) (.int .u32 0) _ ?p2 ?p3 ?p4 ?p5 ?p6 ?p7 ?p8).mono ?_)
  case p2 => simp
  case p3 => simp
  case p4 => simp
  case p5 => simp
  case p6 => simp
  case p7 => simp
  case p8 => simp
  rintro e w3 ⟨rfl, hbel3, c8⟩
  have hb : Below w.heap.size w w3 := ((Below.refl _ _).alloc (Nat.le_refl _) _).trans hbel3
  simp only []
  go_wp2
  go_loopw [7] (fun i wx => i = .int .i64 0 ∧ Below w.heap.size w wx) (fun _ _ => 0)
  case atStart => exact ⟨rfl, hb⟩
  case round =>
    obtain ⟨rfl, hbx⟩ := hrel
    go_wp2
    go_loopw [8] (fun i wx => i = .int .i64 0 ∧ Below w.heap.size w wx) (fun _ _ => 0)
    case atStart => exact ⟨rfl, hbx⟩
    case round =>
      obtain ⟨rfl, hby⟩ := hrel
      go_wp2
      go_loopw [9] (fun i wx => i = .int .i64 0 ∧ Below w.heap.size w wx) (fun _ _ => 0)
      case atStart => exact ⟨rfl, hby⟩
      case round =>
        obtain ⟨rfl, hbz⟩ := hrel
        go_wp2
        go_ret
        exact ⟨rfl, hbz⟩
end Go.Proofs.Ybulkdntq
