import Derived.Test.YbulkdnpiRows
import Derived.WalkKit
import Derived.ProofKit
import Derived.OpenShut
import Derived.ShutString
import Derived.WalkLawsBesides
import Derived.Laws.Externs
import Derived.Outline
import Derived.Below
import Derived.Maps.AppendAt
import Derived.Laws.CopyOwn
import Derived.BigQuiet
import Derived.Deep.QuietTactic
import Derived.Deep.Slices
namespace Go.Proofs.Ybulkdnpi
open Go.ChangeShapes Go.WideShapes Go.ChangeAt Go.RowKit
set_option linter.unusedSimpArgs false

/-- the bits of one item as a number, where it is one -/
def numOf (k i : Int) (f : Nat) : Nat := if k % 8 ≤ 2 then floatOfInt .f64 i else f
def isNum (k : Int) : Bool := decide (k % 8 ≤ 5)
/-- the interface value that one item makes -/
def objOf (k i : Int) (f : Nat) (b : Bool) : Value :=
  if k % 8 ≤ 2 then .iface 2 (.int .i64 i) else if k % 8 ≤ 5 then .iface 28 (.float .f64 f) else if k % 8 = 6 then .iface 4 (.bool b) else .nilIface

theorem ret_val {a b : Value} (h : a = b) : Ending.returned a = .returned b := by rw [h]

/-- the block that a callee lays for the item it is handed -/
abbrev itemBlk (k i : Int) (f : Nat) (b : Bool) : Obj := .cells #[.int .u8 k, .int .i64 i, .float .f64 f, .bool b] 30

theorem objOf_int {k i : Int} {f : Nat} {b : Bool} (h : k % 8 ≤ 2) : Value.iface 2 (.int .i64 i) = objOf k i f b := by simp [objOf, h]
theorem objOf_float {k i : Int} {f : Nat} {b : Bool} (h : ¬ k % 8 ≤ 2) (h' : k % 8 ≤ 5) : Value.iface 28 (.float .f64 f) = objOf k i f b := by simp [objOf, h, h']
theorem objOf_bool {k i : Int} {f : Nat} {b : Bool} (h : k % 8 = 6) : Value.iface 4 (.bool b) = objOf k i f b := by simp [objOf, h]
theorem objOf_nil {k i : Int} {f : Nat} {b : Bool} (h : 7 ≤ k % 8) : Value.nilIface = objOf k i f b := by
  unfold objOf; rw [if_neg (by omega), if_neg (by omega), if_neg (by omega)]

set_option maxHeartbeats 400000 in
theorem obj_any (k i : Int) (f : Nat) (b : Bool) (w : World) (h0 : 0 ≤ k) (h1 : k ≤ 255) :
    Calls Yba.prog 8 #[.agg #[.int .u8 k, .int .i64 i, .float .f64 f, .bool b]] w fun e w' => e = .returned (objOf k i f b) ∧ w' = w.alloc (itemBlk k i f b) := by
  go_enter Yba.func8, Yba.ntmps8
  go_wp2
  all_goals
    go_ret
    refine ⟨ret_val ?_, rfl⟩
    simp only [beq_iff_eq, beq_eq_false_iff_ne, ne_eq] at *
    first | exact objOf_int (by omega) | exact objOf_float (by omega) (by omega) | exact objOf_bool (by omega) | exact objOf_nil (by omega)

theorem isnum_any (k i : Int) (f : Nat) (b : Bool) (w : World) (h0 : 0 ≤ k) (h1 : k ≤ 255) :
    Calls Yba.prog 9 #[.agg #[.int .u8 k, .int .i64 i, .float .f64 f, .bool b]] w fun e w' => e = .returned (.bool (isNum k)) ∧ w' = w.alloc (itemBlk k i f b) := by
  go_enter Yba.func9, Yba.ntmps9
  go_wp2
  go_ret
  exact ⟨rfl, rfl⟩

theorem val_any (k i : Int) (f : Nat) (b : Bool) (w : World) (h0 : 0 ≤ k) (h1 : k ≤ 255) :
    Calls Yba.prog 12 #[.agg #[.int .u8 k, .int .i64 i, .float .f64 f, .bool b]] w fun e w' => e = .returned (.float .f64 (numOf k i f)) ∧ w' = w.alloc (itemBlk k i f b) := by
  go_enter Yba.func12, Yba.ntmps12
  go_wp2
  · have h : k % 8 ≤ 2 := by assumption
    go_ret
    exact ⟨ret_val (by simp [numOf, h]), rfl⟩
  · have h : 2 < k % 8 := by assumption
    go_ret
    exact ⟨ret_val (by simp [numOf, show ¬ k % 8 ≤ 2 by omega]), rfl⟩

theorem bits_run (f : Nat) (w : World) : (callFunc 11 #[.float .f64 f]).run Yba.prog w = .ok (.value (.int .u64 f)) w := by
  rw [run_callFunc_extern (e := Extern.MathFloatBits.float64bits) Yba.func11 (by kernel_rfl) (by kernel_rfl) (by kernel_rfl) (by kernel_rfl)]
  rfl

theorem as_int (v : Value) (w : World) : (Instr.typeAssert (.iface 2 v) 26 2 true).run Yba.prog w = .ok (.tuple #[v, .bool true]) w := by kernel_rfl
theorem as_float_int (v : Value) (w : World) : (Instr.typeAssert (.iface 28 v) 26 2 true).run Yba.prog w = .ok (.tuple #[.int .i64 0, .bool false]) w := by kernel_rfl
theorem as_float (v : Value) (w : World) : (Instr.typeAssert (.iface 28 v) 26 28 true).run Yba.prog w = .ok (.tuple #[v, .bool true]) w := by kernel_rfl
theorem as_bool_int (v : Value) (w : World) : (Instr.typeAssert (.iface 4 v) 26 2 true).run Yba.prog w = .ok (.tuple #[.int .i64 0, .bool false]) w := by kernel_rfl
theorem as_bool_float (v : Value) (w : World) : (Instr.typeAssert (.iface 4 v) 26 28 true).run Yba.prog w = .ok (.tuple #[.float .f64 0, .bool false]) w := by kernel_rfl
theorem as_nil_int (w : World) : (Instr.typeAssert .nilIface 26 2 true).run Yba.prog w = .ok (.tuple #[.int .i64 0, .bool false]) w := by kernel_rfl
theorem as_nil_float (w : World) : (Instr.typeAssert .nilIface 26 28 true).run Yba.prog w = .ok (.tuple #[.float .f64 0, .bool false]) w := by kernel_rfl
attribute [local go_sem] as_int as_float_int as_float as_bool_int as_bool_float as_nil_int as_nil_float

theorem number_int (i : Int) (w : World) :
    Calls Yba.prog 13 #[.iface 2 (.int .i64 i)] w fun e w' => e = .returned (.tuple #[.float .f64 (floatOfInt .f64 i), .bool true]) ∧ w' = w := by
  go_enter Yba.func13, Yba.ntmps13
  go_wp2
  go_ret2
  exact ⟨rfl, rfl⟩
theorem number_float (f : Nat) (w : World) :
    Calls Yba.prog 13 #[.iface 28 (.float .f64 f)] w fun e w' => e = .returned (.tuple #[.float .f64 f, .bool true]) ∧ w' = w := by
  go_enter Yba.func13, Yba.ntmps13
  go_wp2
  go_ret2
  exact ⟨rfl, rfl⟩
theorem number_bool (b : Bool) (w : World) :
    Calls Yba.prog 13 #[.iface 4 (.bool b)] w fun e w' => e = .returned (.tuple #[.float .f64 0, .bool false]) ∧ w' = w := by
  go_enter Yba.func13, Yba.ntmps13
  go_wp2
  go_ret2
  exact ⟨rfl, rfl⟩
theorem number_nil (w : World) :
    Calls Yba.prog 13 #[.nilIface] w fun e w' => e = .returned (.tuple #[.float .f64 0, .bool false]) ∧ w' = w := by
  go_enter Yba.func13, Yba.ntmps13
  go_wp2
  go_ret2
  exact ⟨rfl, rfl⟩

/-- 'Number' of the object that an item makes, where it is a number -/
theorem number_yes (k i : Int) (f : Nat) (b : Bool) (w : World) (h : isNum k = true) :
    Calls Yba.prog 13 #[objOf k i f b] w fun e w' => e = .returned (.tuple #[.float .f64 (numOf k i f), .bool true]) ∧ w' = w := by
  have h5 : k % 8 ≤ 5 := by simpa [isNum] using h
  by_cases h2 : k % 8 ≤ 2
  · rw [← objOf_int h2, show numOf k i f = floatOfInt .f64 i by simp [numOf, h2]]
    exact number_int i w
  · rw [← objOf_float h2 h5, show numOf k i f = f by simp [numOf, h2]]
    exact number_float f w
theorem number_no (k i : Int) (f : Nat) (b : Bool) (w : World) (h : isNum k = false) :
    Calls Yba.prog 13 #[objOf k i f b] w fun e w' => e = .returned (.tuple #[.float .f64 0, .bool false]) ∧ w' = w := by
  have h5 : ¬ k % 8 ≤ 5 := by simpa [isNum] using h
  by_cases h2 : k % 8 = 6
  · rw [← objOf_bool h2]
    exact number_bool b w
  · rw [← objOf_nil (by omega)]
    exact number_nil w
end Go.Proofs.Ybulkdnpi
