import Derived.Test.YbulkdnrmEnc
import Derived.Laws.BitsLemmas
namespace Go.Proofs.Ybulkdnrm
open Go.ChangeShapes Go.WideShapes Go.ChangeAt Go.RowKit
open Go.Lib (uvarint byteCells strCells)
set_option linter.unusedSimpArgs false
set_option linter.unusedVariables false

theorem ret_two {s : Value} {a b : Int} (h : a = b) : Ending.returned (.tuple #[s, .int .i64 a]) = .returned (.tuple #[s, .int .i64 b]) := by rw [h]
theorem or_i64 (a b : Nat) (ha : a < 4611686018427387904) (hb : b < 4611686018427387904) : bits .or .i64 (a : Int) (b : Int) = ((a ||| b : Nat) : Int) :=
  (bits_nat .i64 62 (by decide) (fun n h0 h1 => by rw [IntKind.wrap_i64]; omega) a b (by omega) (by omega)).2
theorem or_shift (a b k : Nat) (ha : a < 2 ^ k) : a ||| b * 2 ^ k = a + b * 2 ^ k := by
  rw [← Nat.shiftLeft_eq, Nat.or_comm, ← Nat.shiftLeft_add_eq_or_of_lt ha, Nat.add_comm]
theorem or7 (a b : Nat) (ha : a < 128) (hb : b < 65536) : bits .or .i64 (a : Int) ((b : Int) * 128) = ((a + b * 128 : Nat) : Int) := by
  have h := or_i64 a (b * 128) (by omega) (by omega)
  rw [show ((b * 128 : Nat) : Int) = (b : Int) * 128 by omega] at h
  rw [h, or_shift a b 7 (by omega)]
theorem or14 (a b : Nat) (ha : a < 16384) (hb : b < 65536) : bits .or .i64 (a : Int) ((b : Int) * 16384) = ((a + b * 16384 : Nat) : Int) := by
  have h := or_i64 a (b * 16384) (by omega) (by omega)
  rw [show ((b * 16384 : Nat) : Int) = (b : Int) * 16384 by omega] at h
  rw [h, or_shift a b 14 (by omega)]
theorem or0 (a : Nat) (ha : a < 65536) : bits .or .i64 0 (a : Int) = (a : Int) := by
  have h := or_i64 0 a (by omega) (by omega)
  simpa using h
set_option maxRecDepth 100000 in
theorem and127_nat : ∀ a : Fin 256, (a.val &&& 127) = a.val % 128 := by decide
theorem and127 (b : Nat) (hb : b < 256) : bits .and .u8 (b : Int) 127 = ((b % 128 : Nat) : Int) := by
  have h := u8_and_nat b 127 hb (by omega)
  have e : ((127 : Nat) : Int) = 127 := rfl
  rw [e] at h
  rw [h, and127_nat ⟨b, hb⟩]

theorem slice_run (c : ByteArray) (a b : Nat) (A B : Int) (hA : A = (a : Int)) (hB : B = (b : Int)) (h1 : a ≤ b) (h2 : b ≤ c.size) (w : World) :
    (Instr.slice 25 (.string c) (some (.int .i64 A)) (some (.int .i64 B)) none).run Yba.prog w = .ok (.string (c.extract a b)) w := by
  subst hA hB
  have := run_slice_string (P := Yba.prog) w 25 c .i64 .i64 (a : Int) (b : Int) Yba.underlying25 (by omega) (by omega) (by omega)
  simpa using this

set_option maxRecDepth 20000 in
set_option maxHeartbeats 400000 in
theorem field0 (c : ByteArray) (i L : Nat) (w : World) (hL : (L : Int) < 128) (hs : (c.size : Int) ≤ 2147483648)
    (h0 : ∀ wx, (Instr.index 25 (.string c) (.int .i64 (i : Int))).run Yba.prog wx = .ok (.int .u8 (L : Int)) wx) (hf : i + 1 + L ≤ c.size) :
    Calls Yba.prog 13 #[.string c, .int .i64 i] w fun e w' => e = .returned (.tuple #[.string (c.extract (i + 1) (i + 1 + L)), .int .i64 ((i + 1 + L : Nat) : Int)]) ∧ w' = w := by
  have o0 := or0 L (by omega)
  have hsl := slice_run c (i + 1) (i + 1 + L) ((i : Int) + 1) ((i : Int) + 1 + (L : Int)) (by omega) (by omega) (by omega) hf
  go_enter Yba.func13, Yba.ntmps13
  go_wp2
  refine wp_loop_rounds 1 ?_
  rw [rounds_succ]
  go_wp2
  go_ret2
  exact ⟨ret_two (by go_num), rfl⟩

set_option maxRecDepth 20000 in
set_option maxHeartbeats 400000 in
theorem field1 (c : ByteArray) (i b0 r0 b1 L : Nat) (w : World) (hb0 : (128 : Int) ≤ (b0 : Int)) (hb1 : (b1 : Int) < 128) (hs : (c.size : Int) ≤ 2147483648)
    (h0 : ∀ wx, (Instr.index 25 (.string c) (.int .i64 (i : Int))).run Yba.prog wx = .ok (.int .u8 (b0 : Int)) wx)
    (h1 : ∀ wx, (Instr.index 25 (.string c) (.int .i64 ((i : Int) + 1))).run Yba.prog wx = .ok (.int .u8 (b1 : Int)) wx)
    (a0 : bits .and .u8 (b0 : Int) 127 = (r0 : Int)) (o0 : bits .or .i64 0 (r0 : Int) = (r0 : Int)) (o1 : bits .or .i64 (r0 : Int) ((b1 : Int) * 128) = (L : Int)) (hr0 : (r0 : Int) < 128) (hf : i + 2 + L ≤ c.size) :
    Calls Yba.prog 13 #[.string c, .int .i64 i] w fun e w' => e = .returned (.tuple #[.string (c.extract (i + 2) (i + 2 + L)), .int .i64 ((i + 2 + L : Nat) : Int)]) ∧ w' = w := by
  have hsl := slice_run c (i + 2) (i + 2 + L) ((i : Int) + 1 + 1) ((i : Int) + 1 + 1 + (L : Int)) (by omega) (by omega) (by omega) hf
  go_enter Yba.func13, Yba.ntmps13
  go_wp2
  refine wp_loop_rounds 2 ?_
  rw [rounds_succ]
  go_wp2
  rw [rounds_succ]
  go_wp2
  go_ret2
  exact ⟨ret_two (by go_num), rfl⟩

set_option maxRecDepth 20000 in
set_option maxHeartbeats 400000 in
theorem field2 (c : ByteArray) (i b0 r0 b1 r1 n1 b2 L : Nat) (w : World) (hb0 : (128 : Int) ≤ (b0 : Int)) (hb1 : (128 : Int) ≤ (b1 : Int)) (hb2 : (b2 : Int) < 128) (hs : (c.size : Int) ≤ 2147483648)
    (h0 : ∀ wx, (Instr.index 25 (.string c) (.int .i64 (i : Int))).run Yba.prog wx = .ok (.int .u8 (b0 : Int)) wx)
    (h1 : ∀ wx, (Instr.index 25 (.string c) (.int .i64 ((i : Int) + 1))).run Yba.prog wx = .ok (.int .u8 (b1 : Int)) wx)
    (h2 : ∀ wx, (Instr.index 25 (.string c) (.int .i64 ((i : Int) + 1 + 1))).run Yba.prog wx = .ok (.int .u8 (b2 : Int)) wx)
    (a0 : bits .and .u8 (b0 : Int) 127 = (r0 : Int)) (a1 : bits .and .u8 (b1 : Int) 127 = (r1 : Int)) (o0 : bits .or .i64 0 (r0 : Int) = (r0 : Int)) (o1 : bits .or .i64 (r0 : Int) ((r1 : Int) * 128) = (n1 : Int))
    (o2 : bits .or .i64 (n1 : Int) ((b2 : Int) * 16384) = (L : Int)) (hr0 : (r0 : Int) < 128) (hr1 : (r1 : Int) < 128) (hf : i + 3 + L ≤ c.size) :
    Calls Yba.prog 13 #[.string c, .int .i64 i] w fun e w' => e = .returned (.tuple #[.string (c.extract (i + 3) (i + 3 + L)), .int .i64 ((i + 3 + L : Nat) : Int)]) ∧ w' = w := by
  have hsl := slice_run c (i + 3) (i + 3 + L) ((i : Int) + 1 + 1 + 1) ((i : Int) + 1 + 1 + 1 + (L : Int)) (by omega) (by omega) (by omega) hf
  go_enter Yba.func13, Yba.ntmps13
  go_wp2
  refine wp_loop_rounds 3 ?_
  rw [rounds_succ]
  go_wp2
  rw [rounds_succ]
  go_wp2
  rw [rounds_succ]
  go_wp2
  go_ret2
  exact ⟨ret_two (by go_num), rfl⟩
end Go.Proofs.Ybulkdnrm
