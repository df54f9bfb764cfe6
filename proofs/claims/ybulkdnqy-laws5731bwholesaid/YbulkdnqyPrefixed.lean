import Derived.Test.YbulkdnqySearch
namespace Go.Proofs.Ybulkdnqy
open Go.ChangeShapes Go.WideShapes Go.ChangeAt Go.RowKit
open Plain
set_option linter.unusedSimpArgs false
set_option linter.unusedVariables false

/-- the keys stand in order -/
def Ordered (ts : Nat → ByteArray) (n : Nat) : Prop := ∀ a b, a ≤ b → b < n → ¬ bs (ts b) < bs (ts a)
def from1 (ts : Nat → ByteArray) (p : ByteArray) (n : Nat) : Nat := cnt (fun t => decide (cf1 (bs p) (bs (ts t)) < 0)) n
def to1 (ts : Nat → ByteArray) (p : ByteArray) (n : Nat) : Nat := cnt (fun t => decide (cf2 (bs p) (bs (ts t)) < 0)) n

set_option maxHeartbeats 1000000 in
theorem prefixed_any (ob g n : Nat) (v1 : Value) (ts : Nat → ByteArray) (p : ByteArray) (w : World) (hn : (n : Int) ≤ 1048576) (hg : g < w.heap.size) (hob : ob < w.heap.size) (hs : ScAt w g n ts) (ho : Ordered ts n)
    (k0 : w.cell? ⟨ob, 0, none⟩ = some (.slice (some ⟨g, 0, none⟩) n n)) :
    Calls Yba.prog 6 #[.pointer (some ⟨ob, 0, none⟩), .string p] w fun e w' => e = .returned (.agg #[.int .i64 (from1 ts p n : Nat), .int .i64 (to1 ts p n : Nat)]) ∧ Below w.heap.size w w' := by
  have m1 : Hid (∀ a b, a ≤ b → b < n → cf1 (bs p) (bs (ts b)) < 0 → cf1 (bs p) (bs (ts a)) < 0) := fun a b h1 h2 h3 => mono1 (ho a b h1 h2) h3
  have m2 : Hid (∀ a b, a ≤ b → b < n → cf2 (bs p) (bs (ts b)) < 0 → cf2 (bs p) (bs (ts a)) < 0) := fun a b h1 h2 h3 => mono2 (ho a b h1 h2) h3
  clear ho
  go_enter Yba.func6, Yba.ntmps6
  go_wp2_with fail
  obtain ⟨W0, hW0⟩ : ∃ W0, W0 = w.alloc (.cells #[.int .i64 0, .int .i64 0] 38) := ⟨_, rfl⟩
  have hbA : Below w.heap.size w W0 := by rw [hW0]; exact (Below.refl _ _).alloc (Nat.le_refl _) _
  have hsA : W0.heap.size = w.heap.size + 1 := by rw [hW0]; simp
  have d0 : W0.cell? ⟨w.heap.size, 0, none⟩ = some (.int .i64 0) := by rw [hW0]; simp
  have d1 : W0.cell? ⟨w.heap.size, 1, none⟩ = some (.int .i64 0) := by rw [hW0]; simp
  have f0 : W0.frozen? ⟨w.heap.size, 0, none⟩ = false := by rw [hW0]; simp
  have f1 : W0.frozen? ⟨w.heap.size, 1, none⟩ = false := by rw [hW0]; simp
  rw [← hW0]
  clear hW0
  refine (search1 g n ts p _ hn (by omega) (hs.later hbA hg) m1.out).mono ?_
  rintro e w1 ⟨fnd, rfl, hb1⟩
  have hs1 := hb1.size
  have hbB : Below w.heap.size w w1 := hbA.trans (hb1.mono (by omega))
  have k1 := (hbB.cell (p := ⟨ob, 0, none⟩) hob).trans k0
  simp only []
  go_wp2_with fail
  refine (search2 g n ts p _ hn (by omega) (hs.later hbB hg) m2.out).mono ?_
  rintro e w2 ⟨fnd2, rfl, hb2⟩
  have hs2 := hb2.size
  have hbC : Below W0.heap.size W0 w2 := hb1.trans (hb2.mono (by omega))
  have hbD : Below w.heap.size w w2 := hbA.trans (hbC.mono (by omega))
  have r0 := (hbC.cell (p := ⟨w.heap.size, 0, none⟩) (by show w.heap.size < _; omega)).trans d0
  have r1 := (hbC.cell (p := ⟨w.heap.size, 1, none⟩) (by show w.heap.size < _; omega)).trans d1
  have z0 := (hbC.frozen (p := ⟨w.heap.size, 0, none⟩) (by show w.heap.size < _; omega)).trans f0
  have z1 := (hbC.frozen (p := ⟨w.heap.size, 1, none⟩) (by show w.heap.size < _; omega)).trans f1
  clear hbC hb2 hb1 hbA hbB d0 d1 f0 f1 k1
  simp only []
  go_wp2
  exact bodyPost_ret (v := .agg #[.int .i64 (from1 ts p n : Nat), .int .i64 (to1 ts p n : Nat)]) (by simp [results, Yba.results6, go_sem, r0, r1, from1, to1]) rfl ⟨rfl, (hbD.setCell (p := ⟨w.heap.size, 0, none⟩) (Nat.le_refl _) _).setCell (p := ⟨w.heap.size, 1, none⟩) (Nat.le_refl _) _⟩
end Go.Proofs.Ybulkdnqy
