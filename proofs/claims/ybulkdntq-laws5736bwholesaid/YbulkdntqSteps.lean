import Derived.Test.YbulkdntqCallees
namespace Go.Proofs.Ybulkdntq
open Go.ChangeShapes Go.WideShapes Go.ChangeAt Go.RowKit
set_option linter.unusedSimpArgs false
set_option linter.unusedVariables false

/-- one segment -/
structure Sg where
  n : Int
  k : Bool
  t : Int

/-- cell q of a row of segments -/
def cellAt (S : Nat → Sg) (q : Nat) : Value := if q % 3 = 0 then .int .i64 (S (q / 3)).n else if q % 3 = 1 then .bool (S (q / 3)).k else .int .i64 (S (q / 3)).t
def zAt (q : Nat) : Value := if q % 3 = 0 then .int .i64 0 else if q % 3 = 1 then .bool false else .int .i64 0
/-- the row behind k rounds -/
def rowTo (S : Nat → Sg) (m k : Nat) : List Value := (List.range (m * 3)).map fun q => if q / 3 < k then cellAt S q else zAt q
/-- the whole row -/
def row (S : Nat → Sg) (m : Nat) : List Value := (List.range (m * 3)).map (cellAt S)

theorem row_length (S : Nat → Sg) (m : Nat) : (row S m).length = m * 3 := by simp [row]
theorem rowTo_all (S : Nat → Sg) (m : Nat) : rowTo S m m = row S m := by
  apply List.map_congr_left
  intro q hq
  have : q < m * 3 := List.mem_range.1 hq
  rw [if_pos (by omega)]
theorem cell_one (S : Nat → Sg) (q : Nat) : (cellAt S q).oneCell' = true := by unfold cellAt; split; rfl; split <;> rfl
theorem z_one (q : Nat) : (zAt q).oneCell' = true := by unfold zAt; split; rfl; split <;> rfl
theorem row_one (S : Nat → Sg) (m : Nat) : ∀ u ∈ row S m, u.oneCell' = true := by
  intro u hu
  obtain ⟨q, _, rfl⟩ := List.mem_map.1 hu
  exact cell_one S q
theorem row_get (S : Nat → Sg) (m q : Nat) (h : q < m * 3) : (row S m)[q]? = some (cellAt S q) := by simp [row, h]
theorem cellAt0 (S : Nat → Sg) (j : Nat) : cellAt S (j * 3) = .int .i64 (S j).n := by
  have h1 : j * 3 % 3 = 0 := by omega
  have h2 : j * 3 / 3 = j := by omega
  simp [cellAt, h1, h2]
theorem cellAt1 (S : Nat → Sg) (j : Nat) : cellAt S (j * 3 + 1) = .bool (S j).k := by
  have h1 : (j * 3 + 1) % 3 = 1 := by omega
  have h2 : (j * 3 + 1) / 3 = j := by omega
  simp [cellAt, h1, h2]
theorem cellAt2 (S : Nat → Sg) (j : Nat) : cellAt S (j * 3 + 2) = .int .i64 (S j).t := by
  have h1 : (j * 3 + 2) % 3 = 2 := by omega
  have h2 : (j * 3 + 2) / 3 = j := by omega
  simp [cellAt, h1, h2]
theorem rowTo_get (S : Nat → Sg) (m k q : Nat) (h : q < m * 3) : (rowTo S m k)[q]? = some (if q / 3 < k then cellAt S q else zAt q) := by simp [rowTo, h]
theorem rowTo_some (S : Nat → Sg) (m k q : Nat) (h : q < m * 3) : ∃ v, (rowTo S m k)[q]? = some v := ⟨_, rowTo_get S m k q h⟩
theorem rowTo_set (S : Nat → Sg) (m k : Nat) (h : k < m) :
    (((rowTo S m k).set (k * 3) (.int .i64 (S k).n)).set (k * 3 + 1) (.bool (S k).k)).set (k * 3 + 2) (.int .i64 (S k).t) = rowTo S m (k + 1) := by
  apply List.ext_getElem?
  intro q
  have hl : (rowTo S m k).length = m * 3 := by simp [rowTo]
  simp only [List.getElem?_set, List.length_set, hl]
  by_cases hq : q < m * 3
  · rw [rowTo_get S m k q hq, rowTo_get S m (k + 1) q hq]
    by_cases h2 : k * 3 + 2 = q
    · subst h2
      rw [if_pos rfl, if_pos hq, if_pos (by omega), cellAt2]
    rw [if_neg h2]
    by_cases h1 : k * 3 + 1 = q
    · subst h1
      rw [if_pos rfl, if_pos hq, if_pos (by omega), cellAt1]
    rw [if_neg h1]
    by_cases h0 : k * 3 = q
    · subst h0
      rw [if_pos rfl, if_pos hq, if_pos (by omega), cellAt0]
    rw [if_neg h0]
    by_cases hk : q / 3 < k
    · rw [if_pos hk, if_pos (by omega)]
    · rw [if_neg hk, if_neg (by omega)]
  · have e1 : (rowTo S m k)[q]? = none := by simp [rowTo]; omega
    have e2 : (rowTo S m (k + 1))[q]? = none := by simp [rowTo]; omega
    rw [e1, e2, if_neg (by omega), if_neg (by omega), if_neg (by omega)]
theorem made_row (S : Nat → Sg) (m : Nat) : (madeCells (Value.agg #[.int .i64 0, .bool false, .int .i64 0]).cells (m * 3)).toList = rowTo S m 0 := by
  apply List.ext_getElem?
  intro q
  by_cases hq : q < m * 3
  · rw [rowTo_get S m 0 q hq]
    have hm : q % 3 = 0 ∨ q % 3 = 1 ∨ q % 3 = 2 := by omega
    rcases hm with h | h | h <;> simp [madeCells, Value.cells, hq, h, zAt]
  · have e2 : (rowTo S m 0)[q]? = none := by simp [rowTo]; omega
    rw [e2]; simp [madeCells]; omega

theorem keep3 {x : World} {N : Nat} {p : Addr} {v : Value} (h : x.cell? p = some v) (hp : N ≠ p.block) (a b c : Nat) (u0 u1 u2 : Value) :
    (((x.setCell ⟨N, a, none⟩ u0).setCell ⟨N, b, none⟩ u1).setCell ⟨N, c, none⟩ u2).drew.cell? p = some v := by
  show (((x.setCell ⟨N, a, none⟩ u0).setCell ⟨N, b, none⟩ u1).setCell ⟨N, c, none⟩ u2).cell? p = some v
  have hne : ∀ q : Nat, (⟨N, q, none⟩ : Addr) ≠ p := fun q e => hp (by rw [← e])
  rw [World.cell?_setCell_other _ _ _ _ (hne c), World.cell?_setCell_other _ _ _ _ (hne b), World.cell?_setCell_other _ _ _ _ (hne a), h]

theorem cell_alloc {x : World} {p : Addr} {v : Value} (h : x.cell? p = some v) (o : Obj) : (x.alloc o).cell? p = some v :=
  (World.cell?_of_block (w := x) (Below.heap_alloc x o p.block (World.block_lt_of_cell? _ _ h))).trans h
theorem cell_drew {x : World} {p : Addr} {v : Value} (h : x.cell? p = some v) : x.drew.cell? p = some v := h
theorem keep4 {x : World} {p : Addr} {v : Value} (h : x.cell? p = some v) (o1 o2 o3 o4 : Obj) : ((((x.alloc o1).alloc o2).alloc o3).alloc o4).drew.cell? p = some v :=
  cell_alloc (cell_alloc (cell_alloc (cell_alloc h o1) o2) o3) o4

theorem bel4 {B : Nat} {w x : World} (h : Below B w x) (hB : B ≤ x.heap.size) (a b c d : Obj) : Below B w ((((x.alloc a).alloc b).alloc c).alloc d).drew :=
  ((((h.alloc hB a).alloc (by simp; omega) b).alloc (by simp; omega) c).alloc (by simp; omega) d).drew
theorem bel2 {B : Nat} {w x : World} (h : Below B w x) (hB : B ≤ x.heap.size) (a b : Obj) : Below B w ((x.alloc a).alloc b).drew :=
  ((h.alloc hB a).alloc (by simp; omega) b).drew
theorem own_later {w x : World} {B n : Nat} {v : Value} {xs : List Value} (h : w.ownsRow B 26 3 v n xs) (hb : Below w.heap.size w x) : x.ownsRow B 26 3 v n xs := by
  refine ⟨h.1, ?_⟩
  rcases h.2 with h' | ⟨g, cap, cur, hv, hg, hh, r⟩
  · exact .inl h'
  · exact .inr ⟨g, cap, cur, hv, hg, by rw [hb.block g (lt_of_block hh)]; exact hh, r⟩
/-- a round of the third loop -/
theorem loop3_step {w x : World} {B g n cap i j k : Nat} {xs : List Value} (hown : x.ownsRow B 26 3 (.slice (some ⟨g, 0, none⟩) n cap) n xs) (hbel : Below B w x) (hg : B ≤ g) (a b c : Value) :
    (∃ ys, (((x.setCell ⟨g, i, none⟩ a).setCell ⟨g, j, none⟩ b).setCell ⟨g, k, none⟩ c).ownsRow B 26 3 (.slice (some ⟨g, 0, none⟩) n cap) n ys) ∧
    Below B w (((x.setCell ⟨g, i, none⟩ a).setCell ⟨g, j, none⟩ b).setCell ⟨g, k, none⟩ c) :=
  ⟨⟨_, (((hown.stored i a).1.stored j b).1.stored k c).1⟩,
   ((hbel.setCell (p := ⟨g, i, none⟩) hg _).setCell (p := ⟨g, j, none⟩) hg _).setCell (p := ⟨g, k, none⟩) hg _⟩
theorem own_some {x : World} {B n : Nat} {v : Value} {xs : List Value} (h : x.ownsRow B 26 3 v n xs) (q : Nat) (hq : q < n * 3) : ∃ u, xs[q]? = some u :=
  ⟨xs[q]'(by rw [h.1]; exact hq), List.getElem?_eq_getElem _⟩

/-- a round of the first loop -/
theorem loop1_step {S : Nat → Sg} {len k N : Nat} {w wr : World} (hk : k < len) (hN : N = w.heap.size)
    (hown : wr.ownsRow N 26 3 (.slice (some ⟨N, 0, none⟩) len len) len (rowTo S len k)) (hbel : Below N w wr) :
    (((wr.setCell ⟨N, k * 3, none⟩ (.int .i64 (S k).n)).setCell ⟨N, k * 3 + 1, none⟩ (.bool (S k).k)).setCell ⟨N, k * 3 + 2, none⟩ (.int .i64 (S k).t)).drew.ownsRow N 26 3 (.slice (some ⟨N, 0, none⟩) len len) len (rowTo S len (k + 1)) ∧
    Below N w (((wr.setCell ⟨N, k * 3, none⟩ (.int .i64 (S k).n)).setCell ⟨N, k * 3 + 1, none⟩ (.bool (S k).k)).setCell ⟨N, k * 3 + 2, none⟩ (.int .i64 (S k).t)).drew := by
  have h1 := (hown.stored (k * 3) (.int .i64 (S k).n)).1
  have h2 := (h1.stored (k * 3 + 1) (.bool (S k).k)).1
  have h3 := (h2.stored (k * 3 + 2) (.int .i64 (S k).t)).1
  rw [rowTo_set S len k hk] at h3
  refine ⟨h3.drew, ?_⟩
  exact (((hbel.setCell (p := ⟨N, k * 3, none⟩) (Nat.le_refl _) _).setCell (p := ⟨N, k * 3 + 1, none⟩) (Nat.le_refl _) _).setCell (p := ⟨N, k * 3 + 2, none⟩) (Nat.le_refl _) _).drew

/-- what is told of the slice that came in -/
structure SegsAt (w : World) (ao : Option Addr) (len cap b o : Nat) (S : Nat → Sg) : Prop where
  addr : 0 < len → ao = some ⟨b, o, none⟩
  lt : 0 < len → b < w.heap.size
  nil : ao = none → len = 0 ∧ cap = 0
  c0 : ∀ j, j < len → w.cell? ⟨b, o + j * 3, none⟩ = some (.int .i64 (S j).n)
  c1 : ∀ j, j < len → w.cell? ⟨b, o + j * 3 + 1, none⟩ = some (.bool (S j).k)
  c2 : ∀ j, j < len → w.cell? ⟨b, o + j * 3 + 2, none⟩ = some (.int .i64 (S j).t)
/-- a row of segments that lies in w from ⟨b, o⟩ on -/
structure RowAt (w : World) (b o len : Nat) (S : Nat → Sg) : Prop where
  lt : 0 < len → b < w.heap.size
  c0 : ∀ j, j < len → w.cell? ⟨b, o + j * 3, none⟩ = some (.int .i64 (S j).n)
  c1 : ∀ j, j < len → w.cell? ⟨b, o + j * 3 + 1, none⟩ = some (.bool (S j).k)
  c2 : ∀ j, j < len → w.cell? ⟨b, o + j * 3 + 2, none⟩ = some (.int .i64 (S j).t)
theorem RowAt.later {w w' : World} {b o len B : Nat} {S : Nat → Sg} (h : RowAt w b o len S) (hb : Below B w w') (hB : 0 < len → b < B) : RowAt w' b o len S :=
  ⟨fun hp => Nat.lt_of_lt_of_le (h.lt hp) hb.size,
   fun j hj => (hb.cell (p := ⟨b, o + j * 3, none⟩) (hB (by omega))).trans (h.c0 j hj),
   fun j hj => (hb.cell (p := ⟨b, o + j * 3 + 1, none⟩) (hB (by omega))).trans (h.c1 j hj),
   fun j hj => (hb.cell (p := ⟨b, o + j * 3 + 2, none⟩) (hB (by omega))).trans (h.c2 j hj)⟩
theorem rowAt_segs {w : World} {ao : Option Addr} {len cap b o : Nat} {S : Nat → Sg} (h : SegsAt w ao len cap b o S) : RowAt w b o len S := ⟨h.lt, h.c0, h.c1, h.c2⟩
theorem rowAt_own {w : World} {B g len cap : Nat} {S : Nat → Sg} (h : w.ownsRow B 26 3 (.slice (some ⟨g, 0, none⟩) len cap) len (row S len)) : RowAt w g 0 len S :=
  ⟨fun _ => (h.lt _ rfl).2,
   fun j hj => by rw [Nat.zero_add, h.cellAt _ (by omega), row_get S len _ (by omega), cellAt0],
   fun j hj => by rw [Nat.zero_add, h.cellAt _ (by omega), row_get S len _ (by omega), cellAt1],
   fun j hj => by rw [Nat.zero_add, h.cellAt _ (by omega), row_get S len _ (by omega), cellAt2]⟩
theorem own_shape {w : World} {B n : Nat} {v : Value} {xs : List Value} (h : w.ownsRow B 26 3 v n xs) (hv : v ≠ .slice none 0 0) : ∃ g cap, v = .slice (some ⟨g, 0, none⟩) n cap ∧ B ≤ g ∧ g < w.heap.size := by
  rcases h.2 with ⟨h', _⟩ | ⟨g, cap, cur, rfl, hb, hg, _⟩
  · exact absurd h' hv
  · exact ⟨g, cap, rfl, hb, lt_of_block hg⟩
end Go.Proofs.Ybulkdntq
