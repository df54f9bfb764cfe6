import Derived.Test.YbulkdnpiBNumbers
namespace Go.Proofs.Ybulkdnpi
open Go.ChangeShapes Go.WideShapes Go.ChangeAt Go.RowKit
set_option linter.unusedSimpArgs false
set_option linter.unusedVariables false

/-- the objects' row behind k rounds -/
def objsTo (its : Nat → It) (m k : Nat) : List Value := (List.range m).map fun j => if j < k then (its j).obj else .nilIface
theorem objsTo_zero (its : Nat → It) (m : Nat) : objsTo its m 0 = List.replicate m .nilIface := by
  simp [objsTo, List.map_const']
theorem objsTo_set (its : Nat → It) (m k : Nat) : (objsTo its m k).set k (its k).obj = objsTo its m (k + 1) := by
  apply List.ext_getElem?
  intro j
  simp only [objsTo, List.getElem?_set, List.length_map, List.length_range, List.getElem?_map]
  by_cases h : k = j
  · subst h
    by_cases hk : k < m
    · simp [hk]
    · simp [hk]
  · by_cases hj : j < m
    · simp only [h, if_false, List.getElem?_range hj, Option.map_some]
      congr 1
      by_cases h1 : j < k
      · simp [h1, show j < k + 1 by omega]
      · simp [h1, show ¬ j < k + 1 by omega]
    · simp [h, hj]
theorem objsTo_get (its : Nat → It) (m k j : Nat) (h : j < m) (hk : j < k) : (objsTo its m k)[j]? = some (its j).obj := by
  simp [objsTo, h, hk]
theorem objsTo_any (its : Nat → It) (m k j : Nat) (h : j < m) : ∃ v, (objsTo its m k)[j]? = some v ∧ v.oneCell' = true := by
  refine ⟨if j < k then (its j).obj else .nilIface, by simp [objsTo, h], ?_⟩
  split
  · unfold It.obj objOf; split; rfl; split; rfl; split; rfl; rfl
  · rfl

def allTo (its : Nat → It) (k : Nat) : Bool := (List.range k).all fun j => (its j).is
theorem allTo_succ (its : Nat → It) (k : Nat) : allTo its (k + 1) = (allTo its k && (its k).is) := by simp [allTo, List.range_succ]
theorem allTo_true {its : Nat → It} {k : Nat} : allTo its k = true ↔ ∀ j, j < k → (its j).is = true := by simp [allTo]
theorem allTo_false {its : Nat → It} {k : Nat} : allTo its k = false ↔ ∃ j, j < k ∧ (its j).is = false := by simp [allTo]

/-- the object of an item, in one of two shapes, with its contract -/
theorem obj_shape (t : It) (h0 : 0 ≤ t.k) (h1 : t.k ≤ 255) : (∃ u x, t.obj = .iface u x) ∨ t.obj = .nilIface := by
  unfold It.obj objOf
  split
  · exact .inl ⟨_, _, rfl⟩
  split
  · exact .inl ⟨_, _, rfl⟩
  split
  · exact .inl ⟨_, _, rfl⟩
  · exact .inr rfl
abbrev It.agg (t : It) : Value := .agg #[.int .u8 t.k, .int .i64 t.i, .float .f64 t.f, .bool t.b]
abbrev It.blk (t : It) : Obj := .cells #[.int .u8 t.k, .int .i64 t.i, .float .f64 t.f, .bool t.b] 30
theorem obj_as (t : It) (v : Value) (hv : t.obj = v) (h0 : 0 ≤ t.k) (h1 : t.k ≤ 255) (w : World) :
    Calls Yba.prog 8 #[.agg #[.int .u8 t.k, .int .i64 t.i, .float .f64 t.f, .bool t.b]] w fun e w' => e = .returned v ∧ w' = w.alloc t.blk := by
  subst hv
  exact obj_any t.k t.i t.f t.b w h0 h1

theorem val_as (t : It) (h0 : 0 ≤ t.k) (h1 : t.k ≤ 255) (w : World) :
    Calls Yba.prog 12 #[.agg #[.int .u8 t.k, .int .i64 t.i, .float .f64 t.f, .bool t.b]] w fun e w' => e = .returned (.float .f64 t.num) ∧ w' = w.alloc t.blk :=
  val_any t.k t.i t.f t.b w h0 h1

/-- what is told of a slice of items that came in -/
structure ItemsAt (w : World) (ai : Option Addr) (len1 b o : Nat) (its : Nat → It) : Prop where
  addr : 0 < len1 → ai = some ⟨b, o, none⟩
  lt : 0 < len1 → b < w.heap.size
  c0 : ∀ j, j < len1 → w.cell? ⟨b, o + j * 4, none⟩ = some (.int .u8 (its j).k)
  c1 : ∀ j, j < len1 → w.cell? ⟨b, o + j * 4 + 1, none⟩ = some (.int .i64 (its j).i)
  c2 : ∀ j, j < len1 → w.cell? ⟨b, o + j * 4 + 2, none⟩ = some (.float .f64 (its j).f)
  c3 : ∀ j, j < len1 → w.cell? ⟨b, o + j * 4 + 3, none⟩ = some (.bool (its j).b)
  k0 : ∀ j, j < len1 → 0 ≤ (its j).k
  k1 : ∀ j, j < len1 → (its j).k ≤ 255
/-- .. of a slice of floats that came in -/
structure FloatsAt (w : World) (ao : Option Addr) (len0 cap0 b o : Nat) (F : Nat → Nat) : Prop where
  addr : 0 < len0 → ao = some ⟨b, o, none⟩
  lt : 0 < len0 → b < w.heap.size
  nil : ao = none → len0 = 0 ∧ cap0 = 0
  c : ∀ j, j < len0 → w.cell? ⟨b, o + j, none⟩ = some (.float .f64 (F j))

/-- the floats as cells -/
def fl (F : Nat → Nat) (n : Nat) : List Value := (List.range n).map fun j => .float .f64 (F j)
theorem fl_length (F : Nat → Nat) (n : Nat) : (fl F n).length = n := by simp [fl]
theorem fl_zero (F : Nat → Nat) : fl F 0 = [] := rfl
theorem fl_get (F : Nat → Nat) (n j : Nat) (h : j < n) : (fl F n)[j]? = some (.float .f64 (F j)) := by simp [fl, h]
theorem fl_one (F : Nat → Nat) (n : Nat) : ∀ u ∈ fl F n, u.oneCell' = true := by
  intro u hu
  obtain ⟨j, _, rfl⟩ := List.mem_map.1 hu
  rfl
/-- what 'res' reads as -/
def resF (F : Nat → Nat) (its : Nat → It) (len0 : Nat) : Nat → Nat := fun j => if j < len0 then F j else (its (j - len0)).num
theorem resF_lo {F : Nat → Nat} {its : Nat → It} {len0 j : Nat} (h : j < len0) : resF F its len0 j = F j := by simp [resF, h]
theorem resF_hi {F : Nat → Nat} {its : Nat → It} {len0 j : Nat} : resF F its len0 (len0 + j) = (its j).num := by simp [resF, show ¬ len0 + j < len0 by omega]

theorem res_get (F : Nat → Nat) (its : Nat → It) (n m j : Nat) (h : j < n + m) : (fl F n ++ nums its m)[j]? = some (.float .f64 (resF F its n j)) := by
  by_cases hj : j < n
  · rw [List.getElem?_append_left (by simp [fl_length, hj]), fl_get _ _ _ hj, resF_lo hj]
  · rw [List.getElem?_append_right (by simp [fl_length]; omega), fl_length]
    simp [nums, resF, hj, show j - n < m by omega]

theorem own_of_block {w : World} {B g n : Nat} {cs : List Value} (h : w.heap[g]? = some (.cells cs.toArray 28 (0, 0))) (hl : cs.length = n) (hB : B ≤ g) (hn : n ≤ maxLen) :
    w.ownsRow B 28 1 (.slice (some ⟨g, 0, none⟩) n n) n cs :=
  ⟨by omega, .inr ⟨g, n, cs.toArray, rfl, hB, h, Nat.le_refl _, hn, by simp [hl], by simp [List.take_of_length_le, hl]⟩⟩

theorem block_of_own {w : World} {B g n : Nat} {xs : List Value} (h : w.ownsRow B 28 1 (.slice (some ⟨g, 0, none⟩) n n) n xs) :
    ∃ cur : List Value, w.heap[g]? = some (.cells cur.toArray 28 (0, 0)) ∧ cur.length = n := by
  rcases h.2 with ⟨h', _⟩ | ⟨g', cap', cur, h', _, hg, _, _, hcs, _⟩
  · simp at h'
  · simp only [Value.slice.injEq, Option.some.injEq, Addr.mk.injEq, and_true, true_and] at h'
    obtain ⟨rfl, rfl⟩ := h'
    exact ⟨cur.toList, by simpa using hg, by simpa using hcs⟩
theorem splice_whole {cur cs : List Value} (h : cur.length = cs.length) : splice cur 0 cs = cs := by
  simp [splice, List.drop_eq_nil_of_le, h]

/-- 'Numbers' as the law meets it -/
theorem numbers_law (its : Nat → It) (F : Nat → Nat) (len0 len1 N : Nat) (v0 : Value) (isn : Bool) (wr wq : World) (hn : len0 ≤ 1048576) (hm : len1 ≤ 1048576)
    (hrow : wr.ownsRow N 26 1 (.slice (some ⟨N, 0, none⟩) len1 len1) len1 (objsTo its len1 len1)) (hb : Below (N + 1) wr wq) (hv : v0 = .slice none 0 0 ↔ isn = true)
    (hown0 : wq.ownsRow (N + 1) 28 1 v0 len0 (fl F len0)) :
    Calls Yba.prog 10 #[v0, .slice (some ⟨N, 0, none⟩) len1 len1] wq fun e w3 => Below (N + 1) wr w3 ∧
      ((allTo its len1 = true ∧ ∃ ar capr g, e = .returned (.tuple #[.slice ar (len0 + len1) capr, .bool true]) ∧ FloatsAt w3 ar (len0 + len1) capr g 0 (resF F its len0) ∧ ar.isNone = (isn && ((len1 : Int) == 0))) ∨
       (allTo its len1 = false ∧ e = .returned (.tuple #[.slice none 0 0, .bool false]))) := by
  have hlt : N < wr.heap.size := (hrow.lt _ rfl).2
  have hsz := hb.size
  refine (numbers_any its len1 N (N + 1) len0 v0 (fl F len0) wq hn hm (by omega) (by omega) hown0 ?_).mono ?_
  · intro j hj
    rw [hb.cell (p := ⟨N, j, none⟩) (by show N < N + 1; omega), hrow.cellAt j (by omega), objsTo_get _ _ _ _ hj hj]
  · rintro e w3 ⟨hb3, h⟩
    refine ⟨hb.trans hb3, ?_⟩
    rcases h with ⟨hall, v', rfl, hown', hnil⟩ | ⟨hno, rfl⟩
    · refine .inl ⟨allTo_true.2 hall, ?_⟩
      rcases hown'.2 with ⟨rfl, h0⟩ | ⟨g, cap, cur, rfl, hBg, hh, hnc, hcm, hcs, htk⟩
      · refine ⟨none, 0, 0, by rw [h0], ⟨by omega, by omega, fun _ => ⟨h0, rfl⟩, fun j hj => by omega⟩, ?_⟩
        have := hnil.1 rfl
        simp [hv.1 this.1, this.2]
      · refine ⟨_, cap, g, rfl, ⟨fun _ => rfl, fun _ => lt_of_block hh, (fun h => by cases h), fun j hj => ?_⟩, ?_⟩
        · rw [Nat.zero_add, hown'.cellAt j (by omega), res_get _ _ _ _ _ hj]
        · have hne : ¬ (v0 = .slice none 0 0 ∧ len1 = 0) := fun h => by simpa using hnil.2 h
          rw [hv] at hne
          show false = _
          cases isn
          · rfl
          · by_cases hl : len1 = 0
            · exact absurd ⟨rfl, hl⟩ hne
            · simp [hl]
    · exact .inr ⟨allTo_false.2 hno, rfl⟩

theorem wrap_small (a b : Nat) (ha : a ≤ 1048576) (hb : b ≤ 1048576) : IntKind.i64.wrap ((a : Int) + (b : Int)) = (a : Int) + (b : Int) := by
  rw [IntKind.wrap_i64]; omega
/-- a store into the objects' row and two new blocks -/
theorem loop1_step {its : Nat → It} {len1 k N : Nat} {w wr : World} {v : Value} (hv : (its k).obj = v) (hN : N = w.heap.size)
    (hown : wr.ownsRow N 26 1 (.slice (some ⟨N, 0, none⟩) len1 len1) len1 (objsTo its len1 k)) (hbel : Below N w wr) (p q : Obj) :
    (((wr.setCell ⟨N, k, none⟩ v).alloc p).alloc q).ownsRow N 26 1 (.slice (some ⟨N, 0, none⟩) len1 len1) len1 (objsTo its len1 (k + 1)) ∧
    Below N w (((wr.setCell ⟨N, k, none⟩ v).alloc p).alloc q) := by
  subst hN
  have hs := hown.stored k v
  have hsz := hbel.size
  rw [← hv, objsTo_set] at hs
  rw [← hv]
  refine ⟨(hs.1.alloc p).alloc q, ?_⟩
  have h1 : Below w.heap.size w (wr.setCell ⟨w.heap.size, k, none⟩ (its k).obj) := hbel.setCell (p := ⟨w.heap.size, k, none⟩) (Nat.le_refl _) _
  exact (h1.alloc h1.size _).alloc (h1.alloc h1.size _).size _
end Go.Proofs.Ybulkdnpi
