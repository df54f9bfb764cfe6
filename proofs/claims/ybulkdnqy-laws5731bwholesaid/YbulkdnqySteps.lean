import Derived.Test.YbulkdnqyPrefixed
import Derived.Laws.StructEq
import Derived.Laws.Pointers
namespace Go.Proofs.Ybulkdnqy
open Go.ChangeShapes Go.WideShapes Go.ChangeAt Go.RowKit
open Plain
set_option linter.unusedSimpArgs false
set_option linter.unusedVariables false

theorem Yba.info33 : (Yba.prog.info? 33).map (fun i => (i.zero, i.size, i.bytes)) = some (some (.agg #[.int .i64 0, .string ⟨#[]⟩, .string ⟨#[]⟩, .pointer none, .float .f64 0, .pointer none, .int .i64 0, .bool false]), 8, 80) := by kernel_rfl
theorem Yba.info3 : (Yba.prog.info? 3).map (fun i => (i.zero, i.size, i.bytes)) = some (some (.int .i64 0), 1, 8) := by kernel_rfl

/-- a list of cells whose first k groups of eight are the scalars of ts -/
structure SL (xs : List Value) (k : Nat) (ts : Nat → ByteArray) : Prop where
  c0 : ∀ j, j < k → xs[j * 8]? = some (.int .i64 0)
  c1 : ∀ j, j < k → xs[j * 8 + 1]? = some (.string (ts j))
  c2 : ∀ j, j < k → xs[j * 8 + 2]? = some (.string ⟨#[]⟩)
  c3 : ∀ j, j < k → xs[j * 8 + 3]? = some (.pointer none)
  c4 : ∀ j, j < k → xs[j * 8 + 4]? = some (.float .f64 0)
  c5 : ∀ j, j < k → xs[j * 8 + 5]? = some (.pointer none)
  c6 : ∀ j, j < k → xs[j * 8 + 6]? = some (.int .i64 0)
  c7 : ∀ j, j < k → xs[j * 8 + 7]? = some (.bool false)

/-- the list behind eight stores -/
def set8 (xs : List Value) (a : Nat) (v0 v1 v2 v3 v4 v5 v6 v7 : Value) : List Value :=
  (((((((xs.set a v0).set (a + 1) v1).set (a + 2) v2).set (a + 3) v3).set (a + 4) v4).set (a + 5) v5).set (a + 6) v6).set (a + 7) v7
theorem set8_lo {xs : List Value} {a q : Nat} (h : q < a) (v0 v1 v2 v3 v4 v5 v6 v7 : Value) : (set8 xs a v0 v1 v2 v3 v4 v5 v6 v7)[q]? = xs[q]? := by
  unfold set8
  rw [List.getElem?_set_ne (by omega), List.getElem?_set_ne (by omega), List.getElem?_set_ne (by omega), List.getElem?_set_ne (by omega), List.getElem?_set_ne (by omega), List.getElem?_set_ne (by omega), List.getElem?_set_ne (by omega), List.getElem?_set_ne (by omega)]
theorem set8_at {xs : List Value} {a : Nat} (h : a + 7 < xs.length) (v0 v1 v2 v3 v4 v5 v6 v7 : Value) :
    (set8 xs a v0 v1 v2 v3 v4 v5 v6 v7)[a]? = some v0 ∧ (set8 xs a v0 v1 v2 v3 v4 v5 v6 v7)[a + 1]? = some v1 ∧ (set8 xs a v0 v1 v2 v3 v4 v5 v6 v7)[a + 2]? = some v2 ∧ (set8 xs a v0 v1 v2 v3 v4 v5 v6 v7)[a + 3]? = some v3 ∧
    (set8 xs a v0 v1 v2 v3 v4 v5 v6 v7)[a + 4]? = some v4 ∧ (set8 xs a v0 v1 v2 v3 v4 v5 v6 v7)[a + 5]? = some v5 ∧ (set8 xs a v0 v1 v2 v3 v4 v5 v6 v7)[a + 6]? = some v6 ∧ (set8 xs a v0 v1 v2 v3 v4 v5 v6 v7)[a + 7]? = some v7 := by
  unfold set8
  refine ⟨?_, ?_, ?_, ?_, ?_, ?_, ?_, ?_⟩ <;>
    (repeat rw [List.getElem?_set_ne (by omega)]) <;>
    (rw [List.getElem?_set_self (by first | (simp only [List.length_set]; omega) | omega)])

theorem sl_step {xs : List Value} {k n : Nat} {ts : Nat → ByteArray} (h : SL xs k ts) (hl : xs.length = n * 8) (hk : k < n) :
    SL (set8 xs (k * 8) (.int .i64 0) (.string (ts k)) (.string ⟨#[]⟩) (.pointer none) (.float .f64 0) (.pointer none) (.int .i64 0) (.bool false)) (k + 1) ts := by
  obtain ⟨g0, g1, g2, g3, g4, g5, g6, g7⟩ := set8_at (xs := xs) (a := k * 8) (by omega) (.int .i64 0) (.string (ts k)) (.string ⟨#[]⟩) (.pointer none) (.float .f64 0) (.pointer none) (.int .i64 0) (.bool false)
  refine ⟨fun j hj => ?_, fun j hj => ?_, fun j hj => ?_, fun j hj => ?_, fun j hj => ?_, fun j hj => ?_, fun j hj => ?_, fun j hj => ?_⟩ <;> by_cases hjk : j < k
  · rw [set8_lo (by omega)]; exact h.c0 j hjk
  · obtain rfl : j = k := by omega
    exact g0
  · rw [set8_lo (by omega)]; exact h.c1 j hjk
  · obtain rfl : j = k := by omega
    exact g1
  · rw [set8_lo (by omega)]; exact h.c2 j hjk
  · obtain rfl : j = k := by omega
    exact g2
  · rw [set8_lo (by omega)]; exact h.c3 j hjk
  · obtain rfl : j = k := by omega
    exact g3
  · rw [set8_lo (by omega)]; exact h.c4 j hjk
  · obtain rfl : j = k := by omega
    exact g4
  · rw [set8_lo (by omega)]; exact h.c5 j hjk
  · obtain rfl : j = k := by omega
    exact g5
  · rw [set8_lo (by omega)]; exact h.c6 j hjk
  · obtain rfl : j = k := by omega
    exact g6
  · rw [set8_lo (by omega)]; exact h.c7 j hjk
  · obtain rfl : j = k := by omega
    exact g7

theorem scAt_of {w : World} {B g n cap : Nat} {xs : List Value} {ts : Nat → ByteArray} (h : w.ownsRow B 33 8 (.slice (some ⟨g, 0, none⟩) n cap) n xs) (hs : SL xs n ts) : ScAt w g n ts :=
  ⟨fun j hj => by rw [h.cellAt _ (by omega)]; exact hs.c0 j hj, fun j hj => by rw [h.cellAt _ (by omega)]; exact hs.c1 j hj, fun j hj => by rw [h.cellAt _ (by omega)]; exact hs.c2 j hj, fun j hj => by rw [h.cellAt _ (by omega)]; exact hs.c3 j hj,
   fun j hj => by rw [h.cellAt _ (by omega)]; exact hs.c4 j hj, fun j hj => by rw [h.cellAt _ (by omega)]; exact hs.c5 j hj, fun j hj => by rw [h.cellAt _ (by omega)]; exact hs.c6 j hj, fun j hj => by rw [h.cellAt _ (by omega)]; exact hs.c7 j hj⟩

/-- a round of the first loop -/
theorem loop1_step {w wr : World} {B g n k : Nat} {xs : List Value} {ts : Nat → ByteArray} (hk : k < n) (hBg : B ≤ g) (h : wr.ownsRow B 33 8 (.slice (some ⟨g, 0, none⟩) n n) n xs) (hs : SL xs k ts) (hb : Below B w wr) :
    (∃ ys, ((((((((wr.setCell ⟨g, k * 8, none⟩ (.int .i64 0)).setCell ⟨g, k * 8 + 1, none⟩ (.string (ts k))).setCell ⟨g, k * 8 + 2, none⟩ (.string ⟨#[]⟩)).setCell ⟨g, k * 8 + 3, none⟩ (.pointer none)).setCell ⟨g, k * 8 + 4, none⟩ (.float .f64 0)).setCell ⟨g, k * 8 + 5, none⟩ (.pointer none)).setCell ⟨g, k * 8 + 6, none⟩ (.int .i64 0)).setCell ⟨g, k * 8 + 7, none⟩ (.bool false)).ownsRow B 33 8 (.slice (some ⟨g, 0, none⟩) n n) n ys ∧ SL ys (k + 1) ts) ∧
    Below B w ((((((((wr.setCell ⟨g, k * 8, none⟩ (.int .i64 0)).setCell ⟨g, k * 8 + 1, none⟩ (.string (ts k))).setCell ⟨g, k * 8 + 2, none⟩ (.string ⟨#[]⟩)).setCell ⟨g, k * 8 + 3, none⟩ (.pointer none)).setCell ⟨g, k * 8 + 4, none⟩ (.float .f64 0)).setCell ⟨g, k * 8 + 5, none⟩ (.pointer none)).setCell ⟨g, k * 8 + 6, none⟩ (.int .i64 0)).setCell ⟨g, k * 8 + 7, none⟩ (.bool false)) := by
  refine ⟨⟨_, ((((((((h.stored (k * 8) _).1.stored (k * 8 + 1) _).1.stored (k * 8 + 2) _).1.stored (k * 8 + 3) _).1.stored (k * 8 + 4) _).1.stored (k * 8 + 5) _).1.stored (k * 8 + 6) _).1.stored (k * 8 + 7) _).1, sl_step hs h.1 hk⟩, ?_⟩
  exact (((((((hb.setCell (p := ⟨g, k * 8, none⟩) hBg _).setCell (p := ⟨g, k * 8 + 1, none⟩) hBg _).setCell (p := ⟨g, k * 8 + 2, none⟩) hBg _).setCell (p := ⟨g, k * 8 + 3, none⟩) hBg _).setCell (p := ⟨g, k * 8 + 4, none⟩) hBg _).setCell (p := ⟨g, k * 8 + 5, none⟩) hBg _).setCell (p := ⟨g, k * 8 + 6, none⟩) hBg _).setCell (p := ⟨g, k * 8 + 7, none⟩) hBg _

/-- a slice of texts that lies in w -/
structure StrsAt (w : World) (av : Option Addr) (n g o : Nat) (ts : Nat → ByteArray) : Prop where
  addr : 0 < n → av = some ⟨g, o, none⟩
  lt : 0 < n → g < w.heap.size
  c : ∀ j, j < n → w.cell? ⟨g, o + j, none⟩ = some (.string (ts j))
  sz : ∀ j, j < n → (ts j).size ≤ maxLen
theorem StrsAt.later {w w' : World} {av : Option Addr} {n g o B : Nat} {ts : Nat → ByteArray} (h : StrsAt w av n g o ts) (hb : Below B w w') (hB : 0 < n → g < B) : StrsAt w' av n g o ts :=
  ⟨h.addr, fun hp => Nat.lt_of_lt_of_le (h.lt hp) hb.size, fun j hj => (hb.cell (p := ⟨g, o + j, none⟩) (hB (by omega))).trans (h.c j hj), h.sz⟩

/-- what is told of the slice of texts that came in -/
structure KeysAt (w : World) (ak : Option Addr) (n cap b o : Nat) (K : List ByteArray) : Prop where
  len : K.length = n
  addr : 0 < n → ak = some ⟨b, o, none⟩
  c : ∀ j, j < K.length → w.cell? ⟨b, o + j, none⟩ = some (.string (K.getD j ByteArray.empty))
  nil : ak = none → n = 0 ∧ cap = 0
  sz : ∀ s ∈ K, s.size ≤ maxLen
/-- .. and of the slice of integers -/
structure IntsAt (w : World) (ao : Option Addr) (n cap b o : Nat) (Z : List Int) : Prop where
  len : Z.length = n
  addr : 0 < n → ao = some ⟨b, o, none⟩
  lt : 0 < n → b < w.heap.size
  c : ∀ j, j < Z.length → w.cell? ⟨b, o + j, none⟩ = some (.int .i64 (Z.getD j 0))
  nil : ao = none → n = 0 ∧ cap = 0

/-- integers as cells -/
theorem ints_one (Z : List Int) : ∀ u ∈ Z.map (Value.int .i64), u.oneCell' = true := by
  intro u hu
  obtain ⟨z, _, rfl⟩ := List.mem_map.1 hu
  rfl
theorem ints_get (Z : List Int) (j : Nat) (h : j < Z.length) : (Z.map (Value.int .i64))[j]? = some (.int .i64 (Z.getD j 0)) := by
  simp [List.getD, List.getElem?_eq_getElem h]
theorem block_of_own {w : World} {B g n : Nat} {xs : List Value} (h : w.ownsRow B 3 1 (.slice (some ⟨g, 0, none⟩) n n) n xs) :
    ∃ cur : List Value, w.heap[g]? = some (.cells cur.toArray 3 (0, 0)) ∧ cur.length = n := by
  rcases h.2 with ⟨h', _⟩ | ⟨g', cap', cur, h', _, hg, _, _, hcs, _⟩
  · simp at h'
  · simp only [Value.slice.injEq, Option.some.injEq, Addr.mk.injEq, and_true, true_and] at h'
    obtain ⟨rfl, rfl⟩ := h'
    exact ⟨cur.toList, by simpa using hg, by simpa using hcs⟩
theorem splice_whole {cur cs : List Value} (h : cur.length = cs.length) : splice cur 0 cs = cs := by
  simp [splice, List.drop_eq_nil_of_le, h]
theorem ints_block {w : World} {g : Nat} {Z : List Int} (h : w.heap[g]? = some (.cells (Z.map (Value.int .i64)).toArray 3 (0, 0))) (j : Nat) (hj : j < Z.length) : w.cell? ⟨g, j, none⟩ = some (.int .i64 (Z.getD j 0)) := by
  rw [cell_of_row w g j _ 3 (0, 0) h]
  simp [hj]

/-- Equal of two slices that read alike -/
theorem equal_all (a1 a2 : Option Addr) (n c1 c2 b1 o1 b2 o2 : Nat) (Z : List Int) (w : World) (hn : n ≤ 1048576) (hl : Z.length = n) (h1 : 0 < n → a1 = some ⟨b1, o1, none⟩) (h2 : 0 < n → a2 = some ⟨b2, o2, none⟩)
    (q1 : ∀ j, j < Z.length → w.cell? ⟨b1, o1 + j, none⟩ = some (.int .i64 (Z.getD j 0))) (q2 : ∀ j, j < Z.length → w.cell? ⟨b2, o2 + j, none⟩ = some (.int .i64 (Z.getD j 0))) :
    Calls Yba.prog 8 #[.slice a1 n c1, .slice a2 n c2] w fun e w' => e = .returned (.bool true) ∧ ∃ q, w' = w.drewN q := by
  by_cases h0 : n = 0
  · subst h0
    refine (Yba.slices_Equal_int_empty a1 a2 c1 0 c2 w (by omega)).mono ?_
    rintro e w' ⟨rfl, rfl⟩
    exact ⟨rfl, 0, rfl⟩
  · rw [h1 (by omega), h2 (by omega)]
    refine (Yba.slices_Equal_int b1 o1 n c1 b2 o2 n c2 Z Z w (by omega) (by omega) (by omega) (by omega) q1 q2).mono ?_
    rintro e w' ⟨rfl, h⟩
    exact ⟨ret_bool (by simp), h⟩

theorem equal_nil (n c : Nat) (w : World) (hn : n = 0) : Calls Yba.prog 8 #[.slice none 0 0, .slice none n c] w fun e w' => e = .returned (.bool true) ∧ ∃ q, w' = w.drewN q := by
  subst hn
  refine (Yba.slices_Equal_int_empty none none 0 0 c w (by omega)).mono ?_
  rintro e w' ⟨rfl, rfl⟩
  exact ⟨rfl, 0, rfl⟩
theorem from1_lt {ts : Nat → ByteArray} {p : ByteArray} {k : Nat} (h : cf1 (bs p) (bs (ts k)) < 0) : from1 ts p (k + 1) = from1 ts p k + 1 := by simp [from1, cnt, h]
theorem from1_ge {ts : Nat → ByteArray} {p : ByteArray} {k : Nat} (h : ¬ cf1 (bs p) (bs (ts k)) < 0) : from1 ts p (k + 1) = from1 ts p k := by simp only [from1, cnt]; rw [if_neg (by simpa using h)]; rfl
theorem to1_lt {ts : Nat → ByteArray} {p : ByteArray} {k : Nat} (h : cf1 (bs p) (bs (ts k)) < 0 ∨ Lib.hasPrefix (bs (ts k)) (bs p) = true) : to1 ts p (k + 1) = to1 ts p k + 1 := by
  have : cf2 (bs p) (bs (ts k)) < 0 := (cf2_neg _ _).2 (h.imp_left fun h => (cf1_neg _ _).1 h)
  simp [to1, cnt, this]
theorem to1_ge {ts : Nat → ByteArray} {p : ByteArray} {k : Nat} (h1 : ¬ cf1 (bs p) (bs (ts k)) < 0) (h2 : Lib.hasPrefix (bs (ts k)) (bs p) = false) : to1 ts p (k + 1) = to1 ts p k := by
  have : ¬ cf2 (bs p) (bs (ts k)) < 0 := fun h => by
    rcases (cf2_neg _ _).1 h with h | h
    · exact h1 ((cf1_neg _ _).2 h)
    · rw [h2] at h; cases h
  simp only [to1, cnt]; rw [if_neg (by simpa using this)]; rfl
theorem from1_le (ts : Nat → ByteArray) (p : ByteArray) (k : Nat) : from1 ts p k ≤ k := cnt_le _ _
theorem to1_le (ts : Nat → ByteArray) (p : ByteArray) (k : Nat) : to1 ts p k ≤ k := cnt_le _ _
theorem less_true {s p : ByteArray} (h : cf1 (bs p) (bs s) < 0) : Op.bytesLess s.toList p.toList = true := by
  rw [ByteArray.toList_eq, ByteArray.toList_eq, bytesLess_eq]
  exact decide_eq_true ((cf1_neg _ _).1 h)
theorem less_false {s p : ByteArray} (h : ¬ cf1 (bs p) (bs s) < 0) : Op.bytesLess s.toList p.toList = false := by
  rw [ByteArray.toList_eq, ByteArray.toList_eq, bytesLess_eq]
  exact decide_eq_false (fun h' => h ((cf1_neg _ _).2 h'))
theorem run_equalIn_f (w : World) (d : Nat) (t : TypeId) (h : Yba.prog.underlying t = some (.float .f64)) : (Op.equalIn (d + 1) t (.float .f64 0) (.float .f64 0)).run Yba.prog w = .ok true w := by
  simp [Op.equalIn, run_underlying h]
  decide
theorem guard33 : Yba.prog.eqGuardType Yba.prog.depth 33 = false := by kernel_rfl
theorem stood33 : Yba.prog.stoodInHeld 33 = false := by kernel_rfl
theorem fields33 : Yba.prog.underlying 33 = some (.struct (Yba.prog.fieldsOf 33)) := by kernel_rfl
theorem neq_sc (s : ByteArray) (w : World) : (binOp .neq 33 (.agg #[.int .i64 0, .string s, .string ⟨#[]⟩, .pointer none, .float .f64 0, .pointer none, .int .i64 0, .bool false]) (.agg #[.int .i64 0, .string s, .string ⟨#[]⟩, .pointer none, .float .f64 0, .pointer none, .int .i64 0, .bool false])).run Yba.prog w = .ok (.bool false) w := by
  have h1 := fields33
  rw [Yba.underlying33] at h1
  injection h1 with h1
  injection h1 with h1
  rw [run_neq_struct, run_equalIn_struct w 9999 33 _ _ fields33 stood33, ← h1]
  have p28 : Yba.prog.underlying 28 = some (.pointer (Yba.prog.pointee 28)) := by kernel_rfl
  have p30 : Yba.prog.underlying 30 = some (.pointer (Yba.prog.pointee 30)) := by kernel_rfl
  have q27 := fun w => run_equalIn_int (P := Yba.prog) w 9998 27 .i64 .i64 0 0 Yba.underlying27
  have q31 := fun w => run_equalIn_int (P := Yba.prog) w 9998 31 .i64 .i64 0 0 Yba.underlying31
  have q9 := fun w s => run_equalIn_string (P := Yba.prog) w 9998 9 s s Yba.underlying9
  have q28 := fun w => run_equalIn_pointer_nil (P := Yba.prog) w 9998 28 none p28
  have q30 := fun w => run_equalIn_pointer_nil (P := Yba.prog) w 9998 30 none p30
  have q29 := fun w => run_equalIn_f w 9998 29 Yba.underlying29
  have q4 := fun w => run_equalIn_bool (P := Yba.prog) w 9998 4 false false Yba.underlying4
  simp [Op.eqFields, go_sem, q27, q31, q9, q28, q30, q29, q4]

/-- Clone, whatever the slice -/
theorem clone_all (ak : Option Addr) (n cap b o : Nat) (K : List ByteArray) (w : World) (hn : n ≤ 1048576) (h : KeysAt w ak n cap b o K) :
    Calls Yba.prog 4 #[.slice ak n cap] w fun e w' => ∃ v', e = .returned v' ∧ w'.ownsRow w.heap.size 9 1 v' n (K.map Value.string) ∧ Below w.heap.size w w' := by
  by_cases h0 : n = 0
  · subst h0
    have hK : K = [] := List.eq_nil_of_length_eq_zero h.len
    subst hK
    cases ak with
    | none =>
      refine (Yba.slices_Clone_string_nil 0 cap w).mono ?_
      rintro e w' ⟨rfl, rfl⟩
      exact ⟨_, rfl, World.ownsRow_nil _ _ _ _, Below.refl _ _⟩
    | some a =>
      refine (Yba.slices_Clone_string_zero a cap w).mono ?_
      rintro e w' ⟨v', rfl, h1, _, h2⟩
      exact ⟨_, rfl, h1, h2⟩
  · rw [h.addr (by omega)]
    refine (Yba.slices_Clone_string b o n cap K w (by rw [h.len]; exact Nat.le_refl _) (by omega) h.c).mono ?_
    rintro e w' ⟨v', rfl, h1, _, h2⟩
    rw [List.take_of_length_le (by rw [h.len]; exact Nat.le_refl _)] at h1
    exact ⟨_, rfl, h1, h2⟩

/-- the sorted texts -/
def srtB (K : List ByteArray) : List ByteArray := (srt (K.map bs)).map fun l => ⟨l.toArray⟩
theorem srtB_length (K : List ByteArray) : (srtB K).length = K.length := by simp [srtB, srt_length]
def tsOf (K : List ByteArray) (j : Nat) : ByteArray := (srtB K).getD j ByteArray.empty
theorem tsOf_bs (K : List ByteArray) (j : Nat) (h : j < K.length) : bs (tsOf K j) = (srt (K.map bs))[j]'(by simp [srt_length, h]) := by
  have h1 : j < (srtB K).length := by rw [srtB_length]; exact h
  have h2 : j < (srt (K.map bs)).length := by simp [srt_length, h]
  simp [tsOf, List.getD, srtB, bs, List.getElem?_eq_getElem h2]
theorem tsOf_ordered (K : List ByteArray) : Ordered (tsOf K) K.length := by
  intro a b hab hb
  rw [tsOf_bs K b hb, tsOf_bs K a (by omega)]
  exact srt_sorted _ hab _
theorem tsOf_size (K : List ByteArray) (hs : ∀ s ∈ K, s.size ≤ maxLen) (j : Nat) (h : j < K.length) : (tsOf K j).size ≤ maxLen := by
  have h1 : j < (srt (K.map bs)).length := by simp [srt_length, h]
  have hm : (srt (K.map bs))[j] ∈ K.map bs := (List.mergeSort_perm _ _).mem_iff.1 (List.getElem_mem h1)
  obtain ⟨s, hsK, he⟩ := List.mem_map.1 hm
  have : (tsOf K j).size = s.size := by
    have e1 : (bs (tsOf K j)).length = (bs s).length := by rw [tsOf_bs K j h, he]
    simpa using e1
  rw [this]; exact hs s hsK
theorem map_enc (K : List ByteArray) : K.map Value.string = (K.map bs).map Go.Proofs.encStr := by
  rw [List.map_map]
  apply List.map_congr_left
  intro s _
  rfl
theorem srt_enc (K : List ByteArray) : (srt (K.map bs)).map Go.Proofs.encStr = (srtB K).map Value.string := by
  simp [srtB, Go.Proofs.encStr, Function.comp_def]

/-- Sort, whatever the slice of the call's own -/
theorem sort_all (B n : Nat) (v : Value) (K : List ByteArray) (w : World) (hn : n ≤ 1048576) (hl : K.length = n) (h : w.ownsRow B 9 1 v n (K.map Value.string)) (hB : B ≤ w.heap.size) :
    Calls Yba.prog 5 #[v] w fun e w' => e = .returned (.tuple #[]) ∧ w'.ownsRow B 9 1 v n ((srtB K).map Value.string) ∧ Below B w w' := by
  by_cases h0 : n = 0
  · subst h0
    have hK : K = [] := List.eq_nil_of_length_eq_zero hl
    subst hK
    obtain ⟨a, c, rfl⟩ : ∃ a c, v = .slice a 0 c := by
      rcases h.2 with ⟨rfl, _⟩ | ⟨g, cap, cur, rfl, _⟩
      · exact ⟨_, _, rfl⟩
      · exact ⟨_, _, rfl⟩
    refine (Yba.slices_Sort_string_none a c w).mono ?_
    rintro e w' ⟨rfl, rfl⟩
    exact ⟨rfl, by simpa [srtB, srt] using h, Below.refl _ _⟩
  · rcases h.2 with ⟨_, h'⟩ | ⟨g, cap, cur, rfl, hBg, hb, h1, h2, h3, h4⟩
    · exact absurd h' h0
    · have hH : Go.Sort.Holds Go.Proofs.encStr w g 0 (K.map bs).toArray := by
        refine holds_of_block hb ?_
        rw [List.length_map, hl, ← map_enc]
        simpa using h4
      have hlen : (K.map bs).length = n := by simp [hl]
      have hc := Yba.slices_Sort_string g 0 cap (K.map bs) w hH (lt_of_block hb) (by rw [hlen]; omega)
      rw [hlen] at hc
      refine hc.mono ?_
      rintro e w' ⟨rfl, m, os, rfl⟩
      refine ⟨rfl, ?_, (Below.refl _ _).grown (grownBy_sorted _) hB (fun j hj => by cases hj; exact hBg)⟩
      have := ownsRow_sorted (base := B) (n := m) (os := os) (ss := K.map bs) (ts := srt (K.map bs)) (srt_length _) hBg hb (by rw [hlen]; exact h1) h2 (by simpa using h3)
      rw [hlen, srt_enc] at this
      exact this

theorem own_strs {w : World} {B n : Nat} {v : Value} {K : List ByteArray} (hl : K.length = n) (hs : ∀ s ∈ K, s.size ≤ maxLen) (h : w.ownsRow B 9 1 v n ((srtB K).map Value.string)) : ∃ av cap g, v = .slice av n cap ∧ (0 < n → B ≤ g) ∧ StrsAt w av n g 0 (tsOf K) := by
  rcases h.2 with ⟨rfl, h0⟩ | ⟨g, cap, cur, rfl, hb, hg, _⟩
  · exact ⟨none, 0, 0, by rw [h0], by omega, ⟨by omega, by omega, fun j hj => by omega, fun j hj => by omega⟩⟩
  · refine ⟨_, cap, g, rfl, fun _ => hb, ⟨fun _ => rfl, fun _ => lt_of_block hg, fun j hj => ?_, fun j hj => tsOf_size K hs j (by omega)⟩⟩
    rw [Nat.zero_add, h.cellAt j (by omega)]
    have hj' : j < (srtB K).length := by rw [srtB_length]; omega
    simp [tsOf, List.getD, List.getElem?_eq_getElem hj']
end Go.Proofs.Ybulkdnqy
