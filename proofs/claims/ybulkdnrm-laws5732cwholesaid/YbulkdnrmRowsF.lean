import Derived.Test.YbulkdnrmWith
namespace Go.Proofs.Ybulkdnrm
open Go.ChangeShapes Go.WideShapes Go.ChangeAt Go.RowKit
open Go.Lib (uvarint byteCells strCells)
set_option linter.unusedSimpArgs false
set_option linter.unusedVariables false

theorem Yba.info9 : (Yba.prog.info? 9).map (fun i => (i.zero, i.size, i.bytes)) = some (some (.string ⟨#[]⟩), 1, 16) := by kernel_rfl

/-- texts as cells -/
def row (f : Nat → ByteArray) (n : Nat) : List Value := (List.range n).map fun q => .string (f q)
theorem row_length (f : Nat → ByteArray) (n : Nat) : (row f n).length = n := by simp [row]
theorem row_get (f : Nat → ByteArray) (n q : Nat) (h : q < n) : (row f n)[q]? = some (.string (f q)) := by simp [row, h]
theorem row_zero (f : Nat → ByteArray) : row f 0 = [] := rfl
theorem row_congr {f g : Nat → ByteArray} (n : Nat) (h : ∀ q, q < n → f q = g q) : row f n = row g n := by
  apply List.map_congr_left
  intro q hq
  rw [h q (List.mem_range.1 hq)]
/-- f with x put at its end -/
def snoc (f : Nat → ByteArray) (n : Nat) (x : ByteArray) : Nat → ByteArray := fun q => if q < n then f q else x
theorem row_snoc (f : Nat → ByteArray) (n : Nat) (x : ByteArray) : row f n ++ [.string x] = row (snoc f n x) (n + 1) := by
  rw [show row (snoc f n x) (n + 1) = row (snoc f n x) n ++ [.string (snoc f n x n)] by simp [row, List.range_succ]]
  rw [row_congr (f := snoc f n x) (g := f) n (fun q hq => by simp [snoc, hq])]
  simp [snoc]
def upd (f : Nat → ByteArray) (j : Nat) (x : ByteArray) : Nat → ByteArray := fun q => if q = j then x else f q
theorem row_set (f : Nat → ByteArray) (n j : Nat) (x : ByteArray) : (row f n).set j (.string x) = row (upd f j x) n := by
  apply List.ext_getElem?
  intro q
  rw [List.getElem?_set]
  by_cases hq : q < n
  · rw [row_get _ _ _ hq, row_get _ _ _ hq, row_length]
    by_cases h : j = q
    · subst h; simp [hq, upd]
    · simp [h, upd, show ¬ q = j from fun e => h e.symm]
  · have e1 : (row f n)[q]? = none := by simp [row]; omega
    have e2 : (row (upd f j x) n)[q]? = none := by simp [row]; omega
    rw [e1, e2, row_length]
    by_cases h : j = q
    · subst h; simp [hq]
    · simp [h]
/-- f with x put in at j -/
def ins (f : Nat → ByteArray) (j : Nat) (x : ByteArray) : Nat → ByteArray := fun q => if q < j then f q else if q = j then x else f (q - 1)
/-- the row while its end is being moved: above m everything stands one further -/
def shf (f : Nat → ByteArray) (m : Nat) : Nat → ByteArray := fun q => if q ≤ m then f q else f (q - 1)
theorem shf_step (f : Nat → ByteArray) (m n : Nat) (hm : 0 < m) : row (upd (shf f m) m (f (m - 1))) n = row (shf f (m - 1)) n := by
  apply row_congr
  intro q hq
  simp only [upd, shf]
  by_cases h : q = m
  · subst h; rw [if_pos rfl, if_neg (by omega)]
  · rw [if_neg h]
    by_cases h2 : q ≤ m - 1
    · rw [if_pos (by omega), if_pos h2]
    · rw [if_neg (by omega), if_neg h2]
theorem shf_start (f : Nat → ByteArray) (n : Nat) (x : ByteArray) : row (snoc f n x) (n + 1) = row (shf (snoc f n x) n) (n + 1) := by
  apply row_congr
  intro q hq
  simp only [shf]
  rw [if_pos (by omega)]
theorem shf_end (f : Nat → ByteArray) (n j : Nat) (x y : ByteArray) (hj : j ≤ n) : row (upd (shf (snoc f n y) j) j x) (n + 1) = row (ins f j x) (n + 1) := by
  apply row_congr
  intro q hq
  simp only [upd, shf, ins, snoc]
  by_cases h : q = j
  · subst h; rw [if_pos rfl, if_neg (by omega), if_pos rfl]
  · rw [if_neg h]
    by_cases h2 : q < j
    · rw [if_pos h2, if_pos (by omega), if_pos (by omega)]
    · rw [if_neg h2, if_neg (by omega), if_pos (by omega), if_neg h]

/-- strictly in order -/
def Ord (f : Nat → ByteArray) (n : Nat) : Prop := ∀ a b, a < b → b < n → bs (f a) < bs (f b)
theorem ord_ins {f : Nat → ByteArray} {n j : Nat} {x : ByteArray} (h : Ord f n) (hj : j ≤ n) (lo : ∀ q, q < j → bs (f q) < bs x) (hi : ∀ q, j ≤ q → q < n → bs x < bs (f q)) : Ord (ins f j x) (n + 1) := by
  intro a b hab hb
  simp only [ins]
  by_cases ha : a < j
  · rw [if_pos ha]
    by_cases hb1 : b < j
    · rw [if_pos hb1]; exact h a b hab (by omega)
    · rw [if_neg hb1]
      by_cases hb2 : b = j
      · rw [if_pos hb2]; exact lo a ha
      · rw [if_neg hb2]
        exact h a (b - 1) (by omega) (by omega)
  · rw [if_neg ha]
    by_cases ha2 : a = j
    · rw [if_pos ha2, if_neg (by omega), if_neg (by omega)]
      exact hi (b - 1) (by omega) (by omega)
    · rw [if_neg ha2, if_neg (by omega), if_neg (by omega)]
      exact h (a - 1) (b - 1) (by omega) (by omega)
/-- the sizes' sum -/
def wt (f : Nat → ByteArray) : Nat → Nat
  | 0 => 0
  | n + 1 => wt f n + (f n).size
theorem wt_congr {f g : Nat → ByteArray} : ∀ n, (∀ q, q < n → f q = g q) → wt f n = wt g n
  | 0, _ => rfl
  | n + 1, h => by simp only [wt]; rw [wt_congr n (fun q hq => h q (by omega)), h n (by omega)]
theorem wt_le (f : Nat → ByteArray) {q n : Nat} (h : q < n) : (f q).size ≤ wt f n := by
  induction n with
  | zero => omega
  | succ n ih =>
    simp only [wt]
    by_cases hq : q = n
    · subst hq; omega
    · have := ih (by omega); omega
theorem wt_mono (f : Nat → ByteArray) {k n : Nat} (h : k ≤ n) : wt f k ≤ wt f n := by
  induction n with
  | zero => have : k = 0 := by omega
            subst this; exact Nat.le_refl _
  | succ n ih =>
    by_cases hk : k = n + 1
    · subst hk; exact Nat.le_refl _
    · have := ih (by omega); simp only [wt]; omega
theorem wt_ins (f : Nat → ByteArray) (x : ByteArray) (j : Nat) : ∀ n, j ≤ n → wt (ins f j x) (n + 1) = wt f n + x.size
  | 0, h => by have : j = 0 := by omega
               subst this; simp [wt, ins]
  | n + 1, h => by
    by_cases hj : j = n + 1
    · subst hj
      rw [wt, wt_congr (f := ins f (n + 1) x) (g := f) (n + 1) (fun q hq => by simp [ins, hq])]
      simp [ins]
    · rw [wt, wt_ins f x j n (by omega)]
      have : ins f j x (n + 1) = f n := by simp only [ins]; rw [if_neg (by omega), if_neg (by omega)]; rfl
      rw [this, wt]; omega

/-- two rows of the call's own, beside one another -/
structure Two (w : World) (B : Nat) (vk vv : Value) (n : Nat) (K V : Nat → ByteArray) : Prop where
  k : w.ownsRow B 9 1 vk n (row K n)
  v : w.ownsRow B 9 1 vv n (row V n)
  ap : ∀ g, vk.ownBlock = some g → vv.ownBlock = some g → False
theorem two_nil (w : World) (B : Nat) (K V : Nat → ByteArray) : Two w B (.slice none 0 0) (.slice none 0 0) 0 K V :=
  ⟨World.ownsRow_nil _ _ _ _, World.ownsRow_nil _ _ _ _, fun g h => by cases h⟩
theorem keep_v {w w' : World} {B n : Nat} {vk vv : Value} {xs : List Value} (h : w.ownsRow B 9 1 vv n xs) (hg : w.grownBy w' vk.ownBlock) (ap : ∀ g, vk.ownBlock = some g → vv.ownBlock = some g → False) : w'.ownsRow B 9 1 vv n xs := by
  refine h.kept hg ?_
  cases hv : vv.ownBlock with
  | none => exact .inl rfl
  | some g =>
    right
    intro e
    exact ap g e.symm hv
theorem own_form {w : World} {B n : Nat} {v : Value} {xs : List Value} (h : w.ownsRow B 9 1 v n xs) : ∃ a cap g, v = .slice a n cap ∧ (0 < n → a = some ⟨g, 0, none⟩) := by
  rcases h.2 with ⟨rfl, h0⟩ | ⟨g, cap, cur, rfl, _⟩
  · exact ⟨none, 0, 0, by rw [h0], by omega⟩
  · exact ⟨_, cap, g, rfl, fun _ => rfl⟩
theorem strs_own {w : World} {B n g cap : Nat} {a : Option Addr} {f : Nat → ByteArray} (h : w.ownsRow B 9 1 (.slice a n cap) n (row f n)) (ha : 0 < n → a = some ⟨g, 0, none⟩) : StrsAt w a n g 0 f := by
  refine ⟨ha, fun hp => ?_, fun j hj => ?_⟩
  · have := h
    rw [ha hp] at this
    exact (this.lt g rfl).2
  · have := h
    rw [ha (by omega)] at this
    rw [Nat.zero_add, this.cellAt j (by omega), row_get _ _ _ hj]
end Go.Proofs.Ybulkdnrm
