import Derived.Lib.Bytealg
import Derived.Lib.Strings
namespace Go.Proofs.Ybulkdnqy.Plain
open Go.Lib

abbrev Bs := List UInt8

theorem cmp_neg : ∀ (a b : Bs), compareBytes a b < 0 ↔ a < b
  | [], [] => by simp [compareBytes]
  | [], _ :: _ => by simp [compareBytes]
  | _ :: _, [] => by simp [compareBytes]
  | a :: as, b :: bs => by
    rw [compareBytes]
    by_cases h1 : a < b
    · simp [h1, List.cons_lt_cons_iff]
    · by_cases h2 : b < a
      · have hne : a ≠ b := fun e => by subst e; exact h1 h2
        simp [h1, h2, hne, List.cons_lt_cons_iff]
      · have he : a = b := UInt8.le_antisymm (UInt8.not_lt.1 h2) (UInt8.not_lt.1 h1)
        subst he
        simp [cmp_neg as bs]

/-- what lies between p and an extension of p extends p -/
theorem prefix_between : ∀ (p k t : Bs), ¬ k < p → ¬ p ++ t < k → p <+: k
  | [], k, _, _, _ => List.nil_prefix
  | a :: p, [], _, h1, _ => absurd (List.nil_lt_cons a p) h1
  | a :: p, c :: k, t, h1, h2 => by
    rw [List.cons_lt_cons_iff] at h1
    rw [List.cons_append, List.cons_lt_cons_iff] at h2
    have e1 : ¬ c < a := fun h => h1 (.inl h)
    have e2 : ¬ a < c := fun h => h2 (.inl h)
    have he : a = c := UInt8.le_antisymm (UInt8.not_lt.1 e1) (UInt8.not_lt.1 e2)
    subst he
    exact List.cons_prefix_cons.2 ⟨rfl, prefix_between p k t (fun h => h1 (.inr ⟨rfl, h⟩)) (fun h => h2 (.inr ⟨rfl, h⟩))⟩

def cf1 (p k : Bs) : Int := compareBytes k p
def cf2 (p k : Bs) : Int := if hasPrefix k p then -1 else compareBytes k p

theorem cf1_neg (p k : Bs) : cf1 p k < 0 ↔ k < p := cmp_neg k p
theorem cf2_neg (p k : Bs) : cf2 p k < 0 ↔ (k < p ∨ hasPrefix k p = true) := by
  unfold cf2
  split
  · rename_i h; simp [h]
  · rename_i h; simp [h, cmp_neg]

theorem lt_of_le_of_lt' {a b c : Bs} (h1 : ¬ b < a) (h2 : b < c) : a < c := by
  rcases List.le_total a b with h | h
  · exact List.lt_of_le_of_lt h h2
  · have : b = a := List.le_antisymm h (List.not_lt.1 h1)
    rw [← this]; exact h2

theorem mono1 {p a b : Bs} (hab : ¬ b < a) (h : cf1 p b < 0) : cf1 p a < 0 := by
  rw [cf1_neg] at *
  exact lt_of_le_of_lt' hab h
theorem mono2 {p a b : Bs} (hab : ¬ b < a) (h : cf2 p b < 0) : cf2 p a < 0 := by
  rw [cf2_neg] at *
  rcases h with h | h
  · exact .inl (lt_of_le_of_lt' hab h)
  · by_cases hp : a < p
    · exact .inl hp
    · right
      obtain ⟨t, ht⟩ := List.isPrefixOf_iff_prefix.1 h
      exact List.isPrefixOf_iff_prefix.2 (prefix_between p a t hp (by rw [ht]; exact hab))

/-- how many of the first k meet f -/
def cnt (f : Nat → Bool) : Nat → Nat
  | 0 => 0
  | k + 1 => cnt f k + if f k then 1 else 0
theorem cnt_le (f : Nat → Bool) : ∀ k, cnt f k ≤ k
  | 0 => Nat.le_refl _
  | k + 1 => by have := cnt_le f k; simp only [cnt]; split <;> omega
theorem cnt_boundary (f : Nat → Bool) (i : Nat) : ∀ n, (∀ t, t < i → f t = true) → (∀ t, i ≤ t → t < n → f t = false) → i ≤ n → cnt f n = i
  | 0, _, _, h => by simp only [cnt]; omega
  | n + 1, h1, h2, h => by
    by_cases hi : i = n + 1
    · subst hi
      have hall : ∀ m, m ≤ n + 1 → cnt f m = m := by
        intro m
        induction m with
        | zero => intro _; rfl
        | succ m ih => intro hm; simp only [cnt]; rw [ih (by omega), if_pos (h1 m (by omega))]
      exact hall (n + 1) (Nat.le_refl _)
    · simp only [cnt]
      rw [cnt_boundary f i n h1 (fun t ht hn => h2 t ht (by omega)) (by omega), if_neg (by simp [h2 n (by omega) (by omega)]), Nat.add_zero]
theorem cnt_congr {f g : Nat → Bool} : ∀ n, (∀ t, t < n → f t = g t) → cnt f n = cnt g n
  | 0, _ => rfl
  | n + 1, h => by simp only [cnt]; rw [cnt_congr n (fun t ht => h t (by omega)), h n (by omega)]

/-- the sorted list -/
def srt (l : List Bs) : List Bs := l.mergeSort fun x y => decide (x ≤ y)
theorem srt_length (l : List Bs) : (srt l).length = l.length := List.length_mergeSort l
theorem srt_sorted (l : List Bs) {i j : Nat} (h : i ≤ j) (hj : j < (srt l).length) : ¬ (srt l)[j] < (srt l)[i]'(by omega) := by
  by_cases he : i = j
  · subst he; exact List.lt_irrefl _
  · have hs := List.pairwise_mergeSort (le := fun x y : Bs => decide (x ≤ y)) (fun a b c hab hbc => by simp at *; exact List.le_trans hab hbc) (fun a b => by simp; exact List.le_total a b) l
    have := (List.pairwise_iff_getElem.1 hs) i j (by show i < (srt l).length; omega) hj (by omega)
    exact List.not_lt.2 (of_decide_eq_true this)
end Go.Proofs.Ybulkdnqy.Plain
